import JvmDerived
import JvmDerived.Pilot.@@N@@Statement
import JvmDerived.Pilot.@@N@@Code
set_option linter.unusedVariables false
set_option linter.unusedSimpArgs false

namespace Jvm.OwnKit
open Sem ClassFile Op Lib Jvm.Stand Jvm.Free Jvm.LawKit Jvm.RoadKit Jvm.Free.Fl
/-- what is left to show of a run: from U it ends and returns, with E of the value, the end and the places written -/
def Goes (p : Program) (e : Env) (below : List Frame) (E : Option Value → State → List Loc → Prop) (U : State) : Prop :=
  ∃ s₂ v L, Steps p.tables e below U s₂ ∧ s₂.status = .running ∧ Ended s₂ below (.returned v) ∧ E v s₂ L
/-- the common end: nothing below n0 is written, Q holds of the value and the heap, the frame is k cells and j slots -/
def En (s : State) (n0 k j : Nat) (Q : Option Value → Heap → Prop) (v : Option Value) (s₂ : State) (L : List Loc) : Prop := (Fr n0 L ∧ Q v s₂.heap) ∧ FrameEnd s (.returned v) s₂ L k j
/-- where a walk of the body y stands -/
def Wk (Z : State) (y : MethodName) (bytes : ByteArray) (ml : Nat) (ret : Option FieldType) (n0 : Nat) (p : Program) (l : Launch) (e : Env) (R : Room) (s : State) (m : MethodId) (args : Array Value) (below : List Frame) (meth : Method) (c : Code) (T : State) (kc ks : Nat) : Prop :=
  (p.tables.exec = Jvm.exec ∧ Z.Warmed39 s.vm ∧ s.vm.findClass y.cls = some m.cls ∧ c.code = bytes ∧ c.maxLocals = ml ∧ meth.sig.returnType = ret ∧ meth.locks = false ∧ meth.name = y.name) ∧ ∃ locs, Stand p l e R s m args below meth c T locs kc ks ∧ Fr n0 locs
/-- a body's contract: called with the values as over the heap h0 it returns with Post -/
def Con (l : Launch) (Z : State) (n0 : Nat) (y : MethodName) (ws : List Cond) (bytes : ByteArray) (ml : Nat) (ret : Option FieldType) (rm : Room) (as : Array Value) (h0 : Heap) (Post : Option Value → Heap → Prop) : Prop :=
  MetFree l y (head1 (Cond.code y bytes ml ret :: ws) rm) (fun a U => a = as ∧ Z.Warmed39 U.vm ∧ U.heap = h0) (fun _ _ _ _ _ => True) (fun _ U o U' => ∃ v L, o = .returned v ∧ (Fr n0 L ∧ Post v U'.heap) ∧ FrameEnd U o U' L rm.cells rm.slots)
section Laws
variable {Z : State} {y : MethodName} {bytes : ByteArray} {ml : Nat} {ret : Option FieldType} {n0 : Nat} {p : Program} {l : Launch} {e : Env} {R : Room} {s : State} {m : MethodId} {args : Array Value} {below : List Frame} {meth : Method} {c : Code} {T : State} {kc ks k j : Nat} {Q : Option Value → Heap → Prop} {E : Option Value → State → List Loc → Prop} {pc pc' : Nat} {ls : Array Slot} {st : List Value} {a0 : Array Value}
theorem Goes.back {U U' : State} (g : Goes p e below E U') (h : ∀ t, Steps p.tables e below U' t → Steps p.tables e below U t) : Goes p e below E U := by
  obtain ⟨s₂, v, L, h1, h2⟩ := g; exact ⟨s₂, v, L, h _ h1, h2⟩
theorem Goes.mono {U : State} {E' : Option Value → State → List Loc → Prop} (g : Goes p e below E U) (h : ∀ v t L, E v t L → E' v t L) : Goes p e below E' U := by
  obtain ⟨s₂, v, L, h1, h2, h3, h4⟩ := g; exact ⟨s₂, v, L, h1, h2, h3, h _ _ _ h4⟩
theorem Con.mono {ws : List Cond} {rm : Room} {as : Array Value} {h0 : Heap} {Post Post' : Option Value → Heap → Prop} (C : Con l Z n0 y ws bytes ml ret rm as h0 Post) (h : ∀ v h, Post v h → Post' v h) : Con l Z n0 y ws bytes ml ret rm as h0 Post' := by
  intro p e ha hc hk s m args below hf happ hP hK
  obtain ⟨a, b, h1, h2, h3, v, L, h4, ⟨h5, h6⟩, h7⟩ := C p e ha hc hk s m args below hf happ hP hK
  exact ⟨a, b, h1, h2, h3, v, L, h4, ⟨h5, h _ _ h6⟩, h7⟩

theorem Wk.hx (W : Wk Z y bytes ml ret n0 p l e R s m args below meth c T kc ks) : p.tables.exec = Jvm.exec := W.1.1
theorem Wk.hZ (W : Wk Z y bytes ml ret n0 p l e R s m args below meth c T kc ks) : Z.Warmed39 s.vm := W.1.2.1
theorem Wk.hown (W : Wk Z y bytes ml ret n0 p l e R s m args below meth c T kc ks) : s.vm.findClass y.cls = some m.cls := W.1.2.2.1
theorem Wk.hby (W : Wk Z y bytes ml ret n0 p l e R s m args below meth c T kc ks) : c.code = bytes := W.1.2.2.2.1
theorem Wk.hml (W : Wk Z y bytes ml ret n0 p l e R s m args below meth c T kc ks) : c.maxLocals = ml := W.1.2.2.2.2.1
theorem Wk.hret (W : Wk Z y bytes ml ret n0 p l e R s m args below meth c T kc ks) : meth.sig.returnType = ret := W.1.2.2.2.2.2.1
theorem Wk.hlk (W : Wk Z y bytes ml ret n0 p l e R s m args below meth c T kc ks) : meth.locks = false := W.1.2.2.2.2.2.2.1
theorem Wk.hnm (W : Wk Z y bytes ml ret n0 p l e R s m args below meth c T kc ks) : meth.name = y.name := W.1.2.2.2.2.2.2.2
theorem Wk.here (W : Wk Z y bytes ml ret n0 p l e R s m args below meth c T kc ks) : At T m c below := by obtain ⟨_, _, X, _⟩ := W; exact X.here
theorem g_iloadN (W : Wk Z y bytes ml ret n0 p l e R s m args below meth c T kc ks) {i : Fin 4} {v : Int32} (hd : decode bytes pc = .ok (.iload_n i, 1)) (hpc : pc + 1 = pc') (hl : ls[i.val]? = some (.val (.int v))) (K : Goes p e below E (T.setTop (mkF m pc' ls (.int v :: st)))) : Goes p e below E (T.setTop (mkF m pc ls st)) := by
  subst hpc; exact K.back fun _ r => XS.iloadN W.here W.hx rfl (hb W.hby hd) hl r
theorem g_iload (W : Wk Z y bytes ml ret n0 p l e R s m args below meth c T kc ks) {i : Nat} {v : Int32} (hd : decode bytes pc = .ok (.iload i, 2)) (hpc : pc + 2 = pc') (hl : ls[i]? = some (.val (.int v))) (K : Goes p e below E (T.setTop (mkF m pc' ls (.int v :: st)))) : Goes p e below E (T.setTop (mkF m pc ls st)) := by
  subst hpc; exact K.back fun _ r => XS.iload W.here W.hx rfl (hb W.hby hd) hl r
theorem g_lloadN (W : Wk Z y bytes ml ret n0 p l e R s m args below meth c T kc ks) {i : Fin 4} {v : Int64} (hd : decode bytes pc = .ok (.lload_n i, 1)) (hpc : pc + 1 = pc') (hl : ls[i.val]? = some (.val (.long v))) (K : Goes p e below E (T.setTop (mkF m pc' ls (.long v :: st)))) : Goes p e below E (T.setTop (mkF m pc ls st)) := by
  subst hpc; exact K.back fun _ r => XT.lloadN W.here W.hx rfl (hb W.hby hd) hl r
theorem g_lload (W : Wk Z y bytes ml ret n0 p l e R s m args below meth c T kc ks) {i : Nat} {v : Int64} (hd : decode bytes pc = .ok (.lload i, 2)) (hpc : pc + 2 = pc') (hl : ls[i]? = some (.val (.long v))) (K : Goes p e below E (T.setTop (mkF m pc' ls (.long v :: st)))) : Goes p e below E (T.setTop (mkF m pc ls st)) := by
  subst hpc; exact K.back fun _ r => XT.lload W.here W.hx rfl (hb W.hby hd) hl r
theorem g_dloadN (W : Wk Z y bytes ml ret n0 p l e R s m args below meth c T kc ks) {i : Fin 4} {v : UInt64} (hd : decode bytes pc = .ok (.dload_n i, 1)) (hpc : pc + 1 = pc') (hl : ls[i.val]? = some (.val (.double v))) (K : Goes p e below E (T.setTop (mkF m pc' ls (.double v :: st)))) : Goes p e below E (T.setTop (mkF m pc ls st)) := by
  subst hpc; exact K.back fun _ r => XS.dloadN W.here W.hx rfl (hb W.hby hd) hl r
theorem g_dload (W : Wk Z y bytes ml ret n0 p l e R s m args below meth c T kc ks) {i : Nat} {v : UInt64} (hd : decode bytes pc = .ok (.dload i, 2)) (hpc : pc + 2 = pc') (hl : ls[i]? = some (.val (.double v))) (K : Goes p e below E (T.setTop (mkF m pc' ls (.double v :: st)))) : Goes p e below E (T.setTop (mkF m pc ls st)) := by
  subst hpc; exact K.back fun _ r => XS.dload W.here W.hx rfl (hb W.hby hd) hl r
theorem g_floadN (W : Wk Z y bytes ml ret n0 p l e R s m args below meth c T kc ks) {i : Fin 4} {v : UInt32} (hd : decode bytes pc = .ok (.fload_n i, 1)) (hpc : pc + 1 = pc') (hl : ls[i.val]? = some (.val (.float v))) (K : Goes p e below E (T.setTop (mkF m pc' ls (.float v :: st)))) : Goes p e below E (T.setTop (mkF m pc ls st)) := by
  subst hpc; exact K.back fun _ r => XS.floadN W.here W.hx rfl (hb W.hby hd) hl r
theorem g_fload (W : Wk Z y bytes ml ret n0 p l e R s m args below meth c T kc ks) {i : Nat} {v : UInt32} (hd : decode bytes pc = .ok (.fload i, 2)) (hpc : pc + 2 = pc') (hl : ls[i]? = some (.val (.float v))) (K : Goes p e below E (T.setTop (mkF m pc' ls (.float v :: st)))) : Goes p e below E (T.setTop (mkF m pc ls st)) := by
  subst hpc; exact K.back fun _ r => XS.fload W.here W.hx rfl (hb W.hby hd) hl r
theorem g_aloadN (W : Wk Z y bytes ml ret n0 p l e R s m args below meth c T kc ks) {i : Fin 4} {v : Value} (hd : decode bytes pc = .ok (.aload_n i, 1)) (hpc : pc + 1 = pc') (hl : ls[i.val]? = some (.val v)) (hv : v.isRef = true) (K : Goes p e below E (T.setTop (mkF m pc' ls (v :: st)))) : Goes p e below E (T.setTop (mkF m pc ls st)) := by
  subst hpc; exact K.back fun _ r => XS.aloadN W.here W.hx rfl (hb W.hby hd) hl hv r
theorem g_aload (W : Wk Z y bytes ml ret n0 p l e R s m args below meth c T kc ks) {i : Nat} {v : Value} (hd : decode bytes pc = .ok (.aload i, 2)) (hpc : pc + 2 = pc') (hl : ls[i]? = some (.val v)) (hv : v.isRef = true) (K : Goes p e below E (T.setTop (mkF m pc' ls (v :: st)))) : Goes p e below E (T.setTop (mkF m pc ls st)) := by
  subst hpc; exact K.back fun _ r => XS.aload W.here W.hx rfl (hb W.hby hd) hl hv r
theorem g_istoreN (W : Wk Z y bytes ml ret n0 p l e R s m args below meth c T kc ks) {i : Fin 4} {v : Int32} {ls' : Array Slot} (hd : decode bytes pc = .ok (.istore_n i, 1)) (hpc : pc + 1 = pc') (hl : storeLocals ls i.val (.int v) = some ls') (K : Goes p e below E (T.setTop (mkF m pc' ls' st))) : Goes p e below E (T.setTop (mkF m pc ls (.int v :: st))) := by
  subst hpc; exact K.back fun _ r => XS.istoreN W.here W.hx rfl (hb W.hby hd) rfl hl r
theorem g_istore (W : Wk Z y bytes ml ret n0 p l e R s m args below meth c T kc ks) {i : Nat} {v : Int32} {ls' : Array Slot} (hd : decode bytes pc = .ok (.istore i, 2)) (hpc : pc + 2 = pc') (hl : storeLocals ls i (.int v) = some ls') (K : Goes p e below E (T.setTop (mkF m pc' ls' st))) : Goes p e below E (T.setTop (mkF m pc ls (.int v :: st))) := by
  subst hpc; exact K.back fun _ r => XS.istore W.here W.hx rfl (hb W.hby hd) rfl hl r
theorem g_lstoreN (W : Wk Z y bytes ml ret n0 p l e R s m args below meth c T kc ks) {i : Fin 4} {v : Int64} {ls' : Array Slot} (hd : decode bytes pc = .ok (.lstore_n i, 1)) (hpc : pc + 1 = pc') (hl : storeLocals ls i.val (.long v) = some ls') (K : Goes p e below E (T.setTop (mkF m pc' ls' st))) : Goes p e below E (T.setTop (mkF m pc ls (.long v :: st))) := by
  subst hpc; exact K.back fun _ r => XT.lstoreN W.here W.hx rfl (hb W.hby hd) rfl hl r
theorem g_lstore (W : Wk Z y bytes ml ret n0 p l e R s m args below meth c T kc ks) {i : Nat} {v : Int64} {ls' : Array Slot} (hd : decode bytes pc = .ok (.lstore i, 2)) (hpc : pc + 2 = pc') (hl : storeLocals ls i (.long v) = some ls') (K : Goes p e below E (T.setTop (mkF m pc' ls' st))) : Goes p e below E (T.setTop (mkF m pc ls (.long v :: st))) := by
  subst hpc; exact K.back fun _ r => XT.lstore W.here W.hx rfl (hb W.hby hd) rfl hl r
theorem g_dstoreN (W : Wk Z y bytes ml ret n0 p l e R s m args below meth c T kc ks) {i : Fin 4} {v : UInt64} {ls' : Array Slot} (hd : decode bytes pc = .ok (.dstore_n i, 1)) (hpc : pc + 1 = pc') (hl : storeLocals ls i.val (.double v) = some ls') (K : Goes p e below E (T.setTop (mkF m pc' ls' st))) : Goes p e below E (T.setTop (mkF m pc ls (.double v :: st))) := by
  subst hpc; exact K.back fun _ r => XS.dstoreN W.here W.hx rfl (hb W.hby hd) rfl hl r
theorem g_dstore (W : Wk Z y bytes ml ret n0 p l e R s m args below meth c T kc ks) {i : Nat} {v : UInt64} {ls' : Array Slot} (hd : decode bytes pc = .ok (.dstore i, 2)) (hpc : pc + 2 = pc') (hl : storeLocals ls i (.double v) = some ls') (K : Goes p e below E (T.setTop (mkF m pc' ls' st))) : Goes p e below E (T.setTop (mkF m pc ls (.double v :: st))) := by
  subst hpc; exact K.back fun _ r => XS.dstore W.here W.hx rfl (hb W.hby hd) rfl hl r
theorem g_fstoreN (W : Wk Z y bytes ml ret n0 p l e R s m args below meth c T kc ks) {i : Fin 4} {v : UInt32} {ls' : Array Slot} (hd : decode bytes pc = .ok (.fstore_n i, 1)) (hpc : pc + 1 = pc') (hl : storeLocals ls i.val (.float v) = some ls') (K : Goes p e below E (T.setTop (mkF m pc' ls' st))) : Goes p e below E (T.setTop (mkF m pc ls (.float v :: st))) := by
  subst hpc; exact K.back fun _ r => XS.fstoreN W.here W.hx rfl (hb W.hby hd) rfl hl r
theorem g_fstore (W : Wk Z y bytes ml ret n0 p l e R s m args below meth c T kc ks) {i : Nat} {v : UInt32} {ls' : Array Slot} (hd : decode bytes pc = .ok (.fstore i, 2)) (hpc : pc + 2 = pc') (hl : storeLocals ls i (.float v) = some ls') (K : Goes p e below E (T.setTop (mkF m pc' ls' st))) : Goes p e below E (T.setTop (mkF m pc ls (.float v :: st))) := by
  subst hpc; exact K.back fun _ r => XS.fstore W.here W.hx rfl (hb W.hby hd) rfl hl r
theorem g_astoreN (W : Wk Z y bytes ml ret n0 p l e R s m args below meth c T kc ks) {i : Fin 4} {v : Value} {ls' : Array Slot} (hd : decode bytes pc = .ok (.astore_n i, 1)) (hpc : pc + 1 = pc') (hv : v.isRef = true) (hl : storeLocals ls i.val v = some ls') (K : Goes p e below E (T.setTop (mkF m pc' ls' st))) : Goes p e below E (T.setTop (mkF m pc ls (v :: st))) := by
  subst hpc; exact K.back fun _ r => XS.astoreN W.here W.hx rfl (hb W.hby hd) rfl hv hl r
theorem g_astore (W : Wk Z y bytes ml ret n0 p l e R s m args below meth c T kc ks) {i : Nat} {v : Value} {ls' : Array Slot} (hd : decode bytes pc = .ok (.astore i, 2)) (hpc : pc + 2 = pc') (hv : v.isRef = true) (hl : storeLocals ls i v = some ls') (K : Goes p e below E (T.setTop (mkF m pc' ls' st))) : Goes p e below E (T.setTop (mkF m pc ls (v :: st))) := by
  subst hpc; exact K.back fun _ r => XS.astore W.here W.hx rfl (hb W.hby hd) rfl hv hl r
theorem g_iconst (W : Wk Z y bytes ml ret n0 p l e R s m args below meth c T kc ks) {i : Int} {v : Int32} (hd : decode bytes pc = .ok (.iconst i, 1)) (hpc : pc + 1 = pc') (hv : Int32.ofInt i = v) (K : Goes p e below E (T.setTop (mkF m pc' ls (.int v :: st)))) : Goes p e below E (T.setTop (mkF m pc ls st)) := by
  subst hpc; exact K.back fun _ r => XS.iconst W.here W.hx rfl (hb W.hby hd) (by rw [hv]; exact r)
theorem g_bipush (W : Wk Z y bytes ml ret n0 p l e R s m args below meth c T kc ks) {i : Int} {v : Int32} (hd : decode bytes pc = .ok (.bipush i, 2)) (hpc : pc + 2 = pc') (hv : (Int8.ofInt i).toInt32 = v) (K : Goes p e below E (T.setTop (mkF m pc' ls (.int v :: st)))) : Goes p e below E (T.setTop (mkF m pc ls st)) := by
  subst hpc; exact K.back fun _ r => XS.bipush W.here W.hx rfl (hb W.hby hd) (by rw [hv]; exact r)
theorem g_sipush (W : Wk Z y bytes ml ret n0 p l e R s m args below meth c T kc ks) {i : Int} {v : Int32} (hd : decode bytes pc = .ok (.sipush i, 3)) (hpc : pc + 3 = pc') (hv : (Int16.ofInt i).toInt32 = v) (K : Goes p e below E (T.setTop (mkF m pc' ls (.int v :: st)))) : Goes p e below E (T.setTop (mkF m pc ls st)) := by
  subst hpc; exact K.back fun _ r => XS.sipush W.here W.hx rfl (hb W.hby hd) (by rw [hv]; exact r)
theorem g_lconst (W : Wk Z y bytes ml ret n0 p l e R s m args below meth c T kc ks) {i : Fin 2} {v : Int64} (hd : decode bytes pc = .ok (.lconst i, 1)) (hpc : pc + 1 = pc') (hv : Int64.ofNat i = v) (K : Goes p e below E (T.setTop (mkF m pc' ls (.long v :: st)))) : Goes p e below E (T.setTop (mkF m pc ls st)) := by
  subst hpc; exact K.back fun _ r => XT.lconst W.here W.hx rfl (hb W.hby hd) (by rw [hv]; exact r)
theorem g_dconst0 (W : Wk Z y bytes ml ret n0 p l e R s m args below meth c T kc ks)  (hd : decode bytes pc = .ok (.dconst 0, 1)) (hpc : pc + 1 = pc')  (K : Goes p e below E (T.setTop (mkF m pc' ls (.double 0 :: st)))) : Goes p e below E (T.setTop (mkF m pc ls st)) := by
  subst hpc; exact K.back fun _ r => XS.dconst0 W.here W.hx rfl (hb W.hby hd) rfl r
theorem g_dconst1 (W : Wk Z y bytes ml ret n0 p l e R s m args below meth c T kc ks)  (hd : decode bytes pc = .ok (.dconst 1, 1)) (hpc : pc + 1 = pc')  (K : Goes p e below E (T.setTop (mkF m pc' ls (.double 4607182418800017408 :: st)))) : Goes p e below E (T.setTop (mkF m pc ls st)) := by
  subst hpc; exact K.back fun _ r => XS.dconst1 W.here W.hx rfl (hb W.hby hd) rfl r
theorem g_aconst_null (W : Wk Z y bytes ml ret n0 p l e R s m args below meth c T kc ks)  (hd : decode bytes pc = .ok (.aconst_null, 1)) (hpc : pc + 1 = pc')  (K : Goes p e below E (T.setTop (mkF m pc' ls (.null :: st)))) : Goes p e below E (T.setTop (mkF m pc ls st)) := by
  subst hpc; exact K.back fun _ r => XS.aconstNull W.here W.hx rfl (hb W.hby hd) r
theorem g_iadd (W : Wk Z y bytes ml ret n0 p l e R s m args below meth c T kc ks) {x y0 v : Int32} (hd : decode bytes pc = .ok (.iadd, 1)) (hpc : pc + 1 = pc') (hv : x + y0 = v) (K : Goes p e below E (T.setTop (mkF m pc' ls (.int v :: st)))) : Goes p e below E (T.setTop (mkF m pc ls (.int y0 :: .int x :: st))) := by
  subst hpc; exact K.back fun _ r => XS.iadd W.here W.hx rfl (hb W.hby hd) rfl (by rw [hv]; exact r)
theorem g_isub (W : Wk Z y bytes ml ret n0 p l e R s m args below meth c T kc ks) {x y0 v : Int32} (hd : decode bytes pc = .ok (.isub, 1)) (hpc : pc + 1 = pc') (hv : x - y0 = v) (K : Goes p e below E (T.setTop (mkF m pc' ls (.int v :: st)))) : Goes p e below E (T.setTop (mkF m pc ls (.int y0 :: .int x :: st))) := by
  subst hpc; exact K.back fun _ r => XS.isub W.here W.hx rfl (hb W.hby hd) rfl (by rw [hv]; exact r)
theorem g_iand (W : Wk Z y bytes ml ret n0 p l e R s m args below meth c T kc ks) {x y0 v : Int32} (hd : decode bytes pc = .ok (.iand, 1)) (hpc : pc + 1 = pc') (hv : x &&& y0 = v) (K : Goes p e below E (T.setTop (mkF m pc' ls (.int v :: st)))) : Goes p e below E (T.setTop (mkF m pc ls (.int y0 :: .int x :: st))) := by
  subst hpc; exact K.back fun _ r => XS.iand W.here W.hx rfl (hb W.hby hd) rfl (by rw [hv]; exact r)
theorem g_imul (W : Wk Z y bytes ml ret n0 p l e R s m args below meth c T kc ks) {x y0 v : Int32} (hd : decode bytes pc = .ok (.imul, 1)) (hpc : pc + 1 = pc') (hv : x * y0 = v) (K : Goes p e below E (T.setTop (mkF m pc' ls (.int v :: st)))) : Goes p e below E (T.setTop (mkF m pc ls (.int y0 :: .int x :: st))) := by
  subst hpc; exact K.back fun _ r => XS.imul W.here W.hx rfl (hb W.hby hd) rfl (by rw [hv]; exact r)
theorem g_ixor (W : Wk Z y bytes ml ret n0 p l e R s m args below meth c T kc ks) {x y0 v : Int32} (hd : decode bytes pc = .ok (.ixor, 1)) (hpc : pc + 1 = pc') (hv : x ^^^ y0 = v) (K : Goes p e below E (T.setTop (mkF m pc' ls (.int v :: st)))) : Goes p e below E (T.setTop (mkF m pc ls (.int y0 :: .int x :: st))) := by
  subst hpc; exact K.back fun _ r => XT.ixor W.here W.hx rfl (hb W.hby hd) rfl (by rw [hv]; exact r)
theorem g_ior (W : Wk Z y bytes ml ret n0 p l e R s m args below meth c T kc ks) {x y0 v : Int32} (hd : decode bytes pc = .ok (.ior, 1)) (hpc : pc + 1 = pc') (hv : x ||| y0 = v) (K : Goes p e below E (T.setTop (mkF m pc' ls (.int v :: st)))) : Goes p e below E (T.setTop (mkF m pc ls (.int y0 :: .int x :: st))) := by
  subst hpc; exact K.back fun _ r => XT.ior W.here W.hx rfl (hb W.hby hd) rfl (by rw [hv]; exact r)
theorem g_ishl (W : Wk Z y bytes ml ret n0 p l e R s m args below meth c T kc ks) {x y0 v : Int32} (hd : decode bytes pc = .ok (.ishl, 1)) (hpc : pc + 1 = pc') (hv : x <<< (y0 &&& 31) = v) (K : Goes p e below E (T.setTop (mkF m pc' ls (.int v :: st)))) : Goes p e below E (T.setTop (mkF m pc ls (.int y0 :: .int x :: st))) := by
  subst hpc; exact K.back fun _ r => XT.ishl W.here W.hx rfl (hb W.hby hd) rfl (by rw [hv]; exact r)
theorem g_ishr (W : Wk Z y bytes ml ret n0 p l e R s m args below meth c T kc ks) {x y0 v : Int32} (hd : decode bytes pc = .ok (.ishr, 1)) (hpc : pc + 1 = pc') (hv : x >>> (y0 &&& 31) = v) (K : Goes p e below E (T.setTop (mkF m pc' ls (.int v :: st)))) : Goes p e below E (T.setTop (mkF m pc ls (.int y0 :: .int x :: st))) := by
  subst hpc; exact K.back fun _ r => XT.ishr W.here W.hx rfl (hb W.hby hd) rfl (by rw [hv]; exact r)
theorem g_iushr (W : Wk Z y bytes ml ret n0 p l e R s m args below meth c T kc ks) {x y0 v : Int32} (hd : decode bytes pc = .ok (.iushr, 1)) (hpc : pc + 1 = pc') (hv : XT.ushr x y0 = v) (K : Goes p e below E (T.setTop (mkF m pc' ls (.int v :: st)))) : Goes p e below E (T.setTop (mkF m pc ls (.int y0 :: .int x :: st))) := by
  subst hpc; exact K.back fun _ r => XT.iushr W.here W.hx rfl (hb W.hby hd) rfl (by rw [hv]; exact r)
theorem g_ineg (W : Wk Z y bytes ml ret n0 p l e R s m args below meth c T kc ks) {x v : Int32} (hd : decode bytes pc = .ok (.ineg, 1)) (hpc : pc + 1 = pc') (hv : -x = v) (K : Goes p e below E (T.setTop (mkF m pc' ls (.int v :: st)))) : Goes p e below E (T.setTop (mkF m pc ls (.int x :: st))) := by
  subst hpc; exact K.back fun _ r => XS.ineg W.here W.hx rfl (hb W.hby hd) rfl (by rw [hv]; exact r)
theorem g_ladd (W : Wk Z y bytes ml ret n0 p l e R s m args below meth c T kc ks) {x y0 v : Int64} (hd : decode bytes pc = .ok (.ladd, 1)) (hpc : pc + 1 = pc') (hv : x + y0 = v) (K : Goes p e below E (T.setTop (mkF m pc' ls (.long v :: st)))) : Goes p e below E (T.setTop (mkF m pc ls (.long y0 :: .long x :: st))) := by
  subst hpc; exact K.back fun _ r => XT.ladd W.here W.hx rfl (hb W.hby hd) rfl (by rw [hv]; exact r)
theorem g_lsub (W : Wk Z y bytes ml ret n0 p l e R s m args below meth c T kc ks) {x y0 v : Int64} (hd : decode bytes pc = .ok (.lsub, 1)) (hpc : pc + 1 = pc') (hv : x - y0 = v) (K : Goes p e below E (T.setTop (mkF m pc' ls (.long v :: st)))) : Goes p e below E (T.setTop (mkF m pc ls (.long y0 :: .long x :: st))) := by
  subst hpc; exact K.back fun _ r => XT.lsub W.here W.hx rfl (hb W.hby hd) rfl (by rw [hv]; exact r)
theorem g_lmul (W : Wk Z y bytes ml ret n0 p l e R s m args below meth c T kc ks) {x y0 v : Int64} (hd : decode bytes pc = .ok (.lmul, 1)) (hpc : pc + 1 = pc') (hv : x * y0 = v) (K : Goes p e below E (T.setTop (mkF m pc' ls (.long v :: st)))) : Goes p e below E (T.setTop (mkF m pc ls (.long y0 :: .long x :: st))) := by
  subst hpc; exact K.back fun _ r => XT.lmul W.here W.hx rfl (hb W.hby hd) rfl (by rw [hv]; exact r)
theorem g_land (W : Wk Z y bytes ml ret n0 p l e R s m args below meth c T kc ks) {x y0 v : Int64} (hd : decode bytes pc = .ok (.land, 1)) (hpc : pc + 1 = pc') (hv : x &&& y0 = v) (K : Goes p e below E (T.setTop (mkF m pc' ls (.long v :: st)))) : Goes p e below E (T.setTop (mkF m pc ls (.long y0 :: .long x :: st))) := by
  subst hpc; exact K.back fun _ r => XT.land W.here W.hx rfl (hb W.hby hd) rfl (by rw [hv]; exact r)
theorem g_lor (W : Wk Z y bytes ml ret n0 p l e R s m args below meth c T kc ks) {x y0 v : Int64} (hd : decode bytes pc = .ok (.lor, 1)) (hpc : pc + 1 = pc') (hv : x ||| y0 = v) (K : Goes p e below E (T.setTop (mkF m pc' ls (.long v :: st)))) : Goes p e below E (T.setTop (mkF m pc ls (.long y0 :: .long x :: st))) := by
  subst hpc; exact K.back fun _ r => XT.lor W.here W.hx rfl (hb W.hby hd) rfl (by rw [hv]; exact r)
theorem g_lxor (W : Wk Z y bytes ml ret n0 p l e R s m args below meth c T kc ks) {x y0 v : Int64} (hd : decode bytes pc = .ok (.lxor, 1)) (hpc : pc + 1 = pc') (hv : x ^^^ y0 = v) (K : Goes p e below E (T.setTop (mkF m pc' ls (.long v :: st)))) : Goes p e below E (T.setTop (mkF m pc ls (.long y0 :: .long x :: st))) := by
  subst hpc; exact K.back fun _ r => XT.lxor W.here W.hx rfl (hb W.hby hd) rfl (by rw [hv]; exact r)
theorem g_lneg (W : Wk Z y bytes ml ret n0 p l e R s m args below meth c T kc ks) {x v : Int64} (hd : decode bytes pc = .ok (.lneg, 1)) (hpc : pc + 1 = pc') (hv : -x = v) (K : Goes p e below E (T.setTop (mkF m pc' ls (.long v :: st)))) : Goes p e below E (T.setTop (mkF m pc ls (.long x :: st))) := by
  subst hpc; exact K.back fun _ r => XT.lneg W.here W.hx rfl (hb W.hby hd) rfl (by rw [hv]; exact r)
theorem g_lushr (W : Wk Z y bytes ml ret n0 p l e R s m args below meth c T kc ks) {x v : Int64} {y0 : Int32} (hd : decode bytes pc = .ok (.lushr, 1)) (hpc : pc + 1 = pc') (hv : XT.ushrL x y0 = v) (K : Goes p e below E (T.setTop (mkF m pc' ls (.long v :: st)))) : Goes p e below E (T.setTop (mkF m pc ls (.int y0 :: .long x :: st))) := by
  subst hpc; exact K.back fun _ r => XT.lushr W.here W.hx rfl (hb W.hby hd) rfl (by rw [hv]; exact r)
theorem g_lcmp (W : Wk Z y bytes ml ret n0 p l e R s m args below meth c T kc ks) {x y0 : Int64} {v : Int32} (hd : decode bytes pc = .ok (.lcmp, 1)) (hpc : pc + 1 = pc') (hv : XT.cmpL x y0 = v) (K : Goes p e below E (T.setTop (mkF m pc' ls (.int v :: st)))) : Goes p e below E (T.setTop (mkF m pc ls (.long y0 :: .long x :: st))) := by
  subst hpc; exact K.back fun _ r => XT.lcmp W.here W.hx rfl (hb W.hby hd) rfl (by rw [hv]; exact r)
theorem g_i2l (W : Wk Z y bytes ml ret n0 p l e R s m args below meth c T kc ks) {x : Int32} {v : Int64} (hd : decode bytes pc = .ok (.i2l, 1)) (hpc : pc + 1 = pc') (hv : x.toInt64 = v) (K : Goes p e below E (T.setTop (mkF m pc' ls (.long v :: st)))) : Goes p e below E (T.setTop (mkF m pc ls (.int x :: st))) := by
  subst hpc; exact K.back fun _ r => XT.i2l W.here W.hx rfl (hb W.hby hd) rfl (by rw [hv]; exact r)
theorem g_l2i (W : Wk Z y bytes ml ret n0 p l e R s m args below meth c T kc ks) {x : Int64} {v : Int32} (hd : decode bytes pc = .ok (.l2i, 1)) (hpc : pc + 1 = pc') (hv : x.toInt32 = v) (K : Goes p e below E (T.setTop (mkF m pc' ls (.int v :: st)))) : Goes p e below E (T.setTop (mkF m pc ls (.long x :: st))) := by
  subst hpc; exact K.back fun _ r => XT.l2i W.here W.hx rfl (hb W.hby hd) rfl (by rw [hv]; exact r)
theorem g_i2d (W : Wk Z y bytes ml ret n0 p l e R s m args below meth c T kc ks) {x : Int32} {v : UInt64} (hd : decode bytes pc = .ok (.i2d, 1)) (hpc : pc + 1 = pc') (hv : FP.i2d x = v) (K : Goes p e below E (T.setTop (mkF m pc' ls (.double v :: st)))) : Goes p e below E (T.setTop (mkF m pc ls (.int x :: st))) := by
  subst hpc; exact K.back fun _ r => XS.i2dS W.here W.hx rfl (hb W.hby hd) rfl hv r
theorem g_l2d (W : Wk Z y bytes ml ret n0 p l e R s m args below meth c T kc ks) {x : Int64} {v : UInt64} (hd : decode bytes pc = .ok (.l2d, 1)) (hpc : pc + 1 = pc') (hv : FP.l2d x = v) (K : Goes p e below E (T.setTop (mkF m pc' ls (.double v :: st)))) : Goes p e below E (T.setTop (mkF m pc ls (.long x :: st))) := by
  subst hpc; exact K.back fun _ r => XS.l2dS W.here W.hx rfl (hb W.hby hd) rfl hv r
theorem g_dneg (W : Wk Z y bytes ml ret n0 p l e R s m args below meth c T kc ks) {x v : UInt64} (hd : decode bytes pc = .ok (.dneg, 1)) (hpc : pc + 1 = pc') (hv : FP.dneg x = v) (K : Goes p e below E (T.setTop (mkF m pc' ls (.double v :: st)))) : Goes p e below E (T.setTop (mkF m pc ls (.double x :: st))) := by
  subst hpc; exact K.back fun _ r => XS.dnegS W.here W.hx rfl (hb W.hby hd) rfl hv r
theorem g_dcmp (W : Wk Z y bytes ml ret n0 p l e R s m args below meth c T kc ks) {o : CmpOp} {x y0 : UInt64} {v : Int32} (hd : decode bytes pc = .ok (.dcmp o, 1)) (hpc : pc + 1 = pc') (hv : cmpValue (FP.dcmp x y0) o = v) (K : Goes p e below E (T.setTop (mkF m pc' ls (.int v :: st)))) : Goes p e below E (T.setTop (mkF m pc ls (.double y0 :: .double x :: st))) := by
  subst hpc; exact K.back fun _ r => XS.dcmpS W.here W.hx rfl (hb W.hby hd) rfl hv r
theorem g_dadd (W : Wk Z y bytes ml ret n0 p l e R s m args below meth c T kc ks) {x y0 v : UInt64} (hd : decode bytes pc = .ok (.dadd, 1)) (hpc : pc + 1 = pc') (hv : FP.dadd x y0 = v) (hn : NoNaN64 v) (K : Goes p e below E (T.setTop (mkF m pc' ls (.double v :: st)))) : Goes p e below E (T.setTop (mkF m pc ls (.double y0 :: .double x :: st))) := by
  subst hpc; exact K.back fun _ r => XS.daddS W.here W.hx rfl (hb W.hby hd) rfl (by rw [hv]; exact hn) hv r
theorem g_dsub (W : Wk Z y bytes ml ret n0 p l e R s m args below meth c T kc ks) {x y0 v : UInt64} (hd : decode bytes pc = .ok (.dsub, 1)) (hpc : pc + 1 = pc') (hv : FP.dsub x y0 = v) (hn : NoNaN64 v) (K : Goes p e below E (T.setTop (mkF m pc' ls (.double v :: st)))) : Goes p e below E (T.setTop (mkF m pc ls (.double y0 :: .double x :: st))) := by
  subst hpc; exact K.back fun _ r => XS.dsubS W.here W.hx rfl (hb W.hby hd) rfl (by rw [hv]; exact hn) hv r
theorem g_dmul (W : Wk Z y bytes ml ret n0 p l e R s m args below meth c T kc ks) {x y0 v : UInt64} (hd : decode bytes pc = .ok (.dmul, 1)) (hpc : pc + 1 = pc') (hv : FP.dmul x y0 = v) (hn : NoNaN64 v) (K : Goes p e below E (T.setTop (mkF m pc' ls (.double v :: st)))) : Goes p e below E (T.setTop (mkF m pc ls (.double y0 :: .double x :: st))) := by
  subst hpc; exact K.back fun _ r => XS.dmulS W.here W.hx rfl (hb W.hby hd) rfl (by rw [hv]; exact hn) hv r
theorem g_ddiv (W : Wk Z y bytes ml ret n0 p l e R s m args below meth c T kc ks) {x y0 v : UInt64} (hd : decode bytes pc = .ok (.ddiv, 1)) (hpc : pc + 1 = pc') (hv : FP.ddiv x y0 = v) (hn : NoNaN64 v) (K : Goes p e below E (T.setTop (mkF m pc' ls (.double v :: st)))) : Goes p e below E (T.setTop (mkF m pc ls (.double y0 :: .double x :: st))) := by
  subst hpc; exact K.back fun _ r => XS.ddivS W.here W.hx rfl (hb W.hby hd) rfl (by rw [hv]; exact hn) hv r
theorem g_dup (W : Wk Z y bytes ml ret n0 p l e R s m args below meth c T kc ks) {v : Value} (hd : decode bytes pc = .ok (.dup, 1)) (hpc : pc + 1 = pc') (hc : v.category = 1) (K : Goes p e below E (T.setTop (mkF m pc' ls (v :: v :: st)))) : Goes p e below E (T.setTop (mkF m pc ls (v :: st))) := by
  subst hpc; exact K.back fun _ r => XS.dup W.here W.hx rfl (hb W.hby hd) rfl hc r
theorem g_pop (W : Wk Z y bytes ml ret n0 p l e R s m args below meth c T kc ks) {v : Value} (hd : decode bytes pc = .ok (.pop, 1)) (hpc : pc + 1 = pc') (hc : v.category = 1) (K : Goes p e below E (T.setTop (mkF m pc' ls st))) : Goes p e below E (T.setTop (mkF m pc ls (v :: st))) := by
  subst hpc; exact K.back fun _ r => XT.pop W.here W.hx rfl (hb W.hby hd) rfl hc r
theorem g_dup_x1 (W : Wk Z y bytes ml ret n0 p l e R s m args below meth c T kc ks) {v w : Value} (hd : decode bytes pc = .ok (.dup_x1, 1)) (hpc : pc + 1 = pc') (hc : v.category = 1) (hc2 : w.category = 1) (K : Goes p e below E (T.setTop (mkF m pc' ls (v :: w :: v :: st)))) : Goes p e below E (T.setTop (mkF m pc ls (v :: w :: st))) := by
  subst hpc; exact K.back fun _ r => XT.dupX1 W.here W.hx rfl (hb W.hby hd) rfl hc hc2 r
theorem g_dup2 (W : Wk Z y bytes ml ret n0 p l e R s m args below meth c T kc ks) {v w : Value} (hd : decode bytes pc = .ok (.dup2, 1)) (hpc : pc + 1 = pc') (hc : v.category = 1) (hc2 : w.category = 1) (K : Goes p e below E (T.setTop (mkF m pc' ls (v :: w :: v :: w :: st)))) : Goes p e below E (T.setTop (mkF m pc ls (v :: w :: st))) := by
  subst hpc; exact K.back fun _ r => XT.dup2 W.here W.hx rfl (hb W.hby hd) rfl hc hc2 r
theorem g_iinc (W : Wk Z y bytes ml ret n0 p l e R s m args below meth c T kc ks) {i : Nat} {d : Int} {x v : Int32} {ls' : Array Slot} (hd : decode bytes pc = .ok (.iinc i d, 3)) (hpc : pc + 3 = pc') (h1 : ls[i]? = some (.val (.int x))) (hv : x + Int32.ofInt d = v) (hl : storeLocals ls i (.int v) = some ls') (K : Goes p e below E (T.setTop (mkF m pc' ls' st))) : Goes p e below E (T.setTop (mkF m pc ls st)) := by
  subst hpc; exact K.back fun _ r => XS.iinc W.here W.hx rfl (hb W.hby hd) h1 (by rw [hv]; exact hl) r
theorem g_idiv (W : Wk Z y bytes ml ret n0 p l e R s m args below meth c T kc ks) {x y0 v : Int32} (hd : decode bytes pc = .ok (.idiv, 1)) (hpc : pc + 1 = pc') (h0 : y0 ≠ 0) (hv : x / y0 = v) (K : Goes p e below E (T.setTop (mkF m pc' ls (.int v :: st)))) : Goes p e below E (T.setTop (mkF m pc ls (.int y0 :: .int x :: st))) := by
  subst hpc; exact K.back fun _ r => XS.idiv W.here W.hx rfl (hb W.hby hd) rfl h0 (by rw [hv]; exact r)
theorem g_irem (W : Wk Z y bytes ml ret n0 p l e R s m args below meth c T kc ks) {x y0 v : Int32} (hd : decode bytes pc = .ok (.irem, 1)) (hpc : pc + 1 = pc') (h0 : y0 ≠ 0) (hv : x - (x / y0) * y0 = v) (K : Goes p e below E (T.setTop (mkF m pc' ls (.int v :: st)))) : Goes p e below E (T.setTop (mkF m pc ls (.int y0 :: .int x :: st))) := by
  subst hpc; exact K.back fun _ r => XS.irem W.here W.hx rfl (hb W.hby hd) rfl h0 (by rw [hv]; exact r)
theorem g_ldiv (W : Wk Z y bytes ml ret n0 p l e R s m args below meth c T kc ks) {x y0 v : Int64} (hd : decode bytes pc = .ok (.ldiv, 1)) (hpc : pc + 1 = pc') (h0 : y0 ≠ 0) (hv : x / y0 = v) (K : Goes p e below E (T.setTop (mkF m pc' ls (.long v :: st)))) : Goes p e below E (T.setTop (mkF m pc ls (.long y0 :: .long x :: st))) := by
  subst hpc; exact K.back fun _ r => XT.ldiv W.here W.hx rfl (hb W.hby hd) rfl h0 (by rw [hv]; exact r)
theorem g_lrem (W : Wk Z y bytes ml ret n0 p l e R s m args below meth c T kc ks) {x y0 v : Int64} (hd : decode bytes pc = .ok (.lrem, 1)) (hpc : pc + 1 = pc') (h0 : y0 ≠ 0) (hv : x - (x / y0) * y0 = v) (K : Goes p e below E (T.setTop (mkF m pc' ls (.long v :: st)))) : Goes p e below E (T.setTop (mkF m pc ls (.long y0 :: .long x :: st))) := by
  subst hpc; exact K.back fun _ r => XT.lrem W.here W.hx rfl (hb W.hby hd) rfl h0 (by rw [hv]; exact r)
theorem g_lshl (W : Wk Z y bytes ml ret n0 p l e R s m args below meth c T kc ks) {x v : Int64} {y0 : Int32} (hd : decode bytes pc = .ok (.lshl, 1)) (hpc : pc + 1 = pc') (hv : x <<< (y0.toInt64 &&& 63) = v) (K : Goes p e below E (T.setTop (mkF m pc' ls (.long v :: st)))) : Goes p e below E (T.setTop (mkF m pc ls (.int y0 :: .long x :: st))) := by
  subst hpc; exact K.back fun _ r => XT.lshl W.here W.hx rfl (hb W.hby hd) rfl (by rw [hv]; exact r)
theorem g_lshr (W : Wk Z y bytes ml ret n0 p l e R s m args below meth c T kc ks) {x v : Int64} {y0 : Int32} (hd : decode bytes pc = .ok (.lshr, 1)) (hpc : pc + 1 = pc') (hv : x >>> (y0.toInt64 &&& 63) = v) (K : Goes p e below E (T.setTop (mkF m pc' ls (.long v :: st)))) : Goes p e below E (T.setTop (mkF m pc ls (.int y0 :: .long x :: st))) := by
  subst hpc; exact K.back fun _ r => XT.lshr W.here W.hx rfl (hb W.hby hd) rfl (by rw [hv]; exact r)
def cP : ClassFile.Cond → Int32 → Int32 → Prop
  | .eq, x, y => x = y
  | .ne, x, y => ¬ x = y
  | .lt, x, y => x < y
  | .ge, x, y => ¬ x < y
  | .gt, x, y => y < x
  | .le, x, y => ¬ y < x
theorem cP_yes {cd : ClassFile.Cond} {x y : Int32} (h : cP cd x y) : if_icmp.holds cd x y = true := by
  cases cd
  · exact (teq h).1
  · exact (feq h).2
  · exact (tlt h).1
  · exact (flt h).2.1
  · exact (tlt h).2.2.1
  · exact (flt h).2.2.2
theorem cP_no {cd : ClassFile.Cond} {x y : Int32} (h : ¬ cP cd x y) : if_icmp.holds cd x y = false := by
  cases cd
  · exact (feq h).1
  · exact (teq (Classical.not_not.mp h)).2
  · exact (flt h).1
  · exact (tlt (Classical.not_not.mp h)).2.1
  · exact (flt h).2.2.1
  · exact (tlt (Classical.not_not.mp h)).2.2.2
theorem g_goto (W : Wk Z y bytes ml ret n0 p l e R s m args below meth c T kc ks) {o : Int} (hd : decode bytes pc = .ok (.goto o, 3)) (hpc : (pc : Int) + o = (pc' : Nat)) (K : Goes p e below E (T.setTop (mkF m pc' ls st))) : Goes p e below E (T.setTop (mkF m pc ls st)) :=
  K.back fun _ r => XS.goto W.here W.hx rfl (pc0 := pc) (pc' := pc') rfl (hb W.hby hd) (by omega) (by omega) r
theorem g_if (W : Wk Z y bytes ml ret n0 p l e R s m args below meth c T kc ks) {cd : ClassFile.Cond} {x : Int32} {o : Int} {pcy : Nat} (hd : decode bytes pc = .ok (.ifCond cd o, 3)) (hy : (pc : Int) + o = (pcy : Nat)) (hpc : pc + 3 = pc') (KY : cP cd x 0 → Goes p e below E (T.setTop (mkF m pcy ls st))) (KN : ¬ cP cd x 0 → Goes p e below E (T.setTop (mkF m pc' ls st))) : Goes p e below E (T.setTop (mkF m pc ls (.int x :: st))) := by
  subst hpc
  by_cases q : cP cd x 0
  · exact (KY q).back fun _ r => XS.ifYes W.here W.hx rfl (pc0 := pc) (pc' := pcy) rfl (hb W.hby hd) rfl ((if0 _ _).trans (cP_yes q)) (by omega) (by omega) r
  · exact (KN q).back fun _ r => XS.ifNo W.here W.hx rfl (hb W.hby hd) rfl ((if0 _ _).trans (cP_no q)) r
theorem g_icmp (W : Wk Z y bytes ml ret n0 p l e R s m args below meth c T kc ks) {cd : ClassFile.Cond} {x y0 : Int32} {o : Int} {pcy : Nat} (hd : decode bytes pc = .ok (.if_icmp cd o, 3)) (hy : (pc : Int) + o = (pcy : Nat)) (hpc : pc + 3 = pc') (KY : cP cd x y0 → Goes p e below E (T.setTop (mkF m pcy ls st))) (KN : ¬ cP cd x y0 → Goes p e below E (T.setTop (mkF m pc' ls st))) : Goes p e below E (T.setTop (mkF m pc ls (.int y0 :: .int x :: st))) := by
  subst hpc
  by_cases q : cP cd x y0
  · exact (KY q).back fun _ r => XS.icmpYes W.here W.hx rfl (pc0 := pc) (pc' := pcy) rfl (hb W.hby hd) rfl (cP_yes q) (by omega) (by omega) r
  · exact (KN q).back fun _ r => XS.icmpNo W.here W.hx rfl (hb W.hby hd) rfl (cP_no q) r

theorem Wk.more (W : Wk Z y bytes ml ret n0 p l e R s m args below meth c T kc ks) {kc' ks' : Nat} (h1 : kc ≤ kc') (h2 : ks ≤ ks') : Wk Z y bytes ml ret n0 p l e R s m args below meth c T kc' ks' := by
  obtain ⟨A, locs, X, N⟩ := W
  exact ⟨A, locs, X.more h1 h2, N⟩
theorem cmpL_self (x : Int64) : XT.cmpL x x = 0 := by
  show (if x < x then (1 : Int32) else if x = x then 0 else -1) = 0
  rw [if_neg (fun q => by rw [Int64.lt_iff_toInt_lt] at q; omega), if_pos rfl]
/-! ### the ends -/
theorem g_leave (W : Wk Z y bytes ml ret n0 p l e R s m args below meth c T kc ks) {v : Option Value} {U : State} (hv : ret = none → v = none) (hQ : Q v T.heap) (hk : kc ≤ k) (hj : ks ≤ j)
    (st : ∀ fs, (∀ (f : JFrame) (acts : List Action), f.method = m → f.locked = none → f.entered = [] → (doReturn e (T.setTop f) acts v).1 = T.setFrames fs) → Steps p.tables e below U (T.setFrames fs)) : Goes p e below (En s n0 k j Q) U := by
  have hlk := W.hlk
  have hret := W.hret
  obtain ⟨_, locs, X, N⟩ := W
  obtain ⟨fs, hr, hrun, hended, hW, hsame⟩ := X.leave (v := v) (fun q => hv (hret ▸ q)) hlk
  exact ⟨_, v, locs, st fs hr, hrun, hended, ⟨N, hQ⟩, ⟨_, rfl⟩, hW, hsame.mono hk hj⟩
theorem g_return (W : Wk Z y bytes ml none n0 p l e R s m args below meth c T kc ks) (hd : decode bytes pc = .ok (.return_, 1)) (hQ : Q none T.heap) (hk : kc ≤ k) (hj : ks ≤ j) : Goes p e below (En s n0 k j Q) (T.setTop (mkF m pc ls [])) :=
  g_leave W (fun _ => rfl) hQ hk hj fun fs hr => by
    have hret := W.hret
    have hx := W.hx
    have hby := W.hby
    obtain ⟨_, locs, X, N⟩ := W
    exact X.returnOut hx hret (hb hby hd) hr
theorem g_ret {t : FieldType} (W : Wk Z y bytes ml (some t) n0 p l e R s m args below meth c T kc ks) {w : Value} {i : Instr} (hn : narrow t w = w)
    (hi : (i = .ireturn ∧ (t = .int ∨ t = .boolean ∨ t = .byte ∨ t = .char ∨ t = .short) ∧ ∃ z, w = .int z) ∨ (i = .lreturn ∧ t = .long ∧ ∃ z, w = .long z) ∨ (i = .dreturn ∧ t = .double ∧ ∃ z, w = .double z) ∨ (i = .freturn ∧ t = .float ∧ ∃ z, w = .float z) ∨ (i = .areturn ∧ t.isReference = true ∧ w.isRef = true))
    (hd : decode bytes pc = .ok (i, 1)) (hQ : Q (some w) T.heap) (hk : kc ≤ k) (hj : ks ≤ j) : Goes p e below (En s n0 k j Q) (T.setTop (mkF m pc ls (w :: st))) :=
  g_leave W (fun q => nomatch q) hQ hk hj fun fs hr => by
    have hret := W.hret
    have hx := W.hx
    have hby := W.hby
    obtain ⟨_, locs, X, N⟩ := W
    exact retOut X hx hret hn hi (hb hby hd) hr
theorem g_ireturn (W : Wk Z y bytes ml (some .int) n0 p l e R s m args below meth c T kc ks) {x : Int32} (hd : decode bytes pc = .ok (.ireturn, 1)) (hQ : Q (some (.int x)) T.heap) (hk : kc ≤ k) (hj : ks ≤ j) : Goes p e below (En s n0 k j Q) (T.setTop (mkF m pc ls (.int x :: st))) :=
  g_ret W rfl (Or.inl ⟨rfl, Or.inl rfl, _, rfl⟩) hd hQ hk hj
theorem g_zreturn (W : Wk Z y bytes ml (some .boolean) n0 p l e R s m args below meth c T kc ks) {x : Int32} (h01 : x &&& 1 = x) (hd : decode bytes pc = .ok (.ireturn, 1)) (hQ : Q (some (.int x)) T.heap) (hk : kc ≤ k) (hj : ks ≤ j) : Goes p e below (En s n0 k j Q) (T.setTop (mkF m pc ls (.int x :: st))) :=
  g_ret W (by show Value.int (x &&& 1) = _; rw [h01]) (Or.inl ⟨rfl, Or.inr (Or.inl rfl), _, rfl⟩) hd hQ hk hj
theorem g_areturn {t : FieldType} (W : Wk Z y bytes ml (some t) n0 p l e R s m args below meth c T kc ks) {v : Value} (ht : t.isReference = true) (hr : v.isRef = true) (hd : decode bytes pc = .ok (.areturn, 1)) (hQ : Q (some v) T.heap) (hk : kc ≤ k) (hj : ks ≤ j) : Goes p e below (En s n0 k j Q) (T.setTop (mkF m pc ls (v :: st))) :=
  g_ret W (by cases t <;> first | (cases ht; done) | rfl) (Or.inr (Or.inr (Or.inr (Or.inr ⟨rfl, ht, hr⟩)))) hd hQ hk hj
theorem g_lreturn (W : Wk Z y bytes ml (some .long) n0 p l e R s m args below meth c T kc ks) {x : Int64} (hd : decode bytes pc = .ok (.lreturn, 1)) (hQ : Q (some (.long x)) T.heap) (hk : kc ≤ k) (hj : ks ≤ j) : Goes p e below (En s n0 k j Q) (T.setTop (mkF m pc ls (.long x :: st))) :=
  g_ret W rfl (Or.inr (Or.inl ⟨rfl, rfl, _, rfl⟩)) hd hQ hk hj
theorem g_dreturn (W : Wk Z y bytes ml (some .double) n0 p l e R s m args below meth c T kc ks) {x : UInt64} (hd : decode bytes pc = .ok (.dreturn, 1)) (hQ : Q (some (.double x)) T.heap) (hk : kc ≤ k) (hj : ks ≤ j) : Goes p e below (En s n0 k j Q) (T.setTop (mkF m pc ls (.double x :: st))) :=
  g_ret W rfl (Or.inr (Or.inr (Or.inl ⟨rfl, rfl, _, rfl⟩))) hd hQ hk hj
/-! ### the head of a body -/
theorem con_of {ws : List Cond} {rm : Room} {as : Array Value} {h0 : Heap} {Post : Option Value → Heap → Prop} (hpn : plainFor y = true)
    (body : ∀ (p : Program) (e : Env) (s : State) (m : MethodId) (below : List Frame) (meth : Method) (c : Code) (T : State), Wk Z y bytes ml ret n0 p l e rm s m as below meth c T 0 0 → T.heap = h0 → Goes p e below (En s n0 rm.cells rm.slots Post) (T.setTop (entryFrame m as ml))) :
    Con l Z n0 y ws bytes ml ret rm as h0 Post := by
  refine MetFree.of_bodySF hpn hisR ?_
  intro p e s m args below meth c s₁ Bd hml0 hP hK
  obtain ⟨rfl, hZ, hh⟩ := hP
  obtain ⟨s₂, v, L, g1, g2, g3, g4, g5⟩ := body p e s m below meth c s₁ ⟨⟨Bd.exec, hZ, findClass_of_methodNamed Bd.named, Bd.bytes, hml0, Bd.returns, Bd.notSynchronized, (name_of_methodNamed Bd.named Bd.method).1⟩, [], Stand.of_body Bd, Fr.nil n0⟩ (by rw [← hh, Bd.state]; rfl)
  exact ⟨s₂, _, g1, g2, g3, v, L, rfl, g4, g5⟩
theorem g_cast {g g' : JFrame} (q : g = g') (K : Goes p e below E (T.setTop g')) : Goes p e below E (T.setTop g) := q ▸ K
/-! ### constants of the pool -/
theorem g_ldcInt (W : Wk Z y bytes ml ret n0 p l e R s m args below meth c T kc ks) {ix : Nat} {v : Int32} (w : (Cond.constant y.cls ix v).before a0 Z = true) (hd : decode bytes pc = .ok (.ldc ix, 2)) (hpc : pc + 2 = pc') (K : Goes p e below E (T.setTop (mkF m pc' ls (.int v :: st)))) : Goes p e below E (T.setTop (mkF m pc ls st)) := by
  subst hpc
  have hx := W.hx; have hby := W.hby; have hown := W.hown; have hZ := W.hZ
  obtain ⟨_, locs, X, N⟩ := W
  exact K.back fun _ r => X.ldcInt hx hown (mvT hZ w) (g := mkF m pc ls st) rfl (hb hby hd) _ r
theorem g_ldc2Long (W : Wk Z y bytes ml ret n0 p l e R s m args below meth c T kc ks) {ix : Nat} {v : Int64} (w : (Cond.constantLong y.cls ix v).before a0 Z = true) (hd : decode bytes pc = .ok (.ldc2_w ix, 3)) (hpc : pc + 3 = pc') (K : Goes p e below E (T.setTop (mkF m pc' ls (.long v :: st)))) : Goes p e below E (T.setTop (mkF m pc ls st)) := by
  subst hpc
  have hx := W.hx; have hby := W.hby; have hown := W.hown; have hZ := W.hZ
  obtain ⟨_, locs, X, N⟩ := W
  exact K.back fun _ r => X.ldc2Long hx hown (mvT hZ w) (g := mkF m pc ls st) rfl (hb hby hd) _ r
theorem g_ldc2Double (W : Wk Z y bytes ml ret n0 p l e R s m args below meth c T kc ks) {ix : Nat} {v : UInt64} (w : (Cond.constantDouble y.cls ix v).before a0 Z = true) (hd : decode bytes pc = .ok (.ldc2_w ix, 3)) (hpc : pc + 3 = pc') (K : Goes p e below E (T.setTop (mkF m pc' ls (.double v :: st)))) : Goes p e below E (T.setTop (mkF m pc ls st)) := by
  subst hpc
  have hx := W.hx; have hby := W.hby; have hown := W.hown; have hZ := W.hZ
  obtain ⟨_, locs, X, N⟩ := W
  exact K.back fun _ r => X.ldc2DoubleC hx hown (mvT hZ w) (g := mkF m pc ls st) rfl (hb hby hd) _ r
theorem g_ldcFloat (W : Wk Z y bytes ml ret n0 p l e R s m args below meth c T kc ks) {ix : Nat} {v : UInt32} (w : (Cond.constantFloat y.cls ix v).before a0 Z = true) (hd : decode bytes pc = .ok (.ldc ix, 2)) (hpc : pc + 2 = pc') (K : Goes p e below E (T.setTop (mkF m pc' ls (.float v :: st)))) : Goes p e below E (T.setTop (mkF m pc ls st)) := by
  subst hpc
  have hx := W.hx; have hby := W.hby; have hown := W.hown; have hZ := W.hZ
  obtain ⟨_, locs, X, N⟩ := W
  exact K.back fun _ r => X.ldcFloatC hx hown (mvT hZ w) (g := mkF m pc ls st) rfl (hb hby hd) _ r
/-! ### the heap: a list of places, each with what its cell is -/
abbrev HRow := Addr × (Cell → Prop)
/-- what was there at the start Z is as it was -/
def Bs (Z : State) (n0 : Nat) (h : Heap) : Prop := n0 ≤ h.size ∧ Z.heap.size ≤ n0 ∧ Ext Z.heap h
def Hp (Z : State) (n0 : Nat) (h : Heap) (L : List HRow) : Prop := Bs Z n0 h ∧ (L.map (·.1)).Nodup ∧ ∀ r ∈ L, n0 ≤ r.1 ∧ ∃ c : Cell, h[r.1]? = some c ∧ r.2 c
abbrev FR := String × String × String × Value
def FldC (Z : State) (f : FR) (c : Cell) : Prop := ∃ (cf : ClassId) (k : Class) (i : Nat) (fd : Field), Z.fieldFound? f.1 f.2.1 f.2.2.1 = some (cf, k, i, fd) ∧ fd.isStatic = false ∧ Z.vm.assignable c.cls cf = true ∧ c.slots[fd.slot]? = some f.2.2.2
def ObC (Z : State) (C : String) (fs : List FR) (c : Cell) : Prop :=
  (∃ k : Class, Z.vm.findClass C = some c.cls ∧ Z.vm.classes[c.cls]? = some k ∧ (k.kind = .ordinary → c.slots.size = k.instanceTypes.size)) ∧ c.vm ≠ .unknown ∧ c.vm.isStatics = false ∧ (∀ f ∈ fs, FldC Z f c) ∧ (fs.map fun f => RoadKit.slotOf Z f.1 f.2.1 f.2.2.1).Nodup
def ArC (Z : State) (ty : FieldType) (vs : List Value) (c : Cell) : Prop := Z.isArrayOf c ty ∧ c.vm ≠ .unknown ∧ c.slots = vs.toArray ∧ vs.length < 2 ^ 31
section Heap
variable {h h' : Heap} {L : List HRow} {a : Addr} {P P' : Cell → Prop} {cell : Cell} {i jx : Nat} {C O n d R0 : String} {fs : List FR} {v w : Value} {vs : List Value} {ty : FieldType}
theorem Bs.start : Bs Z Z.heap.size Z.heap := ⟨Nat.le_refl _, Nat.le_refl _, Nat.le_refl _, fun _ _ q => q⟩
theorem Bs.ext (q : Bs Z n0 h) (E : Ext h h') : Bs Z n0 h' := ⟨Nat.le_trans q.1 E.1, q.2.1, Nat.le_trans q.2.2.1 E.1, fun a c r => E.2 a c (q.2.2.2 a c r)⟩
theorem Bs.put (q : Bs Z n0 h) (ha : n0 ≤ a) (c' : Cell) : Bs Z n0 (h.setIfInBounds a c') := by
  refine ⟨by simpa using q.1, q.2.1, by simpa using q.2.2.1, fun x c r => ?_⟩
  have hx := (Array.getElem?_eq_some_iff.mp r).1
  have := q.2.1
  rw [Array.getElem?_setIfInBounds_ne (by omega)]; exact q.2.2.2 x c r
theorem Hp.nil (q : Bs Z n0 h) : Hp Z n0 h [] := ⟨q, List.nodup_nil, fun _ r => nomatch r⟩
theorem Hp.get (H : Hp Z n0 h L) (hi : L[i]? = some (a, P)) : n0 ≤ a ∧ ∃ c : Cell, h[a]? = some c ∧ P c := H.2.2 (a, P) (List.mem_of_getElem? hi)
theorem map_set_same {α β : Type} (f : α → β) : ∀ (L : List α) (i : Nat) (x x' : α), L[i]? = some x → f x' = f x → (L.set i x').map f = L.map f
  | [], _, _, _, h, _ => by simp at h
  | z :: L, 0, x, x', h, e => by simp at h; subst h; simp [e]
  | z :: L, i + 1, x, x', h, e => by simp at h; simp [map_set_same f L i x x' h e]
theorem nodup_inj {α : Type} {l : List α} (h : l.Nodup) {i j : Nat} {x : α} (hi : l[i]? = some x) (hj : l[j]? = some x) : i = j := (List.getElem?_inj (List.getElem?_eq_some_iff.mp hi).1 h).mp (hi.trans hj.symm)
theorem erase_perm {α : Type} : ∀ (L : List α) (i : Nat) (x : α), L[i]? = some x → L.Perm (x :: L.eraseIdx i)
  | [], _, _, h => by simp at h
  | z :: L, 0, x, h => by simp at h; subst h; exact List.Perm.refl _
  | z :: L, i + 1, x, h => by
    simp at h
    exact ((erase_perm L i x h).cons z).trans (List.Perm.swap x z _)
theorem Hp.put (H : Hp Z n0 h L) (hi : L[i]? = some (a, P)) {c' : Cell} (hP : P' c') : Hp Z n0 (h.setIfInBounds a c') (L.set i (a, P')) := by
  obtain ⟨h1, h2, h3⟩ := H
  obtain ⟨q1, c0, q2, -⟩ := Hp.get ⟨h1, h2, h3⟩ hi
  have hlt := (Array.getElem?_eq_some_iff.mp q2).1
  refine ⟨h1.put q1 c', by rw [map_set_same (·.1) L i (a, P) (a, P') hi rfl]; exact h2, fun r hr => ?_⟩
  obtain ⟨jj, hj, hjr⟩ := List.mem_iff_getElem.mp hr
  have hjL : jj < L.length := by simpa using hj
  by_cases e : jj = i
  · subst e
    rw [List.getElem_set_self] at hjr
    subst hjr
    exact ⟨q1, c', by simp [hlt], hP⟩
  · rw [List.getElem_set_ne (Ne.symm e)] at hjr
    have hm : r ∈ L := hjr ▸ List.getElem_mem hjL
    obtain ⟨g1, c1, g2, g3⟩ := h3 r hm
    refine ⟨g1, c1, ?_, g3⟩
    have hne : a ≠ r.1 := fun q => by
      have e1 : (L.map (·.1))[i]? = some a := by rw [List.getElem?_map, hi]; rfl
      have e2 : (L.map (·.1))[jj]? = some a := by rw [List.getElem?_map, List.getElem?_eq_getElem hjL, hjr, q]; rfl
      exact e (nodup_inj h2 e2 e1)
    rw [Array.getElem?_setIfInBounds_ne hne]; exact g2
theorem Hp.push (H : Hp Z n0 h L) (E : Ext h h') {c : Cell} (hc : h'[h.size]? = some c) (hP : P c) : Hp Z n0 h' ((h.size, P) :: L) := by
  refine ⟨H.1.ext E, ?_, fun r hr => ?_⟩
  · rw [List.map_cons, List.nodup_cons]
    refine ⟨fun q => ?_, H.2.1⟩
    obtain ⟨r, hr, e⟩ := List.mem_map.mp q
    obtain ⟨-, c1, g2, -⟩ := H.2.2 r hr
    have := (Array.getElem?_eq_some_iff.mp g2).1
    have e' : r.1 = h.size := e
    rw [e'] at this; exact Nat.lt_irrefl _ this
  · rcases List.mem_cons.mp hr with rfl | hr
    · exact ⟨H.1.1, c, hc, hP⟩
    · obtain ⟨g1, c1, g2, g3⟩ := H.2.2 r hr
      exact ⟨g1, c1, E.2 _ _ g2, g3⟩
theorem Hp.perm {L' : List HRow} (H : Hp Z n0 h L) (q : L.Perm L') : Hp Z n0 h L' := ⟨H.1, (q.map _).nodup_iff.mp H.2.1, fun r hr => H.2.2 r (q.mem_iff.mpr hr)⟩
theorem Hp.front {r : HRow} (H : Hp Z n0 h L) (hi : L[i]? = some r) {L' : List HRow} (hL : r :: L.eraseIdx i = L') : Hp Z n0 h L' := by
  subst hL
  exact H.perm (erase_perm L i r hi)
theorem Hp.imp (H : Hp Z n0 h L) (hi : L[i]? = some (a, P)) (q : ∀ c, P c → P' c) : Hp Z n0 h (L.set i (a, P')) := by
  obtain ⟨q1, c0, q2, q3⟩ := H.get hi
  have := H.put hi (q c0 q3)
  have e : h.setIfInBounds a c0 = h := by
    apply Array.ext_getElem?; intro x
    by_cases z : a = x
    · subst z; simp [(Array.getElem?_eq_some_iff.mp q2).1, ← q2]
    · rw [Array.getElem?_setIfInBounds_ne z]
  rw [e] at this; exact this
theorem Hp.tail {r : HRow} (H : Hp Z n0 h (r :: L)) : Hp Z n0 h L := ⟨H.1, (List.nodup_cons.mp H.2.1).2, fun x hx => H.2.2 x (List.mem_cons_of_mem _ hx)⟩
theorem Hp.ne (H : Hp Z n0 h L) {b : Addr} (hi : L[i]? = some (a, P)) (hj : L[jx]? = some (b, P')) (hne : i ≠ jx) : a ≠ b := fun q => by
  have e1 : (L.map (·.1))[i]? = some a := by rw [List.getElem?_map, hi]; rfl
  have e2 : (L.map (·.1))[jx]? = some a := by rw [List.getElem?_map, hj, q]; rfl
  exact hne (nodup_inj H.2.1 e1 e2)
theorem FldC.fld {f : FR} (F : FldC Z f cell) (hc : h[a]? = some cell) (hu : cell.vm ≠ .unknown) (hst : cell.vm.isStatics = false) : Fld Z h a f.1 f.2.1 f.2.2.1 f.2.2.2 := by
  obtain ⟨cf, k, i, fd, h1, h2, h3, h4⟩ := F
  exact ⟨cell, cf, k, i, fd, hc, h1, h2, hu, hst, h3, h4⟩
theorem ObC.exa (F : ObC Z C fs cell) (hc : h[a]? = some cell) : Exa Z h a C := by
  obtain ⟨⟨k, h1, h2, h3⟩, h4, h5, -⟩ := F
  exact ⟨cell, k, hc, h1, h2, h5, h3⟩
theorem ObC.put (F : ObC Z C fs cell) (hj : fs[jx]? = some (O, n, d, v)) : ObC Z C (fs.set jx (O, n, d, w)) (cell.setSlot (RoadKit.slotOf Z O n d) w) := by
  obtain ⟨⟨k, h1, h2, h3⟩, h4, h5, h6, h7⟩ := F
  refine ⟨⟨k, h1, h2, fun q => by rw [sz_set]; exact h3 q⟩, h4, h5, fun f hf => ?_, by rw [map_set_same (fun f : FR => RoadKit.slotOf Z f.1 f.2.1 f.2.2.1) fs jx (O, n, d, v) (O, n, d, w) hj rfl]; exact h7⟩
  obtain ⟨hjL, hjE⟩ := List.getElem?_eq_some_iff.mp hj
  obtain ⟨ii, hi, hie⟩ := List.mem_iff_getElem.mp hf
  have hiL : ii < fs.length := by simpa using hi
  by_cases e : ii = jx
  · subst e
    rw [List.getElem_set_self] at hie
    subst hie
    obtain ⟨cf, kf, i, fd, g1, g2, g3, g4⟩ := h6 _ (hjE ▸ List.getElem_mem hjL)
    refine ⟨cf, kf, i, fd, g1, g2, g3, ?_⟩
    have es : RoadKit.slotOf Z O n d = fd.slot := by simp only [RoadKit.slotOf]; rw [show Z.fieldFound? O n d = _ from g1]; rfl
    have hlt := (Array.getElem?_eq_some_iff.mp g4).1
    simp [Cell.setSlot, es, hlt]
  · rw [List.getElem_set_ne (Ne.symm e)] at hie
    have hm : f ∈ fs := hie ▸ List.getElem_mem hiL
    obtain ⟨cf, kf, i, fd, g1, g2, g3, g4⟩ := h6 f hm
    refine ⟨cf, kf, i, fd, g1, g2, g3, ?_⟩
    have es : RoadKit.slotOf Z f.1 f.2.1 f.2.2.1 = fd.slot := by simp only [RoadKit.slotOf]; rw [g1]; rfl
    have hne : RoadKit.slotOf Z O n d ≠ fd.slot := fun q => by
      have e1 : (fs.map fun f => RoadKit.slotOf Z f.1 f.2.1 f.2.2.1)[jx]? = some fd.slot := by rw [List.getElem?_map, hj, ← q]; rfl
      have e2 : (fs.map fun f => RoadKit.slotOf Z f.1 f.2.1 f.2.2.1)[ii]? = some fd.slot := by rw [List.getElem?_map, List.getElem?_eq_getElem hiL, hie, ← es]; rfl
      exact e (nodup_inj h7 e2 e1)
    show (cell.slots.setIfInBounds _ w)[fd.slot]? = _
    rw [Array.getElem?_setIfInBounds_ne hne]; exact g4
/-- what a class's layout words give: each field laid, its first value, the names apart -/
def LaidAll (Z : State) (a0 : Array Value) (C : String) (fs : List FR) : Prop := ∀ f ∈ fs, Laid Z a0 C f.1 f.2.1 f.2.2.1 ∧ ∃ t, parseFieldDescriptor f.2.2.1 = some t ∧ f.2.2.2 = defaultValue t
theorem LaidAll.nil : LaidAll Z a0 C [] := fun _ q => nomatch q
theorem LaidAll.cons {t : FieldType} (q : Laid Z a0 C O n d) (ht : parseFieldDescriptor d = some t) (hv : v = defaultValue t) (r : LaidAll Z a0 C fs) : LaidAll Z a0 C ((O, n, d, v) :: fs) := fun f hf => by
  rcases List.mem_cons.mp hf with rfl | hf
  · exact ⟨q, t, ht, hv⟩
  · exact r f hf
theorem LaidAll.slots (H : LaidAll Z a0 C fs) (q : (fs.map (·.2.1)).Nodup) : (fs.map fun f => RoadKit.slotOf Z f.1 f.2.1 f.2.2.1).Nodup := by
  induction fs with
  | nil => exact List.nodup_nil
  | cons f fs ih =>
    rw [List.map_cons, List.nodup_cons] at q ⊢
    refine ⟨fun z => ?_, ih (fun x hx => H x (List.mem_cons_of_mem _ hx)) q.2⟩
    obtain ⟨g, hg, e⟩ := List.mem_map.mp z
    obtain ⟨L1, t1, p1, -⟩ := H f (List.mem_cons_self ..)
    obtain ⟨L2, t2, p2, -⟩ := H g (List.mem_cons_of_mem _ hg)
    exact slot_ne L2 L1 (fun u => q.1 (List.mem_map.mpr ⟨g, hg, u⟩)) p2 p1 e
/-! ### the steps that read or write it -/
theorem g_getf (W : Wk Z y bytes ml ret n0 p l e R s m args below meth c T kc ks) {ix : Nat} (w : (Cond.fieldLink y.cls ix R0 n d).before a0 Z = true) (via : Via Z R0 O n d) (H : Hp Z n0 T.heap L) (hi : L[i]? = some (a, ObC Z C fs)) (hj : fs[jx]? = some (O, n, d, v)) (hd : decode bytes pc = .ok (.getfield ix, 3)) (hpc : pc + 3 = pc')
    (K : ∀ T', Wk Z y bytes ml ret n0 p l e R s m args below meth c T' kc ks → Hp Z n0 T'.heap L → Goes p e below E (T'.setTop (mkF m pc' ls (v :: st)))) : Goes p e below E (T.setTop (mkF m pc ls (.ref a :: st))) := by
  subst hpc
  have hx := W.hx; have hby := W.hby; have hown := W.hown; have hZ := W.hZ
  obtain ⟨A, locs, X, N⟩ := W
  obtain ⟨-, cl, q1, q2⟩ := H.get hi
  have F := (q2.2.2.2.1 _ (List.mem_of_getElem? hj)).fld q1 q2.2.1 q2.2.2.1
  obtain ⟨T', X', e', st'⟩ := getF X hx hZ hown (host := "") (Or.inl w) via rfl F (g := mkF m pc ls (.ref a :: st)) rfl rfl (hb hby hd)
  exact (K T' ⟨A, locs, X', N⟩ (e' ▸ H)).back st'
theorem g_putf (W : Wk Z y bytes ml ret n0 p l e R s m args below meth c T kc ks) {ix kk : Nat} (wd : (Cond.fieldLink y.cls ix R0 n d).before a0 Z = true) (via : Via Z R0 O n d) (wl : (Cond.lays C O n d).before a0 Z = true ∨ ((Cond.laysFinal C O n d).before a0 Z = true ∧ y.cls = O ∧ y.name = "<init>")) (wi : (Cond.instantiable C kk).before a0 Z = true) (hty : parseFieldDescriptor d = some ty) (hn : narrow ty w = w) (hf : fits ty w = true)
    (H : Hp Z n0 T.heap L) (hi : L[i]? = some (a, ObC Z C fs)) (hj : fs[jx]? = some (O, n, d, v)) (hd : decode bytes pc = .ok (.putfield ix, 3)) (hpc : pc + 3 = pc') {L' : List HRow} (hL : L.set i (a, ObC Z C (fs.set jx (O, n, d, w))) = L')
    (K : ∀ T', Wk Z y bytes ml ret n0 p l e R s m args below meth c T' kc ks → Hp Z n0 T'.heap L' → Goes p e below E (T'.setTop (mkF m pc' ls st))) : Goes p e below E (T.setTop (mkF m pc ls (w :: .ref a :: st))) := by
  subst hpc hL
  have hx := W.hx; have hby := W.hby; have hown := W.hown; have hZ := W.hZ; have hnm := W.hnm
  obtain ⟨A, locs, X, N⟩ := W
  obtain ⟨hn0, cl, q1, q2⟩ := H.get hi
  have F := (q2.2.2.2.1 _ (List.mem_of_getElem? hj)).fld q1 q2.2.1 q2.2.2.1
  obtain ⟨T', h', X', e', Wr', st'⟩ := putF X hx hZ hown (host := "") (Or.inl wd) via rfl F (q2.exa q1) (wl.imp id fun q => ⟨q.1, q.2.1, hnm.trans q.2.2⟩) wi hty hn hf (g := mkF m pc ls (w :: .ref a :: st)) rfl rfl (hb hby hd)
  obtain ⟨cl', g1, -, -, rfl⟩ := Wr'
  cases q1.symm.trans g1
  exact (K T' ⟨A, _, X', Fr.snoc X' N hn0⟩ (by rw [e']; exact H.put hi (q2.put hj))).back st'
theorem g_new (W : Wk Z y bytes ml ret n0 p l e R s m args below meth c T kc ks) {ix nn : Nat} (w : (Cond.classLink y.cls ix C).before a0 Z = true) (wi : (Cond.instantiable C nn).before a0 Z = true) (wz : (Cond.initialized C).before a0 Z = true) (la : LaidAll Z a0 C fs) (nd : (fs.map (·.2.1)).Nodup) (H : Hp Z n0 T.heap L) (hd : decode bytes pc = .ok (.new ix, 3)) (hpc : pc + 3 = pc')
    {kc' ks' : Nat} (hkc : kc + 1 = kc') (hks : ks + nn = ks') (hc : kc' ≤ R.cells) (hl : ks' ≤ R.slots)
    (K : ∀ T' a, Wk Z y bytes ml ret n0 p l e R s m args below meth c T' kc' ks' → Hp Z n0 T'.heap ((a, ObC Z C fs) :: L) → Goes p e below E (T'.setTop (mkF m pc' ls (.ref a :: st)))) : Goes p e below E (T.setTop (mkF m pc ls st)) := by
  subst hpc hkc hks
  have hx := W.hx; have hby := W.hby; have hown := W.hown; have hZ := W.hZ
  obtain ⟨A, locs, X, N⟩ := W
  obtain ⟨T', h', X', e', E', X1, D, ⟨cell, hcell, hvm, -⟩, st'⟩ := newO X hx hZ hown w wi wz rfl (g := mkF m pc ls st) rfl (hb hby hd) hc hl
  have hob : ObC Z C fs cell := by
    obtain ⟨cell', k', g1, g2, g3, g4, g5⟩ := X1
    cases hcell.symm.trans g1
    refine ⟨⟨k', g2, g3, g5⟩, by rw [hvm]; simp, g4, fun f hf => ?_, la.slots nd⟩
    obtain ⟨Lf, t, ht, hv⟩ := la f hf
    obtain ⟨c2, cf, kf, ii, fd, r1, r2, r3, -, -, r6, r7⟩ := D Lf ht
    cases hcell.symm.trans r1
    exact ⟨cf, kf, ii, fd, r2, r3, r6, by rw [hv]; exact r7⟩
  exact (K T' T.heap.size ⟨A, locs, X', N⟩ (by rw [e']; exact H.push E' hcell hob)).back st'
theorem g_initO (W : Wk Z y bytes ml ret n0 p l e R s m args below meth c T kc ks) {ix : Nat} (w1 : (Cond.methodLink y.cls ix Lib.objectInit).before a0 Z = true) (w2 : (Cond.instanceMethod Lib.objectInit).before a0 Z = true) (w3 : (Cond.code Lib.objectInit ⟨#[0xb1]⟩ 1 none).before a0 Z = true) (H : Hp Z n0 T.heap L) (hls : ls.size = ml) (hd : decode bytes pc = .ok (.invokespecial ix, 3)) (hpc : pc + 3 = pc')
    (hf : 1 ≤ R.frames) {Wn : Nat} (hW : (st.map fun v => v.category).sum ≤ Wn) (hl : Wn + 12 ≤ R.locals)
    (K : ∀ T', Wk Z y bytes ml ret n0 p l e R s m args below meth c T' kc ks → Hp Z n0 T'.heap L → Goes p e below E (T'.setTop (mkF m pc' ls st))) : Goes p e below E (T.setTop (mkF m pc ls (.ref a :: st))) := by
  subst hpc
  have hx := W.hx; have hby := W.hby; have hown := W.hown; have hZ := W.hZ; have hml := W.hml
  obtain ⟨A, locs, X, N⟩ := W
  obtain ⟨T', X', e', st'⟩ := initO X hx hZ hown w1 w2 w3 rfl (g := mkF m pc ls (.ref a :: st)) rfl (by rw [hml]; exact hls) rfl (hb hby hd) hf (W := Wn) (by show 2 * 0 + _ ≤ _; omega) hl
  exact (K T' ⟨A, locs, X', N⟩ (e' ▸ H)).back st'
/-! ### arrays -/
theorem ArC.arr (F : ArC Z ty vs cell) (hc : h[a]? = some cell) : Arr Z h a cell ty := ⟨hc, F.1, F.2.1⟩
theorem idx_ok {x : Int32} (hx : x.toInt = (jx : Int)) (F : ArC Z ty vs cell) (hj : jx < vs.length) : ¬ (x < 0 ∨ cell.slots.size ≤ x.toNatClampNeg) := by
  rw [F.2.2.1]
  have e0 : (0 : Int32).toInt = 0 := rfl
  simp only [Int32.lt_iff_toInt_lt, Int32.toNatClampNeg, List.size_toArray, e0, hx]; omega
theorem idx_nat {x : Int32} (hx : x.toInt = (jx : Int)) : x.toNatClampNeg = jx := by simp only [Int32.toNatClampNeg, hx]; omega
theorem g_newarr (W : Wk Z y bytes ml ret n0 p l e R s m args below meth c T kc ks) {aty : ArrayType} (w : (Cond.arrayClass (newarray.typeOf aty)).before a0 Z = true) (H : Hp Z n0 T.heap L) {x : Int32} (hx0 : ¬ x < 0) (hvs : List.replicate x.toNatClampNeg (defaultValue (newarray.typeOf aty)) = vs) {cap : Nat} (hcap : vs.length ≤ cap) (hcb : cap * 8 ≤ 536870912) (hd : decode bytes pc = .ok (.newarray aty, 2)) (hpc : pc + 2 = pc')
    {kc' ks' : Nat} (hkc : kc + 1 = kc') (hks : ks + cap = ks') (hc : kc' ≤ R.cells) (hl : ks' ≤ R.slots)
    (K : ∀ T' a, Wk Z y bytes ml ret n0 p l e R s m args below meth c T' kc' ks' → Hp Z n0 T'.heap ((a, ArC Z (newarray.typeOf aty) vs) :: L) → Goes p e below E (T'.setTop (mkF m pc' ls (.ref a :: st)))) : Goes p e below E (T.setTop (mkF m pc ls (.int x :: st))) := by
  subst hpc hkc hks hvs
  have hx := W.hx; have hby := W.hby; have hZ := W.hZ
  obtain ⟨A, locs, X, N⟩ := W
  rw [List.length_replicate] at hcap
  obtain ⟨T', h', cA, X', e', E', A1, st'⟩ := newP X hx hZ w rfl (g := mkF m pc ls (.int x :: st)) rfl (hb hby hd) rfl hx0 hcap hcb hc hl
  have hl31 : (List.replicate x.toNatClampNeg (defaultValue (newarray.typeOf aty))).length < 2 ^ 31 := by rw [List.length_replicate]; omega
  exact (K T' T.heap.size ⟨A, locs, X', N⟩ (by rw [e']; exact H.push E' A1.1 ⟨A1.2.1, A1.2.2, by simp [newA], hl31⟩)).back st'
theorem g_arrlen (W : Wk Z y bytes ml ret n0 p l e R s m args below meth c T kc ks) (H : Hp Z n0 T.heap L) (hi : L[i]? = some (a, ArC Z ty vs)) {x : Int32} (hx : vs.length.toInt32 = x) (hd : decode bytes pc = .ok (.arraylength, 1)) (hpc : pc + 1 = pc') (K : Goes p e below E (T.setTop (mkF m pc' ls (.int x :: st)))) : Goes p e below E (T.setTop (mkF m pc ls (.ref a :: st))) := by
  subst hpc hx
  have hx := W.hx; have hby := W.hby; have hZ := W.hZ
  obtain ⟨A, locs, X, N⟩ := W
  obtain ⟨-, cl, q1, q2⟩ := H.get hi
  refine K.back fun t r => X.arraylength hx q1 (State.isArrayOf_alike hZ.alike q2.1) (g := mkF m pc ls (.ref a :: st)) rfl rfl (hb hby hd) t ?_
  have e : cl.slots.size = vs.length := by rw [q2.2.2.1]; simp
  rw [e]; exact r
theorem g_iaload (W : Wk Z y bytes ml ret n0 p l e R s m args below meth c T kc ks) (H : Hp Z n0 T.heap L) (hi : L[i]? = some (a, ArC Z .int vs)) {x : Int32} (hx : x.toInt = (jx : Int)) (hv : vs[jx]? = some v) (hd : decode bytes pc = .ok (.iaload, 1)) (hpc : pc + 1 = pc') (K : Goes p e below E (T.setTop (mkF m pc' ls (v :: st)))) : Goes p e below E (T.setTop (mkF m pc ls (.int x :: .ref a :: st))) := by
  subst hpc
  have hxx := W.hx; have hby := W.hby; have hZ := W.hZ
  obtain ⟨A, locs, X, N⟩ := W
  obtain ⟨-, cl, q1, q2⟩ := H.get hi
  exact K.back fun t r => X.iaload hxx q1 (State.isArrayOf_alike hZ.alike q2.1) q2.2.1 (idx_ok hx q2 (List.getElem?_eq_some_iff.mp hv).1) (by rw [idx_nat hx, q2.2.2.1]; simpa using hv) (g := mkF m pc ls (.int x :: .ref a :: st)) rfl rfl (hb hby hd) t r
theorem g_laload (W : Wk Z y bytes ml ret n0 p l e R s m args below meth c T kc ks) (H : Hp Z n0 T.heap L) (hi : L[i]? = some (a, ArC Z .long vs)) {x : Int32} (hx : x.toInt = (jx : Int)) (hv : vs[jx]? = some v) (hd : decode bytes pc = .ok (.laload, 1)) (hpc : pc + 1 = pc') (K : Goes p e below E (T.setTop (mkF m pc' ls (v :: st)))) : Goes p e below E (T.setTop (mkF m pc ls (.int x :: .ref a :: st))) := by
  subst hpc
  have hxx := W.hx; have hby := W.hby; have hZ := W.hZ
  obtain ⟨A, locs, X, N⟩ := W
  obtain ⟨-, cl, q1, q2⟩ := H.get hi
  exact K.back fun t r => X.laload hxx q1 (State.isArrayOf_alike hZ.alike q2.1) q2.2.1 (idx_ok hx q2 (List.getElem?_eq_some_iff.mp hv).1) (by rw [idx_nat hx, q2.2.2.1]; simpa using hv) (g := mkF m pc ls (.int x :: .ref a :: st)) rfl rfl (hb hby hd) t r
theorem g_daload (W : Wk Z y bytes ml ret n0 p l e R s m args below meth c T kc ks) (H : Hp Z n0 T.heap L) (hi : L[i]? = some (a, ArC Z .double vs)) {x : Int32} (hx : x.toInt = (jx : Int)) (hv : vs[jx]? = some v) (hd : decode bytes pc = .ok (.daload, 1)) (hpc : pc + 1 = pc') (K : Goes p e below E (T.setTop (mkF m pc' ls (v :: st)))) : Goes p e below E (T.setTop (mkF m pc ls (.int x :: .ref a :: st))) := by
  subst hpc
  have hxx := W.hx; have hby := W.hby; have hZ := W.hZ
  obtain ⟨A, locs, X, N⟩ := W
  obtain ⟨-, cl, q1, q2⟩ := H.get hi
  exact K.back fun t r => X.daload hxx q1 (State.isArrayOf_alike hZ.alike q2.1) q2.2.1 (idx_ok hx q2 (List.getElem?_eq_some_iff.mp hv).1) (by rw [idx_nat hx, q2.2.2.1]; simpa using hv) (g := mkF m pc ls (.int x :: .ref a :: st)) rfl rfl (hb hby hd) t r
theorem g_iastore (W : Wk Z y bytes ml ret n0 p l e R s m args below meth c T kc ks) (H : Hp Z n0 T.heap L) (hi : L[i]? = some (a, ArC Z .int vs)) {x : Int32} {u : Int32} (hx : x.toInt = (jx : Int)) (hj : jx < vs.length) (hd : decode bytes pc = .ok (.iastore, 1)) (hpc : pc + 1 = pc') {L' : List HRow} (hL : L.set i (a, ArC Z .int (vs.set jx (.int u))) = L')
    (K : ∀ T', Wk Z y bytes ml ret n0 p l e R s m args below meth c T' kc ks → Hp Z n0 T'.heap L' → Goes p e below E (T'.setTop (mkF m pc' ls st))) : Goes p e below E (T.setTop (mkF m pc ls (.int u :: .int x :: .ref a :: st))) := by
  subst hpc hL
  have hxx := W.hx; have hby := W.hby; have hZ := W.hZ
  obtain ⟨A, locs, X, N⟩ := W
  obtain ⟨hn0, cl, q1, q2⟩ := H.get hi
  obtain ⟨T', h', X', e', Wr', st'⟩ := stI X hxx hZ rfl (q2.arr q1) (idx_ok hx q2 hj) (g := mkF m pc ls (.int u :: .int x :: .ref a :: st)) rfl rfl (hb hby hd)
  obtain ⟨cl', g1, -, -, rfl⟩ := Wr'
  cases q1.symm.trans g1
  have hsl : (cl.setSlot x.toNatClampNeg (.int u)).slots = (vs.set jx (.int u)).toArray := by rw [idx_nat hx]; show cl.slots.setIfInBounds jx _ = _; rw [q2.2.2.1]; simp
  exact (K T' ⟨A, _, X', Fr.snoc X' N hn0⟩ (by rw [e']; exact H.put hi ⟨q2.1, q2.2.1, hsl, by rw [List.length_set]; exact q2.2.2.2⟩)).back st'
theorem g_lastore (W : Wk Z y bytes ml ret n0 p l e R s m args below meth c T kc ks) (H : Hp Z n0 T.heap L) (hi : L[i]? = some (a, ArC Z .long vs)) {x : Int32} {u : Int64} (hx : x.toInt = (jx : Int)) (hj : jx < vs.length) (hd : decode bytes pc = .ok (.lastore, 1)) (hpc : pc + 1 = pc') {L' : List HRow} (hL : L.set i (a, ArC Z .long (vs.set jx (.long u))) = L')
    (K : ∀ T', Wk Z y bytes ml ret n0 p l e R s m args below meth c T' kc ks → Hp Z n0 T'.heap L' → Goes p e below E (T'.setTop (mkF m pc' ls st))) : Goes p e below E (T.setTop (mkF m pc ls (.long u :: .int x :: .ref a :: st))) := by
  subst hpc hL
  have hxx := W.hx; have hby := W.hby; have hZ := W.hZ
  obtain ⟨A, locs, X, N⟩ := W
  obtain ⟨hn0, cl, q1, q2⟩ := H.get hi
  obtain ⟨T', h', X', e', Wr', st'⟩ := stJ X hxx hZ rfl (q2.arr q1) (idx_ok hx q2 hj) (g := mkF m pc ls (.long u :: .int x :: .ref a :: st)) rfl rfl (hb hby hd)
  obtain ⟨cl', g1, -, -, rfl⟩ := Wr'
  cases q1.symm.trans g1
  have hsl : (cl.setSlot x.toNatClampNeg (.long u)).slots = (vs.set jx (.long u)).toArray := by rw [idx_nat hx]; show cl.slots.setIfInBounds jx _ = _; rw [q2.2.2.1]; simp
  exact (K T' ⟨A, _, X', Fr.snoc X' N hn0⟩ (by rw [e']; exact H.put hi ⟨q2.1, q2.2.1, hsl, by rw [List.length_set]; exact q2.2.2.2⟩)).back st'
theorem g_dastore (W : Wk Z y bytes ml ret n0 p l e R s m args below meth c T kc ks) (H : Hp Z n0 T.heap L) (hi : L[i]? = some (a, ArC Z .double vs)) {x : Int32} {u : UInt64} (hx : x.toInt = (jx : Int)) (hj : jx < vs.length) (hd : decode bytes pc = .ok (.dastore, 1)) (hpc : pc + 1 = pc') {L' : List HRow} (hL : L.set i (a, ArC Z .double (vs.set jx (.double u))) = L')
    (K : ∀ T', Wk Z y bytes ml ret n0 p l e R s m args below meth c T' kc ks → Hp Z n0 T'.heap L' → Goes p e below E (T'.setTop (mkF m pc' ls st))) : Goes p e below E (T.setTop (mkF m pc ls (.double u :: .int x :: .ref a :: st))) := by
  subst hpc hL
  have hxx := W.hx; have hby := W.hby; have hZ := W.hZ
  obtain ⟨A, locs, X, N⟩ := W
  obtain ⟨hn0, cl, q1, q2⟩ := H.get hi
  obtain ⟨T', h', X', e', Wr', st'⟩ := stD X hxx hZ rfl (q2.arr q1) (idx_ok hx q2 hj) (g := mkF m pc ls (.double u :: .int x :: .ref a :: st)) rfl rfl (hb hby hd)
  obtain ⟨cl', g1, -, -, rfl⟩ := Wr'
  cases q1.symm.trans g1
  have hsl : (cl.setSlot x.toNatClampNeg (.double u)).slots = (vs.set jx (.double u)).toArray := by rw [idx_nat hx]; show cl.slots.setIfInBounds jx _ = _; rw [q2.2.2.1]; simp
  exact (K T' ⟨A, _, X', Fr.snoc X' N hn0⟩ (by rw [e']; exact H.put hi ⟨q2.1, q2.2.1, hsl, by rw [List.length_set]; exact q2.2.2.2⟩)).back st'
end Heap
/-! ### calls by contract -/
section Calls
variable {y' : MethodName} {bytes' : ByteArray} {ml' : Nat} {ret' : Option FieldType} {rm : Room} {Post : Option Value → Heap → Prop} {argsL stk : List Value} {ix : Nat} {Wn kc' ks' : Nat} {ps : List FieldType} {rt : Option FieldType}
theorem g_callS (W : Wk Z y bytes ml ret n0 p l e R s m args below meth c T kc ks) (w1 : (Cond.methodLink y.cls ix y').before a0 Z = true) (w2 : (Cond.static y').before a0 Z = true) (w3 : (Cond.initialized y'.cls).before a0 Z = true) (w4 : (Cond.code y' bytes' ml' ret').before a0 Z = true) (hy : y'.cls ≠ "java/lang/invoke/MethodHandle" ∧ y'.cls ≠ "java/lang/invoke/VarHandle")
    (con : Con l Z n0 y' [] bytes' ml' ret' rm argsL.toArray T.heap Post) (hpd : parseMethodDescriptor y'.desc = some ⟨ps, rt⟩) (hlen : argsL.length = ps.length) (hstk : stk = argsL.reverse ++ st) (hls : ls.size = ml) (hd : decode bytes pc = .ok (.invokestatic ix, 3)) (hpc : pc + 3 = pc')
    (hf : rm.frames + 1 ≤ R.frames) (hW : (st.map fun v => v.category).sum ≤ Wn) (hl : Wn + (ml' + 11) + rm.locals ≤ R.locals) (hkc : kc + rm.cells = kc') (hks : ks + rm.slots = ks') (hc : kc' ≤ R.cells) (hs : ks' ≤ R.slots)
    (K : ∀ T' v, Wk Z y bytes ml ret n0 p l e R s m args below meth c T' kc' ks' → Post v T'.heap → Goes p e below E (T'.setTop (mkF m pc' ls (v.toList ++ st)))) : Goes p e below E (T.setTop (mkF m pc ls stk)) := by
  subst hpc hkc hks hstk
  have hx := W.hx; have hby := W.hby; have hown := W.hown; have hZ := W.hZ; have hml := W.hml
  obtain ⟨A, locs, X, N⟩ := W
  obtain ⟨v, vm1, ⟨T', L', kk, jj⟩, -, X', ⟨Lc, ⟨hN, hQ⟩, l1, l2, l3⟩, st'⟩ := Jvm.LawKit.callS X hx hown (mvT hZ w1) (mvT hZ w2) (mvT hZ w3) (mvT hZ w4) hy (backOf (Q := fun v h L => Fr n0 L ∧ Post v h) (W := Wn) con hZ w4 w3 hf hl) (g := mkF m pc ls (argsL.reverse ++ st)) rfl (by rw [hml]; exact hls) (argsL := argsL) (rest := st) (lenOf hpd hlen) rfl (by show 2 * 0 + _ ≤ _; omega) (hb hby hd) (fun _ _ => ⟨rfl, rfl, hc, hs⟩)
  dsimp only [Pt.U, Pt.locs, Pt.cells, Pt.slots] at X' l1 l2 l3 hQ st'
  subst l1 l2 l3
  exact (K T' v ⟨A, _, X', N.app hN⟩ hQ).back st'
theorem g_callI (W : Wk Z y bytes ml ret n0 p l e R s m args below meth c T kc ks) (hin : y'.name = "<init>") (w1 : (Cond.methodLink y.cls ix y').before a0 Z = true) (w2 : (Cond.instanceMethod y').before a0 Z = true) (w3 : (Cond.initialized y'.cls).before a0 Z = true) (w4 : (Cond.code y' bytes' ml' none).before a0 Z = true) (hy : y'.cls ≠ "java/lang/invoke/MethodHandle" ∧ y'.cls ≠ "java/lang/invoke/VarHandle")
    {a : Addr} (con : Con l Z n0 y' [] bytes' ml' none rm (.ref a :: argsL).toArray T.heap Post) (hpd : parseMethodDescriptor y'.desc = some ⟨ps, rt⟩) (hlen : argsL.length = ps.length) (hstk : stk = argsL.reverse ++ .ref a :: st) (hls : ls.size = ml) (hd : decode bytes pc = .ok (.invokespecial ix, 3)) (hpc : pc + 3 = pc')
    (hf : rm.frames + 1 ≤ R.frames) (hW : (st.map fun v => v.category).sum ≤ Wn) (hl : Wn + (ml' + 11) + rm.locals ≤ R.locals) (hkc : kc + rm.cells = kc') (hks : ks + rm.slots = ks') (hc : kc' ≤ R.cells) (hs : ks' ≤ R.slots)
    (K : ∀ T' v, Wk Z y bytes ml ret n0 p l e R s m args below meth c T' kc' ks' → Post v T'.heap → Goes p e below E (T'.setTop (mkF m pc' ls (v.toList ++ st)))) : Goes p e below E (T.setTop (mkF m pc ls stk)) := by
  subst hpc hkc hks hstk
  have hx := W.hx; have hby := W.hby; have hown := W.hown; have hZ := W.hZ; have hml := W.hml
  obtain ⟨A, locs, X, N⟩ := W
  obtain ⟨v, vm1, ⟨T', L', kk, jj⟩, -, X', ⟨Lc, ⟨hN, hQ⟩, l1, l2, l3⟩, st'⟩ := X.specialBack hx (y := y') hin hown (mvT hZ w1) (mvT hZ w2) (mvT hZ w4) hy (backOf (Q := fun v h L => Fr n0 L ∧ Post v h) (W := Wn) con hZ w4 w3 hf hl) (g := mkF m pc ls (argsL.reverse ++ .ref a :: st)) rfl (by rw [hml]; exact hls) (Steps.refl _) (a := a) (argsL := argsL) (rest := st) (lenOf hpd hlen) rfl (by show 2 * 0 + _ ≤ _; omega) (hb hby hd) (fun _ _ => ⟨rfl, rfl, hc, hs⟩)
  dsimp only [Pt.U, Pt.locs, Pt.cells, Pt.slots] at X' l1 l2 l3 hQ st'
  subst l1 l2 l3
  exact (K T' v ⟨A, _, X', N.app hN⟩ hQ).back fun t r => st'.trans r
theorem g_callV (W : Wk Z y bytes ml ret n0 p l e R s m args below meth c T kc ks) {C : String} {fs : List FR} {L : List HRow} {i : Nat} (w1 : (Cond.methodLink y.cls ix y').before a0 Z = true) (w2 : (Cond.declares y').before a0 Z = true) (w3 : (Cond.selects C y' y').before a0 Z = true) (w4 : (Cond.instanceMethod y').before a0 Z = true) (w5 : (Cond.initialized y'.cls).before a0 Z = true) (w6 : (Cond.code y' bytes' ml' ret').before a0 Z = true) (hy : y'.cls ≠ "java/lang/invoke/MethodHandle" ∧ y'.cls ≠ "java/lang/invoke/VarHandle")
    {a : Addr} (H : Hp Z n0 T.heap L) (hi : L[i]? = some (a, ObC Z C fs)) (con : Con l Z n0 y' [] bytes' ml' ret' rm (.ref a :: argsL).toArray T.heap Post) (hpd : parseMethodDescriptor y'.desc = some ⟨ps, rt⟩) (hlen : argsL.length = ps.length) (hstk : stk = argsL.reverse ++ .ref a :: st) (hls : ls.size = ml) (hd : decode bytes pc = .ok (.invokevirtual ix, 3)) (hpc : pc + 3 = pc')
    (hf : rm.frames + 1 ≤ R.frames) (hW : (st.map fun v => v.category).sum ≤ Wn) (hl : Wn + (ml' + 11) + rm.locals ≤ R.locals) (hkc : kc + rm.cells = kc') (hks : ks + rm.slots = ks') (hc : kc' ≤ R.cells) (hs : ks' ≤ R.slots)
    (K : ∀ T' v, Wk Z y bytes ml ret n0 p l e R s m args below meth c T' kc' ks' → Post v T'.heap → Goes p e below E (T'.setTop (mkF m pc' ls (v.toList ++ st)))) : Goes p e below E (T.setTop (mkF m pc ls stk)) := by
  subst hpc hkc hks hstk
  have hx := W.hx; have hby := W.hby; have hown := W.hown; have hZ := W.hZ; have hml := W.hml
  obtain ⟨A, locs, X, N⟩ := W
  obtain ⟨-, cl, q1, q2⟩ := H.get hi
  obtain ⟨cB, kB, b1, b2, b3⟩ := isOf hZ rfl (q2.exa q1)
  obtain ⟨v, vm1, ⟨T', L', kk, jj⟩, -, X', ⟨Lc, ⟨hN, hQ⟩, l1, l2, l3⟩, st'⟩ := X.virtualBack hx (y := y') hown (mvT hZ w1) (mvT hZ w2) (notFace_of_selects (args := #[]) (mvT hZ w3)) (mvT hZ w3) (mvT hZ w4) hy (backOf (Q := fun v h L => Fr n0 L ∧ Post v h) (W := Wn) con hZ w6 w5 hf hl) b1 b3 (g := mkF m pc ls (argsL.reverse ++ .ref a :: st)) rfl (by rw [hml]; exact hls) (Steps.refl _) (argsL := argsL) (rest := st) (lenOf hpd hlen) rfl (by show 2 * 0 + _ ≤ _; omega) (hb hby hd) (fun _ _ => ⟨rfl, rfl, hc, hs⟩)
  dsimp only [Pt.U, Pt.locs, Pt.cells, Pt.slots] at X' l1 l2 l3 hQ st'
  subst l1 l2 l3
  exact (K T' v ⟨A, _, X', N.app hN⟩ hQ).back fun t r => st'.trans r
theorem g_callP (W : Wk Z y bytes ml ret n0 p l e R s m args below meth c T kc ks) {C : String} {fs : List FR} {L : List HRow} {i nn : Nat} (w1 : (Cond.methodLink y.cls ix y').before a0 Z = true) (w2 : (Cond.instanceMethod y').before a0 Z = true) (w3 : (Cond.privateMethod y').before a0 Z = true) (w4 : (Cond.instantiable y'.cls nn).before a0 Z = true) (w5 : (Cond.initialized y'.cls).before a0 Z = true) (w6 : (Cond.code y' bytes' ml' ret').before a0 Z = true) (hy : y'.cls ≠ "java/lang/invoke/MethodHandle" ∧ y'.cls ≠ "java/lang/invoke/VarHandle")
    {a : Addr} (H : Hp Z n0 T.heap L) (hi : L[i]? = some (a, ObC Z C fs)) (con : Con l Z n0 y' [] bytes' ml' ret' rm (.ref a :: argsL).toArray T.heap Post) (hpd : parseMethodDescriptor y'.desc = some ⟨ps, rt⟩) (hlen : argsL.length = ps.length) (hstk : stk = argsL.reverse ++ .ref a :: st) (hls : ls.size = ml) (hd : decode bytes pc = .ok (.invokevirtual ix, 3)) (hpc : pc + 3 = pc')
    (hf : rm.frames + 1 ≤ R.frames) (hW : (st.map fun v => v.category).sum ≤ Wn) (hl : Wn + (ml' + 11) + rm.locals ≤ R.locals) (hkc : kc + rm.cells = kc') (hks : ks + rm.slots = ks') (hc : kc' ≤ R.cells) (hs : ks' ≤ R.slots)
    (K : ∀ T' v, Wk Z y bytes ml ret n0 p l e R s m args below meth c T' kc' ks' → Post v T'.heap → Goes p e below E (T'.setTop (mkF m pc' ls (v.toList ++ st)))) : Goes p e below E (T.setTop (mkF m pc ls stk)) := by
  subst hpc hkc hks hstk
  have hx := W.hx; have hby := W.hby; have hown := W.hown; have hZ := W.hZ; have hml := W.hml
  obtain ⟨A, locs, X, N⟩ := W
  obtain ⟨-, cl, q1, q2⟩ := H.get hi
  have hst : ∀ q, cl.vm ≠ .statics q := fun q hq => by have := q2.2.2.1; rw [hq] at this; cases this
  obtain ⟨mk, methM, hnamed, hmethM, hstM, habM⟩ := Cond.instanceMethod_spec (args := #[]) (mvT hZ w2)
  obtain ⟨methM', cM, hmethM', -, -, -, -, -, -, hsigM⟩ := Cond.code_spec (args := #[]) hnamed (mvT hZ w6)
  cases hmethM.symm.trans hmethM'
  obtain ⟨cP0, kP, hf1, hkP, -, hkPi, -⟩ := Cond.instantiable_spec (mvT hZ w4 (args := #[]))
  cases (findClass_of_methodNamed hnamed).symm.trans hf1
  have hkPi' : kP.isInterface = false := (Bool.or_eq_false_iff.mp hkPi).1
  have hselP : selectMethod e.platform s.vm cl.cls mk = .method mk := selectMethod_private hmethM (Cond.privateMethod_at (mvP hZ w3 (args := #[])) mk methM hnamed hmethM)
  obtain ⟨vm1, X1, hstep1⟩ := X.invokevirtual hx hown (mvT hZ w1) hnamed hmethM hstM hkP hkPi' hy (a := a) (cell := cl) q1 hst hselP hmethM habM hkP hkPi' (g := mkF m pc ls (argsL.reverse ++ .ref a :: st)) rfl (argsL := argsL) (rest := st) (lenOf hpd hlen _ hsigM) rfl (hb hby hd)
  obtain ⟨v, ⟨T', L', kk, jj⟩, X', ⟨Lc, ⟨hN, hQ⟩, l1, l2, l3⟩, st'⟩ := (backOf (Q := fun v h L => Fr n0 L ∧ Post v h) (W := Wn) (len := 3) (p := p) (e := e) (below := below) (args := args) con hZ w6 w5 hf hl) m meth c ⟨T.setVm vm1, locs, kc, ks⟩ (mkF m pc ls st) (.invokevirtual ix) mk (.ref a :: argsL).toArray X1 rfl (by rw [hml]; exact hls) (hb hby hd) (by show 2 * 0 + (st.map fun v => v.category).sum ≤ Wn; omega) (X1.named hnamed) ⟨rfl, rfl, hc, hs⟩
  dsimp only [Pt.U, Pt.locs, Pt.cells, Pt.slots] at X' l1 l2 l3 hQ st'
  subst l1 l2 l3
  exact (K T' v ⟨A, _, X', N.app hN⟩ hQ).back fun t r => ((hstep1 _ fun acts => by rw [doInvoke_state]; exact Steps.refl _).trans st').trans r
end Calls
end Laws
end Jvm.OwnKit


@@BLOCK:NumsL.lean.txt@@
namespace Jvm.OwnKit
open Jvm.Free
/-! ### ints -/
theorem i32_zero {x : Int32} : x.toInt = 0 ↔ x = 0 := ⟨fun h => Int32.toInt_inj.mp (h.trans (by decide)), fun h => by rw [h]; decide⟩
theorem i32_lit {x y : Int32} {k : Int} (h : x.toInt = k) (hy : y.toInt = k) : x = y := Int32.toInt_inj.mp (h.trans hy.symm)
theorem and1 (x : Int32) : x &&& 1 = 0 ∨ x &&& 1 = 1 := by
  have h := Kit.i32_mask x 1 (k := 1) (by decide) (by decide)
  have q : (x &&& 1).toInt = 0 ∨ (x &&& 1).toInt = 1 := by omega
  rcases q with q | q
  · exact Or.inl (i32_lit q (by decide))
  · exact Or.inr (i32_lit q (by decide))
theorem and3 (x : Int32) : x &&& 3 = 0 ∨ x &&& 3 = 1 ∨ x &&& 3 = 2 ∨ x &&& 3 = 3 := by
  have h := Kit.i32_mask x 3 (k := 2) (by decide) (by decide)
  have q : (x &&& 3).toInt = 0 ∨ (x &&& 3).toInt = 1 ∨ (x &&& 3).toInt = 2 ∨ (x &&& 3).toInt = 3 := by omega
  rcases q with q | q | q | q
  · exact Or.inl (i32_lit q (by decide))
  · exact Or.inr (Or.inl (i32_lit q (by decide)))
  · exact Or.inr (Or.inr (Or.inl (i32_lit q (by decide))))
  · exact Or.inr (Or.inr (Or.inr (i32_lit q (by decide))))
theorem i32_remW (x y : Int32) : (x - (x / y) * y).toInt = x.toInt.tmod y.toInt := by
  have a := (x % y).toInt_lt; have b := (x % y).le_toInt
  rw [Int32.toInt_mod] at a b
  rw [Int32.toInt_sub, Int32.toInt_mul, Int32.toInt_div, Int.bmod_mul_bmod, Int.sub_bmod_bmod, Int.mul_comm, ← Int.tmod_def]
  exact Kit.bmod32 b a
theorem i32_remN {x y : Int32} (hx : 0 ≤ x.toInt) : (x - (x / y) * y).toInt = x.toInt % y.toInt := by rw [i32_remW, Int.tmod_eq_emod_of_nonneg hx]
theorem lt1 {j : Int32} (h : ¬ j < 0) (h2 : j < 1) : j = 0 := by
  rw [Int32.lt_iff_toInt_lt] at h h2
  have e0 : (0 : Int32).toInt = 0 := by decide
  have e1 : (1 : Int32).toInt = 1 := by decide
  exact i32_lit (k := 0) (by omega) e0
theorem lt2 {j : Int32} (h : ¬ j < 0) (h2 : j < 2) : j = 0 ∨ j = 1 := by
  rw [Int32.lt_iff_toInt_lt] at h h2
  have e0 : (0 : Int32).toInt = 0 := by decide
  have e1 : (2 : Int32).toInt = 2 := by decide
  have q : j.toInt = 0 ∨ j.toInt = 1 := by omega
  rcases q with q | q
  · exact Or.inl (i32_lit q (by decide))
  · exact Or.inr (i32_lit q (by decide))
theorem lt3 {j : Int32} (h : ¬ j < 0) (h2 : j < 3) : j = 0 ∨ j = 1 ∨ j = 2 := by
  rw [Int32.lt_iff_toInt_lt] at h h2
  have e0 : (0 : Int32).toInt = 0 := by decide
  have e1 : (3 : Int32).toInt = 3 := by decide
  have q : j.toInt = 0 ∨ j.toInt = 1 ∨ j.toInt = 2 := by omega
  rcases q with q | q | q
  · exact Or.inl (i32_lit q (by decide))
  · exact Or.inr (Or.inl (i32_lit q (by decide)))
  · exact Or.inr (Or.inr (i32_lit q (by decide)))
theorem lt0 {j : Int32} {P : Prop} (h : ¬ j < 0) (h2 : j < 0) : P := absurd h2 h
theorem cmpL3 (x y : Int64) : (x < y ∧ XT.cmpL x y = -1) ∨ (x = y ∧ XT.cmpL x y = 0) ∨ (y < x ∧ XT.cmpL x y = 1) := by
  have e : XT.cmpL x y = (if y < x then (1 : Int32) else if x = y then 0 else -1) := rfl
  by_cases h1 : y < x
  · exact Or.inr (Or.inr ⟨h1, by rw [e, if_pos h1]⟩)
  · by_cases h2 : x = y
    · exact Or.inr (Or.inl ⟨h2, by rw [e, if_neg h1, if_pos h2]⟩)
    · refine Or.inl ⟨?_, by rw [e, if_neg h1, if_neg h2]⟩
      rw [Int64.lt_iff_toInt_lt] at h1 ⊢
      have : x.toInt ≠ y.toInt := fun q => h2 (Int64.toInt_inj.mp q)
      omega
theorem cmpL_eq0 {x y : Int64} : XT.cmpL x y = 0 ↔ x = y := by
  rcases cmpL3 x y with ⟨h, g⟩ | ⟨h, g⟩ | ⟨h, g⟩ <;> rw [g]
  · exact ⟨fun q => absurd q (by decide), fun q => by subst q; rw [Int64.lt_iff_toInt_lt] at h; omega⟩
  · exact ⟨fun _ => h, fun _ => rfl⟩
  · exact ⟨fun q => absurd q (by decide), fun q => by subst q; rw [Int64.lt_iff_toInt_lt] at h; omega⟩
theorem cmpL_gt0 {x y : Int64} : (0 : Int32) < XT.cmpL x y ↔ y < x := by
  rcases cmpL3 x y with ⟨h, g⟩ | ⟨h, g⟩ | ⟨h, g⟩ <;> rw [g]
  · exact ⟨fun q => absurd q (by decide), fun q => by rw [Int64.lt_iff_toInt_lt] at h q; omega⟩
  · exact ⟨fun q => absurd q (by decide), fun q => by subst h; rw [Int64.lt_iff_toInt_lt] at q; omega⟩
  · exact ⟨fun _ => h, fun _ => by decide⟩
theorem cmpL_lt0 {x y : Int64} : XT.cmpL x y < (0 : Int32) ↔ x < y := by
  rcases cmpL3 x y with ⟨h, g⟩ | ⟨h, g⟩ | ⟨h, g⟩ <;> rw [g]
  · exact ⟨fun _ => h, fun _ => by decide⟩
  · exact ⟨fun q => absurd q (by decide), fun q => by subst h; rw [Int64.lt_iff_toInt_lt] at q; omega⟩
  · exact ⟨fun q => absurd q (by decide), fun q => by rw [Int64.lt_iff_toInt_lt] at h q; omega⟩
end Jvm.OwnKit

namespace Jvm.OwnKit
open Jvm.FP.Core Jvm.Free.Fl Jvm.Op Jvm.ClassFile
/-! ### exact doubles: a is n * 2^e -/
def Dy (n e : Int) (a : UInt64) : Prop := DFin a ∧ zval b64 (val64 a) = n * ((2 ^ (e + 1074).toNat : Nat) : Int)
theorem pw3 {A B X1 Y1 X Y : Nat} (h : A * 2 ^ X1 = B * 2 ^ Y1) (hd : X + Y1 = X1 + Y) : A * 2 ^ X = B * 2 ^ Y := by
  apply Nat.eq_of_mul_eq_mul_right (Nat.two_pow_pos X1)
  calc A * 2 ^ X * 2 ^ X1 = A * 2 ^ X1 * 2 ^ X := by rw [Nat.mul_right_comm]
    _ = B * 2 ^ Y1 * 2 ^ X := by rw [h]
    _ = B * 2 ^ Y * 2 ^ X1 := by rw [Nat.mul_assoc, Nat.mul_assoc, ← Nat.pow_add, ← Nat.pow_add, show Y1 + X = Y + X1 by omega]
theorem rr_exact {s : Bool} {A B n : Nat} {e q : Int} (hB : 0 < B) (hn : n < 2 ^ 53) (h1 : -1074 ≤ q) (h2 : q ≤ 971) (h : A * 2 ^ (e - q).toNat = n * B * 2 ^ (q - e).toNat) :
    ∃ c' q', roundRatio b64 s A B e = .fin s c' q' ∧ inUnits c' q' b64.qmin = n * 2 ^ (q + 1074).toNat := by
  have hc : roundRatio b64 s A B e = roundRatio b64 s n 1 q := roundRatio_congr hB (by decide) (by rw [Nat.mul_one]; exact h)
  obtain ⟨c', q', g1, g2⟩ := round_exact good_b64 s (c := n) (q := q) (show n < 2 ^ 53 from hn) (by rw [qmin_b64]; exact h1) (by rw [show b64.qmax = 971 by decide]; exact h2)
  refine ⟨c', q', hc.trans g1, g2.trans ?_⟩
  unfold inUnits; rw [qmin_b64, show (q - -1074).toNat = (q + 1074).toNat by omega]
theorem dy_rr {a : UInt64} {s : Bool} {A B n : Nat} {e q : Int} (ha : val64 a = roundRatio b64 s A B e) (hB : 0 < B) (hn : n < 2 ^ 53) (h1 : -1074 ≤ q) (h2 : q ≤ 971) (h : A * 2 ^ (e - q).toNat = n * B * 2 ^ (q - e).toNat) : Dy (signed s n) q a := by
  obtain ⟨c', q', g1, g2⟩ := rr_exact (s := s) hB hn h1 h2 h
  rw [g1] at ha
  refine ⟨⟨s, c', q', ha⟩, ?_⟩
  rw [ha]; show signed s (inUnits c' q' b64.qmin) = _; rw [g2, signed_mul]
theorem signed_back {s : Bool} {X P : Nat} {n : Int} (hP : 0 < P) (h : signed s X = n * (P : Int)) : signed s n.natAbs = n := by
  have hP' : (0 : Int) < P := Int.natCast_pos.mpr hP
  cases s
  · have h' : (X : Int) = n * P := h
    have : 0 ≤ n := Int.not_lt.mp fun q => by have := Int.mul_neg_of_neg_of_pos q hP'; omega
    show (n.natAbs : Int) = n; omega
  · have h' : -(X : Int) = n * P := h
    have : n ≤ 0 := Int.not_lt.mp fun q => by have := Int.mul_pos q hP'; omega
    show -(n.natAbs : Int) = n; omega
theorem dy_open {n e : Int} {a : UInt64} (ha : Dy n e a) : ∃ s c q, val64 a = .fin s c q ∧ -1074 ≤ q ∧ Jvm.FP.Core.fits b64 (.fin s c q) ∧ c * 2 ^ (q + 1074).toNat = n.natAbs * 2 ^ (e + 1074).toNat ∧ signed s n.natAbs = n := by
  obtain ⟨⟨s, c, q, hv⟩, hz⟩ := ha
  have hfit := val64_fits a
  rw [hv] at hfit hz
  have hq : -1074 ≤ q := by have := hfit.2.1; rwa [qmin_b64] at this
  have hz1 : signed s (inUnits c q b64.qmin) = n * ((2 ^ (e + 1074).toNat : Nat) : Int) := hz
  have hz2 := congrArg Int.natAbs hz1
  rw [natAbs_signed, Int.natAbs_mul, Int.natAbs_natCast] at hz2
  refine ⟨s, c, q, hv, hq, hfit, ?_, signed_back (Nat.two_pow_pos _) hz1⟩
  rw [← hz2]; unfold inUnits; rw [qmin_b64, show (q - -1074).toNat = (q + 1074).toNat by omega]
theorem quo_fin {s t : Bool} {c d : Nat} {q r : Int} (hd : d ≠ 0) : quotient b64 (.fin s c q) (.fin t d r) = roundRatio b64 (s != t) c d (q - r) := if_neg hd
theorem dy_div {n e k : Int} {a b : UInt64} (ha : Dy n e a) (he : -1074 ≤ e) (hb : val64 b = .fin false (2 ^ 52) (k - 52)) (hn : n.natAbs < 2 ^ 53) (h1 : -1074 ≤ e - k) (h2 : e - k ≤ 971) : Dy n (e - k) (FP.ddiv a b) := by
  obtain ⟨s, c, q, hv, hq, hfit, hz, hs⟩ := dy_open ha
  have hd : val64 (FP.ddiv a b) = roundRatio b64 s c (2 ^ 52) (q - (k - 52)) := by
    rw [show val64 (FP.ddiv a b) = _ from val64_ddiv a b, hv, hb]
    rw [quo_fin (by decide), show (s != false) = s by cases s <;> rfl]
  have := dy_rr hd (n := n.natAbs) (q := e - k) (by decide) hn h1 h2 (by
    rw [Nat.mul_assoc, ← Nat.pow_add]
    exact pw3 hz (by omega))
  rwa [hs] at this
theorem dy_mul {n e m f : Int} {a b : UInt64} (ha : Dy n e a) (hb : Dy m f b) (he : -1074 ≤ e) (hf : -1074 ≤ f) (hn : (n * m).natAbs < 2 ^ 53) (h1 : -1074 ≤ e + f) (h2 : e + f ≤ 971) : Dy (n * m) (e + f) (FP.dmul a b) := by
  obtain ⟨s, c, q, hv, hq, hfit, hz, hs⟩ := dy_open ha
  obtain ⟨t, d, r, hw, hr, hfit2, hz2, ht⟩ := dy_open hb
  have hd : val64 (FP.dmul a b) = roundRatio b64 (s != t) (c * d) 1 (q + r) := by
    rw [show val64 (FP.dmul a b) = _ from val64_dmul a b, hv, hw]; rfl
  have hp : c * d * 2 ^ ((q + 1074).toNat + (r + 1074).toNat) = (n * m).natAbs * 2 ^ ((e + 1074).toNat + (f + 1074).toNat) := by
    rw [Nat.pow_add, Nat.mul_mul_mul_comm, hz, hz2, Int.natAbs_mul, Nat.pow_add, Nat.mul_mul_mul_comm]
  have := dy_rr hd (n := (n * m).natAbs) (q := e + f) (by decide) hn h1 h2 (by
    rw [Nat.mul_one]
    exact pw3 hp (by omega))
  rw [Int.natAbs_mul, signed_xor, hs, ht] at this
  exact this
theorem dy_addG {n e m k : Int} {t : Nat} {a b : UInt64} (ha : Dy n e a) (hb : Dy m e b) (hnm : n + m = k * ((2 ^ t : Nat) : Int)) (hk : k.natAbs < 2 ^ 53) (h1 : -1074 ≤ e) (h2 : e + t ≤ 971) : Dy k (e + t) (FP.dadd a b) := by
  obtain ⟨⟨s, c, q, hv⟩, hz⟩ := ha
  obtain ⟨⟨s2, d, r, hw⟩, hz2⟩ := hb
  have f1 := val64_fits a
  have f2 := val64_fits b
  rw [hv] at f1 hz
  rw [hw] at f2 hz2
  obtain ⟨sg, N, E, g1, g2, g3⟩ := sum_units f1 f2
  rw [qmin_b64] at g2
  rw [hz, hz2, ← Int.add_mul, hnm, Int.mul_assoc, ← Int.natCast_mul, ← Nat.pow_add] at g3
  have hd : val64 (FP.dadd a b) = roundRatio b64 sg N 1 E := by
    rw [show val64 (FP.dadd a b) = _ from val64_dadd a b, hv, hw, g1]; rfl
  have g4 := congrArg Int.natAbs g3
  rw [natAbs_signed, Int.natAbs_mul, Int.natAbs_natCast] at g4
  unfold inUnits at g4
  rw [qmin_b64] at g4
  have := dy_rr hd (n := k.natAbs) (q := e + t) (by decide) hk (by omega) h2 (by
    rw [Nat.mul_one]
    exact pw3 g4 (by omega))
  rwa [signed_back (Nat.two_pow_pos _) g3] at this
theorem dy_add {n e m : Int} {a b : UInt64} (ha : Dy n e a) (hb : Dy m e b) (hn : (n + m).natAbs < 2 ^ 53) (h1 : -1074 ≤ e) (h2 : e ≤ 971) : Dy (n + m) e (FP.dadd a b) := by
  have := dy_addG (t := 0) ha hb (by rw [show ((2 ^ 0 : Nat) : Int) = 1 from rfl, Int.mul_one]) hn h1 (by omega)
  rwa [show e + ((0 : Nat) : Int) = e by omega] at this
theorem dy_re {n e : Int} {a : UInt64} (ha : Dy n e a) (k : Nat) (h : -1074 ≤ e - k) : Dy (n * ((2 ^ k : Nat) : Int)) (e - k) a := by
  refine ⟨ha.1, ha.2.trans ?_⟩
  rw [Int.mul_assoc, ← Int.natCast_mul, ← Nat.pow_add, show k + (e - k + 1074).toNat = (e + 1074).toNat by omega]
theorem dy_fin {a : UInt64} {s : Bool} {c : Nat} {q : Int} (h : val64 a = .fin s c q) : Dy (signed s c) q a := by
  have hf := val64_fits a
  rw [h] at hf
  have hq := hf.2.1
  rw [qmin_b64] at hq
  refine ⟨⟨s, c, q, h⟩, ?_⟩
  rw [h]; show signed s (inUnits c q b64.qmin) = _
  unfold inUnits
  rw [qmin_b64, signed_mul, show (q - -1074).toNat = (q + 1074).toNat by omega]
theorem dy_i2d (x : Int32) : Dy x.toInt 0 (FP.i2d x) := ⟨Jvm.FP.Core.i2d_fin x, DInt_zval (i2d_int x)⟩
theorem dy_l2d {x : Int64} (h : x.toInt.natAbs ≤ 2 ^ 53) : Dy x.toInt 0 (FP.l2d x) := ⟨Jvm.FP.Core.l2d_fin x, DInt_zval (l2d_int h)⟩
theorem dy_zero : Dy 0 0 0 := ⟨⟨false, 0, b64.qmin, val64_zero⟩, by rw [zval64_zero, Int.zero_mul]⟩
theorem Dy.fin {n e : Int} {a : UInt64} (h : Dy n e a) : Fin64 a := fin64_core.mpr h.1
theorem Dy.nn {n e : Int} {a : UInt64} (h : Dy n e a) : NoNaN64 a := h.fin.noNaN
theorem dy_cmp {n m e : Int} {a b : UInt64} (ha : Dy n e a) (hb : Dy m e b) : FP.dcmp a b = some (compare n m) := by
  have := dcmp_zval (DFin.ne_nan ha.1) (DFin.ne_nan hb.1)
  rw [ha.2, hb.2, compare_mul_pos _ _ _ (Int.natCast_pos.mpr (Nat.two_pow_pos _))] at this
  exact this
theorem cv_lt {n m : Int} (h : n < m) (o : CmpOp) : cmpValue (some (compare n m)) o = -1 := by rw [(compare_lt_iff n m).mpr h]; rfl
theorem cv_eq {n m : Int} (h : n = m) (o : CmpOp) : cmpValue (some (compare n m)) o = 0 := by rw [(compare_eq_iff n m).mpr h]; rfl
theorem cv_gt {n m : Int} (h : m < n) (o : CmpOp) : cmpValue (some (compare n m)) o = 1 := by rw [(compare_gt_iff n m).mpr h]; rfl
theorem cv3 (n m : Int) (o : CmpOp) : (n < m ∧ cmpValue (some (compare n m)) o = -1) ∨ (n = m ∧ cmpValue (some (compare n m)) o = 0) ∨ (m < n ∧ cmpValue (some (compare n m)) o = 1) := by
  rcases Int.lt_trichotomy n m with h | h | h
  · exact Or.inl ⟨h, cv_lt h o⟩
  · exact Or.inr (Or.inl ⟨h, cv_eq h o⟩)
  · exact Or.inr (Or.inr ⟨h, cv_gt h o⟩)
theorem dy_eq0 {n m e : Int} {a b : UInt64} (ha : Dy n e a) (hb : Dy m e b) (o : CmpOp) : cmpValue (FP.dcmp a b) o = 0 ↔ n = m := by
  rw [dy_cmp ha hb]; rcases cv3 n m o with ⟨h, g⟩ | ⟨h, g⟩ | ⟨h, g⟩ <;> rw [g]
  · exact ⟨fun q => absurd q (by decide), fun q => by omega⟩
  · exact ⟨fun _ => h, fun _ => rfl⟩
  · exact ⟨fun q => absurd q (by decide), fun q => by omega⟩
theorem dy_gt0 {n m e : Int} {a b : UInt64} (ha : Dy n e a) (hb : Dy m e b) (o : CmpOp) : 0 < cmpValue (FP.dcmp a b) o ↔ m < n := by
  rw [dy_cmp ha hb]; rcases cv3 n m o with ⟨h, g⟩ | ⟨h, g⟩ | ⟨h, g⟩ <;> rw [g]
  · exact ⟨fun q => absurd q (by decide), fun q => by omega⟩
  · exact ⟨fun q => absurd q (by decide), fun q => by omega⟩
  · exact ⟨fun _ => h, fun _ => by decide⟩
theorem dy_lt0 {n m e : Int} {a b : UInt64} (ha : Dy n e a) (hb : Dy m e b) (o : CmpOp) : cmpValue (FP.dcmp a b) o < 0 ↔ n < m := by
  rw [dy_cmp ha hb]; rcases cv3 n m o with ⟨h, g⟩ | ⟨h, g⟩ | ⟨h, g⟩ <;> rw [g]
  · exact ⟨fun _ => h, fun _ => by decide⟩
  · exact ⟨fun q => absurd q (by decide), fun q => by omega⟩
  · exact ⟨fun q => absurd q (by decide), fun q => by omega⟩
end Jvm.OwnKit

namespace Jvm.Pilot.@@N@@
open Jvm Jvm.ClassFile Sem Op Lib Jvm.Free Jvm.Stand Jvm.LawKit Jvm.RoadKit Jvm.OwnKit Jvm.Free.Fl Bundle Jvm.Pilot.@@N@@.Jvm.D
theorem wd_0 {Z : State} {a0 : Array Value} (hw : ∀ d ∈ tables_1, d.before a0 Z = true) : (Jvm.Cond.arrayClass Jvm.ClassFile.FieldType.double).before a0 Z = true := hw _ (List.mem_of_getElem? (i := 0) rfl)
theorem wd_1 {Z : State} {a0 : Array Value} (hw : ∀ d ∈ tables_1, d.before a0 Z = true) : (Jvm.Cond.arrayClass Jvm.ClassFile.FieldType.long).before a0 Z = true := hw _ (List.mem_of_getElem? (i := 1) rfl)
theorem wd_2 {Z : State} {a0 : Array Value} (hw : ∀ d ∈ tables_1, d.before a0 Z = true) : (Jvm.Cond.classLink "com/example/dipper/dipper/CentroidsHalfWeightAtPinLaw" (11 : Nat) "com/example/dipper/dipper/Centroids").before a0 Z = true := hw _ (List.mem_of_getElem? (i := 2) rfl)
theorem wd_3 {Z : State} {a0 : Array Value} (hw : ∀ d ∈ tables_1, d.before a0 Z = true) : (Jvm.Cond.instantiable "com/example/dipper/dipper/Centroids" (5 : Nat)).before a0 Z = true := hw _ (List.mem_of_getElem? (i := 3) rfl)
theorem wd_4 {Z : State} {a0 : Array Value} (hw : ∀ d ∈ tables_1, d.before a0 Z = true) : (Jvm.Cond.initialized "com/example/dipper/dipper/Centroids").before a0 Z = true := hw _ (List.mem_of_getElem? (i := 4) rfl)
theorem wd_5 {Z : State} {a0 : Array Value} (hw : ∀ d ∈ tables_1, d.before a0 Z = true) : (Jvm.Cond.constantDouble "com/example/dipper/dipper/CentroidsHalfWeightAtPinLaw" (13 : Nat) (4616189618054758400 : UInt64)).before a0 Z = true := hw _ (List.mem_of_getElem? (i := 5) rfl)
theorem wd_6 {Z : State} {a0 : Array Value} (hw : ∀ d ∈ tables_1, d.before a0 Z = true) : (Jvm.Cond.methodLink "com/example/dipper/dipper/CentroidsHalfWeightAtPinLaw" (15 : Nat) ({ cls := "com/example/dipper/dipper/Centroids", name := "<init>", desc := "([D[JJDD)V" } : Jvm.MethodName)).before a0 Z = true := hw _ (List.mem_of_getElem? (i := 6) rfl)
theorem wd_7 {Z : State} {a0 : Array Value} (hw : ∀ d ∈ tables_1, d.before a0 Z = true) : (Jvm.Cond.instanceMethod ({ cls := "com/example/dipper/dipper/Centroids", name := "<init>", desc := "([D[JJDD)V" } : Jvm.MethodName)).before a0 Z = true := hw _ (List.mem_of_getElem? (i := 7) rfl)
theorem wd_8 {Z : State} {a0 : Array Value} (hw : ∀ d ∈ tables_1, d.before a0 Z = true) : (Jvm.Cond.code ({ cls := "com/example/dipper/dipper/Centroids", name := "<init>", desc := "([D[JJDD)V" } : Jvm.MethodName) prog_4_method_1_code (9 : Nat) (Option.none : Option Jvm.ClassFile.FieldType)).before a0 Z = true := hw _ (List.mem_of_getElem? (i := 8) rfl)
theorem wd_9 {Z : State} {a0 : Array Value} (hw : ∀ d ∈ tables_1, d.before a0 Z = true) : (Jvm.Cond.methodLink "com/example/dipper/dipper/Centroids" (3 : Nat) ({ cls := "java/lang/Object", name := "<init>", desc := "()V" } : Jvm.MethodName)).before a0 Z = true := hw _ (List.mem_of_getElem? (i := 9) rfl)
theorem wd_10 {Z : State} {a0 : Array Value} (hw : ∀ d ∈ tables_1, d.before a0 Z = true) : (Jvm.Cond.instanceMethod ({ cls := "java/lang/Object", name := "<init>", desc := "()V" } : Jvm.MethodName)).before a0 Z = true := hw _ (List.mem_of_getElem? (i := 10) rfl)
theorem wd_11 {Z : State} {a0 : Array Value} (hw : ∀ d ∈ tables_1, d.before a0 Z = true) : (Jvm.Cond.code ({ cls := "java/lang/Object", name := "<init>", desc := "()V" } : Jvm.MethodName) object_method_1_code (1 : Nat) (Option.none : Option Jvm.ClassFile.FieldType)).before a0 Z = true := hw _ (List.mem_of_getElem? (i := 11) rfl)
theorem wd_12 {Z : State} {a0 : Array Value} (hw : ∀ d ∈ tables_1, d.before a0 Z = true) : (Jvm.Cond.fieldLink "com/example/dipper/dipper/Centroids" (9 : Nat) "com/example/dipper/dipper/Centroids" "means" "[D").before a0 Z = true := hw _ (List.mem_of_getElem? (i := 12) rfl)
theorem wd_13 {Z : State} {a0 : Array Value} (hw : ∀ d ∈ tables_1, d.before a0 Z = true) : (Jvm.Cond.laysFinal "com/example/dipper/dipper/Centroids" "com/example/dipper/dipper/Centroids" "means" "[D").before a0 Z = true := hw _ (List.mem_of_getElem? (i := 13) rfl)
theorem wd_14 {Z : State} {a0 : Array Value} (hw : ∀ d ∈ tables_1, d.before a0 Z = true) : (Jvm.Cond.fieldLink "com/example/dipper/dipper/Centroids" (13 : Nat) "com/example/dipper/dipper/Centroids" "weights" "[J").before a0 Z = true := hw _ (List.mem_of_getElem? (i := 14) rfl)
theorem wd_15 {Z : State} {a0 : Array Value} (hw : ∀ d ∈ tables_1, d.before a0 Z = true) : (Jvm.Cond.laysFinal "com/example/dipper/dipper/Centroids" "com/example/dipper/dipper/Centroids" "weights" "[J").before a0 Z = true := hw _ (List.mem_of_getElem? (i := 15) rfl)
theorem wd_16 {Z : State} {a0 : Array Value} (hw : ∀ d ∈ tables_1, d.before a0 Z = true) : (Jvm.Cond.fieldLink "com/example/dipper/dipper/Centroids" (17 : Nat) "com/example/dipper/dipper/Centroids" "count" "J").before a0 Z = true := hw _ (List.mem_of_getElem? (i := 16) rfl)
theorem wd_17 {Z : State} {a0 : Array Value} (hw : ∀ d ∈ tables_1, d.before a0 Z = true) : (Jvm.Cond.laysFinal "com/example/dipper/dipper/Centroids" "com/example/dipper/dipper/Centroids" "count" "J").before a0 Z = true := hw _ (List.mem_of_getElem? (i := 17) rfl)
theorem wd_18 {Z : State} {a0 : Array Value} (hw : ∀ d ∈ tables_1, d.before a0 Z = true) : (Jvm.Cond.fieldLink "com/example/dipper/dipper/Centroids" (21 : Nat) "com/example/dipper/dipper/Centroids" "min" "D").before a0 Z = true := hw _ (List.mem_of_getElem? (i := 18) rfl)
theorem wd_19 {Z : State} {a0 : Array Value} (hw : ∀ d ∈ tables_1, d.before a0 Z = true) : (Jvm.Cond.laysFinal "com/example/dipper/dipper/Centroids" "com/example/dipper/dipper/Centroids" "min" "D").before a0 Z = true := hw _ (List.mem_of_getElem? (i := 19) rfl)
theorem wd_20 {Z : State} {a0 : Array Value} (hw : ∀ d ∈ tables_1, d.before a0 Z = true) : (Jvm.Cond.fieldLink "com/example/dipper/dipper/Centroids" (25 : Nat) "com/example/dipper/dipper/Centroids" "max" "D").before a0 Z = true := hw _ (List.mem_of_getElem? (i := 20) rfl)
theorem wd_21 {Z : State} {a0 : Array Value} (hw : ∀ d ∈ tables_1, d.before a0 Z = true) : (Jvm.Cond.laysFinal "com/example/dipper/dipper/Centroids" "com/example/dipper/dipper/Centroids" "max" "D").before a0 Z = true := hw _ (List.mem_of_getElem? (i := 21) rfl)
theorem wd_22 {Z : State} {a0 : Array Value} (hw : ∀ d ∈ tables_1, d.before a0 Z = true) : (Jvm.Cond.methodLink "com/example/dipper/dipper/CentroidsHalfWeightAtPinLaw" (18 : Nat) ({ cls := "com/example/dipper/dipper/Centroids", name := "halfWeightAt", desc := "(I)D" } : Jvm.MethodName)).before a0 Z = true := hw _ (List.mem_of_getElem? (i := 22) rfl)
theorem wd_23 {Z : State} {a0 : Array Value} (hw : ∀ d ∈ tables_1, d.before a0 Z = true) : (Jvm.Cond.declares ({ cls := "com/example/dipper/dipper/Centroids", name := "halfWeightAt", desc := "(I)D" } : Jvm.MethodName)).before a0 Z = true := hw _ (List.mem_of_getElem? (i := 23) rfl)
theorem wd_24 {Z : State} {a0 : Array Value} (hw : ∀ d ∈ tables_1, d.before a0 Z = true) : (Jvm.Cond.instanceMethod ({ cls := "com/example/dipper/dipper/Centroids", name := "halfWeightAt", desc := "(I)D" } : Jvm.MethodName)).before a0 Z = true := hw _ (List.mem_of_getElem? (i := 24) rfl)
theorem wd_25 {Z : State} {a0 : Array Value} (hw : ∀ d ∈ tables_1, d.before a0 Z = true) : (Jvm.Cond.selects "com/example/dipper/dipper/Centroids" ({ cls := "com/example/dipper/dipper/Centroids", name := "halfWeightAt", desc := "(I)D" } : Jvm.MethodName) ({ cls := "com/example/dipper/dipper/Centroids", name := "halfWeightAt", desc := "(I)D" } : Jvm.MethodName)).before a0 Z = true := hw _ (List.mem_of_getElem? (i := 25) rfl)
theorem wd_26 {Z : State} {a0 : Array Value} (hw : ∀ d ∈ tables_1, d.before a0 Z = true) : (Jvm.Cond.code ({ cls := "com/example/dipper/dipper/Centroids", name := "halfWeightAt", desc := "(I)D" } : Jvm.MethodName) prog_4_method_11_code (2 : Nat) (Option.some Jvm.ClassFile.FieldType.double)).before a0 Z = true := hw _ (List.mem_of_getElem? (i := 26) rfl)
theorem wd_27 {Z : State} {a0 : Array Value} (hw : ∀ d ∈ tables_1, d.before a0 Z = true) : (Jvm.Cond.constantDouble "com/example/dipper/dipper/Centroids" (61 : Nat) (13826050856027422720 : UInt64)).before a0 Z = true := hw _ (List.mem_of_getElem? (i := 27) rfl)
theorem wd_28 {Z : State} {a0 : Array Value} (hw : ∀ d ∈ tables_1, d.before a0 Z = true) : (Jvm.Cond.constantDouble "com/example/dipper/dipper/CentroidsHalfWeightAtPinLaw" (22 : Nat) (13826050856027422720 : UInt64)).before a0 Z = true := hw _ (List.mem_of_getElem? (i := 28) rfl)
theorem wd_29 {Z : State} {a0 : Array Value} (hw : ∀ d ∈ tables_1, d.before a0 Z = true) : (Jvm.Cond.constantDouble "com/example/dipper/dipper/CentroidsHalfWeightAtPinLaw" (7 : Nat) (4611686018427387904 : UInt64)).before a0 Z = true := hw _ (List.mem_of_getElem? (i := 29) rfl)
theorem wd_30 {Z : State} {a0 : Array Value} (hw : ∀ d ∈ tables_1, d.before a0 Z = true) : (Jvm.Cond.constantDouble "com/example/dipper/dipper/CentroidsHalfWeightAtPinLaw" (9 : Nat) (4613937818241073152 : UInt64)).before a0 Z = true := hw _ (List.mem_of_getElem? (i := 30) rfl)
theorem wd_31 {Z : State} {a0 : Array Value} (hw : ∀ d ∈ tables_1, d.before a0 Z = true) : (Jvm.Cond.constantDouble "com/example/dipper/dipper/Centroids" (34 : Nat) (4611686018427387904 : UInt64)).before a0 Z = true := hw _ (List.mem_of_getElem? (i := 31) rfl)
theorem wd_32 {Z : State} {a0 : Array Value} (hw : ∀ d ∈ tables_1, d.before a0 Z = true) : (Jvm.Cond.constantLong "com/example/dipper/dipper/CentroidsHalfWeightAtPinLaw" (24 : Nat) (-4503599627370496 : Int64)).before a0 Z = true := hw _ (List.mem_of_getElem? (i := 32) rfl)
theorem wd_33 {Z : State} {a0 : Array Value} (hw : ∀ d ∈ tables_1, d.before a0 Z = true) : (Jvm.Cond.constantLong "com/example/dipper/dipper/CentroidsHalfWeightAtPinLaw" (26 : Nat) (4503599627370496 : Int64)).before a0 Z = true := hw _ (List.mem_of_getElem? (i := 33) rfl)
theorem wd_34 {Z : State} {a0 : Array Value} (hw : ∀ d ∈ tables_1, d.before a0 Z = true) : (Jvm.Cond.constantDouble "com/example/dipper/dipper/CentroidsHalfWeightAtPinLaw" (28 : Nat) (4602678819172646912 : UInt64)).before a0 Z = true := hw _ (List.mem_of_getElem? (i := 34) rfl)
theorem la_Centroids {Z : State} {a0 : Array Value} (hw : ∀ d ∈ tables_1, d.before a0 Z = true) : LaidAll Z a0 "com/example/dipper/dipper/Centroids" [("com/example/dipper/dipper/Centroids", "means", "[D", .null), ("com/example/dipper/dipper/Centroids", "weights", "[J", .null), ("com/example/dipper/dipper/Centroids", "count", "J", .long 0), ("com/example/dipper/dipper/Centroids", "min", "D", .double 0), ("com/example/dipper/dipper/Centroids", "max", "D", .double 0)] := LaidAll.cons (Or.inr (wd_13 hw)) (t := (.array .double)) (by decide) rfl (LaidAll.cons (Or.inr (wd_15 hw)) (t := (.array .long)) (by decide) rfl (LaidAll.cons (Or.inr (wd_17 hw)) (t := .long) (by decide) rfl (LaidAll.cons (Or.inr (wd_19 hw)) (t := .double) (by decide) rfl (LaidAll.cons (Or.inr (wd_21 hw)) (t := .double) (by decide) rfl (LaidAll.nil)))))
theorem ef_1 (m : MethodId) (x0 : Addr) (x1 : Addr) (x2 : Addr) (x3 : Int64) (x4 : UInt64) (x5 : UInt64) : entryFrame m #[.ref x0, .ref x1, .ref x2, .long x3, .double x4, .double x5] 9 = mkF m 0 #[.val (.ref x0), .val (.ref x1), .val (.ref x2), .val (.long x3), .second, .val (.double x4), .second, .val (.double x5), .second] [] := by first | (simp [entryFrame, mkF, argsToLocals, Value.category, maxLocals]; done) | rfl
theorem d1_0 : decode prog_4_method_1_code 0 = .ok (.aload_n 0, 1) := by decide +kernel
theorem d1_1 : decode prog_4_method_1_code 1 = .ok (.invokespecial 3, 3) := by decide +kernel
theorem d1_4 : decode prog_4_method_1_code 4 = .ok (.aload_n 0, 1) := by decide +kernel
theorem d1_5 : decode prog_4_method_1_code 5 = .ok (.aload_n 1, 1) := by decide +kernel
theorem d1_6 : decode prog_4_method_1_code 6 = .ok (.putfield 9, 3) := by decide +kernel
theorem d1_9 : decode prog_4_method_1_code 9 = .ok (.aload_n 0, 1) := by decide +kernel
theorem d1_10 : decode prog_4_method_1_code 10 = .ok (.aload_n 2, 1) := by decide +kernel
theorem d1_11 : decode prog_4_method_1_code 11 = .ok (.putfield 13, 3) := by decide +kernel
theorem d1_14 : decode prog_4_method_1_code 14 = .ok (.aload_n 0, 1) := by decide +kernel
theorem d1_15 : decode prog_4_method_1_code 15 = .ok (.lload_n 3, 1) := by decide +kernel
theorem d1_16 : decode prog_4_method_1_code 16 = .ok (.putfield 17, 3) := by decide +kernel
theorem d1_19 : decode prog_4_method_1_code 19 = .ok (.aload_n 0, 1) := by decide +kernel
theorem d1_20 : decode prog_4_method_1_code 20 = .ok (.dload 5, 2) := by decide +kernel
theorem d1_22 : decode prog_4_method_1_code 22 = .ok (.putfield 21, 3) := by decide +kernel
theorem d1_25 : decode prog_4_method_1_code 25 = .ok (.aload_n 0, 1) := by decide +kernel
theorem d1_26 : decode prog_4_method_1_code 26 = .ok (.dload 7, 2) := by decide +kernel
theorem d1_28 : decode prog_4_method_1_code 28 = .ok (.putfield 25, 3) := by decide +kernel
theorem d1_31 : decode prog_4_method_1_code 31 = .ok (.return_, 1) := by decide +kernel
theorem pn_Centroids : plainName "com/example/dipper/dipper/Centroids" = true := by first | (simp [plainName, overriddenIn]; done) | decide +kernel
theorem ef_3 (m : MethodId) (x0 : Addr) (x1 : Int32) : entryFrame m #[.ref x0, .int x1] 2 = mkF m 0 #[.val (.ref x0), .val (.int x1)] [] := by first | (simp [entryFrame, mkF, argsToLocals, Value.category, maxLocals]; done) | rfl
theorem d3_0 : decode prog_4_method_11_code 0 = .ok (.iload_n 1, 1) := by decide +kernel
theorem d3_1 : decode prog_4_method_11_code 1 = .ok (.ifCond .lt 12, 3) := by decide +kernel
theorem d3_13 : decode prog_4_method_11_code 13 = .ok (.ldc2_w 61, 3) := by decide +kernel
theorem d3_16 : decode prog_4_method_11_code 16 = .ok (.goto 14, 3) := by decide +kernel
theorem d3_30 : decode prog_4_method_11_code 30 = .ok (.dreturn, 1) := by decide +kernel
theorem d3_4 : decode prog_4_method_11_code 4 = .ok (.iload_n 1, 1) := by decide +kernel
theorem d3_5 : decode prog_4_method_11_code 5 = .ok (.aload_n 0, 1) := by decide +kernel
theorem d3_6 : decode prog_4_method_11_code 6 = .ok (.getfield 9, 3) := by decide +kernel
theorem d3_9 : decode prog_4_method_11_code 9 = .ok (.arraylength, 1) := by decide +kernel
theorem d3_10 : decode prog_4_method_11_code 10 = .ok (.if_icmp .lt 9, 3) := by decide +kernel
theorem d3_19 : decode prog_4_method_11_code 19 = .ok (.aload_n 0, 1) := by decide +kernel
theorem d3_20 : decode prog_4_method_11_code 20 = .ok (.getfield 13, 3) := by decide +kernel
theorem d3_23 : decode prog_4_method_11_code 23 = .ok (.iload_n 1, 1) := by decide +kernel
theorem d3_24 : decode prog_4_method_11_code 24 = .ok (.laload, 1) := by decide +kernel
theorem d3_25 : decode prog_4_method_11_code 25 = .ok (.l2d, 1) := by decide +kernel
theorem d3_26 : decode prog_4_method_11_code 26 = .ok (.ldc2_w 34, 3) := by decide +kernel
theorem d3_29 : decode prog_4_method_11_code 29 = .ok (.ddiv, 1) := by decide +kernel
theorem ef_0 (m : MethodId) (x0 : Int32) (x1 : Int32) (x2 : Int64) (x3 : Int64) (x4 : Int64) : entryFrame m #[.int x0, .int x1, .long x2, .long x3, .long x4] maxLocals = mkF m 0 #[.val (.int x0), .val (.int x1), .val (.long x2), .second, .val (.long x3), .second, .val (.long x4), .second, .unset, .unset, .unset, .unset, .unset, .unset, .unset, .unset, .unset, .unset, .unset, .unset, .unset] [] := by first | (simp [entryFrame, mkF, argsToLocals, Value.category, maxLocals]; done) | rfl
theorem pd_0 : parseMethodDescriptor "([D[JJDD)V" = some ⟨[(.array .double), (.array .long), .long, .double, .double], none⟩ := by decide +kernel
theorem pd_1 : parseMethodDescriptor "(I)D" = some ⟨[.int], some .double⟩ := by decide +kernel
theorem pn_CentroidsHalfWeightAtPinLaw : plainName "com/example/dipper/dipper/CentroidsHalfWeightAtPinLaw" = true := by first | (simp [plainName, overriddenIn]; done) | decide +kernel

open Jvm.FP.Core in
theorem own_l2d_dy (w : Int64) : ∃ n e : Int, Dy n e (FP.l2d w) ∧ n.natAbs < 2 ^ 53 ∧ -1000 ≤ e ∧ e ≤ 971 := by
  by_cases h0 : w = 0
  · subst h0
    exact ⟨0, 0, by rw [show FP.l2d 0 = 0 from Jvm.RoadKit.l2d_zero]; exact dy_zero, by decide, by decide, by decide⟩
  · obtain ⟨c, q, hv⟩ := l2d_shape w
    have hd := dy_fin (a := FP.l2d w) hv
    have hf := val64_fits (FP.l2d w)
    rw [show val64 (FP.l2d w) = _ from hv] at hf
    obtain ⟨f1, f2, f3, -⟩ := hf
    rw [show b64.qmax = 971 by decide] at f3
    rw [qmin_b64] at f2
    refine ⟨_, _, hd, by rw [natAbs_signed]; exact f1, ?_, f3⟩
    have hw : w.toInt ≠ 0 := fun q => h0 (Int64.toInt_inj.mp (q.trans (by decide)))
    have hone : (0 : Int) < one64 := Int.natCast_pos.mpr one64_pos
    have big : (one64 : Int) ≤ zval b64 (val64 (FP.l2d w)) ∨ zval b64 (val64 (FP.l2d w)) ≤ -(one64 : Int) := by
      rcases Int.lt_or_gt_of_ne hw with h | h
      · right
        have z1 : zval b64 (val64 13830554455654793216) = -(one64 : Int) := by decide +kernel
        have := l2d_zval_le (n := w) (V := 13830554455654793216) (by rw [ne_nan]; decide) (by
          rw [z1]
          have := Int.mul_le_mul_of_nonneg_right (show w.toInt ≤ -1 by omega) (Int.le_of_lt hone)
          omega)
        rw [z1] at this; exact this
      · left
        have z1 : zval b64 (val64 4607182418800017408) = (one64 : Int) := by decide +kernel
        have := l2d_zval_ge (n := w) (V := 4607182418800017408) (by rw [ne_nan]; decide) (by
          rw [z1]
          have := Int.mul_le_mul_of_nonneg_right (show 1 ≤ w.toInt by omega) (Int.le_of_lt hone)
          omega)
        rw [z1] at this; exact this
    have hz := hd.2
    have hz2 := congrArg Int.natAbs hz
    rw [Int.natAbs_mul, natAbs_signed, Int.natAbs_natCast] at hz2
    have big2 : one64 ≤ c * 2 ^ (q + 1074).toNat := by omega
    refine Int.not_lt.mp fun hlt => ?_
    have p1 : 2 ^ (q + 1074).toNat ≤ 2 ^ 74 := Nat.pow_le_pow_right (by decide) (by omega)
    have p2 : c * 2 ^ (q + 1074).toNat ≤ 2 ^ 53 * 2 ^ 74 := Nat.mul_le_mul (Nat.le_of_lt f1) p1
    have p3 : (2 : Nat) ^ 53 * 2 ^ 74 < one64 := by unfold one64; rw [← Nat.pow_add]; exact Nat.pow_lt_pow_right (by decide) (by decide)
    omega
theorem own_two : Jvm.FP.Core.val64 (4611686018427387904 : UInt64) = .fin false (2 ^ 52) (1 - 52) := by decide +kernel
theorem own_half_nn (w : Int64) : NoNaN64 (FP.ddiv (FP.l2d w) (4611686018427387904 : UInt64)) := by
  obtain ⟨n, e, hd, hn, h1, h2⟩ := own_l2d_dy w
  exact (dy_div hd (by omega) own_two hn (by omega) (by omega)).nn
theorem own_dbl (w : Int64) : NoNaN64 (FP.dadd (FP.ddiv (FP.l2d w) (4611686018427387904 : UInt64)) (FP.ddiv (FP.l2d w) (4611686018427387904 : UInt64))) ∧ cmpValue (FP.dcmp (FP.dadd (FP.ddiv (FP.l2d w) (4611686018427387904 : UInt64)) (FP.ddiv (FP.l2d w) (4611686018427387904 : UInt64))) (FP.l2d w)) .l = 0 := by
  obtain ⟨n, e, hd, hn, h1, h2⟩ := own_l2d_dy w
  have h3 := dy_div hd (by omega) own_two hn (by omega) (by omega)
  have h4 := dy_addG (t := 1) (k := n) h3 h3 (by show n + n = n * 2; omega) hn (by omega) (by omega)
  rw [show e - 1 + ((1 : Nat) : Int) = e by omega] at h4
  exact ⟨h4.nn, (dy_eq0 h4 hd .l).mpr rfl⟩
theorem own_shr (w : Int64) : (w >>> ((1 : Int32).toInt64 &&& 63)).toInt = w.toInt / 2 := Kit.i64_shr w _ (k := 1) (by decide)
theorem own_and (w : Int64) : (w &&& (1 : Int64)).toInt = w.toInt % 2 := Kit.i64_mask w 1 (k := 1) (by decide) (by decide)
theorem own_small {w : Int64} (h1 : (-4503599627370496 : Int64) < w) (h2 : w < (4503599627370496 : Int64)) : -4503599627370496 < w.toInt ∧ w.toInt < 4503599627370496 := by
  rw [Int64.lt_iff_toInt_lt] at h1 h2
  rw [show (-4503599627370496 : Int64).toInt = -4503599627370496 by decide] at h1
  rw [show (4503599627370496 : Int64).toInt = 4503599627370496 by decide] at h2
  exact ⟨h1, h2⟩
theorem own_hv {w : Int64} (h : -4503599627370496 < w.toInt ∧ w.toInt < 4503599627370496) : Dy w.toInt (-1) (FP.ddiv (FP.l2d w) (4611686018427387904 : UInt64)) :=
  dy_div (e := 0) (k := 1) (dy_l2d (by omega)) (by decide) own_two (by omega) (by decide) (by decide)
theorem own_half {w : Int64} (h : -4503599627370496 < w.toInt ∧ w.toInt < 4503599627370496) : Dy (w.toInt / 2 * 2) (-1) (FP.l2d (w >>> ((1 : Int32).toInt64 &&& 63))) := by
  have := dy_re (dy_l2d (x := w >>> ((1 : Int32).toInt64 &&& 63)) (by rw [own_shr]; omega)) 1 (by decide)
  rw [own_shr] at this; exact this
theorem own_ph : Dy 1 (-1) (4602678819172646912 : UInt64) := ⟨⟨false, 2 ^ 52, -53, by decide +kernel⟩, by decide +kernel⟩
theorem own_zero : Dy 0 (-1) 0 := by have := dy_re dy_zero 1 (by decide); rwa [Int.zero_mul] at this
theorem own_even {w : Int64} (h : -4503599627370496 < w.toInt ∧ w.toInt < 4503599627370496) (hz : (w &&& (1 : Int64)) = 0) : NoNaN64 (FP.dadd (FP.l2d (w >>> ((1 : Int32).toInt64 &&& 63))) 0) ∧ cmpValue (FP.dcmp (FP.ddiv (FP.l2d w) (4611686018427387904 : UInt64)) (FP.dadd (FP.l2d (w >>> ((1 : Int32).toInt64 &&& 63))) 0)) .l = 0 := by
  have hs := dy_add (own_half h) own_zero (by omega) (by decide) (by decide)
  have e := own_and w
  rw [hz, show (0 : Int64).toInt = 0 by decide] at e
  exact ⟨hs.nn, (dy_eq0 (own_hv h) hs .l).mpr (by omega)⟩
theorem own_odd {w : Int64} (h : -4503599627370496 < w.toInt ∧ w.toInt < 4503599627370496) (hz : ¬ (w &&& (1 : Int64)) = 0) : NoNaN64 (FP.dadd (FP.l2d (w >>> ((1 : Int32).toInt64 &&& 63))) (4602678819172646912 : UInt64)) ∧ cmpValue (FP.dcmp (FP.ddiv (FP.l2d w) (4611686018427387904 : UInt64)) (FP.dadd (FP.l2d (w >>> ((1 : Int32).toInt64 &&& 63))) (4602678819172646912 : UInt64))) .l = 0 := by
  have hs := dy_add (own_half h) own_ph (by omega) (by decide) (by decide)
  have e := own_and w
  have hne : (w &&& (1 : Int64)).toInt ≠ 0 := fun q => hz (Int64.toInt_inj.mp (q.trans (by decide)))
  exact ⟨hs.nn, (dy_eq0 (own_hv h) hs .l).mpr (by omega)⟩

set_option maxRecDepth 65536 in
set_option maxHeartbeats 40000000 in
theorem c_init (l : Launch) (Z : State) (a0 : Array Value) (hw : ∀ d ∈ tables_1, d.before a0 Z = true) (n0 : Nat) (a am aw : Addr) (cnt : Int64) (mn mx : UInt64) (h0 : Heap) (F : List HRow) (H00 : Hp Z n0 h0 ((a, ObC Z "com/example/dipper/dipper/Centroids" [("com/example/dipper/dipper/Centroids", "means", "[D", .null), ("com/example/dipper/dipper/Centroids", "weights", "[J", .null), ("com/example/dipper/dipper/Centroids", "count", "J", .long 0), ("com/example/dipper/dipper/Centroids", "min", "D", .double 0), ("com/example/dipper/dipper/Centroids", "max", "D", .double 0)]) :: F)) :
    Con l Z n0 ⟨"com/example/dipper/dipper/Centroids", "<init>", "([D[JJDD)V"⟩ [] prog_4_method_1_code 9 none ({ frames := 1, cells := 0, slots := 0, locals := 12 } : Room) #[.ref a, .ref am, .ref aw, .long cnt, .double mn, .double mx] h0 (fun v h => v = none ∧ Hp Z n0 h ((a, ObC Z "com/example/dipper/dipper/Centroids" [("com/example/dipper/dipper/Centroids", "means", "[D", .ref am), ("com/example/dipper/dipper/Centroids", "weights", "[J", .ref aw), ("com/example/dipper/dipper/Centroids", "count", "J", .long cnt), ("com/example/dipper/dipper/Centroids", "min", "D", .double mn), ("com/example/dipper/dipper/Centroids", "max", "D", .double mx)]) :: F)) := by
  refine con_of (plainFor_of_name pn_Centroids) ?_
  intro p e s m below meth c T0 W0 e0
  have H0 : Hp Z n0 T0.heap ((a, ObC Z "com/example/dipper/dipper/Centroids" [("com/example/dipper/dipper/Centroids", "means", "[D", .null), ("com/example/dipper/dipper/Centroids", "weights", "[J", .null), ("com/example/dipper/dipper/Centroids", "count", "J", .long 0), ("com/example/dipper/dipper/Centroids", "min", "D", .double 0), ("com/example/dipper/dipper/Centroids", "max", "D", .double 0)]) :: F) := e0 ▸ H00
  refine g_cast (ef_1 m a am aw cnt mn mx) ?_
  refine g_aloadN W0 d1_0 (pc' := 1) rfl rfl rfl ?_
  refine g_initO W0 (wd_9 hw) (wd_10 hw) (wd_11 hw) H0 rfl d1_1 (pc' := 4) rfl (by decide) (Wn := 0) (Nat.le_of_eq rfl) (by decide) ?_
  intro T1 W1 H1
  refine g_aloadN W1 d1_4 (pc' := 5) rfl rfl rfl ?_
  refine g_aloadN W1 d1_5 (pc' := 6) rfl rfl rfl ?_
  refine g_putf W1 (wd_12 hw) Via.refl (Or.inr ⟨(wd_13 hw), rfl, rfl⟩) (wd_3 hw) (ty := (.array .double)) (by decide) rfl rfl H1 (i := 0) rfl (jx := 0) rfl d1_6 (pc' := 9) rfl (L' := ((a, ObC Z "com/example/dipper/dipper/Centroids" [("com/example/dipper/dipper/Centroids", "means", "[D", .ref am), ("com/example/dipper/dipper/Centroids", "weights", "[J", .null), ("com/example/dipper/dipper/Centroids", "count", "J", .long 0), ("com/example/dipper/dipper/Centroids", "min", "D", .double 0), ("com/example/dipper/dipper/Centroids", "max", "D", .double 0)]) :: F)) rfl ?_
  intro T2 W2 H2
  refine g_aloadN W2 d1_9 (pc' := 10) rfl rfl rfl ?_
  refine g_aloadN W2 d1_10 (pc' := 11) rfl rfl rfl ?_
  refine g_putf W2 (wd_14 hw) Via.refl (Or.inr ⟨(wd_15 hw), rfl, rfl⟩) (wd_3 hw) (ty := (.array .long)) (by decide) rfl rfl H2 (i := 0) rfl (jx := 1) rfl d1_11 (pc' := 14) rfl (L' := ((a, ObC Z "com/example/dipper/dipper/Centroids" [("com/example/dipper/dipper/Centroids", "means", "[D", .ref am), ("com/example/dipper/dipper/Centroids", "weights", "[J", .ref aw), ("com/example/dipper/dipper/Centroids", "count", "J", .long 0), ("com/example/dipper/dipper/Centroids", "min", "D", .double 0), ("com/example/dipper/dipper/Centroids", "max", "D", .double 0)]) :: F)) rfl ?_
  intro T3 W3 H3
  refine g_aloadN W3 d1_14 (pc' := 15) rfl rfl rfl ?_
  refine g_lloadN W3 d1_15 (pc' := 16) rfl rfl ?_
  refine g_putf W3 (wd_16 hw) Via.refl (Or.inr ⟨(wd_17 hw), rfl, rfl⟩) (wd_3 hw) (ty := .long) (by decide) rfl rfl H3 (i := 0) rfl (jx := 2) rfl d1_16 (pc' := 19) rfl (L' := ((a, ObC Z "com/example/dipper/dipper/Centroids" [("com/example/dipper/dipper/Centroids", "means", "[D", .ref am), ("com/example/dipper/dipper/Centroids", "weights", "[J", .ref aw), ("com/example/dipper/dipper/Centroids", "count", "J", .long cnt), ("com/example/dipper/dipper/Centroids", "min", "D", .double 0), ("com/example/dipper/dipper/Centroids", "max", "D", .double 0)]) :: F)) rfl ?_
  intro T4 W4 H4
  refine g_aloadN W4 d1_19 (pc' := 20) rfl rfl rfl ?_
  refine g_dload W4 d1_20 (pc' := 22) rfl rfl ?_
  refine g_putf W4 (wd_18 hw) Via.refl (Or.inr ⟨(wd_19 hw), rfl, rfl⟩) (wd_3 hw) (ty := .double) (by decide) rfl rfl H4 (i := 0) rfl (jx := 3) rfl d1_22 (pc' := 25) rfl (L' := ((a, ObC Z "com/example/dipper/dipper/Centroids" [("com/example/dipper/dipper/Centroids", "means", "[D", .ref am), ("com/example/dipper/dipper/Centroids", "weights", "[J", .ref aw), ("com/example/dipper/dipper/Centroids", "count", "J", .long cnt), ("com/example/dipper/dipper/Centroids", "min", "D", .double mn), ("com/example/dipper/dipper/Centroids", "max", "D", .double 0)]) :: F)) rfl ?_
  intro T5 W5 H5
  refine g_aloadN W5 d1_25 (pc' := 26) rfl rfl rfl ?_
  refine g_dload W5 d1_26 (pc' := 28) rfl rfl ?_
  refine g_putf W5 (wd_20 hw) Via.refl (Or.inr ⟨(wd_21 hw), rfl, rfl⟩) (wd_3 hw) (ty := .double) (by decide) rfl rfl H5 (i := 0) rfl (jx := 4) rfl d1_28 (pc' := 31) rfl (L' := ((a, ObC Z "com/example/dipper/dipper/Centroids" [("com/example/dipper/dipper/Centroids", "means", "[D", .ref am), ("com/example/dipper/dipper/Centroids", "weights", "[J", .ref aw), ("com/example/dipper/dipper/Centroids", "count", "J", .long cnt), ("com/example/dipper/dipper/Centroids", "min", "D", .double mn), ("com/example/dipper/dipper/Centroids", "max", "D", .double mx)]) :: F)) rfl ?_
  intro T6 W6 H6
  exact g_return W6 d1_31 ⟨rfl, H6⟩ (by decide) (by decide)
set_option maxRecDepth 65536 in
set_option maxHeartbeats 40000000 in
theorem c_half (l : Launch) (Z : State) (a0 : Array Value) (hw : ∀ d ∈ tables_1, d.before a0 Z = true) (n0 : Nat) (a am aw : Addr) (cnt : Int64) (mn mx : UInt64) (vs us : List Value) (n j : Int32) (r : UInt64) (hlen : vs.length.toInt32 = n) (hr : (j < 0 → r = (13826050856027422720 : UInt64)) ∧ (¬ j < 0 → ¬ j < n → r = (13826050856027422720 : UInt64)) ∧ (¬ j < 0 → j < n → ∃ (jx : Nat) (w : Int64), j.toInt = (jx : Int) ∧ us[jx]? = some (.long w) ∧ FP.ddiv (FP.l2d w) (4611686018427387904 : UInt64) = r)) (h0 : Heap) (F : List HRow) (H00 : Hp Z n0 h0 ((a, ObC Z "com/example/dipper/dipper/Centroids" [("com/example/dipper/dipper/Centroids", "means", "[D", .ref am), ("com/example/dipper/dipper/Centroids", "weights", "[J", .ref aw), ("com/example/dipper/dipper/Centroids", "count", "J", .long cnt), ("com/example/dipper/dipper/Centroids", "min", "D", .double mn), ("com/example/dipper/dipper/Centroids", "max", "D", .double mx)]) :: (am, ArC Z .double vs) :: (aw, ArC Z .long us) :: F)) :
    Con l Z n0 ⟨"com/example/dipper/dipper/Centroids", "halfWeightAt", "(I)D"⟩ [] prog_4_method_11_code 2 (some .double) ({ frames := 0, cells := 0, slots := 0, locals := 0 } : Room) #[.ref a, .int j] h0 (fun v h => v = some (.double r) ∧ Hp Z n0 h ((a, ObC Z "com/example/dipper/dipper/Centroids" [("com/example/dipper/dipper/Centroids", "means", "[D", .ref am), ("com/example/dipper/dipper/Centroids", "weights", "[J", .ref aw), ("com/example/dipper/dipper/Centroids", "count", "J", .long cnt), ("com/example/dipper/dipper/Centroids", "min", "D", .double mn), ("com/example/dipper/dipper/Centroids", "max", "D", .double mx)]) :: (am, ArC Z .double vs) :: (aw, ArC Z .long us) :: F)) := by
  refine con_of (plainFor_of_name pn_Centroids) ?_
  intro p e s m below meth c T0 W0 e0
  have H0 : Hp Z n0 T0.heap ((a, ObC Z "com/example/dipper/dipper/Centroids" [("com/example/dipper/dipper/Centroids", "means", "[D", .ref am), ("com/example/dipper/dipper/Centroids", "weights", "[J", .ref aw), ("com/example/dipper/dipper/Centroids", "count", "J", .long cnt), ("com/example/dipper/dipper/Centroids", "min", "D", .double mn), ("com/example/dipper/dipper/Centroids", "max", "D", .double mx)]) :: (am, ArC Z .double vs) :: (aw, ArC Z .long us) :: F) := e0 ▸ H00
  refine g_cast (ef_3 m a j) ?_
  refine g_iloadN W0 d3_0 (pc' := 1) rfl rfl ?_
  refine g_if W0 d3_1 (pcy := 13) (by decide) (pc' := 4) rfl (fun (c1 : j < (0 : Int32)) => ?_) (fun (c1 : ¬ j < (0 : Int32)) => ?_)
  · refine g_ldc2Double W0 (wd_27 hw) d3_13 (pc' := 16) rfl ?_
    refine g_goto W0 d3_16 (pc' := 30) (by decide) ?_
    exact g_dreturn W0 d3_30 ⟨by rw [hr.1 c1], H0⟩ (by decide) (by decide)
  · refine g_iloadN W0 d3_4 (pc' := 5) rfl rfl ?_
    refine g_aloadN W0 d3_5 (pc' := 6) rfl rfl rfl ?_
    refine g_getf W0 (wd_12 hw) Via.refl H0 (i := 0) rfl (jx := 0) rfl d3_6 (pc' := 9) rfl ?_
    intro T2 W2 H2
    refine g_arrlen W2 H2 (i := 1) rfl (x := n) hlen d3_9 (pc' := 10) rfl ?_
    refine g_icmp W2 d3_10 (pcy := 19) (by decide) (pc' := 13) rfl (fun (c3 : j < n) => ?_) (fun (c3 : ¬ j < n) => ?_)
    · obtain ⟨jx, w0, hj, hv, hq⟩ := hr.2.2 c1 c3
      refine g_aloadN W2 d3_19 (pc' := 20) rfl rfl rfl ?_
      refine g_getf W2 (wd_14 hw) Via.refl H2 (i := 0) rfl (jx := 1) rfl d3_20 (pc' := 23) rfl ?_
      intro T4 W4 H4
      refine g_iloadN W4 d3_23 (pc' := 24) rfl rfl ?_
      refine g_laload W4 H4 (i := 2) rfl (jx := jx) hj (v := .long w0) hv d3_24 (pc' := 25) rfl ?_
      refine g_l2d W4 d3_25 (pc' := 26) rfl rfl ?_
      refine g_ldc2Double W4 (wd_31 hw) d3_26 (pc' := 29) rfl ?_
      refine g_ddiv W4 d3_29 (pc' := 30) rfl rfl (own_half_nn w0) ?_
      exact g_dreturn W4 d3_30 ⟨by rw [hq], H4⟩ (by decide) (by decide)
    · refine g_ldc2Double W2 (wd_27 hw) d3_13 (pc' := 16) rfl ?_
      refine g_goto W2 d3_16 (pc' := 30) (by decide) ?_
      exact g_dreturn W2 d3_30 ⟨by rw [hr.2.1 c1 c3], H2⟩ (by decide) (by decide)
set_option maxRecDepth 65536 in
set_option maxHeartbeats 40000000 in
theorem law_con (l : Launch) (Z : State) (a0 : Array Value) (hw : ∀ d ∈ tables_1, d.before a0 Z = true) (n0 : Nat) (p0 p1 : Int32) (p2 p3 p4 : Int64) (h0 : Heap) (H00 : Hp Z n0 h0 []) :
    Con l Z n0 x tables_1 code maxLocals ret room_1 #[.int p0, .int p1, .long p2, .long p3, .long p4] h0 (fun v _ => v = some (.int 1)) := by
  refine con_of (plainFor_of_name pn_CentroidsHalfWeightAtPinLaw) ?_
  intro p e s m below meth c T0 W0 e0
  have H0 : Hp Z n0 T0.heap [] := e0 ▸ H00
  refine g_cast (ef_0 m p0 p1 p2 p3 p4) ?_
  refine g_iloadN W0 at_0 (pc' := 1) rfl rfl ?_
  refine g_iconst W0 at_1 (pc' := 2) rfl (v := (3 : Int32)) (by decide) ?_
  refine g_iand W0 at_2 (pc' := 3) rfl rfl ?_
  rcases and3 p0 with hn | hn | hn | hn
  · rw [hn]
    refine g_istore W0 at_3 (pc' := 5) rfl (ls' := #[.val (.int p0), .val (.int p1), .val (.long p2), .second, .val (.long p3), .second, .val (.long p4), .second, .val (.int (0 : Int32)), .unset, .unset, .unset, .unset, .unset, .unset, .unset, .unset, .unset, .unset, .unset, .unset]) rfl ?_
    refine g_iload W0 at_5 (pc' := 7) rfl rfl ?_
    refine g_newarr (aty := .double) W0 (wd_0 hw) H0 (by decide) (vs := []) rfl (cap := 0) (Nat.le_of_eq rfl) (by decide) at_7 (pc' := 9) rfl (kc' := 1) (ks' := 0) rfl rfl (by decide) (by decide) ?_
    intro T1 a1 W1 H1
    replace H1 : Hp Z n0 T1.heap [(a1, ArC Z .double [])] := H1
    refine g_astore W1 at_9 (pc' := 11) rfl rfl (ls' := #[.val (.int p0), .val (.int p1), .val (.long p2), .second, .val (.long p3), .second, .val (.long p4), .second, .val (.int (0 : Int32)), .val (.ref a1), .unset, .unset, .unset, .unset, .unset, .unset, .unset, .unset, .unset, .unset, .unset]) rfl ?_
    refine g_iload W1 at_11 (pc' := 13) rfl rfl ?_
    refine g_newarr (aty := .long) W1 (wd_1 hw) H1 (by decide) (vs := []) rfl (cap := 0) (Nat.le_of_eq rfl) (by decide) at_13 (pc' := 15) rfl (kc' := 2) (ks' := 0) rfl rfl (by decide) (by decide) ?_
    intro T2 a2 W2 H2
    replace H2 : Hp Z n0 T2.heap [(a2, ArC Z .long []), (a1, ArC Z .double [])] := H2
    refine g_astore W2 at_15 (pc' := 17) rfl rfl (ls' := #[.val (.int p0), .val (.int p1), .val (.long p2), .second, .val (.long p3), .second, .val (.long p4), .second, .val (.int (0 : Int32)), .val (.ref a1), .val (.ref a2), .unset, .unset, .unset, .unset, .unset, .unset, .unset, .unset, .unset, .unset]) rfl ?_
    refine g_iload W2 at_17 (pc' := 19) rfl rfl ?_
    refine g_if W2 at_19 (pcy := 32) (by decide) (pc' := 22) rfl (fun _ => ?_) (fun (h : ¬ ¬ (0 : Int32) < (0 : Int32)) => absurd h (by decide))
    refine g_iload W2 at_32 (pc' := 34) rfl rfl ?_
    refine g_iconst W2 at_34 (pc' := 35) rfl (v := (1 : Int32)) (by decide) ?_
    refine g_icmp W2 at_35 (pcy := 51) (by decide) (pc' := 38) rfl (fun _ => ?_) (fun (h : ¬ ¬ (1 : Int32) < (0 : Int32)) => absurd h (by decide))
    refine g_iload W2 at_51 (pc' := 53) rfl rfl ?_
    refine g_iconst W2 at_53 (pc' := 54) rfl (v := (2 : Int32)) (by decide) ?_
    refine g_icmp W2 at_54 (pcy := 70) (by decide) (pc' := 57) rfl (fun _ => ?_) (fun (h : ¬ ¬ (2 : Int32) < (0 : Int32)) => absurd h (by decide))
    refine g_lconst W2 at_70 (pc' := 71) rfl (v := (0 : Int64)) (by decide) ?_
    refine g_lstore W2 at_71 (pc' := 73) rfl (ls' := #[.val (.int p0), .val (.int p1), .val (.long p2), .second, .val (.long p3), .second, .val (.long p4), .second, .val (.int (0 : Int32)), .val (.ref a1), .val (.ref a2), .val (.long (0 : Int64)), .second, .unset, .unset, .unset, .unset, .unset, .unset, .unset, .unset]) rfl ?_
    refine g_iload W2 at_73 (pc' := 75) rfl rfl ?_
    refine g_if W2 at_75 (pcy := 84) (by decide) (pc' := 78) rfl (fun _ => ?_) (fun (h : ¬ ¬ (0 : Int32) < (0 : Int32)) => absurd h (by decide))
    refine g_iload W2 at_84 (pc' := 86) rfl rfl ?_
    refine g_iconst W2 at_86 (pc' := 87) rfl (v := (1 : Int32)) (by decide) ?_
    refine g_icmp W2 at_87 (pcy := 97) (by decide) (pc' := 90) rfl (fun _ => ?_) (fun (h : ¬ ¬ (1 : Int32) < (0 : Int32)) => absurd h (by decide))
    refine g_iload W2 at_97 (pc' := 99) rfl rfl ?_
    refine g_iconst W2 at_99 (pc' := 100) rfl (v := (2 : Int32)) (by decide) ?_
    refine g_icmp W2 at_100 (pcy := 110) (by decide) (pc' := 103) rfl (fun _ => ?_) (fun (h : ¬ ¬ (2 : Int32) < (0 : Int32)) => absurd h (by decide))
    refine g_new W2 (wd_2 hw) (wd_3 hw) (wd_4 hw) (la_Centroids hw) (by decide) H2 at_110 (pc' := 113) rfl (kc' := 3) (ks' := 5) rfl rfl (by decide) (by decide) ?_
    intro T3 a3 W3 H3
    refine g_dup W3 at_113 (pc' := 114) rfl rfl ?_
    refine g_aload W3 at_114 (pc' := 116) rfl rfl rfl ?_
    refine g_aload W3 at_116 (pc' := 118) rfl rfl rfl ?_
    refine g_lload W3 at_118 (pc' := 120) rfl rfl ?_
    refine g_dconst0 W3 at_120 (pc' := 121) rfl ?_
    refine g_ldc2Double W3 (wd_5 hw) at_121 (pc' := 124) rfl ?_
    refine g_callI W3 (argsL := [.ref a1, .ref a2, .long (0 : Int64), .double 0, .double (4616189618054758400 : UInt64)]) (st := [.ref a3]) rfl (wd_6 hw) (wd_7 hw) (wd_4 hw) (wd_8 hw) (by decide) (a := a3) (c_init l Z a0 hw n0 a3 a1 a2 (0 : Int64) 0 (4616189618054758400 : UInt64) _ _ H3) pd_0 rfl rfl rfl at_124 (pc' := 127) rfl (by decide) (Wn := 1) (Nat.le_of_eq rfl) (by decide) (kc' := 3) (ks' := 5) rfl rfl (by decide) (by decide) ?_
    intro T4 v4 W4 hp4
    obtain ⟨rfl, H4⟩ := hp4
    show Goes p e below _ (T4.setTop (mkF m 127 #[.val (.int p0), .val (.int p1), .val (.long p2), .second, .val (.long p3), .second, .val (.long p4), .second, .val (.int (0 : Int32)), .val (.ref a1), .val (.ref a2), .val (.long (0 : Int64)), .second, .unset, .unset, .unset, .unset, .unset, .unset, .unset, .unset] [.ref a3]))
    refine g_astore W4 at_127 (pc' := 129) rfl rfl (ls' := #[.val (.int p0), .val (.int p1), .val (.long p2), .second, .val (.long p3), .second, .val (.long p4), .second, .val (.int (0 : Int32)), .val (.ref a1), .val (.ref a2), .val (.long (0 : Int64)), .second, .val (.ref a3), .unset, .unset, .unset, .unset, .unset, .unset, .unset]) rfl ?_
    refine g_iloadN W4 at_129 (pc' := 130) rfl rfl ?_
    refine g_iconst W4 at_130 (pc' := 131) rfl (v := (4 : Int32)) (by decide) ?_
    refine g_iand W4 at_131 (pc' := 132) rfl rfl ?_
    have J : ∀ (TJJ : State) (j : Int32), Wk Z x code maxLocals ret n0 p l e room_1 s m #[.int p0, .int p1, .long p2, .long p3, .long p4] below meth c TJJ 3 5 → Hp Z n0 TJJ.heap [(a3, ObC Z "com/example/dipper/dipper/Centroids" [("com/example/dipper/dipper/Centroids", "means", "[D", .ref a1), ("com/example/dipper/dipper/Centroids", "weights", "[J", .ref a2), ("com/example/dipper/dipper/Centroids", "count", "J", .long (0 : Int64)), ("com/example/dipper/dipper/Centroids", "min", "D", .double 0), ("com/example/dipper/dipper/Centroids", "max", "D", .double (4616189618054758400 : UInt64))]), (a2, ArC Z .long []), (a1, ArC Z .double [])] → Goes p e below (En s n0 (Room.cells room_1) (Room.slots room_1) (fun v _ => v = some (.int 1))) (TJJ.setTop (mkF m 145 #[.val (.int p0), .val (.int p1), .val (.long p2), .second, .val (.long p3), .second, .val (.long p4), .second, .val (.int (0 : Int32)), .val (.ref a1), .val (.ref a2), .val (.long (0 : Int64)), .second, .val (.ref a3), .unset, .unset, .unset, .unset, .unset, .unset, .unset] [.int j])) := by
      intro TJJ j WJJ HJJ
      refine g_istore WJJ at_145 (pc' := 147) rfl (ls' := #[.val (.int p0), .val (.int p1), .val (.long p2), .second, .val (.long p3), .second, .val (.long p4), .second, .val (.int (0 : Int32)), .val (.ref a1), .val (.ref a2), .val (.long (0 : Int64)), .second, .val (.ref a3), .val (.int j), .unset, .unset, .unset, .unset, .unset, .unset]) rfl ?_
      refine g_aload WJJ at_147 (pc' := 149) rfl rfl rfl ?_
      refine g_iload WJJ at_149 (pc' := 151) rfl rfl ?_
      have H5f : Hp Z n0 TJJ.heap [(a2, ArC Z .long []), (a3, ObC Z "com/example/dipper/dipper/Centroids" [("com/example/dipper/dipper/Centroids", "means", "[D", .ref a1), ("com/example/dipper/dipper/Centroids", "weights", "[J", .ref a2), ("com/example/dipper/dipper/Centroids", "count", "J", .long (0 : Int64)), ("com/example/dipper/dipper/Centroids", "min", "D", .double 0), ("com/example/dipper/dipper/Centroids", "max", "D", .double (4616189618054758400 : UInt64))]), (a1, ArC Z .double [])] := HJJ.front (i := 1) rfl rfl
      have H6f : Hp Z n0 TJJ.heap [(a1, ArC Z .double []), (a2, ArC Z .long []), (a3, ObC Z "com/example/dipper/dipper/Centroids" [("com/example/dipper/dipper/Centroids", "means", "[D", .ref a1), ("com/example/dipper/dipper/Centroids", "weights", "[J", .ref a2), ("com/example/dipper/dipper/Centroids", "count", "J", .long (0 : Int64)), ("com/example/dipper/dipper/Centroids", "min", "D", .double 0), ("com/example/dipper/dipper/Centroids", "max", "D", .double (4616189618054758400 : UInt64))])] := H5f.front (i := 2) rfl rfl
      have H7f : Hp Z n0 TJJ.heap [(a3, ObC Z "com/example/dipper/dipper/Centroids" [("com/example/dipper/dipper/Centroids", "means", "[D", .ref a1), ("com/example/dipper/dipper/Centroids", "weights", "[J", .ref a2), ("com/example/dipper/dipper/Centroids", "count", "J", .long (0 : Int64)), ("com/example/dipper/dipper/Centroids", "min", "D", .double 0), ("com/example/dipper/dipper/Centroids", "max", "D", .double (4616189618054758400 : UInt64))]), (a1, ArC Z .double []), (a2, ArC Z .long [])] := H6f.front (i := 2) rfl rfl
      rcases Classical.em (j < (0 : Int32)) with h1 | h1
      · refine g_callV WJJ (argsL := [.int j]) (st := []) (wd_22 hw) (wd_23 hw) (wd_25 hw) (wd_24 hw) (wd_4 hw) (wd_26 hw) (by decide) (a := a3) H7f (i := 0) rfl (c_half l Z a0 hw n0 a3 a1 a2 (0 : Int64) 0 (4616189618054758400 : UInt64) [] [] (0 : Int32) j (13826050856027422720 : UInt64) rfl ⟨fun _ => rfl, fun q => absurd h1 q, fun q => absurd h1 q⟩ _ _ H7f) pd_1 rfl rfl rfl at_151 (pc' := 154) rfl (by decide) (Wn := 0) (Nat.le_of_eq rfl) (by decide) (kc' := 3) (ks' := 5) rfl rfl (by decide) (by decide) ?_
        intro T8 v8 W8 hp8
        obtain ⟨rfl, H8⟩ := hp8
        show Goes p e below _ (T8.setTop (mkF m 154 #[.val (.int p0), .val (.int p1), .val (.long p2), .second, .val (.long p3), .second, .val (.long p4), .second, .val (.int (0 : Int32)), .val (.ref a1), .val (.ref a2), .val (.long (0 : Int64)), .second, .val (.ref a3), .val (.int j), .unset, .unset, .unset, .unset, .unset, .unset] [.double (13826050856027422720 : UInt64)]))
        refine g_dstore W8 at_154 (pc' := 156) rfl (ls' := #[.val (.int p0), .val (.int p1), .val (.long p2), .second, .val (.long p3), .second, .val (.long p4), .second, .val (.int (0 : Int32)), .val (.ref a1), .val (.ref a2), .val (.long (0 : Int64)), .second, .val (.ref a3), .val (.int j), .val (.double (13826050856027422720 : UInt64)), .second, .unset, .unset, .unset, .unset]) rfl ?_
        refine g_iload W8 at_156 (pc' := 158) rfl rfl ?_
        refine g_if W8 at_158 (pcy := 168) (by decide) (pc' := 161) rfl (fun (c9 : j < (0 : Int32)) => ?_) (fun (c9 : ¬ j < (0 : Int32)) => ?_)
        · refine g_dload W8 at_168 (pc' := 170) rfl rfl ?_
          refine g_ldc2Double W8 (wd_28 hw) at_170 (pc' := 173) rfl ?_
          refine g_dcmp W8 at_173 (pc' := 174) rfl rfl ?_
          rw [show (cmpValue (FP.dcmp (13826050856027422720 : UInt64) (13826050856027422720 : UInt64)) .l) = (0 : Int32) from by decide +kernel]
          refine g_if W8 at_174 (pcy := 181) (by decide) (pc' := 177) rfl (fun (h : ¬ (0 : Int32) = (0 : Int32)) => absurd h (by decide)) (fun _ => ?_)
          refine g_iconst W8 at_177 (pc' := 178) rfl (v := (1 : Int32)) (by decide) ?_
          refine g_goto W8 at_178 (pc' := 182) (by decide) ?_
          exact g_zreturn W8 (by decide) at_182 rfl (by decide) (by decide)
        · exact absurd h1 c9
      · rcases Classical.em (j < (0 : Int32)) with h2 | h2
        · exact lt0 h1 h2
        · refine g_callV WJJ (argsL := [.int j]) (st := []) (wd_22 hw) (wd_23 hw) (wd_25 hw) (wd_24 hw) (wd_4 hw) (wd_26 hw) (by decide) (a := a3) H7f (i := 0) rfl (c_half l Z a0 hw n0 a3 a1 a2 (0 : Int64) 0 (4616189618054758400 : UInt64) [] [] (0 : Int32) j (13826050856027422720 : UInt64) rfl ⟨fun q => absurd q h1, fun _ _ => rfl, fun _ q => absurd q h2⟩ _ _ H7f) pd_1 rfl rfl rfl at_151 (pc' := 154) rfl (by decide) (Wn := 0) (Nat.le_of_eq rfl) (by decide) (kc' := 3) (ks' := 5) rfl rfl (by decide) (by decide) ?_
          intro T10 v10 W10 hp10
          obtain ⟨rfl, H10⟩ := hp10
          show Goes p e below _ (T10.setTop (mkF m 154 #[.val (.int p0), .val (.int p1), .val (.long p2), .second, .val (.long p3), .second, .val (.long p4), .second, .val (.int (0 : Int32)), .val (.ref a1), .val (.ref a2), .val (.long (0 : Int64)), .second, .val (.ref a3), .val (.int j), .unset, .unset, .unset, .unset, .unset, .unset] [.double (13826050856027422720 : UInt64)]))
          refine g_dstore W10 at_154 (pc' := 156) rfl (ls' := #[.val (.int p0), .val (.int p1), .val (.long p2), .second, .val (.long p3), .second, .val (.long p4), .second, .val (.int (0 : Int32)), .val (.ref a1), .val (.ref a2), .val (.long (0 : Int64)), .second, .val (.ref a3), .val (.int j), .val (.double (13826050856027422720 : UInt64)), .second, .unset, .unset, .unset, .unset]) rfl ?_
          refine g_iload W10 at_156 (pc' := 158) rfl rfl ?_
          refine g_if W10 at_158 (pcy := 168) (by decide) (pc' := 161) rfl (fun (c11 : j < (0 : Int32)) => ?_) (fun (c11 : ¬ j < (0 : Int32)) => ?_)
          · exact absurd c11 h1
          · refine g_iload W10 at_161 (pc' := 163) rfl rfl ?_
            refine g_iload W10 at_163 (pc' := 165) rfl rfl ?_
            refine g_icmp W10 at_165 (pcy := 183) (by decide) (pc' := 168) rfl (fun (c12 : j < (0 : Int32)) => ?_) (fun (c12 : ¬ j < (0 : Int32)) => ?_)
            · exact absurd c12 h2
            · refine g_dload W10 at_168 (pc' := 170) rfl rfl ?_
              refine g_ldc2Double W10 (wd_28 hw) at_170 (pc' := 173) rfl ?_
              refine g_dcmp W10 at_173 (pc' := 174) rfl rfl ?_
              rw [show (cmpValue (FP.dcmp (13826050856027422720 : UInt64) (13826050856027422720 : UInt64)) .l) = (0 : Int32) from by decide +kernel]
              refine g_if W10 at_174 (pcy := 181) (by decide) (pc' := 177) rfl (fun (h : ¬ (0 : Int32) = (0 : Int32)) => absurd h (by decide)) (fun _ => ?_)
              refine g_iconst W10 at_177 (pc' := 178) rfl (v := (1 : Int32)) (by decide) ?_
              refine g_goto W10 at_178 (pc' := 182) (by decide) ?_
              exact g_zreturn W10 (by decide) at_182 rfl (by decide) (by decide)
    refine g_if W4 at_132 (pcy := 139) (by decide) (pc' := 135) rfl (fun (c13 : (p0 &&& (4 : Int32)) = (0 : Int32)) => ?_) (fun (c13 : ¬ (p0 &&& (4 : Int32)) = (0 : Int32)) => ?_)
    · refine g_iloadN W4 at_139 (pc' := 140) rfl rfl ?_
      refine g_bipush W4 at_140 (pc' := 142) rfl (v := (7 : Int32)) (by decide) ?_
      refine g_iand W4 at_142 (pc' := 143) rfl rfl ?_
      refine g_iconst W4 at_143 (pc' := 144) rfl (v := (2 : Int32)) (by decide) ?_
      refine g_isub W4 at_144 (pc' := 145) rfl rfl ?_
      exact J _ _ W4 H4
    · refine g_iloadN W4 at_135 (pc' := 136) rfl rfl ?_
      refine g_goto W4 at_136 (pc' := 145) (by decide) ?_
      exact J _ _ W4 H4
  · rw [hn]
    refine g_istore W0 at_3 (pc' := 5) rfl (ls' := #[.val (.int p0), .val (.int p1), .val (.long p2), .second, .val (.long p3), .second, .val (.long p4), .second, .val (.int (1 : Int32)), .unset, .unset, .unset, .unset, .unset, .unset, .unset, .unset, .unset, .unset, .unset, .unset]) rfl ?_
    refine g_iload W0 at_5 (pc' := 7) rfl rfl ?_
    refine g_newarr (aty := .double) W0 (wd_0 hw) H0 (by decide) (vs := [.double 0]) rfl (cap := 1) (Nat.le_of_eq rfl) (by decide) at_7 (pc' := 9) rfl (kc' := 1) (ks' := 1) rfl rfl (by decide) (by decide) ?_
    intro T14 a14 W14 H14
    replace H14 : Hp Z n0 T14.heap [(a14, ArC Z .double [.double 0])] := H14
    refine g_astore W14 at_9 (pc' := 11) rfl rfl (ls' := #[.val (.int p0), .val (.int p1), .val (.long p2), .second, .val (.long p3), .second, .val (.long p4), .second, .val (.int (1 : Int32)), .val (.ref a14), .unset, .unset, .unset, .unset, .unset, .unset, .unset, .unset, .unset, .unset, .unset]) rfl ?_
    refine g_iload W14 at_11 (pc' := 13) rfl rfl ?_
    refine g_newarr (aty := .long) W14 (wd_1 hw) H14 (by decide) (vs := [.long 0]) rfl (cap := 1) (Nat.le_of_eq rfl) (by decide) at_13 (pc' := 15) rfl (kc' := 2) (ks' := 2) rfl rfl (by decide) (by decide) ?_
    intro T15 a15 W15 H15
    replace H15 : Hp Z n0 T15.heap [(a15, ArC Z .long [.long 0]), (a14, ArC Z .double [.double 0])] := H15
    refine g_astore W15 at_15 (pc' := 17) rfl rfl (ls' := #[.val (.int p0), .val (.int p1), .val (.long p2), .second, .val (.long p3), .second, .val (.long p4), .second, .val (.int (1 : Int32)), .val (.ref a14), .val (.ref a15), .unset, .unset, .unset, .unset, .unset, .unset, .unset, .unset, .unset, .unset]) rfl ?_
    refine g_iload W15 at_17 (pc' := 19) rfl rfl ?_
    refine g_if W15 at_19 (pcy := 32) (by decide) (pc' := 22) rfl (fun (h : ¬ (0 : Int32) < (1 : Int32)) => absurd h (by decide)) (fun _ => ?_)
    refine g_aload W15 at_22 (pc' := 24) rfl rfl rfl ?_
    refine g_iconst W15 at_24 (pc' := 25) rfl (v := (0 : Int32)) (by decide) ?_
    refine g_dconst1 W15 at_25 (pc' := 26) rfl ?_
    refine g_dastore W15 H15 (i := 1) rfl (jx := 0) (by decide) (by exact (by decide : 0 < 1)) at_26 (pc' := 27) rfl (L' := [(a15, ArC Z .long [.long 0]), (a14, ArC Z .double [.double (4607182418800017408 : UInt64)])]) rfl ?_
    intro T16 W16 H16
    refine g_aload W16 at_27 (pc' := 29) rfl rfl rfl ?_
    refine g_iconst W16 at_29 (pc' := 30) rfl (v := (0 : Int32)) (by decide) ?_
    refine g_lloadN W16 at_30 (pc' := 31) rfl rfl ?_
    refine g_lastore W16 H16 (i := 0) rfl (jx := 0) (by decide) (by exact (by decide : 0 < 1)) at_31 (pc' := 32) rfl (L' := [(a15, ArC Z .long [.long p2]), (a14, ArC Z .double [.double (4607182418800017408 : UInt64)])]) rfl ?_
    intro T17 W17 H17
    refine g_iload W17 at_32 (pc' := 34) rfl rfl ?_
    refine g_iconst W17 at_34 (pc' := 35) rfl (v := (1 : Int32)) (by decide) ?_
    refine g_icmp W17 at_35 (pcy := 51) (by decide) (pc' := 38) rfl (fun _ => ?_) (fun (h : ¬ ¬ (1 : Int32) < (1 : Int32)) => absurd h (by decide))
    refine g_iload W17 at_51 (pc' := 53) rfl rfl ?_
    refine g_iconst W17 at_53 (pc' := 54) rfl (v := (2 : Int32)) (by decide) ?_
    refine g_icmp W17 at_54 (pcy := 70) (by decide) (pc' := 57) rfl (fun _ => ?_) (fun (h : ¬ ¬ (2 : Int32) < (1 : Int32)) => absurd h (by decide))
    refine g_lconst W17 at_70 (pc' := 71) rfl (v := (0 : Int64)) (by decide) ?_
    refine g_lstore W17 at_71 (pc' := 73) rfl (ls' := #[.val (.int p0), .val (.int p1), .val (.long p2), .second, .val (.long p3), .second, .val (.long p4), .second, .val (.int (1 : Int32)), .val (.ref a14), .val (.ref a15), .val (.long (0 : Int64)), .second, .unset, .unset, .unset, .unset, .unset, .unset, .unset, .unset]) rfl ?_
    refine g_iload W17 at_73 (pc' := 75) rfl rfl ?_
    refine g_if W17 at_75 (pcy := 84) (by decide) (pc' := 78) rfl (fun (h : ¬ (0 : Int32) < (1 : Int32)) => absurd h (by decide)) (fun _ => ?_)
    refine g_lload W17 at_78 (pc' := 80) rfl rfl ?_
    refine g_lloadN W17 at_80 (pc' := 81) rfl rfl ?_
    refine g_ladd W17 at_81 (pc' := 82) rfl rfl ?_
    refine g_lstore W17 at_82 (pc' := 84) rfl (ls' := #[.val (.int p0), .val (.int p1), .val (.long p2), .second, .val (.long p3), .second, .val (.long p4), .second, .val (.int (1 : Int32)), .val (.ref a14), .val (.ref a15), .val (.long ((0 : Int64) + p2)), .second, .unset, .unset, .unset, .unset, .unset, .unset, .unset, .unset]) rfl ?_
    refine g_iload W17 at_84 (pc' := 86) rfl rfl ?_
    refine g_iconst W17 at_86 (pc' := 87) rfl (v := (1 : Int32)) (by decide) ?_
    refine g_icmp W17 at_87 (pcy := 97) (by decide) (pc' := 90) rfl (fun _ => ?_) (fun (h : ¬ ¬ (1 : Int32) < (1 : Int32)) => absurd h (by decide))
    refine g_iload W17 at_97 (pc' := 99) rfl rfl ?_
    refine g_iconst W17 at_99 (pc' := 100) rfl (v := (2 : Int32)) (by decide) ?_
    refine g_icmp W17 at_100 (pcy := 110) (by decide) (pc' := 103) rfl (fun _ => ?_) (fun (h : ¬ ¬ (2 : Int32) < (1 : Int32)) => absurd h (by decide))
    refine g_new W17 (wd_2 hw) (wd_3 hw) (wd_4 hw) (la_Centroids hw) (by decide) H17 at_110 (pc' := 113) rfl (kc' := 3) (ks' := 7) rfl rfl (by decide) (by decide) ?_
    intro T18 a18 W18 H18
    refine g_dup W18 at_113 (pc' := 114) rfl rfl ?_
    refine g_aload W18 at_114 (pc' := 116) rfl rfl rfl ?_
    refine g_aload W18 at_116 (pc' := 118) rfl rfl rfl ?_
    refine g_lload W18 at_118 (pc' := 120) rfl rfl ?_
    refine g_dconst0 W18 at_120 (pc' := 121) rfl ?_
    refine g_ldc2Double W18 (wd_5 hw) at_121 (pc' := 124) rfl ?_
    refine g_callI W18 (argsL := [.ref a14, .ref a15, .long ((0 : Int64) + p2), .double 0, .double (4616189618054758400 : UInt64)]) (st := [.ref a18]) rfl (wd_6 hw) (wd_7 hw) (wd_4 hw) (wd_8 hw) (by decide) (a := a18) (c_init l Z a0 hw n0 a18 a14 a15 ((0 : Int64) + p2) 0 (4616189618054758400 : UInt64) _ _ H18) pd_0 rfl rfl rfl at_124 (pc' := 127) rfl (by decide) (Wn := 1) (Nat.le_of_eq rfl) (by decide) (kc' := 3) (ks' := 7) rfl rfl (by decide) (by decide) ?_
    intro T19 v19 W19 hp19
    obtain ⟨rfl, H19⟩ := hp19
    show Goes p e below _ (T19.setTop (mkF m 127 #[.val (.int p0), .val (.int p1), .val (.long p2), .second, .val (.long p3), .second, .val (.long p4), .second, .val (.int (1 : Int32)), .val (.ref a14), .val (.ref a15), .val (.long ((0 : Int64) + p2)), .second, .unset, .unset, .unset, .unset, .unset, .unset, .unset, .unset] [.ref a18]))
    refine g_astore W19 at_127 (pc' := 129) rfl rfl (ls' := #[.val (.int p0), .val (.int p1), .val (.long p2), .second, .val (.long p3), .second, .val (.long p4), .second, .val (.int (1 : Int32)), .val (.ref a14), .val (.ref a15), .val (.long ((0 : Int64) + p2)), .second, .val (.ref a18), .unset, .unset, .unset, .unset, .unset, .unset, .unset]) rfl ?_
    refine g_iloadN W19 at_129 (pc' := 130) rfl rfl ?_
    refine g_iconst W19 at_130 (pc' := 131) rfl (v := (4 : Int32)) (by decide) ?_
    refine g_iand W19 at_131 (pc' := 132) rfl rfl ?_
    have J : ∀ (TJJ : State) (j : Int32), Wk Z x code maxLocals ret n0 p l e room_1 s m #[.int p0, .int p1, .long p2, .long p3, .long p4] below meth c TJJ 3 7 → Hp Z n0 TJJ.heap [(a18, ObC Z "com/example/dipper/dipper/Centroids" [("com/example/dipper/dipper/Centroids", "means", "[D", .ref a14), ("com/example/dipper/dipper/Centroids", "weights", "[J", .ref a15), ("com/example/dipper/dipper/Centroids", "count", "J", .long ((0 : Int64) + p2)), ("com/example/dipper/dipper/Centroids", "min", "D", .double 0), ("com/example/dipper/dipper/Centroids", "max", "D", .double (4616189618054758400 : UInt64))]), (a15, ArC Z .long [.long p2]), (a14, ArC Z .double [.double (4607182418800017408 : UInt64)])] → Goes p e below (En s n0 (Room.cells room_1) (Room.slots room_1) (fun v _ => v = some (.int 1))) (TJJ.setTop (mkF m 145 #[.val (.int p0), .val (.int p1), .val (.long p2), .second, .val (.long p3), .second, .val (.long p4), .second, .val (.int (1 : Int32)), .val (.ref a14), .val (.ref a15), .val (.long ((0 : Int64) + p2)), .second, .val (.ref a18), .unset, .unset, .unset, .unset, .unset, .unset, .unset] [.int j])) := by
      intro TJJ j WJJ HJJ
      refine g_istore WJJ at_145 (pc' := 147) rfl (ls' := #[.val (.int p0), .val (.int p1), .val (.long p2), .second, .val (.long p3), .second, .val (.long p4), .second, .val (.int (1 : Int32)), .val (.ref a14), .val (.ref a15), .val (.long ((0 : Int64) + p2)), .second, .val (.ref a18), .val (.int j), .unset, .unset, .unset, .unset, .unset, .unset]) rfl ?_
      refine g_aload WJJ at_147 (pc' := 149) rfl rfl rfl ?_
      refine g_iload WJJ at_149 (pc' := 151) rfl rfl ?_
      have H20f : Hp Z n0 TJJ.heap [(a15, ArC Z .long [.long p2]), (a18, ObC Z "com/example/dipper/dipper/Centroids" [("com/example/dipper/dipper/Centroids", "means", "[D", .ref a14), ("com/example/dipper/dipper/Centroids", "weights", "[J", .ref a15), ("com/example/dipper/dipper/Centroids", "count", "J", .long ((0 : Int64) + p2)), ("com/example/dipper/dipper/Centroids", "min", "D", .double 0), ("com/example/dipper/dipper/Centroids", "max", "D", .double (4616189618054758400 : UInt64))]), (a14, ArC Z .double [.double (4607182418800017408 : UInt64)])] := HJJ.front (i := 1) rfl rfl
      have H21f : Hp Z n0 TJJ.heap [(a14, ArC Z .double [.double (4607182418800017408 : UInt64)]), (a15, ArC Z .long [.long p2]), (a18, ObC Z "com/example/dipper/dipper/Centroids" [("com/example/dipper/dipper/Centroids", "means", "[D", .ref a14), ("com/example/dipper/dipper/Centroids", "weights", "[J", .ref a15), ("com/example/dipper/dipper/Centroids", "count", "J", .long ((0 : Int64) + p2)), ("com/example/dipper/dipper/Centroids", "min", "D", .double 0), ("com/example/dipper/dipper/Centroids", "max", "D", .double (4616189618054758400 : UInt64))])] := H20f.front (i := 2) rfl rfl
      have H22f : Hp Z n0 TJJ.heap [(a18, ObC Z "com/example/dipper/dipper/Centroids" [("com/example/dipper/dipper/Centroids", "means", "[D", .ref a14), ("com/example/dipper/dipper/Centroids", "weights", "[J", .ref a15), ("com/example/dipper/dipper/Centroids", "count", "J", .long ((0 : Int64) + p2)), ("com/example/dipper/dipper/Centroids", "min", "D", .double 0), ("com/example/dipper/dipper/Centroids", "max", "D", .double (4616189618054758400 : UInt64))]), (a14, ArC Z .double [.double (4607182418800017408 : UInt64)]), (a15, ArC Z .long [.long p2])] := H21f.front (i := 2) rfl rfl
      rcases Classical.em (j < (0 : Int32)) with h1 | h1
      · refine g_callV WJJ (argsL := [.int j]) (st := []) (wd_22 hw) (wd_23 hw) (wd_25 hw) (wd_24 hw) (wd_4 hw) (wd_26 hw) (by decide) (a := a18) H22f (i := 0) rfl (c_half l Z a0 hw n0 a18 a14 a15 ((0 : Int64) + p2) 0 (4616189618054758400 : UInt64) [.double (4607182418800017408 : UInt64)] [.long p2] (1 : Int32) j (13826050856027422720 : UInt64) rfl ⟨fun _ => rfl, fun q => absurd h1 q, fun q => absurd h1 q⟩ _ _ H22f) pd_1 rfl rfl rfl at_151 (pc' := 154) rfl (by decide) (Wn := 0) (Nat.le_of_eq rfl) (by decide) (kc' := 3) (ks' := 7) rfl rfl (by decide) (by decide) ?_
        intro T23 v23 W23 hp23
        obtain ⟨rfl, H23⟩ := hp23
        show Goes p e below _ (T23.setTop (mkF m 154 #[.val (.int p0), .val (.int p1), .val (.long p2), .second, .val (.long p3), .second, .val (.long p4), .second, .val (.int (1 : Int32)), .val (.ref a14), .val (.ref a15), .val (.long ((0 : Int64) + p2)), .second, .val (.ref a18), .val (.int j), .unset, .unset, .unset, .unset, .unset, .unset] [.double (13826050856027422720 : UInt64)]))
        refine g_dstore W23 at_154 (pc' := 156) rfl (ls' := #[.val (.int p0), .val (.int p1), .val (.long p2), .second, .val (.long p3), .second, .val (.long p4), .second, .val (.int (1 : Int32)), .val (.ref a14), .val (.ref a15), .val (.long ((0 : Int64) + p2)), .second, .val (.ref a18), .val (.int j), .val (.double (13826050856027422720 : UInt64)), .second, .unset, .unset, .unset, .unset]) rfl ?_
        refine g_iload W23 at_156 (pc' := 158) rfl rfl ?_
        refine g_if W23 at_158 (pcy := 168) (by decide) (pc' := 161) rfl (fun (c24 : j < (0 : Int32)) => ?_) (fun (c24 : ¬ j < (0 : Int32)) => ?_)
        · refine g_dload W23 at_168 (pc' := 170) rfl rfl ?_
          refine g_ldc2Double W23 (wd_28 hw) at_170 (pc' := 173) rfl ?_
          refine g_dcmp W23 at_173 (pc' := 174) rfl rfl ?_
          rw [show (cmpValue (FP.dcmp (13826050856027422720 : UInt64) (13826050856027422720 : UInt64)) .l) = (0 : Int32) from by decide +kernel]
          refine g_if W23 at_174 (pcy := 181) (by decide) (pc' := 177) rfl (fun (h : ¬ (0 : Int32) = (0 : Int32)) => absurd h (by decide)) (fun _ => ?_)
          refine g_iconst W23 at_177 (pc' := 178) rfl (v := (1 : Int32)) (by decide) ?_
          refine g_goto W23 at_178 (pc' := 182) (by decide) ?_
          exact g_zreturn W23 (by decide) at_182 rfl (by decide) (by decide)
        · exact absurd h1 c24
      · rcases Classical.em (j < (1 : Int32)) with h2 | h2
        · have hk := lt1 h1 h2
          subst hk
          refine g_callV WJJ (argsL := [.int (0 : Int32)]) (st := []) (wd_22 hw) (wd_23 hw) (wd_25 hw) (wd_24 hw) (wd_4 hw) (wd_26 hw) (by decide) (a := a18) H22f (i := 0) rfl (c_half l Z a0 hw n0 a18 a14 a15 ((0 : Int64) + p2) 0 (4616189618054758400 : UInt64) [.double (4607182418800017408 : UInt64)] [.long p2] (1 : Int32) (0 : Int32) (FP.ddiv (FP.l2d p2) (4611686018427387904 : UInt64)) rfl ⟨fun q => absurd q (by decide), fun _ q => absurd (by decide) q, fun _ _ => ⟨0, p2, by decide, rfl, rfl⟩⟩ _ _ H22f) pd_1 rfl rfl rfl at_151 (pc' := 154) rfl (by decide) (Wn := 0) (Nat.le_of_eq rfl) (by decide) (kc' := 3) (ks' := 7) rfl rfl (by decide) (by decide) ?_
          intro T25 v25 W25 hp25
          obtain ⟨rfl, H25⟩ := hp25
          show Goes p e below _ (T25.setTop (mkF m 154 #[.val (.int p0), .val (.int p1), .val (.long p2), .second, .val (.long p3), .second, .val (.long p4), .second, .val (.int (1 : Int32)), .val (.ref a14), .val (.ref a15), .val (.long ((0 : Int64) + p2)), .second, .val (.ref a18), .val (.int (0 : Int32)), .unset, .unset, .unset, .unset, .unset, .unset] [.double (FP.ddiv (FP.l2d p2) (4611686018427387904 : UInt64))]))
          refine g_dstore W25 at_154 (pc' := 156) rfl (ls' := #[.val (.int p0), .val (.int p1), .val (.long p2), .second, .val (.long p3), .second, .val (.long p4), .second, .val (.int (1 : Int32)), .val (.ref a14), .val (.ref a15), .val (.long ((0 : Int64) + p2)), .second, .val (.ref a18), .val (.int (0 : Int32)), .val (.double (FP.ddiv (FP.l2d p2) (4611686018427387904 : UInt64))), .second, .unset, .unset, .unset, .unset]) rfl ?_
          refine g_iload W25 at_156 (pc' := 158) rfl rfl ?_
          refine g_if W25 at_158 (pcy := 168) (by decide) (pc' := 161) rfl (fun (h : (0 : Int32) < (0 : Int32)) => absurd h (by decide)) (fun _ => ?_)
          refine g_iload W25 at_161 (pc' := 163) rfl rfl ?_
          refine g_iload W25 at_163 (pc' := 165) rfl rfl ?_
          refine g_icmp W25 at_165 (pcy := 183) (by decide) (pc' := 168) rfl (fun _ => ?_) (fun (h : ¬ (0 : Int32) < (1 : Int32)) => absurd h (by decide))
          refine g_iload W25 at_183 (pc' := 185) rfl rfl ?_
          refine g_if W25 at_185 (pcy := 192) (by decide) (pc' := 188) rfl (fun (h : ¬ (0 : Int32) = (0 : Int32)) => absurd h (by decide)) (fun _ => ?_)
          refine g_lloadN W25 at_188 (pc' := 189) rfl rfl ?_
          refine g_goto W25 at_189 (pc' := 205) (by decide) ?_
          refine g_lstore W25 at_205 (pc' := 207) rfl (ls' := #[.val (.int p0), .val (.int p1), .val (.long p2), .second, .val (.long p3), .second, .val (.long p4), .second, .val (.int (1 : Int32)), .val (.ref a14), .val (.ref a15), .val (.long ((0 : Int64) + p2)), .second, .val (.ref a18), .val (.int (0 : Int32)), .val (.double (FP.ddiv (FP.l2d p2) (4611686018427387904 : UInt64))), .second, .val (.long p2), .second, .unset, .unset]) rfl ?_
          refine g_dload W25 at_207 (pc' := 209) rfl rfl ?_
          refine g_dload W25 at_209 (pc' := 211) rfl rfl ?_
          refine g_dadd W25 at_211 (pc' := 212) rfl rfl (own_dbl p2).1 ?_
          refine g_lload W25 at_212 (pc' := 214) rfl rfl ?_
          refine g_l2d W25 at_214 (pc' := 215) rfl rfl ?_
          refine g_dcmp W25 at_215 (pc' := 216) rfl rfl ?_
          rw [show (cmpValue (FP.dcmp (FP.dadd (FP.ddiv (FP.l2d p2) (4611686018427387904 : UInt64)) (FP.ddiv (FP.l2d p2) (4611686018427387904 : UInt64))) (FP.l2d p2)) .l) = (0 : Int32) from (own_dbl p2).2]
          refine g_if W25 at_216 (pcy := 221) (by decide) (pc' := 219) rfl (fun _ => ?_) (fun (h : ¬ (0 : Int32) = (0 : Int32)) => absurd h (by decide))
          refine g_lload W25 at_221 (pc' := 223) rfl rfl ?_
          refine g_ldc2Long W25 (wd_32 hw) at_223 (pc' := 226) rfl ?_
          refine g_lcmp W25 at_226 (pc' := 227) rfl rfl ?_
          refine g_if W25 at_227 (pcy := 277) (by decide) (pc' := 230) rfl (fun (c26 : ¬ (0 : Int32) < (XT.cmpL p2 (-4503599627370496 : Int64))) => ?_) (fun (c26 : ¬ ¬ (0 : Int32) < (XT.cmpL p2 (-4503599627370496 : Int64))) => ?_)
          · refine g_iconst W25 at_277 (pc' := 278) rfl (v := (1 : Int32)) (by decide) ?_
            exact g_zreturn W25 (by decide) at_278 rfl (by decide) (by decide)
          · replace c26 := Classical.not_not.mp c26
            replace c26 := cmpL_gt0.mp c26
            refine g_lload W25 at_230 (pc' := 232) rfl rfl ?_
            refine g_ldc2Long W25 (wd_33 hw) at_232 (pc' := 235) rfl ?_
            refine g_lcmp W25 at_235 (pc' := 236) rfl rfl ?_
            refine g_if W25 at_236 (pcy := 277) (by decide) (pc' := 239) rfl (fun (c27 : ¬ (XT.cmpL p2 (4503599627370496 : Int64)) < (0 : Int32)) => ?_) (fun (c27 : ¬ ¬ (XT.cmpL p2 (4503599627370496 : Int64)) < (0 : Int32)) => ?_)
            · refine g_iconst W25 at_277 (pc' := 278) rfl (v := (1 : Int32)) (by decide) ?_
              exact g_zreturn W25 (by decide) at_278 rfl (by decide) (by decide)
            · replace c27 := Classical.not_not.mp c27
              have hs := own_small c26 (cmpL_lt0.mp c27)
              refine g_lload W25 at_239 (pc' := 241) rfl rfl ?_
              refine g_iconst W25 at_241 (pc' := 242) rfl (v := (1 : Int32)) (by decide) ?_
              refine g_lshr W25 at_242 (pc' := 243) rfl rfl ?_
              refine g_l2d W25 at_243 (pc' := 244) rfl rfl ?_
              refine g_lload W25 at_244 (pc' := 246) rfl rfl ?_
              refine g_lconst W25 at_246 (pc' := 247) rfl (v := (1 : Int64)) (by decide) ?_
              refine g_land W25 at_247 (pc' := 248) rfl rfl ?_
              refine g_lconst W25 at_248 (pc' := 249) rfl (v := (0 : Int64)) (by decide) ?_
              refine g_lcmp W25 at_249 (pc' := 250) rfl rfl ?_
              refine g_if W25 at_250 (pcy := 259) (by decide) (pc' := 253) rfl (fun (c28 : (XT.cmpL (p2 &&& (1 : Int64)) (0 : Int64)) = (0 : Int32)) => ?_) (fun (c28 : ¬ (XT.cmpL (p2 &&& (1 : Int64)) (0 : Int64)) = (0 : Int32)) => ?_)
              · have hz : (p2 &&& (1 : Int64)) = 0 := cmpL_eq0.mp c28
                refine g_dconst0 W25 at_259 (pc' := 260) rfl ?_
                refine g_dadd W25 at_260 (pc' := 261) rfl rfl (own_even hs hz).1 ?_
                refine g_dstore W25 at_261 (pc' := 263) rfl (ls' := #[.val (.int p0), .val (.int p1), .val (.long p2), .second, .val (.long p3), .second, .val (.long p4), .second, .val (.int (1 : Int32)), .val (.ref a14), .val (.ref a15), .val (.long ((0 : Int64) + p2)), .second, .val (.ref a18), .val (.int (0 : Int32)), .val (.double (FP.ddiv (FP.l2d p2) (4611686018427387904 : UInt64))), .second, .val (.long p2), .second, .val (.double (FP.dadd (FP.l2d (p2 >>> ((1 : Int32).toInt64 &&& 63))) 0)), .second]) rfl ?_
                refine g_dload W25 at_263 (pc' := 265) rfl rfl ?_
                refine g_dload W25 at_265 (pc' := 267) rfl rfl ?_
                refine g_dcmp W25 at_267 (pc' := 268) rfl rfl ?_
                rw [show (cmpValue (FP.dcmp (FP.ddiv (FP.l2d p2) (4611686018427387904 : UInt64)) (FP.dadd (FP.l2d (p2 >>> ((1 : Int32).toInt64 &&& 63))) 0)) .l) = (0 : Int32) from (own_even hs hz).2]
                refine g_if W25 at_268 (pcy := 275) (by decide) (pc' := 271) rfl (fun (h : ¬ (0 : Int32) = (0 : Int32)) => absurd h (by decide)) (fun _ => ?_)
                refine g_iconst W25 at_271 (pc' := 272) rfl (v := (1 : Int32)) (by decide) ?_
                refine g_goto W25 at_272 (pc' := 276) (by decide) ?_
                exact g_zreturn W25 (by decide) at_276 rfl (by decide) (by decide)
              · have hz : ¬ (p2 &&& (1 : Int64)) = 0 := fun q => c28 (cmpL_eq0.mpr q)
                refine g_ldc2Double W25 (wd_34 hw) at_253 (pc' := 256) rfl ?_
                refine g_goto W25 at_256 (pc' := 260) (by decide) ?_
                refine g_dadd W25 at_260 (pc' := 261) rfl rfl (own_odd hs hz).1 ?_
                refine g_dstore W25 at_261 (pc' := 263) rfl (ls' := #[.val (.int p0), .val (.int p1), .val (.long p2), .second, .val (.long p3), .second, .val (.long p4), .second, .val (.int (1 : Int32)), .val (.ref a14), .val (.ref a15), .val (.long ((0 : Int64) + p2)), .second, .val (.ref a18), .val (.int (0 : Int32)), .val (.double (FP.ddiv (FP.l2d p2) (4611686018427387904 : UInt64))), .second, .val (.long p2), .second, .val (.double (FP.dadd (FP.l2d (p2 >>> ((1 : Int32).toInt64 &&& 63))) (4602678819172646912 : UInt64))), .second]) rfl ?_
                refine g_dload W25 at_263 (pc' := 265) rfl rfl ?_
                refine g_dload W25 at_265 (pc' := 267) rfl rfl ?_
                refine g_dcmp W25 at_267 (pc' := 268) rfl rfl ?_
                rw [show (cmpValue (FP.dcmp (FP.ddiv (FP.l2d p2) (4611686018427387904 : UInt64)) (FP.dadd (FP.l2d (p2 >>> ((1 : Int32).toInt64 &&& 63))) (4602678819172646912 : UInt64))) .l) = (0 : Int32) from (own_odd hs hz).2]
                refine g_if W25 at_268 (pcy := 275) (by decide) (pc' := 271) rfl (fun (h : ¬ (0 : Int32) = (0 : Int32)) => absurd h (by decide)) (fun _ => ?_)
                refine g_iconst W25 at_271 (pc' := 272) rfl (v := (1 : Int32)) (by decide) ?_
                refine g_goto W25 at_272 (pc' := 276) (by decide) ?_
                exact g_zreturn W25 (by decide) at_276 rfl (by decide) (by decide)
        · refine g_callV WJJ (argsL := [.int j]) (st := []) (wd_22 hw) (wd_23 hw) (wd_25 hw) (wd_24 hw) (wd_4 hw) (wd_26 hw) (by decide) (a := a18) H22f (i := 0) rfl (c_half l Z a0 hw n0 a18 a14 a15 ((0 : Int64) + p2) 0 (4616189618054758400 : UInt64) [.double (4607182418800017408 : UInt64)] [.long p2] (1 : Int32) j (13826050856027422720 : UInt64) rfl ⟨fun q => absurd q h1, fun _ _ => rfl, fun _ q => absurd q h2⟩ _ _ H22f) pd_1 rfl rfl rfl at_151 (pc' := 154) rfl (by decide) (Wn := 0) (Nat.le_of_eq rfl) (by decide) (kc' := 3) (ks' := 7) rfl rfl (by decide) (by decide) ?_
          intro T29 v29 W29 hp29
          obtain ⟨rfl, H29⟩ := hp29
          show Goes p e below _ (T29.setTop (mkF m 154 #[.val (.int p0), .val (.int p1), .val (.long p2), .second, .val (.long p3), .second, .val (.long p4), .second, .val (.int (1 : Int32)), .val (.ref a14), .val (.ref a15), .val (.long ((0 : Int64) + p2)), .second, .val (.ref a18), .val (.int j), .unset, .unset, .unset, .unset, .unset, .unset] [.double (13826050856027422720 : UInt64)]))
          refine g_dstore W29 at_154 (pc' := 156) rfl (ls' := #[.val (.int p0), .val (.int p1), .val (.long p2), .second, .val (.long p3), .second, .val (.long p4), .second, .val (.int (1 : Int32)), .val (.ref a14), .val (.ref a15), .val (.long ((0 : Int64) + p2)), .second, .val (.ref a18), .val (.int j), .val (.double (13826050856027422720 : UInt64)), .second, .unset, .unset, .unset, .unset]) rfl ?_
          refine g_iload W29 at_156 (pc' := 158) rfl rfl ?_
          refine g_if W29 at_158 (pcy := 168) (by decide) (pc' := 161) rfl (fun (c30 : j < (0 : Int32)) => ?_) (fun (c30 : ¬ j < (0 : Int32)) => ?_)
          · exact absurd c30 h1
          · refine g_iload W29 at_161 (pc' := 163) rfl rfl ?_
            refine g_iload W29 at_163 (pc' := 165) rfl rfl ?_
            refine g_icmp W29 at_165 (pcy := 183) (by decide) (pc' := 168) rfl (fun (c31 : j < (1 : Int32)) => ?_) (fun (c31 : ¬ j < (1 : Int32)) => ?_)
            · exact absurd c31 h2
            · refine g_dload W29 at_168 (pc' := 170) rfl rfl ?_
              refine g_ldc2Double W29 (wd_28 hw) at_170 (pc' := 173) rfl ?_
              refine g_dcmp W29 at_173 (pc' := 174) rfl rfl ?_
              rw [show (cmpValue (FP.dcmp (13826050856027422720 : UInt64) (13826050856027422720 : UInt64)) .l) = (0 : Int32) from by decide +kernel]
              refine g_if W29 at_174 (pcy := 181) (by decide) (pc' := 177) rfl (fun (h : ¬ (0 : Int32) = (0 : Int32)) => absurd h (by decide)) (fun _ => ?_)
              refine g_iconst W29 at_177 (pc' := 178) rfl (v := (1 : Int32)) (by decide) ?_
              refine g_goto W29 at_178 (pc' := 182) (by decide) ?_
              exact g_zreturn W29 (by decide) at_182 rfl (by decide) (by decide)
    refine g_if W19 at_132 (pcy := 139) (by decide) (pc' := 135) rfl (fun (c32 : (p0 &&& (4 : Int32)) = (0 : Int32)) => ?_) (fun (c32 : ¬ (p0 &&& (4 : Int32)) = (0 : Int32)) => ?_)
    · refine g_iloadN W19 at_139 (pc' := 140) rfl rfl ?_
      refine g_bipush W19 at_140 (pc' := 142) rfl (v := (7 : Int32)) (by decide) ?_
      refine g_iand W19 at_142 (pc' := 143) rfl rfl ?_
      refine g_iconst W19 at_143 (pc' := 144) rfl (v := (2 : Int32)) (by decide) ?_
      refine g_isub W19 at_144 (pc' := 145) rfl rfl ?_
      exact J _ _ W19 H19
    · refine g_iloadN W19 at_135 (pc' := 136) rfl rfl ?_
      refine g_goto W19 at_136 (pc' := 145) (by decide) ?_
      exact J _ _ W19 H19
  · rw [hn]
    refine g_istore W0 at_3 (pc' := 5) rfl (ls' := #[.val (.int p0), .val (.int p1), .val (.long p2), .second, .val (.long p3), .second, .val (.long p4), .second, .val (.int (2 : Int32)), .unset, .unset, .unset, .unset, .unset, .unset, .unset, .unset, .unset, .unset, .unset, .unset]) rfl ?_
    refine g_iload W0 at_5 (pc' := 7) rfl rfl ?_
    refine g_newarr (aty := .double) W0 (wd_0 hw) H0 (by decide) (vs := [.double 0, .double 0]) rfl (cap := 2) (Nat.le_of_eq rfl) (by decide) at_7 (pc' := 9) rfl (kc' := 1) (ks' := 2) rfl rfl (by decide) (by decide) ?_
    intro T33 a33 W33 H33
    replace H33 : Hp Z n0 T33.heap [(a33, ArC Z .double [.double 0, .double 0])] := H33
    refine g_astore W33 at_9 (pc' := 11) rfl rfl (ls' := #[.val (.int p0), .val (.int p1), .val (.long p2), .second, .val (.long p3), .second, .val (.long p4), .second, .val (.int (2 : Int32)), .val (.ref a33), .unset, .unset, .unset, .unset, .unset, .unset, .unset, .unset, .unset, .unset, .unset]) rfl ?_
    refine g_iload W33 at_11 (pc' := 13) rfl rfl ?_
    refine g_newarr (aty := .long) W33 (wd_1 hw) H33 (by decide) (vs := [.long 0, .long 0]) rfl (cap := 2) (Nat.le_of_eq rfl) (by decide) at_13 (pc' := 15) rfl (kc' := 2) (ks' := 4) rfl rfl (by decide) (by decide) ?_
    intro T34 a34 W34 H34
    replace H34 : Hp Z n0 T34.heap [(a34, ArC Z .long [.long 0, .long 0]), (a33, ArC Z .double [.double 0, .double 0])] := H34
    refine g_astore W34 at_15 (pc' := 17) rfl rfl (ls' := #[.val (.int p0), .val (.int p1), .val (.long p2), .second, .val (.long p3), .second, .val (.long p4), .second, .val (.int (2 : Int32)), .val (.ref a33), .val (.ref a34), .unset, .unset, .unset, .unset, .unset, .unset, .unset, .unset, .unset, .unset]) rfl ?_
    refine g_iload W34 at_17 (pc' := 19) rfl rfl ?_
    refine g_if W34 at_19 (pcy := 32) (by decide) (pc' := 22) rfl (fun (h : ¬ (0 : Int32) < (2 : Int32)) => absurd h (by decide)) (fun _ => ?_)
    refine g_aload W34 at_22 (pc' := 24) rfl rfl rfl ?_
    refine g_iconst W34 at_24 (pc' := 25) rfl (v := (0 : Int32)) (by decide) ?_
    refine g_dconst1 W34 at_25 (pc' := 26) rfl ?_
    refine g_dastore W34 H34 (i := 1) rfl (jx := 0) (by decide) (by exact (by decide : 0 < 2)) at_26 (pc' := 27) rfl (L' := [(a34, ArC Z .long [.long 0, .long 0]), (a33, ArC Z .double [.double (4607182418800017408 : UInt64), .double 0])]) rfl ?_
    intro T35 W35 H35
    refine g_aload W35 at_27 (pc' := 29) rfl rfl rfl ?_
    refine g_iconst W35 at_29 (pc' := 30) rfl (v := (0 : Int32)) (by decide) ?_
    refine g_lloadN W35 at_30 (pc' := 31) rfl rfl ?_
    refine g_lastore W35 H35 (i := 0) rfl (jx := 0) (by decide) (by exact (by decide : 0 < 2)) at_31 (pc' := 32) rfl (L' := [(a34, ArC Z .long [.long p2, .long 0]), (a33, ArC Z .double [.double (4607182418800017408 : UInt64), .double 0])]) rfl ?_
    intro T36 W36 H36
    refine g_iload W36 at_32 (pc' := 34) rfl rfl ?_
    refine g_iconst W36 at_34 (pc' := 35) rfl (v := (1 : Int32)) (by decide) ?_
    refine g_icmp W36 at_35 (pcy := 51) (by decide) (pc' := 38) rfl (fun (h : ¬ (1 : Int32) < (2 : Int32)) => absurd h (by decide)) (fun _ => ?_)
    refine g_aload W36 at_38 (pc' := 40) rfl rfl rfl ?_
    refine g_iconst W36 at_40 (pc' := 41) rfl (v := (1 : Int32)) (by decide) ?_
    refine g_ldc2Double W36 (wd_29 hw) at_41 (pc' := 44) rfl ?_
    refine g_dastore W36 H36 (i := 1) rfl (jx := 1) (by decide) (by exact (by decide : 1 < 2)) at_44 (pc' := 45) rfl (L' := [(a34, ArC Z .long [.long p2, .long 0]), (a33, ArC Z .double [.double (4607182418800017408 : UInt64), .double (4611686018427387904 : UInt64)])]) rfl ?_
    intro T37 W37 H37
    refine g_aload W37 at_45 (pc' := 47) rfl rfl rfl ?_
    refine g_iconst W37 at_47 (pc' := 48) rfl (v := (1 : Int32)) (by decide) ?_
    refine g_lload W37 at_48 (pc' := 50) rfl rfl ?_
    refine g_lastore W37 H37 (i := 0) rfl (jx := 1) (by decide) (by exact (by decide : 1 < 2)) at_50 (pc' := 51) rfl (L' := [(a34, ArC Z .long [.long p2, .long p3]), (a33, ArC Z .double [.double (4607182418800017408 : UInt64), .double (4611686018427387904 : UInt64)])]) rfl ?_
    intro T38 W38 H38
    refine g_iload W38 at_51 (pc' := 53) rfl rfl ?_
    refine g_iconst W38 at_53 (pc' := 54) rfl (v := (2 : Int32)) (by decide) ?_
    refine g_icmp W38 at_54 (pcy := 70) (by decide) (pc' := 57) rfl (fun _ => ?_) (fun (h : ¬ ¬ (2 : Int32) < (2 : Int32)) => absurd h (by decide))
    refine g_lconst W38 at_70 (pc' := 71) rfl (v := (0 : Int64)) (by decide) ?_
    refine g_lstore W38 at_71 (pc' := 73) rfl (ls' := #[.val (.int p0), .val (.int p1), .val (.long p2), .second, .val (.long p3), .second, .val (.long p4), .second, .val (.int (2 : Int32)), .val (.ref a33), .val (.ref a34), .val (.long (0 : Int64)), .second, .unset, .unset, .unset, .unset, .unset, .unset, .unset, .unset]) rfl ?_
    refine g_iload W38 at_73 (pc' := 75) rfl rfl ?_
    refine g_if W38 at_75 (pcy := 84) (by decide) (pc' := 78) rfl (fun (h : ¬ (0 : Int32) < (2 : Int32)) => absurd h (by decide)) (fun _ => ?_)
    refine g_lload W38 at_78 (pc' := 80) rfl rfl ?_
    refine g_lloadN W38 at_80 (pc' := 81) rfl rfl ?_
    refine g_ladd W38 at_81 (pc' := 82) rfl rfl ?_
    refine g_lstore W38 at_82 (pc' := 84) rfl (ls' := #[.val (.int p0), .val (.int p1), .val (.long p2), .second, .val (.long p3), .second, .val (.long p4), .second, .val (.int (2 : Int32)), .val (.ref a33), .val (.ref a34), .val (.long ((0 : Int64) + p2)), .second, .unset, .unset, .unset, .unset, .unset, .unset, .unset, .unset]) rfl ?_
    refine g_iload W38 at_84 (pc' := 86) rfl rfl ?_
    refine g_iconst W38 at_86 (pc' := 87) rfl (v := (1 : Int32)) (by decide) ?_
    refine g_icmp W38 at_87 (pcy := 97) (by decide) (pc' := 90) rfl (fun (h : ¬ (1 : Int32) < (2 : Int32)) => absurd h (by decide)) (fun _ => ?_)
    refine g_lload W38 at_90 (pc' := 92) rfl rfl ?_
    refine g_lload W38 at_92 (pc' := 94) rfl rfl ?_
    refine g_ladd W38 at_94 (pc' := 95) rfl rfl ?_
    refine g_lstore W38 at_95 (pc' := 97) rfl (ls' := #[.val (.int p0), .val (.int p1), .val (.long p2), .second, .val (.long p3), .second, .val (.long p4), .second, .val (.int (2 : Int32)), .val (.ref a33), .val (.ref a34), .val (.long (((0 : Int64) + p2) + p3)), .second, .unset, .unset, .unset, .unset, .unset, .unset, .unset, .unset]) rfl ?_
    refine g_iload W38 at_97 (pc' := 99) rfl rfl ?_
    refine g_iconst W38 at_99 (pc' := 100) rfl (v := (2 : Int32)) (by decide) ?_
    refine g_icmp W38 at_100 (pcy := 110) (by decide) (pc' := 103) rfl (fun _ => ?_) (fun (h : ¬ ¬ (2 : Int32) < (2 : Int32)) => absurd h (by decide))
    refine g_new W38 (wd_2 hw) (wd_3 hw) (wd_4 hw) (la_Centroids hw) (by decide) H38 at_110 (pc' := 113) rfl (kc' := 3) (ks' := 9) rfl rfl (by decide) (by decide) ?_
    intro T39 a39 W39 H39
    refine g_dup W39 at_113 (pc' := 114) rfl rfl ?_
    refine g_aload W39 at_114 (pc' := 116) rfl rfl rfl ?_
    refine g_aload W39 at_116 (pc' := 118) rfl rfl rfl ?_
    refine g_lload W39 at_118 (pc' := 120) rfl rfl ?_
    refine g_dconst0 W39 at_120 (pc' := 121) rfl ?_
    refine g_ldc2Double W39 (wd_5 hw) at_121 (pc' := 124) rfl ?_
    refine g_callI W39 (argsL := [.ref a33, .ref a34, .long (((0 : Int64) + p2) + p3), .double 0, .double (4616189618054758400 : UInt64)]) (st := [.ref a39]) rfl (wd_6 hw) (wd_7 hw) (wd_4 hw) (wd_8 hw) (by decide) (a := a39) (c_init l Z a0 hw n0 a39 a33 a34 (((0 : Int64) + p2) + p3) 0 (4616189618054758400 : UInt64) _ _ H39) pd_0 rfl rfl rfl at_124 (pc' := 127) rfl (by decide) (Wn := 1) (Nat.le_of_eq rfl) (by decide) (kc' := 3) (ks' := 9) rfl rfl (by decide) (by decide) ?_
    intro T40 v40 W40 hp40
    obtain ⟨rfl, H40⟩ := hp40
    show Goes p e below _ (T40.setTop (mkF m 127 #[.val (.int p0), .val (.int p1), .val (.long p2), .second, .val (.long p3), .second, .val (.long p4), .second, .val (.int (2 : Int32)), .val (.ref a33), .val (.ref a34), .val (.long (((0 : Int64) + p2) + p3)), .second, .unset, .unset, .unset, .unset, .unset, .unset, .unset, .unset] [.ref a39]))
    refine g_astore W40 at_127 (pc' := 129) rfl rfl (ls' := #[.val (.int p0), .val (.int p1), .val (.long p2), .second, .val (.long p3), .second, .val (.long p4), .second, .val (.int (2 : Int32)), .val (.ref a33), .val (.ref a34), .val (.long (((0 : Int64) + p2) + p3)), .second, .val (.ref a39), .unset, .unset, .unset, .unset, .unset, .unset, .unset]) rfl ?_
    refine g_iloadN W40 at_129 (pc' := 130) rfl rfl ?_
    refine g_iconst W40 at_130 (pc' := 131) rfl (v := (4 : Int32)) (by decide) ?_
    refine g_iand W40 at_131 (pc' := 132) rfl rfl ?_
    have J : ∀ (TJJ : State) (j : Int32), Wk Z x code maxLocals ret n0 p l e room_1 s m #[.int p0, .int p1, .long p2, .long p3, .long p4] below meth c TJJ 3 9 → Hp Z n0 TJJ.heap [(a39, ObC Z "com/example/dipper/dipper/Centroids" [("com/example/dipper/dipper/Centroids", "means", "[D", .ref a33), ("com/example/dipper/dipper/Centroids", "weights", "[J", .ref a34), ("com/example/dipper/dipper/Centroids", "count", "J", .long (((0 : Int64) + p2) + p3)), ("com/example/dipper/dipper/Centroids", "min", "D", .double 0), ("com/example/dipper/dipper/Centroids", "max", "D", .double (4616189618054758400 : UInt64))]), (a34, ArC Z .long [.long p2, .long p3]), (a33, ArC Z .double [.double (4607182418800017408 : UInt64), .double (4611686018427387904 : UInt64)])] → Goes p e below (En s n0 (Room.cells room_1) (Room.slots room_1) (fun v _ => v = some (.int 1))) (TJJ.setTop (mkF m 145 #[.val (.int p0), .val (.int p1), .val (.long p2), .second, .val (.long p3), .second, .val (.long p4), .second, .val (.int (2 : Int32)), .val (.ref a33), .val (.ref a34), .val (.long (((0 : Int64) + p2) + p3)), .second, .val (.ref a39), .unset, .unset, .unset, .unset, .unset, .unset, .unset] [.int j])) := by
      intro TJJ j WJJ HJJ
      refine g_istore WJJ at_145 (pc' := 147) rfl (ls' := #[.val (.int p0), .val (.int p1), .val (.long p2), .second, .val (.long p3), .second, .val (.long p4), .second, .val (.int (2 : Int32)), .val (.ref a33), .val (.ref a34), .val (.long (((0 : Int64) + p2) + p3)), .second, .val (.ref a39), .val (.int j), .unset, .unset, .unset, .unset, .unset, .unset]) rfl ?_
      refine g_aload WJJ at_147 (pc' := 149) rfl rfl rfl ?_
      refine g_iload WJJ at_149 (pc' := 151) rfl rfl ?_
      have H41f : Hp Z n0 TJJ.heap [(a34, ArC Z .long [.long p2, .long p3]), (a39, ObC Z "com/example/dipper/dipper/Centroids" [("com/example/dipper/dipper/Centroids", "means", "[D", .ref a33), ("com/example/dipper/dipper/Centroids", "weights", "[J", .ref a34), ("com/example/dipper/dipper/Centroids", "count", "J", .long (((0 : Int64) + p2) + p3)), ("com/example/dipper/dipper/Centroids", "min", "D", .double 0), ("com/example/dipper/dipper/Centroids", "max", "D", .double (4616189618054758400 : UInt64))]), (a33, ArC Z .double [.double (4607182418800017408 : UInt64), .double (4611686018427387904 : UInt64)])] := HJJ.front (i := 1) rfl rfl
      have H42f : Hp Z n0 TJJ.heap [(a33, ArC Z .double [.double (4607182418800017408 : UInt64), .double (4611686018427387904 : UInt64)]), (a34, ArC Z .long [.long p2, .long p3]), (a39, ObC Z "com/example/dipper/dipper/Centroids" [("com/example/dipper/dipper/Centroids", "means", "[D", .ref a33), ("com/example/dipper/dipper/Centroids", "weights", "[J", .ref a34), ("com/example/dipper/dipper/Centroids", "count", "J", .long (((0 : Int64) + p2) + p3)), ("com/example/dipper/dipper/Centroids", "min", "D", .double 0), ("com/example/dipper/dipper/Centroids", "max", "D", .double (4616189618054758400 : UInt64))])] := H41f.front (i := 2) rfl rfl
      have H43f : Hp Z n0 TJJ.heap [(a39, ObC Z "com/example/dipper/dipper/Centroids" [("com/example/dipper/dipper/Centroids", "means", "[D", .ref a33), ("com/example/dipper/dipper/Centroids", "weights", "[J", .ref a34), ("com/example/dipper/dipper/Centroids", "count", "J", .long (((0 : Int64) + p2) + p3)), ("com/example/dipper/dipper/Centroids", "min", "D", .double 0), ("com/example/dipper/dipper/Centroids", "max", "D", .double (4616189618054758400 : UInt64))]), (a33, ArC Z .double [.double (4607182418800017408 : UInt64), .double (4611686018427387904 : UInt64)]), (a34, ArC Z .long [.long p2, .long p3])] := H42f.front (i := 2) rfl rfl
      rcases Classical.em (j < (0 : Int32)) with h1 | h1
      · refine g_callV WJJ (argsL := [.int j]) (st := []) (wd_22 hw) (wd_23 hw) (wd_25 hw) (wd_24 hw) (wd_4 hw) (wd_26 hw) (by decide) (a := a39) H43f (i := 0) rfl (c_half l Z a0 hw n0 a39 a33 a34 (((0 : Int64) + p2) + p3) 0 (4616189618054758400 : UInt64) [.double (4607182418800017408 : UInt64), .double (4611686018427387904 : UInt64)] [.long p2, .long p3] (2 : Int32) j (13826050856027422720 : UInt64) rfl ⟨fun _ => rfl, fun q => absurd h1 q, fun q => absurd h1 q⟩ _ _ H43f) pd_1 rfl rfl rfl at_151 (pc' := 154) rfl (by decide) (Wn := 0) (Nat.le_of_eq rfl) (by decide) (kc' := 3) (ks' := 9) rfl rfl (by decide) (by decide) ?_
        intro T44 v44 W44 hp44
        obtain ⟨rfl, H44⟩ := hp44
        show Goes p e below _ (T44.setTop (mkF m 154 #[.val (.int p0), .val (.int p1), .val (.long p2), .second, .val (.long p3), .second, .val (.long p4), .second, .val (.int (2 : Int32)), .val (.ref a33), .val (.ref a34), .val (.long (((0 : Int64) + p2) + p3)), .second, .val (.ref a39), .val (.int j), .unset, .unset, .unset, .unset, .unset, .unset] [.double (13826050856027422720 : UInt64)]))
        refine g_dstore W44 at_154 (pc' := 156) rfl (ls' := #[.val (.int p0), .val (.int p1), .val (.long p2), .second, .val (.long p3), .second, .val (.long p4), .second, .val (.int (2 : Int32)), .val (.ref a33), .val (.ref a34), .val (.long (((0 : Int64) + p2) + p3)), .second, .val (.ref a39), .val (.int j), .val (.double (13826050856027422720 : UInt64)), .second, .unset, .unset, .unset, .unset]) rfl ?_
        refine g_iload W44 at_156 (pc' := 158) rfl rfl ?_
        refine g_if W44 at_158 (pcy := 168) (by decide) (pc' := 161) rfl (fun (c45 : j < (0 : Int32)) => ?_) (fun (c45 : ¬ j < (0 : Int32)) => ?_)
        · refine g_dload W44 at_168 (pc' := 170) rfl rfl ?_
          refine g_ldc2Double W44 (wd_28 hw) at_170 (pc' := 173) rfl ?_
          refine g_dcmp W44 at_173 (pc' := 174) rfl rfl ?_
          rw [show (cmpValue (FP.dcmp (13826050856027422720 : UInt64) (13826050856027422720 : UInt64)) .l) = (0 : Int32) from by decide +kernel]
          refine g_if W44 at_174 (pcy := 181) (by decide) (pc' := 177) rfl (fun (h : ¬ (0 : Int32) = (0 : Int32)) => absurd h (by decide)) (fun _ => ?_)
          refine g_iconst W44 at_177 (pc' := 178) rfl (v := (1 : Int32)) (by decide) ?_
          refine g_goto W44 at_178 (pc' := 182) (by decide) ?_
          exact g_zreturn W44 (by decide) at_182 rfl (by decide) (by decide)
        · exact absurd h1 c45
      · rcases Classical.em (j < (2 : Int32)) with h2 | h2
        · rcases lt2 h1 h2 with hk | hk
          · subst hk
            refine g_callV WJJ (argsL := [.int (0 : Int32)]) (st := []) (wd_22 hw) (wd_23 hw) (wd_25 hw) (wd_24 hw) (wd_4 hw) (wd_26 hw) (by decide) (a := a39) H43f (i := 0) rfl (c_half l Z a0 hw n0 a39 a33 a34 (((0 : Int64) + p2) + p3) 0 (4616189618054758400 : UInt64) [.double (4607182418800017408 : UInt64), .double (4611686018427387904 : UInt64)] [.long p2, .long p3] (2 : Int32) (0 : Int32) (FP.ddiv (FP.l2d p2) (4611686018427387904 : UInt64)) rfl ⟨fun q => absurd q (by decide), fun _ q => absurd (by decide) q, fun _ _ => ⟨0, p2, by decide, rfl, rfl⟩⟩ _ _ H43f) pd_1 rfl rfl rfl at_151 (pc' := 154) rfl (by decide) (Wn := 0) (Nat.le_of_eq rfl) (by decide) (kc' := 3) (ks' := 9) rfl rfl (by decide) (by decide) ?_
            intro T46 v46 W46 hp46
            obtain ⟨rfl, H46⟩ := hp46
            show Goes p e below _ (T46.setTop (mkF m 154 #[.val (.int p0), .val (.int p1), .val (.long p2), .second, .val (.long p3), .second, .val (.long p4), .second, .val (.int (2 : Int32)), .val (.ref a33), .val (.ref a34), .val (.long (((0 : Int64) + p2) + p3)), .second, .val (.ref a39), .val (.int (0 : Int32)), .unset, .unset, .unset, .unset, .unset, .unset] [.double (FP.ddiv (FP.l2d p2) (4611686018427387904 : UInt64))]))
            refine g_dstore W46 at_154 (pc' := 156) rfl (ls' := #[.val (.int p0), .val (.int p1), .val (.long p2), .second, .val (.long p3), .second, .val (.long p4), .second, .val (.int (2 : Int32)), .val (.ref a33), .val (.ref a34), .val (.long (((0 : Int64) + p2) + p3)), .second, .val (.ref a39), .val (.int (0 : Int32)), .val (.double (FP.ddiv (FP.l2d p2) (4611686018427387904 : UInt64))), .second, .unset, .unset, .unset, .unset]) rfl ?_
            refine g_iload W46 at_156 (pc' := 158) rfl rfl ?_
            refine g_if W46 at_158 (pcy := 168) (by decide) (pc' := 161) rfl (fun (h : (0 : Int32) < (0 : Int32)) => absurd h (by decide)) (fun _ => ?_)
            refine g_iload W46 at_161 (pc' := 163) rfl rfl ?_
            refine g_iload W46 at_163 (pc' := 165) rfl rfl ?_
            refine g_icmp W46 at_165 (pcy := 183) (by decide) (pc' := 168) rfl (fun _ => ?_) (fun (h : ¬ (0 : Int32) < (2 : Int32)) => absurd h (by decide))
            refine g_iload W46 at_183 (pc' := 185) rfl rfl ?_
            refine g_if W46 at_185 (pcy := 192) (by decide) (pc' := 188) rfl (fun (h : ¬ (0 : Int32) = (0 : Int32)) => absurd h (by decide)) (fun _ => ?_)
            refine g_lloadN W46 at_188 (pc' := 189) rfl rfl ?_
            refine g_goto W46 at_189 (pc' := 205) (by decide) ?_
            refine g_lstore W46 at_205 (pc' := 207) rfl (ls' := #[.val (.int p0), .val (.int p1), .val (.long p2), .second, .val (.long p3), .second, .val (.long p4), .second, .val (.int (2 : Int32)), .val (.ref a33), .val (.ref a34), .val (.long (((0 : Int64) + p2) + p3)), .second, .val (.ref a39), .val (.int (0 : Int32)), .val (.double (FP.ddiv (FP.l2d p2) (4611686018427387904 : UInt64))), .second, .val (.long p2), .second, .unset, .unset]) rfl ?_
            refine g_dload W46 at_207 (pc' := 209) rfl rfl ?_
            refine g_dload W46 at_209 (pc' := 211) rfl rfl ?_
            refine g_dadd W46 at_211 (pc' := 212) rfl rfl (own_dbl p2).1 ?_
            refine g_lload W46 at_212 (pc' := 214) rfl rfl ?_
            refine g_l2d W46 at_214 (pc' := 215) rfl rfl ?_
            refine g_dcmp W46 at_215 (pc' := 216) rfl rfl ?_
            rw [show (cmpValue (FP.dcmp (FP.dadd (FP.ddiv (FP.l2d p2) (4611686018427387904 : UInt64)) (FP.ddiv (FP.l2d p2) (4611686018427387904 : UInt64))) (FP.l2d p2)) .l) = (0 : Int32) from (own_dbl p2).2]
            refine g_if W46 at_216 (pcy := 221) (by decide) (pc' := 219) rfl (fun _ => ?_) (fun (h : ¬ (0 : Int32) = (0 : Int32)) => absurd h (by decide))
            refine g_lload W46 at_221 (pc' := 223) rfl rfl ?_
            refine g_ldc2Long W46 (wd_32 hw) at_223 (pc' := 226) rfl ?_
            refine g_lcmp W46 at_226 (pc' := 227) rfl rfl ?_
            refine g_if W46 at_227 (pcy := 277) (by decide) (pc' := 230) rfl (fun (c47 : ¬ (0 : Int32) < (XT.cmpL p2 (-4503599627370496 : Int64))) => ?_) (fun (c47 : ¬ ¬ (0 : Int32) < (XT.cmpL p2 (-4503599627370496 : Int64))) => ?_)
            · refine g_iconst W46 at_277 (pc' := 278) rfl (v := (1 : Int32)) (by decide) ?_
              exact g_zreturn W46 (by decide) at_278 rfl (by decide) (by decide)
            · replace c47 := Classical.not_not.mp c47
              replace c47 := cmpL_gt0.mp c47
              refine g_lload W46 at_230 (pc' := 232) rfl rfl ?_
              refine g_ldc2Long W46 (wd_33 hw) at_232 (pc' := 235) rfl ?_
              refine g_lcmp W46 at_235 (pc' := 236) rfl rfl ?_
              refine g_if W46 at_236 (pcy := 277) (by decide) (pc' := 239) rfl (fun (c48 : ¬ (XT.cmpL p2 (4503599627370496 : Int64)) < (0 : Int32)) => ?_) (fun (c48 : ¬ ¬ (XT.cmpL p2 (4503599627370496 : Int64)) < (0 : Int32)) => ?_)
              · refine g_iconst W46 at_277 (pc' := 278) rfl (v := (1 : Int32)) (by decide) ?_
                exact g_zreturn W46 (by decide) at_278 rfl (by decide) (by decide)
              · replace c48 := Classical.not_not.mp c48
                have hs := own_small c47 (cmpL_lt0.mp c48)
                refine g_lload W46 at_239 (pc' := 241) rfl rfl ?_
                refine g_iconst W46 at_241 (pc' := 242) rfl (v := (1 : Int32)) (by decide) ?_
                refine g_lshr W46 at_242 (pc' := 243) rfl rfl ?_
                refine g_l2d W46 at_243 (pc' := 244) rfl rfl ?_
                refine g_lload W46 at_244 (pc' := 246) rfl rfl ?_
                refine g_lconst W46 at_246 (pc' := 247) rfl (v := (1 : Int64)) (by decide) ?_
                refine g_land W46 at_247 (pc' := 248) rfl rfl ?_
                refine g_lconst W46 at_248 (pc' := 249) rfl (v := (0 : Int64)) (by decide) ?_
                refine g_lcmp W46 at_249 (pc' := 250) rfl rfl ?_
                refine g_if W46 at_250 (pcy := 259) (by decide) (pc' := 253) rfl (fun (c49 : (XT.cmpL (p2 &&& (1 : Int64)) (0 : Int64)) = (0 : Int32)) => ?_) (fun (c49 : ¬ (XT.cmpL (p2 &&& (1 : Int64)) (0 : Int64)) = (0 : Int32)) => ?_)
                · have hz : (p2 &&& (1 : Int64)) = 0 := cmpL_eq0.mp c49
                  refine g_dconst0 W46 at_259 (pc' := 260) rfl ?_
                  refine g_dadd W46 at_260 (pc' := 261) rfl rfl (own_even hs hz).1 ?_
                  refine g_dstore W46 at_261 (pc' := 263) rfl (ls' := #[.val (.int p0), .val (.int p1), .val (.long p2), .second, .val (.long p3), .second, .val (.long p4), .second, .val (.int (2 : Int32)), .val (.ref a33), .val (.ref a34), .val (.long (((0 : Int64) + p2) + p3)), .second, .val (.ref a39), .val (.int (0 : Int32)), .val (.double (FP.ddiv (FP.l2d p2) (4611686018427387904 : UInt64))), .second, .val (.long p2), .second, .val (.double (FP.dadd (FP.l2d (p2 >>> ((1 : Int32).toInt64 &&& 63))) 0)), .second]) rfl ?_
                  refine g_dload W46 at_263 (pc' := 265) rfl rfl ?_
                  refine g_dload W46 at_265 (pc' := 267) rfl rfl ?_
                  refine g_dcmp W46 at_267 (pc' := 268) rfl rfl ?_
                  rw [show (cmpValue (FP.dcmp (FP.ddiv (FP.l2d p2) (4611686018427387904 : UInt64)) (FP.dadd (FP.l2d (p2 >>> ((1 : Int32).toInt64 &&& 63))) 0)) .l) = (0 : Int32) from (own_even hs hz).2]
                  refine g_if W46 at_268 (pcy := 275) (by decide) (pc' := 271) rfl (fun (h : ¬ (0 : Int32) = (0 : Int32)) => absurd h (by decide)) (fun _ => ?_)
                  refine g_iconst W46 at_271 (pc' := 272) rfl (v := (1 : Int32)) (by decide) ?_
                  refine g_goto W46 at_272 (pc' := 276) (by decide) ?_
                  exact g_zreturn W46 (by decide) at_276 rfl (by decide) (by decide)
                · have hz : ¬ (p2 &&& (1 : Int64)) = 0 := fun q => c49 (cmpL_eq0.mpr q)
                  refine g_ldc2Double W46 (wd_34 hw) at_253 (pc' := 256) rfl ?_
                  refine g_goto W46 at_256 (pc' := 260) (by decide) ?_
                  refine g_dadd W46 at_260 (pc' := 261) rfl rfl (own_odd hs hz).1 ?_
                  refine g_dstore W46 at_261 (pc' := 263) rfl (ls' := #[.val (.int p0), .val (.int p1), .val (.long p2), .second, .val (.long p3), .second, .val (.long p4), .second, .val (.int (2 : Int32)), .val (.ref a33), .val (.ref a34), .val (.long (((0 : Int64) + p2) + p3)), .second, .val (.ref a39), .val (.int (0 : Int32)), .val (.double (FP.ddiv (FP.l2d p2) (4611686018427387904 : UInt64))), .second, .val (.long p2), .second, .val (.double (FP.dadd (FP.l2d (p2 >>> ((1 : Int32).toInt64 &&& 63))) (4602678819172646912 : UInt64))), .second]) rfl ?_
                  refine g_dload W46 at_263 (pc' := 265) rfl rfl ?_
                  refine g_dload W46 at_265 (pc' := 267) rfl rfl ?_
                  refine g_dcmp W46 at_267 (pc' := 268) rfl rfl ?_
                  rw [show (cmpValue (FP.dcmp (FP.ddiv (FP.l2d p2) (4611686018427387904 : UInt64)) (FP.dadd (FP.l2d (p2 >>> ((1 : Int32).toInt64 &&& 63))) (4602678819172646912 : UInt64))) .l) = (0 : Int32) from (own_odd hs hz).2]
                  refine g_if W46 at_268 (pcy := 275) (by decide) (pc' := 271) rfl (fun (h : ¬ (0 : Int32) = (0 : Int32)) => absurd h (by decide)) (fun _ => ?_)
                  refine g_iconst W46 at_271 (pc' := 272) rfl (v := (1 : Int32)) (by decide) ?_
                  refine g_goto W46 at_272 (pc' := 276) (by decide) ?_
                  exact g_zreturn W46 (by decide) at_276 rfl (by decide) (by decide)
          · subst hk
            refine g_callV WJJ (argsL := [.int (1 : Int32)]) (st := []) (wd_22 hw) (wd_23 hw) (wd_25 hw) (wd_24 hw) (wd_4 hw) (wd_26 hw) (by decide) (a := a39) H43f (i := 0) rfl (c_half l Z a0 hw n0 a39 a33 a34 (((0 : Int64) + p2) + p3) 0 (4616189618054758400 : UInt64) [.double (4607182418800017408 : UInt64), .double (4611686018427387904 : UInt64)] [.long p2, .long p3] (2 : Int32) (1 : Int32) (FP.ddiv (FP.l2d p3) (4611686018427387904 : UInt64)) rfl ⟨fun q => absurd q (by decide), fun _ q => absurd (by decide) q, fun _ _ => ⟨1, p3, by decide, rfl, rfl⟩⟩ _ _ H43f) pd_1 rfl rfl rfl at_151 (pc' := 154) rfl (by decide) (Wn := 0) (Nat.le_of_eq rfl) (by decide) (kc' := 3) (ks' := 9) rfl rfl (by decide) (by decide) ?_
            intro T50 v50 W50 hp50
            obtain ⟨rfl, H50⟩ := hp50
            show Goes p e below _ (T50.setTop (mkF m 154 #[.val (.int p0), .val (.int p1), .val (.long p2), .second, .val (.long p3), .second, .val (.long p4), .second, .val (.int (2 : Int32)), .val (.ref a33), .val (.ref a34), .val (.long (((0 : Int64) + p2) + p3)), .second, .val (.ref a39), .val (.int (1 : Int32)), .unset, .unset, .unset, .unset, .unset, .unset] [.double (FP.ddiv (FP.l2d p3) (4611686018427387904 : UInt64))]))
            refine g_dstore W50 at_154 (pc' := 156) rfl (ls' := #[.val (.int p0), .val (.int p1), .val (.long p2), .second, .val (.long p3), .second, .val (.long p4), .second, .val (.int (2 : Int32)), .val (.ref a33), .val (.ref a34), .val (.long (((0 : Int64) + p2) + p3)), .second, .val (.ref a39), .val (.int (1 : Int32)), .val (.double (FP.ddiv (FP.l2d p3) (4611686018427387904 : UInt64))), .second, .unset, .unset, .unset, .unset]) rfl ?_
            refine g_iload W50 at_156 (pc' := 158) rfl rfl ?_
            refine g_if W50 at_158 (pcy := 168) (by decide) (pc' := 161) rfl (fun (h : (1 : Int32) < (0 : Int32)) => absurd h (by decide)) (fun _ => ?_)
            refine g_iload W50 at_161 (pc' := 163) rfl rfl ?_
            refine g_iload W50 at_163 (pc' := 165) rfl rfl ?_
            refine g_icmp W50 at_165 (pcy := 183) (by decide) (pc' := 168) rfl (fun _ => ?_) (fun (h : ¬ (1 : Int32) < (2 : Int32)) => absurd h (by decide))
            refine g_iload W50 at_183 (pc' := 185) rfl rfl ?_
            refine g_if W50 at_185 (pcy := 192) (by decide) (pc' := 188) rfl (fun _ => ?_) (fun (h : ¬ ¬ (1 : Int32) = (0 : Int32)) => absurd h (by decide))
            refine g_iload W50 at_192 (pc' := 194) rfl rfl ?_
            refine g_iconst W50 at_194 (pc' := 195) rfl (v := (1 : Int32)) (by decide) ?_
            refine g_icmp W50 at_195 (pcy := 203) (by decide) (pc' := 198) rfl (fun (h : ¬ (1 : Int32) = (1 : Int32)) => absurd h (by decide)) (fun _ => ?_)
            refine g_lload W50 at_198 (pc' := 200) rfl rfl ?_
            refine g_goto W50 at_200 (pc' := 205) (by decide) ?_
            refine g_lstore W50 at_205 (pc' := 207) rfl (ls' := #[.val (.int p0), .val (.int p1), .val (.long p2), .second, .val (.long p3), .second, .val (.long p4), .second, .val (.int (2 : Int32)), .val (.ref a33), .val (.ref a34), .val (.long (((0 : Int64) + p2) + p3)), .second, .val (.ref a39), .val (.int (1 : Int32)), .val (.double (FP.ddiv (FP.l2d p3) (4611686018427387904 : UInt64))), .second, .val (.long p3), .second, .unset, .unset]) rfl ?_
            refine g_dload W50 at_207 (pc' := 209) rfl rfl ?_
            refine g_dload W50 at_209 (pc' := 211) rfl rfl ?_
            refine g_dadd W50 at_211 (pc' := 212) rfl rfl (own_dbl p3).1 ?_
            refine g_lload W50 at_212 (pc' := 214) rfl rfl ?_
            refine g_l2d W50 at_214 (pc' := 215) rfl rfl ?_
            refine g_dcmp W50 at_215 (pc' := 216) rfl rfl ?_
            rw [show (cmpValue (FP.dcmp (FP.dadd (FP.ddiv (FP.l2d p3) (4611686018427387904 : UInt64)) (FP.ddiv (FP.l2d p3) (4611686018427387904 : UInt64))) (FP.l2d p3)) .l) = (0 : Int32) from (own_dbl p3).2]
            refine g_if W50 at_216 (pcy := 221) (by decide) (pc' := 219) rfl (fun _ => ?_) (fun (h : ¬ (0 : Int32) = (0 : Int32)) => absurd h (by decide))
            refine g_lload W50 at_221 (pc' := 223) rfl rfl ?_
            refine g_ldc2Long W50 (wd_32 hw) at_223 (pc' := 226) rfl ?_
            refine g_lcmp W50 at_226 (pc' := 227) rfl rfl ?_
            refine g_if W50 at_227 (pcy := 277) (by decide) (pc' := 230) rfl (fun (c51 : ¬ (0 : Int32) < (XT.cmpL p3 (-4503599627370496 : Int64))) => ?_) (fun (c51 : ¬ ¬ (0 : Int32) < (XT.cmpL p3 (-4503599627370496 : Int64))) => ?_)
            · refine g_iconst W50 at_277 (pc' := 278) rfl (v := (1 : Int32)) (by decide) ?_
              exact g_zreturn W50 (by decide) at_278 rfl (by decide) (by decide)
            · replace c51 := Classical.not_not.mp c51
              replace c51 := cmpL_gt0.mp c51
              refine g_lload W50 at_230 (pc' := 232) rfl rfl ?_
              refine g_ldc2Long W50 (wd_33 hw) at_232 (pc' := 235) rfl ?_
              refine g_lcmp W50 at_235 (pc' := 236) rfl rfl ?_
              refine g_if W50 at_236 (pcy := 277) (by decide) (pc' := 239) rfl (fun (c52 : ¬ (XT.cmpL p3 (4503599627370496 : Int64)) < (0 : Int32)) => ?_) (fun (c52 : ¬ ¬ (XT.cmpL p3 (4503599627370496 : Int64)) < (0 : Int32)) => ?_)
              · refine g_iconst W50 at_277 (pc' := 278) rfl (v := (1 : Int32)) (by decide) ?_
                exact g_zreturn W50 (by decide) at_278 rfl (by decide) (by decide)
              · replace c52 := Classical.not_not.mp c52
                have hs := own_small c51 (cmpL_lt0.mp c52)
                refine g_lload W50 at_239 (pc' := 241) rfl rfl ?_
                refine g_iconst W50 at_241 (pc' := 242) rfl (v := (1 : Int32)) (by decide) ?_
                refine g_lshr W50 at_242 (pc' := 243) rfl rfl ?_
                refine g_l2d W50 at_243 (pc' := 244) rfl rfl ?_
                refine g_lload W50 at_244 (pc' := 246) rfl rfl ?_
                refine g_lconst W50 at_246 (pc' := 247) rfl (v := (1 : Int64)) (by decide) ?_
                refine g_land W50 at_247 (pc' := 248) rfl rfl ?_
                refine g_lconst W50 at_248 (pc' := 249) rfl (v := (0 : Int64)) (by decide) ?_
                refine g_lcmp W50 at_249 (pc' := 250) rfl rfl ?_
                refine g_if W50 at_250 (pcy := 259) (by decide) (pc' := 253) rfl (fun (c53 : (XT.cmpL (p3 &&& (1 : Int64)) (0 : Int64)) = (0 : Int32)) => ?_) (fun (c53 : ¬ (XT.cmpL (p3 &&& (1 : Int64)) (0 : Int64)) = (0 : Int32)) => ?_)
                · have hz : (p3 &&& (1 : Int64)) = 0 := cmpL_eq0.mp c53
                  refine g_dconst0 W50 at_259 (pc' := 260) rfl ?_
                  refine g_dadd W50 at_260 (pc' := 261) rfl rfl (own_even hs hz).1 ?_
                  refine g_dstore W50 at_261 (pc' := 263) rfl (ls' := #[.val (.int p0), .val (.int p1), .val (.long p2), .second, .val (.long p3), .second, .val (.long p4), .second, .val (.int (2 : Int32)), .val (.ref a33), .val (.ref a34), .val (.long (((0 : Int64) + p2) + p3)), .second, .val (.ref a39), .val (.int (1 : Int32)), .val (.double (FP.ddiv (FP.l2d p3) (4611686018427387904 : UInt64))), .second, .val (.long p3), .second, .val (.double (FP.dadd (FP.l2d (p3 >>> ((1 : Int32).toInt64 &&& 63))) 0)), .second]) rfl ?_
                  refine g_dload W50 at_263 (pc' := 265) rfl rfl ?_
                  refine g_dload W50 at_265 (pc' := 267) rfl rfl ?_
                  refine g_dcmp W50 at_267 (pc' := 268) rfl rfl ?_
                  rw [show (cmpValue (FP.dcmp (FP.ddiv (FP.l2d p3) (4611686018427387904 : UInt64)) (FP.dadd (FP.l2d (p3 >>> ((1 : Int32).toInt64 &&& 63))) 0)) .l) = (0 : Int32) from (own_even hs hz).2]
                  refine g_if W50 at_268 (pcy := 275) (by decide) (pc' := 271) rfl (fun (h : ¬ (0 : Int32) = (0 : Int32)) => absurd h (by decide)) (fun _ => ?_)
                  refine g_iconst W50 at_271 (pc' := 272) rfl (v := (1 : Int32)) (by decide) ?_
                  refine g_goto W50 at_272 (pc' := 276) (by decide) ?_
                  exact g_zreturn W50 (by decide) at_276 rfl (by decide) (by decide)
                · have hz : ¬ (p3 &&& (1 : Int64)) = 0 := fun q => c53 (cmpL_eq0.mpr q)
                  refine g_ldc2Double W50 (wd_34 hw) at_253 (pc' := 256) rfl ?_
                  refine g_goto W50 at_256 (pc' := 260) (by decide) ?_
                  refine g_dadd W50 at_260 (pc' := 261) rfl rfl (own_odd hs hz).1 ?_
                  refine g_dstore W50 at_261 (pc' := 263) rfl (ls' := #[.val (.int p0), .val (.int p1), .val (.long p2), .second, .val (.long p3), .second, .val (.long p4), .second, .val (.int (2 : Int32)), .val (.ref a33), .val (.ref a34), .val (.long (((0 : Int64) + p2) + p3)), .second, .val (.ref a39), .val (.int (1 : Int32)), .val (.double (FP.ddiv (FP.l2d p3) (4611686018427387904 : UInt64))), .second, .val (.long p3), .second, .val (.double (FP.dadd (FP.l2d (p3 >>> ((1 : Int32).toInt64 &&& 63))) (4602678819172646912 : UInt64))), .second]) rfl ?_
                  refine g_dload W50 at_263 (pc' := 265) rfl rfl ?_
                  refine g_dload W50 at_265 (pc' := 267) rfl rfl ?_
                  refine g_dcmp W50 at_267 (pc' := 268) rfl rfl ?_
                  rw [show (cmpValue (FP.dcmp (FP.ddiv (FP.l2d p3) (4611686018427387904 : UInt64)) (FP.dadd (FP.l2d (p3 >>> ((1 : Int32).toInt64 &&& 63))) (4602678819172646912 : UInt64))) .l) = (0 : Int32) from (own_odd hs hz).2]
                  refine g_if W50 at_268 (pcy := 275) (by decide) (pc' := 271) rfl (fun (h : ¬ (0 : Int32) = (0 : Int32)) => absurd h (by decide)) (fun _ => ?_)
                  refine g_iconst W50 at_271 (pc' := 272) rfl (v := (1 : Int32)) (by decide) ?_
                  refine g_goto W50 at_272 (pc' := 276) (by decide) ?_
                  exact g_zreturn W50 (by decide) at_276 rfl (by decide) (by decide)
        · refine g_callV WJJ (argsL := [.int j]) (st := []) (wd_22 hw) (wd_23 hw) (wd_25 hw) (wd_24 hw) (wd_4 hw) (wd_26 hw) (by decide) (a := a39) H43f (i := 0) rfl (c_half l Z a0 hw n0 a39 a33 a34 (((0 : Int64) + p2) + p3) 0 (4616189618054758400 : UInt64) [.double (4607182418800017408 : UInt64), .double (4611686018427387904 : UInt64)] [.long p2, .long p3] (2 : Int32) j (13826050856027422720 : UInt64) rfl ⟨fun q => absurd q h1, fun _ _ => rfl, fun _ q => absurd q h2⟩ _ _ H43f) pd_1 rfl rfl rfl at_151 (pc' := 154) rfl (by decide) (Wn := 0) (Nat.le_of_eq rfl) (by decide) (kc' := 3) (ks' := 9) rfl rfl (by decide) (by decide) ?_
          intro T54 v54 W54 hp54
          obtain ⟨rfl, H54⟩ := hp54
          show Goes p e below _ (T54.setTop (mkF m 154 #[.val (.int p0), .val (.int p1), .val (.long p2), .second, .val (.long p3), .second, .val (.long p4), .second, .val (.int (2 : Int32)), .val (.ref a33), .val (.ref a34), .val (.long (((0 : Int64) + p2) + p3)), .second, .val (.ref a39), .val (.int j), .unset, .unset, .unset, .unset, .unset, .unset] [.double (13826050856027422720 : UInt64)]))
          refine g_dstore W54 at_154 (pc' := 156) rfl (ls' := #[.val (.int p0), .val (.int p1), .val (.long p2), .second, .val (.long p3), .second, .val (.long p4), .second, .val (.int (2 : Int32)), .val (.ref a33), .val (.ref a34), .val (.long (((0 : Int64) + p2) + p3)), .second, .val (.ref a39), .val (.int j), .val (.double (13826050856027422720 : UInt64)), .second, .unset, .unset, .unset, .unset]) rfl ?_
          refine g_iload W54 at_156 (pc' := 158) rfl rfl ?_
          refine g_if W54 at_158 (pcy := 168) (by decide) (pc' := 161) rfl (fun (c55 : j < (0 : Int32)) => ?_) (fun (c55 : ¬ j < (0 : Int32)) => ?_)
          · exact absurd c55 h1
          · refine g_iload W54 at_161 (pc' := 163) rfl rfl ?_
            refine g_iload W54 at_163 (pc' := 165) rfl rfl ?_
            refine g_icmp W54 at_165 (pcy := 183) (by decide) (pc' := 168) rfl (fun (c56 : j < (2 : Int32)) => ?_) (fun (c56 : ¬ j < (2 : Int32)) => ?_)
            · exact absurd c56 h2
            · refine g_dload W54 at_168 (pc' := 170) rfl rfl ?_
              refine g_ldc2Double W54 (wd_28 hw) at_170 (pc' := 173) rfl ?_
              refine g_dcmp W54 at_173 (pc' := 174) rfl rfl ?_
              rw [show (cmpValue (FP.dcmp (13826050856027422720 : UInt64) (13826050856027422720 : UInt64)) .l) = (0 : Int32) from by decide +kernel]
              refine g_if W54 at_174 (pcy := 181) (by decide) (pc' := 177) rfl (fun (h : ¬ (0 : Int32) = (0 : Int32)) => absurd h (by decide)) (fun _ => ?_)
              refine g_iconst W54 at_177 (pc' := 178) rfl (v := (1 : Int32)) (by decide) ?_
              refine g_goto W54 at_178 (pc' := 182) (by decide) ?_
              exact g_zreturn W54 (by decide) at_182 rfl (by decide) (by decide)
    refine g_if W40 at_132 (pcy := 139) (by decide) (pc' := 135) rfl (fun (c57 : (p0 &&& (4 : Int32)) = (0 : Int32)) => ?_) (fun (c57 : ¬ (p0 &&& (4 : Int32)) = (0 : Int32)) => ?_)
    · refine g_iloadN W40 at_139 (pc' := 140) rfl rfl ?_
      refine g_bipush W40 at_140 (pc' := 142) rfl (v := (7 : Int32)) (by decide) ?_
      refine g_iand W40 at_142 (pc' := 143) rfl rfl ?_
      refine g_iconst W40 at_143 (pc' := 144) rfl (v := (2 : Int32)) (by decide) ?_
      refine g_isub W40 at_144 (pc' := 145) rfl rfl ?_
      exact J _ _ W40 H40
    · refine g_iloadN W40 at_135 (pc' := 136) rfl rfl ?_
      refine g_goto W40 at_136 (pc' := 145) (by decide) ?_
      exact J _ _ W40 H40
  · rw [hn]
    refine g_istore W0 at_3 (pc' := 5) rfl (ls' := #[.val (.int p0), .val (.int p1), .val (.long p2), .second, .val (.long p3), .second, .val (.long p4), .second, .val (.int (3 : Int32)), .unset, .unset, .unset, .unset, .unset, .unset, .unset, .unset, .unset, .unset, .unset, .unset]) rfl ?_
    refine g_iload W0 at_5 (pc' := 7) rfl rfl ?_
    refine g_newarr (aty := .double) W0 (wd_0 hw) H0 (by decide) (vs := [.double 0, .double 0, .double 0]) rfl (cap := 3) (Nat.le_of_eq rfl) (by decide) at_7 (pc' := 9) rfl (kc' := 1) (ks' := 3) rfl rfl (by decide) (by decide) ?_
    intro T58 a58 W58 H58
    replace H58 : Hp Z n0 T58.heap [(a58, ArC Z .double [.double 0, .double 0, .double 0])] := H58
    refine g_astore W58 at_9 (pc' := 11) rfl rfl (ls' := #[.val (.int p0), .val (.int p1), .val (.long p2), .second, .val (.long p3), .second, .val (.long p4), .second, .val (.int (3 : Int32)), .val (.ref a58), .unset, .unset, .unset, .unset, .unset, .unset, .unset, .unset, .unset, .unset, .unset]) rfl ?_
    refine g_iload W58 at_11 (pc' := 13) rfl rfl ?_
    refine g_newarr (aty := .long) W58 (wd_1 hw) H58 (by decide) (vs := [.long 0, .long 0, .long 0]) rfl (cap := 3) (Nat.le_of_eq rfl) (by decide) at_13 (pc' := 15) rfl (kc' := 2) (ks' := 6) rfl rfl (by decide) (by decide) ?_
    intro T59 a59 W59 H59
    replace H59 : Hp Z n0 T59.heap [(a59, ArC Z .long [.long 0, .long 0, .long 0]), (a58, ArC Z .double [.double 0, .double 0, .double 0])] := H59
    refine g_astore W59 at_15 (pc' := 17) rfl rfl (ls' := #[.val (.int p0), .val (.int p1), .val (.long p2), .second, .val (.long p3), .second, .val (.long p4), .second, .val (.int (3 : Int32)), .val (.ref a58), .val (.ref a59), .unset, .unset, .unset, .unset, .unset, .unset, .unset, .unset, .unset, .unset]) rfl ?_
    refine g_iload W59 at_17 (pc' := 19) rfl rfl ?_
    refine g_if W59 at_19 (pcy := 32) (by decide) (pc' := 22) rfl (fun (h : ¬ (0 : Int32) < (3 : Int32)) => absurd h (by decide)) (fun _ => ?_)
    refine g_aload W59 at_22 (pc' := 24) rfl rfl rfl ?_
    refine g_iconst W59 at_24 (pc' := 25) rfl (v := (0 : Int32)) (by decide) ?_
    refine g_dconst1 W59 at_25 (pc' := 26) rfl ?_
    refine g_dastore W59 H59 (i := 1) rfl (jx := 0) (by decide) (by exact (by decide : 0 < 3)) at_26 (pc' := 27) rfl (L' := [(a59, ArC Z .long [.long 0, .long 0, .long 0]), (a58, ArC Z .double [.double (4607182418800017408 : UInt64), .double 0, .double 0])]) rfl ?_
    intro T60 W60 H60
    refine g_aload W60 at_27 (pc' := 29) rfl rfl rfl ?_
    refine g_iconst W60 at_29 (pc' := 30) rfl (v := (0 : Int32)) (by decide) ?_
    refine g_lloadN W60 at_30 (pc' := 31) rfl rfl ?_
    refine g_lastore W60 H60 (i := 0) rfl (jx := 0) (by decide) (by exact (by decide : 0 < 3)) at_31 (pc' := 32) rfl (L' := [(a59, ArC Z .long [.long p2, .long 0, .long 0]), (a58, ArC Z .double [.double (4607182418800017408 : UInt64), .double 0, .double 0])]) rfl ?_
    intro T61 W61 H61
    refine g_iload W61 at_32 (pc' := 34) rfl rfl ?_
    refine g_iconst W61 at_34 (pc' := 35) rfl (v := (1 : Int32)) (by decide) ?_
    refine g_icmp W61 at_35 (pcy := 51) (by decide) (pc' := 38) rfl (fun (h : ¬ (1 : Int32) < (3 : Int32)) => absurd h (by decide)) (fun _ => ?_)
    refine g_aload W61 at_38 (pc' := 40) rfl rfl rfl ?_
    refine g_iconst W61 at_40 (pc' := 41) rfl (v := (1 : Int32)) (by decide) ?_
    refine g_ldc2Double W61 (wd_29 hw) at_41 (pc' := 44) rfl ?_
    refine g_dastore W61 H61 (i := 1) rfl (jx := 1) (by decide) (by exact (by decide : 1 < 3)) at_44 (pc' := 45) rfl (L' := [(a59, ArC Z .long [.long p2, .long 0, .long 0]), (a58, ArC Z .double [.double (4607182418800017408 : UInt64), .double (4611686018427387904 : UInt64), .double 0])]) rfl ?_
    intro T62 W62 H62
    refine g_aload W62 at_45 (pc' := 47) rfl rfl rfl ?_
    refine g_iconst W62 at_47 (pc' := 48) rfl (v := (1 : Int32)) (by decide) ?_
    refine g_lload W62 at_48 (pc' := 50) rfl rfl ?_
    refine g_lastore W62 H62 (i := 0) rfl (jx := 1) (by decide) (by exact (by decide : 1 < 3)) at_50 (pc' := 51) rfl (L' := [(a59, ArC Z .long [.long p2, .long p3, .long 0]), (a58, ArC Z .double [.double (4607182418800017408 : UInt64), .double (4611686018427387904 : UInt64), .double 0])]) rfl ?_
    intro T63 W63 H63
    refine g_iload W63 at_51 (pc' := 53) rfl rfl ?_
    refine g_iconst W63 at_53 (pc' := 54) rfl (v := (2 : Int32)) (by decide) ?_
    refine g_icmp W63 at_54 (pcy := 70) (by decide) (pc' := 57) rfl (fun (h : ¬ (2 : Int32) < (3 : Int32)) => absurd h (by decide)) (fun _ => ?_)
    refine g_aload W63 at_57 (pc' := 59) rfl rfl rfl ?_
    refine g_iconst W63 at_59 (pc' := 60) rfl (v := (2 : Int32)) (by decide) ?_
    refine g_ldc2Double W63 (wd_30 hw) at_60 (pc' := 63) rfl ?_
    refine g_dastore W63 H63 (i := 1) rfl (jx := 2) (by decide) (by exact (by decide : 2 < 3)) at_63 (pc' := 64) rfl (L' := [(a59, ArC Z .long [.long p2, .long p3, .long 0]), (a58, ArC Z .double [.double (4607182418800017408 : UInt64), .double (4611686018427387904 : UInt64), .double (4613937818241073152 : UInt64)])]) rfl ?_
    intro T64 W64 H64
    refine g_aload W64 at_64 (pc' := 66) rfl rfl rfl ?_
    refine g_iconst W64 at_66 (pc' := 67) rfl (v := (2 : Int32)) (by decide) ?_
    refine g_lload W64 at_67 (pc' := 69) rfl rfl ?_
    refine g_lastore W64 H64 (i := 0) rfl (jx := 2) (by decide) (by exact (by decide : 2 < 3)) at_69 (pc' := 70) rfl (L' := [(a59, ArC Z .long [.long p2, .long p3, .long p4]), (a58, ArC Z .double [.double (4607182418800017408 : UInt64), .double (4611686018427387904 : UInt64), .double (4613937818241073152 : UInt64)])]) rfl ?_
    intro T65 W65 H65
    refine g_lconst W65 at_70 (pc' := 71) rfl (v := (0 : Int64)) (by decide) ?_
    refine g_lstore W65 at_71 (pc' := 73) rfl (ls' := #[.val (.int p0), .val (.int p1), .val (.long p2), .second, .val (.long p3), .second, .val (.long p4), .second, .val (.int (3 : Int32)), .val (.ref a58), .val (.ref a59), .val (.long (0 : Int64)), .second, .unset, .unset, .unset, .unset, .unset, .unset, .unset, .unset]) rfl ?_
    refine g_iload W65 at_73 (pc' := 75) rfl rfl ?_
    refine g_if W65 at_75 (pcy := 84) (by decide) (pc' := 78) rfl (fun (h : ¬ (0 : Int32) < (3 : Int32)) => absurd h (by decide)) (fun _ => ?_)
    refine g_lload W65 at_78 (pc' := 80) rfl rfl ?_
    refine g_lloadN W65 at_80 (pc' := 81) rfl rfl ?_
    refine g_ladd W65 at_81 (pc' := 82) rfl rfl ?_
    refine g_lstore W65 at_82 (pc' := 84) rfl (ls' := #[.val (.int p0), .val (.int p1), .val (.long p2), .second, .val (.long p3), .second, .val (.long p4), .second, .val (.int (3 : Int32)), .val (.ref a58), .val (.ref a59), .val (.long ((0 : Int64) + p2)), .second, .unset, .unset, .unset, .unset, .unset, .unset, .unset, .unset]) rfl ?_
    refine g_iload W65 at_84 (pc' := 86) rfl rfl ?_
    refine g_iconst W65 at_86 (pc' := 87) rfl (v := (1 : Int32)) (by decide) ?_
    refine g_icmp W65 at_87 (pcy := 97) (by decide) (pc' := 90) rfl (fun (h : ¬ (1 : Int32) < (3 : Int32)) => absurd h (by decide)) (fun _ => ?_)
    refine g_lload W65 at_90 (pc' := 92) rfl rfl ?_
    refine g_lload W65 at_92 (pc' := 94) rfl rfl ?_
    refine g_ladd W65 at_94 (pc' := 95) rfl rfl ?_
    refine g_lstore W65 at_95 (pc' := 97) rfl (ls' := #[.val (.int p0), .val (.int p1), .val (.long p2), .second, .val (.long p3), .second, .val (.long p4), .second, .val (.int (3 : Int32)), .val (.ref a58), .val (.ref a59), .val (.long (((0 : Int64) + p2) + p3)), .second, .unset, .unset, .unset, .unset, .unset, .unset, .unset, .unset]) rfl ?_
    refine g_iload W65 at_97 (pc' := 99) rfl rfl ?_
    refine g_iconst W65 at_99 (pc' := 100) rfl (v := (2 : Int32)) (by decide) ?_
    refine g_icmp W65 at_100 (pcy := 110) (by decide) (pc' := 103) rfl (fun (h : ¬ (2 : Int32) < (3 : Int32)) => absurd h (by decide)) (fun _ => ?_)
    refine g_lload W65 at_103 (pc' := 105) rfl rfl ?_
    refine g_lload W65 at_105 (pc' := 107) rfl rfl ?_
    refine g_ladd W65 at_107 (pc' := 108) rfl rfl ?_
    refine g_lstore W65 at_108 (pc' := 110) rfl (ls' := #[.val (.int p0), .val (.int p1), .val (.long p2), .second, .val (.long p3), .second, .val (.long p4), .second, .val (.int (3 : Int32)), .val (.ref a58), .val (.ref a59), .val (.long ((((0 : Int64) + p2) + p3) + p4)), .second, .unset, .unset, .unset, .unset, .unset, .unset, .unset, .unset]) rfl ?_
    refine g_new W65 (wd_2 hw) (wd_3 hw) (wd_4 hw) (la_Centroids hw) (by decide) H65 at_110 (pc' := 113) rfl (kc' := 3) (ks' := 11) rfl rfl (by decide) (by decide) ?_
    intro T66 a66 W66 H66
    refine g_dup W66 at_113 (pc' := 114) rfl rfl ?_
    refine g_aload W66 at_114 (pc' := 116) rfl rfl rfl ?_
    refine g_aload W66 at_116 (pc' := 118) rfl rfl rfl ?_
    refine g_lload W66 at_118 (pc' := 120) rfl rfl ?_
    refine g_dconst0 W66 at_120 (pc' := 121) rfl ?_
    refine g_ldc2Double W66 (wd_5 hw) at_121 (pc' := 124) rfl ?_
    refine g_callI W66 (argsL := [.ref a58, .ref a59, .long ((((0 : Int64) + p2) + p3) + p4), .double 0, .double (4616189618054758400 : UInt64)]) (st := [.ref a66]) rfl (wd_6 hw) (wd_7 hw) (wd_4 hw) (wd_8 hw) (by decide) (a := a66) (c_init l Z a0 hw n0 a66 a58 a59 ((((0 : Int64) + p2) + p3) + p4) 0 (4616189618054758400 : UInt64) _ _ H66) pd_0 rfl rfl rfl at_124 (pc' := 127) rfl (by decide) (Wn := 1) (Nat.le_of_eq rfl) (by decide) (kc' := 3) (ks' := 11) rfl rfl (by decide) (by decide) ?_
    intro T67 v67 W67 hp67
    obtain ⟨rfl, H67⟩ := hp67
    show Goes p e below _ (T67.setTop (mkF m 127 #[.val (.int p0), .val (.int p1), .val (.long p2), .second, .val (.long p3), .second, .val (.long p4), .second, .val (.int (3 : Int32)), .val (.ref a58), .val (.ref a59), .val (.long ((((0 : Int64) + p2) + p3) + p4)), .second, .unset, .unset, .unset, .unset, .unset, .unset, .unset, .unset] [.ref a66]))
    refine g_astore W67 at_127 (pc' := 129) rfl rfl (ls' := #[.val (.int p0), .val (.int p1), .val (.long p2), .second, .val (.long p3), .second, .val (.long p4), .second, .val (.int (3 : Int32)), .val (.ref a58), .val (.ref a59), .val (.long ((((0 : Int64) + p2) + p3) + p4)), .second, .val (.ref a66), .unset, .unset, .unset, .unset, .unset, .unset, .unset]) rfl ?_
    refine g_iloadN W67 at_129 (pc' := 130) rfl rfl ?_
    refine g_iconst W67 at_130 (pc' := 131) rfl (v := (4 : Int32)) (by decide) ?_
    refine g_iand W67 at_131 (pc' := 132) rfl rfl ?_
    have J : ∀ (TJJ : State) (j : Int32), Wk Z x code maxLocals ret n0 p l e room_1 s m #[.int p0, .int p1, .long p2, .long p3, .long p4] below meth c TJJ 3 11 → Hp Z n0 TJJ.heap [(a66, ObC Z "com/example/dipper/dipper/Centroids" [("com/example/dipper/dipper/Centroids", "means", "[D", .ref a58), ("com/example/dipper/dipper/Centroids", "weights", "[J", .ref a59), ("com/example/dipper/dipper/Centroids", "count", "J", .long ((((0 : Int64) + p2) + p3) + p4)), ("com/example/dipper/dipper/Centroids", "min", "D", .double 0), ("com/example/dipper/dipper/Centroids", "max", "D", .double (4616189618054758400 : UInt64))]), (a59, ArC Z .long [.long p2, .long p3, .long p4]), (a58, ArC Z .double [.double (4607182418800017408 : UInt64), .double (4611686018427387904 : UInt64), .double (4613937818241073152 : UInt64)])] → Goes p e below (En s n0 (Room.cells room_1) (Room.slots room_1) (fun v _ => v = some (.int 1))) (TJJ.setTop (mkF m 145 #[.val (.int p0), .val (.int p1), .val (.long p2), .second, .val (.long p3), .second, .val (.long p4), .second, .val (.int (3 : Int32)), .val (.ref a58), .val (.ref a59), .val (.long ((((0 : Int64) + p2) + p3) + p4)), .second, .val (.ref a66), .unset, .unset, .unset, .unset, .unset, .unset, .unset] [.int j])) := by
      intro TJJ j WJJ HJJ
      refine g_istore WJJ at_145 (pc' := 147) rfl (ls' := #[.val (.int p0), .val (.int p1), .val (.long p2), .second, .val (.long p3), .second, .val (.long p4), .second, .val (.int (3 : Int32)), .val (.ref a58), .val (.ref a59), .val (.long ((((0 : Int64) + p2) + p3) + p4)), .second, .val (.ref a66), .val (.int j), .unset, .unset, .unset, .unset, .unset, .unset]) rfl ?_
      refine g_aload WJJ at_147 (pc' := 149) rfl rfl rfl ?_
      refine g_iload WJJ at_149 (pc' := 151) rfl rfl ?_
      have H68f : Hp Z n0 TJJ.heap [(a59, ArC Z .long [.long p2, .long p3, .long p4]), (a66, ObC Z "com/example/dipper/dipper/Centroids" [("com/example/dipper/dipper/Centroids", "means", "[D", .ref a58), ("com/example/dipper/dipper/Centroids", "weights", "[J", .ref a59), ("com/example/dipper/dipper/Centroids", "count", "J", .long ((((0 : Int64) + p2) + p3) + p4)), ("com/example/dipper/dipper/Centroids", "min", "D", .double 0), ("com/example/dipper/dipper/Centroids", "max", "D", .double (4616189618054758400 : UInt64))]), (a58, ArC Z .double [.double (4607182418800017408 : UInt64), .double (4611686018427387904 : UInt64), .double (4613937818241073152 : UInt64)])] := HJJ.front (i := 1) rfl rfl
      have H69f : Hp Z n0 TJJ.heap [(a58, ArC Z .double [.double (4607182418800017408 : UInt64), .double (4611686018427387904 : UInt64), .double (4613937818241073152 : UInt64)]), (a59, ArC Z .long [.long p2, .long p3, .long p4]), (a66, ObC Z "com/example/dipper/dipper/Centroids" [("com/example/dipper/dipper/Centroids", "means", "[D", .ref a58), ("com/example/dipper/dipper/Centroids", "weights", "[J", .ref a59), ("com/example/dipper/dipper/Centroids", "count", "J", .long ((((0 : Int64) + p2) + p3) + p4)), ("com/example/dipper/dipper/Centroids", "min", "D", .double 0), ("com/example/dipper/dipper/Centroids", "max", "D", .double (4616189618054758400 : UInt64))])] := H68f.front (i := 2) rfl rfl
      have H70f : Hp Z n0 TJJ.heap [(a66, ObC Z "com/example/dipper/dipper/Centroids" [("com/example/dipper/dipper/Centroids", "means", "[D", .ref a58), ("com/example/dipper/dipper/Centroids", "weights", "[J", .ref a59), ("com/example/dipper/dipper/Centroids", "count", "J", .long ((((0 : Int64) + p2) + p3) + p4)), ("com/example/dipper/dipper/Centroids", "min", "D", .double 0), ("com/example/dipper/dipper/Centroids", "max", "D", .double (4616189618054758400 : UInt64))]), (a58, ArC Z .double [.double (4607182418800017408 : UInt64), .double (4611686018427387904 : UInt64), .double (4613937818241073152 : UInt64)]), (a59, ArC Z .long [.long p2, .long p3, .long p4])] := H69f.front (i := 2) rfl rfl
      rcases Classical.em (j < (0 : Int32)) with h1 | h1
      · refine g_callV WJJ (argsL := [.int j]) (st := []) (wd_22 hw) (wd_23 hw) (wd_25 hw) (wd_24 hw) (wd_4 hw) (wd_26 hw) (by decide) (a := a66) H70f (i := 0) rfl (c_half l Z a0 hw n0 a66 a58 a59 ((((0 : Int64) + p2) + p3) + p4) 0 (4616189618054758400 : UInt64) [.double (4607182418800017408 : UInt64), .double (4611686018427387904 : UInt64), .double (4613937818241073152 : UInt64)] [.long p2, .long p3, .long p4] (3 : Int32) j (13826050856027422720 : UInt64) rfl ⟨fun _ => rfl, fun q => absurd h1 q, fun q => absurd h1 q⟩ _ _ H70f) pd_1 rfl rfl rfl at_151 (pc' := 154) rfl (by decide) (Wn := 0) (Nat.le_of_eq rfl) (by decide) (kc' := 3) (ks' := 11) rfl rfl (by decide) (by decide) ?_
        intro T71 v71 W71 hp71
        obtain ⟨rfl, H71⟩ := hp71
        show Goes p e below _ (T71.setTop (mkF m 154 #[.val (.int p0), .val (.int p1), .val (.long p2), .second, .val (.long p3), .second, .val (.long p4), .second, .val (.int (3 : Int32)), .val (.ref a58), .val (.ref a59), .val (.long ((((0 : Int64) + p2) + p3) + p4)), .second, .val (.ref a66), .val (.int j), .unset, .unset, .unset, .unset, .unset, .unset] [.double (13826050856027422720 : UInt64)]))
        refine g_dstore W71 at_154 (pc' := 156) rfl (ls' := #[.val (.int p0), .val (.int p1), .val (.long p2), .second, .val (.long p3), .second, .val (.long p4), .second, .val (.int (3 : Int32)), .val (.ref a58), .val (.ref a59), .val (.long ((((0 : Int64) + p2) + p3) + p4)), .second, .val (.ref a66), .val (.int j), .val (.double (13826050856027422720 : UInt64)), .second, .unset, .unset, .unset, .unset]) rfl ?_
        refine g_iload W71 at_156 (pc' := 158) rfl rfl ?_
        refine g_if W71 at_158 (pcy := 168) (by decide) (pc' := 161) rfl (fun (c72 : j < (0 : Int32)) => ?_) (fun (c72 : ¬ j < (0 : Int32)) => ?_)
        · refine g_dload W71 at_168 (pc' := 170) rfl rfl ?_
          refine g_ldc2Double W71 (wd_28 hw) at_170 (pc' := 173) rfl ?_
          refine g_dcmp W71 at_173 (pc' := 174) rfl rfl ?_
          rw [show (cmpValue (FP.dcmp (13826050856027422720 : UInt64) (13826050856027422720 : UInt64)) .l) = (0 : Int32) from by decide +kernel]
          refine g_if W71 at_174 (pcy := 181) (by decide) (pc' := 177) rfl (fun (h : ¬ (0 : Int32) = (0 : Int32)) => absurd h (by decide)) (fun _ => ?_)
          refine g_iconst W71 at_177 (pc' := 178) rfl (v := (1 : Int32)) (by decide) ?_
          refine g_goto W71 at_178 (pc' := 182) (by decide) ?_
          exact g_zreturn W71 (by decide) at_182 rfl (by decide) (by decide)
        · exact absurd h1 c72
      · rcases Classical.em (j < (3 : Int32)) with h2 | h2
        · rcases lt3 h1 h2 with hk | hk | hk
          · subst hk
            refine g_callV WJJ (argsL := [.int (0 : Int32)]) (st := []) (wd_22 hw) (wd_23 hw) (wd_25 hw) (wd_24 hw) (wd_4 hw) (wd_26 hw) (by decide) (a := a66) H70f (i := 0) rfl (c_half l Z a0 hw n0 a66 a58 a59 ((((0 : Int64) + p2) + p3) + p4) 0 (4616189618054758400 : UInt64) [.double (4607182418800017408 : UInt64), .double (4611686018427387904 : UInt64), .double (4613937818241073152 : UInt64)] [.long p2, .long p3, .long p4] (3 : Int32) (0 : Int32) (FP.ddiv (FP.l2d p2) (4611686018427387904 : UInt64)) rfl ⟨fun q => absurd q (by decide), fun _ q => absurd (by decide) q, fun _ _ => ⟨0, p2, by decide, rfl, rfl⟩⟩ _ _ H70f) pd_1 rfl rfl rfl at_151 (pc' := 154) rfl (by decide) (Wn := 0) (Nat.le_of_eq rfl) (by decide) (kc' := 3) (ks' := 11) rfl rfl (by decide) (by decide) ?_
            intro T73 v73 W73 hp73
            obtain ⟨rfl, H73⟩ := hp73
            show Goes p e below _ (T73.setTop (mkF m 154 #[.val (.int p0), .val (.int p1), .val (.long p2), .second, .val (.long p3), .second, .val (.long p4), .second, .val (.int (3 : Int32)), .val (.ref a58), .val (.ref a59), .val (.long ((((0 : Int64) + p2) + p3) + p4)), .second, .val (.ref a66), .val (.int (0 : Int32)), .unset, .unset, .unset, .unset, .unset, .unset] [.double (FP.ddiv (FP.l2d p2) (4611686018427387904 : UInt64))]))
            refine g_dstore W73 at_154 (pc' := 156) rfl (ls' := #[.val (.int p0), .val (.int p1), .val (.long p2), .second, .val (.long p3), .second, .val (.long p4), .second, .val (.int (3 : Int32)), .val (.ref a58), .val (.ref a59), .val (.long ((((0 : Int64) + p2) + p3) + p4)), .second, .val (.ref a66), .val (.int (0 : Int32)), .val (.double (FP.ddiv (FP.l2d p2) (4611686018427387904 : UInt64))), .second, .unset, .unset, .unset, .unset]) rfl ?_
            refine g_iload W73 at_156 (pc' := 158) rfl rfl ?_
            refine g_if W73 at_158 (pcy := 168) (by decide) (pc' := 161) rfl (fun (h : (0 : Int32) < (0 : Int32)) => absurd h (by decide)) (fun _ => ?_)
            refine g_iload W73 at_161 (pc' := 163) rfl rfl ?_
            refine g_iload W73 at_163 (pc' := 165) rfl rfl ?_
            refine g_icmp W73 at_165 (pcy := 183) (by decide) (pc' := 168) rfl (fun _ => ?_) (fun (h : ¬ (0 : Int32) < (3 : Int32)) => absurd h (by decide))
            refine g_iload W73 at_183 (pc' := 185) rfl rfl ?_
            refine g_if W73 at_185 (pcy := 192) (by decide) (pc' := 188) rfl (fun (h : ¬ (0 : Int32) = (0 : Int32)) => absurd h (by decide)) (fun _ => ?_)
            refine g_lloadN W73 at_188 (pc' := 189) rfl rfl ?_
            refine g_goto W73 at_189 (pc' := 205) (by decide) ?_
            refine g_lstore W73 at_205 (pc' := 207) rfl (ls' := #[.val (.int p0), .val (.int p1), .val (.long p2), .second, .val (.long p3), .second, .val (.long p4), .second, .val (.int (3 : Int32)), .val (.ref a58), .val (.ref a59), .val (.long ((((0 : Int64) + p2) + p3) + p4)), .second, .val (.ref a66), .val (.int (0 : Int32)), .val (.double (FP.ddiv (FP.l2d p2) (4611686018427387904 : UInt64))), .second, .val (.long p2), .second, .unset, .unset]) rfl ?_
            refine g_dload W73 at_207 (pc' := 209) rfl rfl ?_
            refine g_dload W73 at_209 (pc' := 211) rfl rfl ?_
            refine g_dadd W73 at_211 (pc' := 212) rfl rfl (own_dbl p2).1 ?_
            refine g_lload W73 at_212 (pc' := 214) rfl rfl ?_
            refine g_l2d W73 at_214 (pc' := 215) rfl rfl ?_
            refine g_dcmp W73 at_215 (pc' := 216) rfl rfl ?_
            rw [show (cmpValue (FP.dcmp (FP.dadd (FP.ddiv (FP.l2d p2) (4611686018427387904 : UInt64)) (FP.ddiv (FP.l2d p2) (4611686018427387904 : UInt64))) (FP.l2d p2)) .l) = (0 : Int32) from (own_dbl p2).2]
            refine g_if W73 at_216 (pcy := 221) (by decide) (pc' := 219) rfl (fun _ => ?_) (fun (h : ¬ (0 : Int32) = (0 : Int32)) => absurd h (by decide))
            refine g_lload W73 at_221 (pc' := 223) rfl rfl ?_
            refine g_ldc2Long W73 (wd_32 hw) at_223 (pc' := 226) rfl ?_
            refine g_lcmp W73 at_226 (pc' := 227) rfl rfl ?_
            refine g_if W73 at_227 (pcy := 277) (by decide) (pc' := 230) rfl (fun (c74 : ¬ (0 : Int32) < (XT.cmpL p2 (-4503599627370496 : Int64))) => ?_) (fun (c74 : ¬ ¬ (0 : Int32) < (XT.cmpL p2 (-4503599627370496 : Int64))) => ?_)
            · refine g_iconst W73 at_277 (pc' := 278) rfl (v := (1 : Int32)) (by decide) ?_
              exact g_zreturn W73 (by decide) at_278 rfl (by decide) (by decide)
            · replace c74 := Classical.not_not.mp c74
              replace c74 := cmpL_gt0.mp c74
              refine g_lload W73 at_230 (pc' := 232) rfl rfl ?_
              refine g_ldc2Long W73 (wd_33 hw) at_232 (pc' := 235) rfl ?_
              refine g_lcmp W73 at_235 (pc' := 236) rfl rfl ?_
              refine g_if W73 at_236 (pcy := 277) (by decide) (pc' := 239) rfl (fun (c75 : ¬ (XT.cmpL p2 (4503599627370496 : Int64)) < (0 : Int32)) => ?_) (fun (c75 : ¬ ¬ (XT.cmpL p2 (4503599627370496 : Int64)) < (0 : Int32)) => ?_)
              · refine g_iconst W73 at_277 (pc' := 278) rfl (v := (1 : Int32)) (by decide) ?_
                exact g_zreturn W73 (by decide) at_278 rfl (by decide) (by decide)
              · replace c75 := Classical.not_not.mp c75
                have hs := own_small c74 (cmpL_lt0.mp c75)
                refine g_lload W73 at_239 (pc' := 241) rfl rfl ?_
                refine g_iconst W73 at_241 (pc' := 242) rfl (v := (1 : Int32)) (by decide) ?_
                refine g_lshr W73 at_242 (pc' := 243) rfl rfl ?_
                refine g_l2d W73 at_243 (pc' := 244) rfl rfl ?_
                refine g_lload W73 at_244 (pc' := 246) rfl rfl ?_
                refine g_lconst W73 at_246 (pc' := 247) rfl (v := (1 : Int64)) (by decide) ?_
                refine g_land W73 at_247 (pc' := 248) rfl rfl ?_
                refine g_lconst W73 at_248 (pc' := 249) rfl (v := (0 : Int64)) (by decide) ?_
                refine g_lcmp W73 at_249 (pc' := 250) rfl rfl ?_
                refine g_if W73 at_250 (pcy := 259) (by decide) (pc' := 253) rfl (fun (c76 : (XT.cmpL (p2 &&& (1 : Int64)) (0 : Int64)) = (0 : Int32)) => ?_) (fun (c76 : ¬ (XT.cmpL (p2 &&& (1 : Int64)) (0 : Int64)) = (0 : Int32)) => ?_)
                · have hz : (p2 &&& (1 : Int64)) = 0 := cmpL_eq0.mp c76
                  refine g_dconst0 W73 at_259 (pc' := 260) rfl ?_
                  refine g_dadd W73 at_260 (pc' := 261) rfl rfl (own_even hs hz).1 ?_
                  refine g_dstore W73 at_261 (pc' := 263) rfl (ls' := #[.val (.int p0), .val (.int p1), .val (.long p2), .second, .val (.long p3), .second, .val (.long p4), .second, .val (.int (3 : Int32)), .val (.ref a58), .val (.ref a59), .val (.long ((((0 : Int64) + p2) + p3) + p4)), .second, .val (.ref a66), .val (.int (0 : Int32)), .val (.double (FP.ddiv (FP.l2d p2) (4611686018427387904 : UInt64))), .second, .val (.long p2), .second, .val (.double (FP.dadd (FP.l2d (p2 >>> ((1 : Int32).toInt64 &&& 63))) 0)), .second]) rfl ?_
                  refine g_dload W73 at_263 (pc' := 265) rfl rfl ?_
                  refine g_dload W73 at_265 (pc' := 267) rfl rfl ?_
                  refine g_dcmp W73 at_267 (pc' := 268) rfl rfl ?_
                  rw [show (cmpValue (FP.dcmp (FP.ddiv (FP.l2d p2) (4611686018427387904 : UInt64)) (FP.dadd (FP.l2d (p2 >>> ((1 : Int32).toInt64 &&& 63))) 0)) .l) = (0 : Int32) from (own_even hs hz).2]
                  refine g_if W73 at_268 (pcy := 275) (by decide) (pc' := 271) rfl (fun (h : ¬ (0 : Int32) = (0 : Int32)) => absurd h (by decide)) (fun _ => ?_)
                  refine g_iconst W73 at_271 (pc' := 272) rfl (v := (1 : Int32)) (by decide) ?_
                  refine g_goto W73 at_272 (pc' := 276) (by decide) ?_
                  exact g_zreturn W73 (by decide) at_276 rfl (by decide) (by decide)
                · have hz : ¬ (p2 &&& (1 : Int64)) = 0 := fun q => c76 (cmpL_eq0.mpr q)
                  refine g_ldc2Double W73 (wd_34 hw) at_253 (pc' := 256) rfl ?_
                  refine g_goto W73 at_256 (pc' := 260) (by decide) ?_
                  refine g_dadd W73 at_260 (pc' := 261) rfl rfl (own_odd hs hz).1 ?_
                  refine g_dstore W73 at_261 (pc' := 263) rfl (ls' := #[.val (.int p0), .val (.int p1), .val (.long p2), .second, .val (.long p3), .second, .val (.long p4), .second, .val (.int (3 : Int32)), .val (.ref a58), .val (.ref a59), .val (.long ((((0 : Int64) + p2) + p3) + p4)), .second, .val (.ref a66), .val (.int (0 : Int32)), .val (.double (FP.ddiv (FP.l2d p2) (4611686018427387904 : UInt64))), .second, .val (.long p2), .second, .val (.double (FP.dadd (FP.l2d (p2 >>> ((1 : Int32).toInt64 &&& 63))) (4602678819172646912 : UInt64))), .second]) rfl ?_
                  refine g_dload W73 at_263 (pc' := 265) rfl rfl ?_
                  refine g_dload W73 at_265 (pc' := 267) rfl rfl ?_
                  refine g_dcmp W73 at_267 (pc' := 268) rfl rfl ?_
                  rw [show (cmpValue (FP.dcmp (FP.ddiv (FP.l2d p2) (4611686018427387904 : UInt64)) (FP.dadd (FP.l2d (p2 >>> ((1 : Int32).toInt64 &&& 63))) (4602678819172646912 : UInt64))) .l) = (0 : Int32) from (own_odd hs hz).2]
                  refine g_if W73 at_268 (pcy := 275) (by decide) (pc' := 271) rfl (fun (h : ¬ (0 : Int32) = (0 : Int32)) => absurd h (by decide)) (fun _ => ?_)
                  refine g_iconst W73 at_271 (pc' := 272) rfl (v := (1 : Int32)) (by decide) ?_
                  refine g_goto W73 at_272 (pc' := 276) (by decide) ?_
                  exact g_zreturn W73 (by decide) at_276 rfl (by decide) (by decide)
          · subst hk
            refine g_callV WJJ (argsL := [.int (1 : Int32)]) (st := []) (wd_22 hw) (wd_23 hw) (wd_25 hw) (wd_24 hw) (wd_4 hw) (wd_26 hw) (by decide) (a := a66) H70f (i := 0) rfl (c_half l Z a0 hw n0 a66 a58 a59 ((((0 : Int64) + p2) + p3) + p4) 0 (4616189618054758400 : UInt64) [.double (4607182418800017408 : UInt64), .double (4611686018427387904 : UInt64), .double (4613937818241073152 : UInt64)] [.long p2, .long p3, .long p4] (3 : Int32) (1 : Int32) (FP.ddiv (FP.l2d p3) (4611686018427387904 : UInt64)) rfl ⟨fun q => absurd q (by decide), fun _ q => absurd (by decide) q, fun _ _ => ⟨1, p3, by decide, rfl, rfl⟩⟩ _ _ H70f) pd_1 rfl rfl rfl at_151 (pc' := 154) rfl (by decide) (Wn := 0) (Nat.le_of_eq rfl) (by decide) (kc' := 3) (ks' := 11) rfl rfl (by decide) (by decide) ?_
            intro T77 v77 W77 hp77
            obtain ⟨rfl, H77⟩ := hp77
            show Goes p e below _ (T77.setTop (mkF m 154 #[.val (.int p0), .val (.int p1), .val (.long p2), .second, .val (.long p3), .second, .val (.long p4), .second, .val (.int (3 : Int32)), .val (.ref a58), .val (.ref a59), .val (.long ((((0 : Int64) + p2) + p3) + p4)), .second, .val (.ref a66), .val (.int (1 : Int32)), .unset, .unset, .unset, .unset, .unset, .unset] [.double (FP.ddiv (FP.l2d p3) (4611686018427387904 : UInt64))]))
            refine g_dstore W77 at_154 (pc' := 156) rfl (ls' := #[.val (.int p0), .val (.int p1), .val (.long p2), .second, .val (.long p3), .second, .val (.long p4), .second, .val (.int (3 : Int32)), .val (.ref a58), .val (.ref a59), .val (.long ((((0 : Int64) + p2) + p3) + p4)), .second, .val (.ref a66), .val (.int (1 : Int32)), .val (.double (FP.ddiv (FP.l2d p3) (4611686018427387904 : UInt64))), .second, .unset, .unset, .unset, .unset]) rfl ?_
            refine g_iload W77 at_156 (pc' := 158) rfl rfl ?_
            refine g_if W77 at_158 (pcy := 168) (by decide) (pc' := 161) rfl (fun (h : (1 : Int32) < (0 : Int32)) => absurd h (by decide)) (fun _ => ?_)
            refine g_iload W77 at_161 (pc' := 163) rfl rfl ?_
            refine g_iload W77 at_163 (pc' := 165) rfl rfl ?_
            refine g_icmp W77 at_165 (pcy := 183) (by decide) (pc' := 168) rfl (fun _ => ?_) (fun (h : ¬ (1 : Int32) < (3 : Int32)) => absurd h (by decide))
            refine g_iload W77 at_183 (pc' := 185) rfl rfl ?_
            refine g_if W77 at_185 (pcy := 192) (by decide) (pc' := 188) rfl (fun _ => ?_) (fun (h : ¬ ¬ (1 : Int32) = (0 : Int32)) => absurd h (by decide))
            refine g_iload W77 at_192 (pc' := 194) rfl rfl ?_
            refine g_iconst W77 at_194 (pc' := 195) rfl (v := (1 : Int32)) (by decide) ?_
            refine g_icmp W77 at_195 (pcy := 203) (by decide) (pc' := 198) rfl (fun (h : ¬ (1 : Int32) = (1 : Int32)) => absurd h (by decide)) (fun _ => ?_)
            refine g_lload W77 at_198 (pc' := 200) rfl rfl ?_
            refine g_goto W77 at_200 (pc' := 205) (by decide) ?_
            refine g_lstore W77 at_205 (pc' := 207) rfl (ls' := #[.val (.int p0), .val (.int p1), .val (.long p2), .second, .val (.long p3), .second, .val (.long p4), .second, .val (.int (3 : Int32)), .val (.ref a58), .val (.ref a59), .val (.long ((((0 : Int64) + p2) + p3) + p4)), .second, .val (.ref a66), .val (.int (1 : Int32)), .val (.double (FP.ddiv (FP.l2d p3) (4611686018427387904 : UInt64))), .second, .val (.long p3), .second, .unset, .unset]) rfl ?_
            refine g_dload W77 at_207 (pc' := 209) rfl rfl ?_
            refine g_dload W77 at_209 (pc' := 211) rfl rfl ?_
            refine g_dadd W77 at_211 (pc' := 212) rfl rfl (own_dbl p3).1 ?_
            refine g_lload W77 at_212 (pc' := 214) rfl rfl ?_
            refine g_l2d W77 at_214 (pc' := 215) rfl rfl ?_
            refine g_dcmp W77 at_215 (pc' := 216) rfl rfl ?_
            rw [show (cmpValue (FP.dcmp (FP.dadd (FP.ddiv (FP.l2d p3) (4611686018427387904 : UInt64)) (FP.ddiv (FP.l2d p3) (4611686018427387904 : UInt64))) (FP.l2d p3)) .l) = (0 : Int32) from (own_dbl p3).2]
            refine g_if W77 at_216 (pcy := 221) (by decide) (pc' := 219) rfl (fun _ => ?_) (fun (h : ¬ (0 : Int32) = (0 : Int32)) => absurd h (by decide))
            refine g_lload W77 at_221 (pc' := 223) rfl rfl ?_
            refine g_ldc2Long W77 (wd_32 hw) at_223 (pc' := 226) rfl ?_
            refine g_lcmp W77 at_226 (pc' := 227) rfl rfl ?_
            refine g_if W77 at_227 (pcy := 277) (by decide) (pc' := 230) rfl (fun (c78 : ¬ (0 : Int32) < (XT.cmpL p3 (-4503599627370496 : Int64))) => ?_) (fun (c78 : ¬ ¬ (0 : Int32) < (XT.cmpL p3 (-4503599627370496 : Int64))) => ?_)
            · refine g_iconst W77 at_277 (pc' := 278) rfl (v := (1 : Int32)) (by decide) ?_
              exact g_zreturn W77 (by decide) at_278 rfl (by decide) (by decide)
            · replace c78 := Classical.not_not.mp c78
              replace c78 := cmpL_gt0.mp c78
              refine g_lload W77 at_230 (pc' := 232) rfl rfl ?_
              refine g_ldc2Long W77 (wd_33 hw) at_232 (pc' := 235) rfl ?_
              refine g_lcmp W77 at_235 (pc' := 236) rfl rfl ?_
              refine g_if W77 at_236 (pcy := 277) (by decide) (pc' := 239) rfl (fun (c79 : ¬ (XT.cmpL p3 (4503599627370496 : Int64)) < (0 : Int32)) => ?_) (fun (c79 : ¬ ¬ (XT.cmpL p3 (4503599627370496 : Int64)) < (0 : Int32)) => ?_)
              · refine g_iconst W77 at_277 (pc' := 278) rfl (v := (1 : Int32)) (by decide) ?_
                exact g_zreturn W77 (by decide) at_278 rfl (by decide) (by decide)
              · replace c79 := Classical.not_not.mp c79
                have hs := own_small c78 (cmpL_lt0.mp c79)
                refine g_lload W77 at_239 (pc' := 241) rfl rfl ?_
                refine g_iconst W77 at_241 (pc' := 242) rfl (v := (1 : Int32)) (by decide) ?_
                refine g_lshr W77 at_242 (pc' := 243) rfl rfl ?_
                refine g_l2d W77 at_243 (pc' := 244) rfl rfl ?_
                refine g_lload W77 at_244 (pc' := 246) rfl rfl ?_
                refine g_lconst W77 at_246 (pc' := 247) rfl (v := (1 : Int64)) (by decide) ?_
                refine g_land W77 at_247 (pc' := 248) rfl rfl ?_
                refine g_lconst W77 at_248 (pc' := 249) rfl (v := (0 : Int64)) (by decide) ?_
                refine g_lcmp W77 at_249 (pc' := 250) rfl rfl ?_
                refine g_if W77 at_250 (pcy := 259) (by decide) (pc' := 253) rfl (fun (c80 : (XT.cmpL (p3 &&& (1 : Int64)) (0 : Int64)) = (0 : Int32)) => ?_) (fun (c80 : ¬ (XT.cmpL (p3 &&& (1 : Int64)) (0 : Int64)) = (0 : Int32)) => ?_)
                · have hz : (p3 &&& (1 : Int64)) = 0 := cmpL_eq0.mp c80
                  refine g_dconst0 W77 at_259 (pc' := 260) rfl ?_
                  refine g_dadd W77 at_260 (pc' := 261) rfl rfl (own_even hs hz).1 ?_
                  refine g_dstore W77 at_261 (pc' := 263) rfl (ls' := #[.val (.int p0), .val (.int p1), .val (.long p2), .second, .val (.long p3), .second, .val (.long p4), .second, .val (.int (3 : Int32)), .val (.ref a58), .val (.ref a59), .val (.long ((((0 : Int64) + p2) + p3) + p4)), .second, .val (.ref a66), .val (.int (1 : Int32)), .val (.double (FP.ddiv (FP.l2d p3) (4611686018427387904 : UInt64))), .second, .val (.long p3), .second, .val (.double (FP.dadd (FP.l2d (p3 >>> ((1 : Int32).toInt64 &&& 63))) 0)), .second]) rfl ?_
                  refine g_dload W77 at_263 (pc' := 265) rfl rfl ?_
                  refine g_dload W77 at_265 (pc' := 267) rfl rfl ?_
                  refine g_dcmp W77 at_267 (pc' := 268) rfl rfl ?_
                  rw [show (cmpValue (FP.dcmp (FP.ddiv (FP.l2d p3) (4611686018427387904 : UInt64)) (FP.dadd (FP.l2d (p3 >>> ((1 : Int32).toInt64 &&& 63))) 0)) .l) = (0 : Int32) from (own_even hs hz).2]
                  refine g_if W77 at_268 (pcy := 275) (by decide) (pc' := 271) rfl (fun (h : ¬ (0 : Int32) = (0 : Int32)) => absurd h (by decide)) (fun _ => ?_)
                  refine g_iconst W77 at_271 (pc' := 272) rfl (v := (1 : Int32)) (by decide) ?_
                  refine g_goto W77 at_272 (pc' := 276) (by decide) ?_
                  exact g_zreturn W77 (by decide) at_276 rfl (by decide) (by decide)
                · have hz : ¬ (p3 &&& (1 : Int64)) = 0 := fun q => c80 (cmpL_eq0.mpr q)
                  refine g_ldc2Double W77 (wd_34 hw) at_253 (pc' := 256) rfl ?_
                  refine g_goto W77 at_256 (pc' := 260) (by decide) ?_
                  refine g_dadd W77 at_260 (pc' := 261) rfl rfl (own_odd hs hz).1 ?_
                  refine g_dstore W77 at_261 (pc' := 263) rfl (ls' := #[.val (.int p0), .val (.int p1), .val (.long p2), .second, .val (.long p3), .second, .val (.long p4), .second, .val (.int (3 : Int32)), .val (.ref a58), .val (.ref a59), .val (.long ((((0 : Int64) + p2) + p3) + p4)), .second, .val (.ref a66), .val (.int (1 : Int32)), .val (.double (FP.ddiv (FP.l2d p3) (4611686018427387904 : UInt64))), .second, .val (.long p3), .second, .val (.double (FP.dadd (FP.l2d (p3 >>> ((1 : Int32).toInt64 &&& 63))) (4602678819172646912 : UInt64))), .second]) rfl ?_
                  refine g_dload W77 at_263 (pc' := 265) rfl rfl ?_
                  refine g_dload W77 at_265 (pc' := 267) rfl rfl ?_
                  refine g_dcmp W77 at_267 (pc' := 268) rfl rfl ?_
                  rw [show (cmpValue (FP.dcmp (FP.ddiv (FP.l2d p3) (4611686018427387904 : UInt64)) (FP.dadd (FP.l2d (p3 >>> ((1 : Int32).toInt64 &&& 63))) (4602678819172646912 : UInt64))) .l) = (0 : Int32) from (own_odd hs hz).2]
                  refine g_if W77 at_268 (pcy := 275) (by decide) (pc' := 271) rfl (fun (h : ¬ (0 : Int32) = (0 : Int32)) => absurd h (by decide)) (fun _ => ?_)
                  refine g_iconst W77 at_271 (pc' := 272) rfl (v := (1 : Int32)) (by decide) ?_
                  refine g_goto W77 at_272 (pc' := 276) (by decide) ?_
                  exact g_zreturn W77 (by decide) at_276 rfl (by decide) (by decide)
          · subst hk
            refine g_callV WJJ (argsL := [.int (2 : Int32)]) (st := []) (wd_22 hw) (wd_23 hw) (wd_25 hw) (wd_24 hw) (wd_4 hw) (wd_26 hw) (by decide) (a := a66) H70f (i := 0) rfl (c_half l Z a0 hw n0 a66 a58 a59 ((((0 : Int64) + p2) + p3) + p4) 0 (4616189618054758400 : UInt64) [.double (4607182418800017408 : UInt64), .double (4611686018427387904 : UInt64), .double (4613937818241073152 : UInt64)] [.long p2, .long p3, .long p4] (3 : Int32) (2 : Int32) (FP.ddiv (FP.l2d p4) (4611686018427387904 : UInt64)) rfl ⟨fun q => absurd q (by decide), fun _ q => absurd (by decide) q, fun _ _ => ⟨2, p4, by decide, rfl, rfl⟩⟩ _ _ H70f) pd_1 rfl rfl rfl at_151 (pc' := 154) rfl (by decide) (Wn := 0) (Nat.le_of_eq rfl) (by decide) (kc' := 3) (ks' := 11) rfl rfl (by decide) (by decide) ?_
            intro T81 v81 W81 hp81
            obtain ⟨rfl, H81⟩ := hp81
            show Goes p e below _ (T81.setTop (mkF m 154 #[.val (.int p0), .val (.int p1), .val (.long p2), .second, .val (.long p3), .second, .val (.long p4), .second, .val (.int (3 : Int32)), .val (.ref a58), .val (.ref a59), .val (.long ((((0 : Int64) + p2) + p3) + p4)), .second, .val (.ref a66), .val (.int (2 : Int32)), .unset, .unset, .unset, .unset, .unset, .unset] [.double (FP.ddiv (FP.l2d p4) (4611686018427387904 : UInt64))]))
            refine g_dstore W81 at_154 (pc' := 156) rfl (ls' := #[.val (.int p0), .val (.int p1), .val (.long p2), .second, .val (.long p3), .second, .val (.long p4), .second, .val (.int (3 : Int32)), .val (.ref a58), .val (.ref a59), .val (.long ((((0 : Int64) + p2) + p3) + p4)), .second, .val (.ref a66), .val (.int (2 : Int32)), .val (.double (FP.ddiv (FP.l2d p4) (4611686018427387904 : UInt64))), .second, .unset, .unset, .unset, .unset]) rfl ?_
            refine g_iload W81 at_156 (pc' := 158) rfl rfl ?_
            refine g_if W81 at_158 (pcy := 168) (by decide) (pc' := 161) rfl (fun (h : (2 : Int32) < (0 : Int32)) => absurd h (by decide)) (fun _ => ?_)
            refine g_iload W81 at_161 (pc' := 163) rfl rfl ?_
            refine g_iload W81 at_163 (pc' := 165) rfl rfl ?_
            refine g_icmp W81 at_165 (pcy := 183) (by decide) (pc' := 168) rfl (fun _ => ?_) (fun (h : ¬ (2 : Int32) < (3 : Int32)) => absurd h (by decide))
            refine g_iload W81 at_183 (pc' := 185) rfl rfl ?_
            refine g_if W81 at_185 (pcy := 192) (by decide) (pc' := 188) rfl (fun _ => ?_) (fun (h : ¬ ¬ (2 : Int32) = (0 : Int32)) => absurd h (by decide))
            refine g_iload W81 at_192 (pc' := 194) rfl rfl ?_
            refine g_iconst W81 at_194 (pc' := 195) rfl (v := (1 : Int32)) (by decide) ?_
            refine g_icmp W81 at_195 (pcy := 203) (by decide) (pc' := 198) rfl (fun _ => ?_) (fun (h : ¬ ¬ (2 : Int32) = (1 : Int32)) => absurd h (by decide))
            refine g_lload W81 at_203 (pc' := 205) rfl rfl ?_
            refine g_lstore W81 at_205 (pc' := 207) rfl (ls' := #[.val (.int p0), .val (.int p1), .val (.long p2), .second, .val (.long p3), .second, .val (.long p4), .second, .val (.int (3 : Int32)), .val (.ref a58), .val (.ref a59), .val (.long ((((0 : Int64) + p2) + p3) + p4)), .second, .val (.ref a66), .val (.int (2 : Int32)), .val (.double (FP.ddiv (FP.l2d p4) (4611686018427387904 : UInt64))), .second, .val (.long p4), .second, .unset, .unset]) rfl ?_
            refine g_dload W81 at_207 (pc' := 209) rfl rfl ?_
            refine g_dload W81 at_209 (pc' := 211) rfl rfl ?_
            refine g_dadd W81 at_211 (pc' := 212) rfl rfl (own_dbl p4).1 ?_
            refine g_lload W81 at_212 (pc' := 214) rfl rfl ?_
            refine g_l2d W81 at_214 (pc' := 215) rfl rfl ?_
            refine g_dcmp W81 at_215 (pc' := 216) rfl rfl ?_
            rw [show (cmpValue (FP.dcmp (FP.dadd (FP.ddiv (FP.l2d p4) (4611686018427387904 : UInt64)) (FP.ddiv (FP.l2d p4) (4611686018427387904 : UInt64))) (FP.l2d p4)) .l) = (0 : Int32) from (own_dbl p4).2]
            refine g_if W81 at_216 (pcy := 221) (by decide) (pc' := 219) rfl (fun _ => ?_) (fun (h : ¬ (0 : Int32) = (0 : Int32)) => absurd h (by decide))
            refine g_lload W81 at_221 (pc' := 223) rfl rfl ?_
            refine g_ldc2Long W81 (wd_32 hw) at_223 (pc' := 226) rfl ?_
            refine g_lcmp W81 at_226 (pc' := 227) rfl rfl ?_
            refine g_if W81 at_227 (pcy := 277) (by decide) (pc' := 230) rfl (fun (c82 : ¬ (0 : Int32) < (XT.cmpL p4 (-4503599627370496 : Int64))) => ?_) (fun (c82 : ¬ ¬ (0 : Int32) < (XT.cmpL p4 (-4503599627370496 : Int64))) => ?_)
            · refine g_iconst W81 at_277 (pc' := 278) rfl (v := (1 : Int32)) (by decide) ?_
              exact g_zreturn W81 (by decide) at_278 rfl (by decide) (by decide)
            · replace c82 := Classical.not_not.mp c82
              replace c82 := cmpL_gt0.mp c82
              refine g_lload W81 at_230 (pc' := 232) rfl rfl ?_
              refine g_ldc2Long W81 (wd_33 hw) at_232 (pc' := 235) rfl ?_
              refine g_lcmp W81 at_235 (pc' := 236) rfl rfl ?_
              refine g_if W81 at_236 (pcy := 277) (by decide) (pc' := 239) rfl (fun (c83 : ¬ (XT.cmpL p4 (4503599627370496 : Int64)) < (0 : Int32)) => ?_) (fun (c83 : ¬ ¬ (XT.cmpL p4 (4503599627370496 : Int64)) < (0 : Int32)) => ?_)
              · refine g_iconst W81 at_277 (pc' := 278) rfl (v := (1 : Int32)) (by decide) ?_
                exact g_zreturn W81 (by decide) at_278 rfl (by decide) (by decide)
              · replace c83 := Classical.not_not.mp c83
                have hs := own_small c82 (cmpL_lt0.mp c83)
                refine g_lload W81 at_239 (pc' := 241) rfl rfl ?_
                refine g_iconst W81 at_241 (pc' := 242) rfl (v := (1 : Int32)) (by decide) ?_
                refine g_lshr W81 at_242 (pc' := 243) rfl rfl ?_
                refine g_l2d W81 at_243 (pc' := 244) rfl rfl ?_
                refine g_lload W81 at_244 (pc' := 246) rfl rfl ?_
                refine g_lconst W81 at_246 (pc' := 247) rfl (v := (1 : Int64)) (by decide) ?_
                refine g_land W81 at_247 (pc' := 248) rfl rfl ?_
                refine g_lconst W81 at_248 (pc' := 249) rfl (v := (0 : Int64)) (by decide) ?_
                refine g_lcmp W81 at_249 (pc' := 250) rfl rfl ?_
                refine g_if W81 at_250 (pcy := 259) (by decide) (pc' := 253) rfl (fun (c84 : (XT.cmpL (p4 &&& (1 : Int64)) (0 : Int64)) = (0 : Int32)) => ?_) (fun (c84 : ¬ (XT.cmpL (p4 &&& (1 : Int64)) (0 : Int64)) = (0 : Int32)) => ?_)
                · have hz : (p4 &&& (1 : Int64)) = 0 := cmpL_eq0.mp c84
                  refine g_dconst0 W81 at_259 (pc' := 260) rfl ?_
                  refine g_dadd W81 at_260 (pc' := 261) rfl rfl (own_even hs hz).1 ?_
                  refine g_dstore W81 at_261 (pc' := 263) rfl (ls' := #[.val (.int p0), .val (.int p1), .val (.long p2), .second, .val (.long p3), .second, .val (.long p4), .second, .val (.int (3 : Int32)), .val (.ref a58), .val (.ref a59), .val (.long ((((0 : Int64) + p2) + p3) + p4)), .second, .val (.ref a66), .val (.int (2 : Int32)), .val (.double (FP.ddiv (FP.l2d p4) (4611686018427387904 : UInt64))), .second, .val (.long p4), .second, .val (.double (FP.dadd (FP.l2d (p4 >>> ((1 : Int32).toInt64 &&& 63))) 0)), .second]) rfl ?_
                  refine g_dload W81 at_263 (pc' := 265) rfl rfl ?_
                  refine g_dload W81 at_265 (pc' := 267) rfl rfl ?_
                  refine g_dcmp W81 at_267 (pc' := 268) rfl rfl ?_
                  rw [show (cmpValue (FP.dcmp (FP.ddiv (FP.l2d p4) (4611686018427387904 : UInt64)) (FP.dadd (FP.l2d (p4 >>> ((1 : Int32).toInt64 &&& 63))) 0)) .l) = (0 : Int32) from (own_even hs hz).2]
                  refine g_if W81 at_268 (pcy := 275) (by decide) (pc' := 271) rfl (fun (h : ¬ (0 : Int32) = (0 : Int32)) => absurd h (by decide)) (fun _ => ?_)
                  refine g_iconst W81 at_271 (pc' := 272) rfl (v := (1 : Int32)) (by decide) ?_
                  refine g_goto W81 at_272 (pc' := 276) (by decide) ?_
                  exact g_zreturn W81 (by decide) at_276 rfl (by decide) (by decide)
                · have hz : ¬ (p4 &&& (1 : Int64)) = 0 := fun q => c84 (cmpL_eq0.mpr q)
                  refine g_ldc2Double W81 (wd_34 hw) at_253 (pc' := 256) rfl ?_
                  refine g_goto W81 at_256 (pc' := 260) (by decide) ?_
                  refine g_dadd W81 at_260 (pc' := 261) rfl rfl (own_odd hs hz).1 ?_
                  refine g_dstore W81 at_261 (pc' := 263) rfl (ls' := #[.val (.int p0), .val (.int p1), .val (.long p2), .second, .val (.long p3), .second, .val (.long p4), .second, .val (.int (3 : Int32)), .val (.ref a58), .val (.ref a59), .val (.long ((((0 : Int64) + p2) + p3) + p4)), .second, .val (.ref a66), .val (.int (2 : Int32)), .val (.double (FP.ddiv (FP.l2d p4) (4611686018427387904 : UInt64))), .second, .val (.long p4), .second, .val (.double (FP.dadd (FP.l2d (p4 >>> ((1 : Int32).toInt64 &&& 63))) (4602678819172646912 : UInt64))), .second]) rfl ?_
                  refine g_dload W81 at_263 (pc' := 265) rfl rfl ?_
                  refine g_dload W81 at_265 (pc' := 267) rfl rfl ?_
                  refine g_dcmp W81 at_267 (pc' := 268) rfl rfl ?_
                  rw [show (cmpValue (FP.dcmp (FP.ddiv (FP.l2d p4) (4611686018427387904 : UInt64)) (FP.dadd (FP.l2d (p4 >>> ((1 : Int32).toInt64 &&& 63))) (4602678819172646912 : UInt64))) .l) = (0 : Int32) from (own_odd hs hz).2]
                  refine g_if W81 at_268 (pcy := 275) (by decide) (pc' := 271) rfl (fun (h : ¬ (0 : Int32) = (0 : Int32)) => absurd h (by decide)) (fun _ => ?_)
                  refine g_iconst W81 at_271 (pc' := 272) rfl (v := (1 : Int32)) (by decide) ?_
                  refine g_goto W81 at_272 (pc' := 276) (by decide) ?_
                  exact g_zreturn W81 (by decide) at_276 rfl (by decide) (by decide)
        · refine g_callV WJJ (argsL := [.int j]) (st := []) (wd_22 hw) (wd_23 hw) (wd_25 hw) (wd_24 hw) (wd_4 hw) (wd_26 hw) (by decide) (a := a66) H70f (i := 0) rfl (c_half l Z a0 hw n0 a66 a58 a59 ((((0 : Int64) + p2) + p3) + p4) 0 (4616189618054758400 : UInt64) [.double (4607182418800017408 : UInt64), .double (4611686018427387904 : UInt64), .double (4613937818241073152 : UInt64)] [.long p2, .long p3, .long p4] (3 : Int32) j (13826050856027422720 : UInt64) rfl ⟨fun q => absurd q h1, fun _ _ => rfl, fun _ q => absurd q h2⟩ _ _ H70f) pd_1 rfl rfl rfl at_151 (pc' := 154) rfl (by decide) (Wn := 0) (Nat.le_of_eq rfl) (by decide) (kc' := 3) (ks' := 11) rfl rfl (by decide) (by decide) ?_
          intro T85 v85 W85 hp85
          obtain ⟨rfl, H85⟩ := hp85
          show Goes p e below _ (T85.setTop (mkF m 154 #[.val (.int p0), .val (.int p1), .val (.long p2), .second, .val (.long p3), .second, .val (.long p4), .second, .val (.int (3 : Int32)), .val (.ref a58), .val (.ref a59), .val (.long ((((0 : Int64) + p2) + p3) + p4)), .second, .val (.ref a66), .val (.int j), .unset, .unset, .unset, .unset, .unset, .unset] [.double (13826050856027422720 : UInt64)]))
          refine g_dstore W85 at_154 (pc' := 156) rfl (ls' := #[.val (.int p0), .val (.int p1), .val (.long p2), .second, .val (.long p3), .second, .val (.long p4), .second, .val (.int (3 : Int32)), .val (.ref a58), .val (.ref a59), .val (.long ((((0 : Int64) + p2) + p3) + p4)), .second, .val (.ref a66), .val (.int j), .val (.double (13826050856027422720 : UInt64)), .second, .unset, .unset, .unset, .unset]) rfl ?_
          refine g_iload W85 at_156 (pc' := 158) rfl rfl ?_
          refine g_if W85 at_158 (pcy := 168) (by decide) (pc' := 161) rfl (fun (c86 : j < (0 : Int32)) => ?_) (fun (c86 : ¬ j < (0 : Int32)) => ?_)
          · exact absurd c86 h1
          · refine g_iload W85 at_161 (pc' := 163) rfl rfl ?_
            refine g_iload W85 at_163 (pc' := 165) rfl rfl ?_
            refine g_icmp W85 at_165 (pcy := 183) (by decide) (pc' := 168) rfl (fun (c87 : j < (3 : Int32)) => ?_) (fun (c87 : ¬ j < (3 : Int32)) => ?_)
            · exact absurd c87 h2
            · refine g_dload W85 at_168 (pc' := 170) rfl rfl ?_
              refine g_ldc2Double W85 (wd_28 hw) at_170 (pc' := 173) rfl ?_
              refine g_dcmp W85 at_173 (pc' := 174) rfl rfl ?_
              rw [show (cmpValue (FP.dcmp (13826050856027422720 : UInt64) (13826050856027422720 : UInt64)) .l) = (0 : Int32) from by decide +kernel]
              refine g_if W85 at_174 (pcy := 181) (by decide) (pc' := 177) rfl (fun (h : ¬ (0 : Int32) = (0 : Int32)) => absurd h (by decide)) (fun _ => ?_)
              refine g_iconst W85 at_177 (pc' := 178) rfl (v := (1 : Int32)) (by decide) ?_
              refine g_goto W85 at_178 (pc' := 182) (by decide) ?_
              exact g_zreturn W85 (by decide) at_182 rfl (by decide) (by decide)
    refine g_if W67 at_132 (pcy := 139) (by decide) (pc' := 135) rfl (fun (c88 : (p0 &&& (4 : Int32)) = (0 : Int32)) => ?_) (fun (c88 : ¬ (p0 &&& (4 : Int32)) = (0 : Int32)) => ?_)
    · refine g_iloadN W67 at_139 (pc' := 140) rfl rfl ?_
      refine g_bipush W67 at_140 (pc' := 142) rfl (v := (7 : Int32)) (by decide) ?_
      refine g_iand W67 at_142 (pc' := 143) rfl rfl ?_
      refine g_iconst W67 at_143 (pc' := 144) rfl (v := (2 : Int32)) (by decide) ?_
      refine g_isub W67 at_144 (pc' := 145) rfl rfl ?_
      exact J _ _ W67 H67
    · refine g_iloadN W67 at_135 (pc' := 136) rfl rfl ?_
      refine g_goto W67 at_136 (pc' := 145) (by decide) ?_
      exact J _ _ W67 H67
set_option maxRecDepth 65536 in
set_option maxHeartbeats 40000000 in
theorem comes_1 {Post : Tables → Env → Array Value → State → Outcome → State → Prop} (hpost : ∀ tb e args s v u, (limb_1_1.after args s (.returned v) u = true ∧ limb_1_2.after args s (.returned v) u = true ∧ True) → FrameEnd s (.returned v) u (Jvm.fieldLocs frame_1_writes args s ++ Jvm.arrayLocs frame_1_arrays args s ++ Jvm.staticLocs frame_1_statics s) 16 128 → Post tb e args s (.returned v) u) :
    ArmFor flags0 classFile x code maxLocals ret World_1 tables_1 room_1 Calls_1 rest_1 Pre_1 Post := by
  intro l hfl _ _ p e ha hc hk s m args below hf hA hF happ hP
  obtain ⟨hcalls, hrest, hpre⟩ := hP
  obtain ⟨-, -, -, hnamed, -, -, -, hat⟩ := (Spec.applies_iff hf).mp happ
  obtain ⟨hg, hn⟩ := and_e (Cond.before_iff.mp (show (Jvm.Cond.and given_1 narrow_1).before args s = true from hpre))
  obtain ⟨hcount, hg0⟩ := and_e hg
  obtain ⟨ha0, hg1⟩ := and_e hg0
  obtain ⟨ha1, hg2⟩ := and_e hg1
  obtain ⟨ha2, hg3⟩ := and_e hg2
  obtain ⟨ha3, hg4⟩ := and_e hg3
  obtain ⟨w0, w1, w2, w3, w4, rfl⟩ : ∃ w0 w1 w2 w3 w4 : Value, args = #[w0, w1, w2, w3, w4] := by
    have hs : args.size = 5 := by simpa [Cond.value, given_1] using hcount
    obtain ⟨L⟩ := args
    match L, hs with
    | [w0, w1, w2, w3, w4], _ => exact ⟨w0, w1, w2, w3, w4, rfl⟩
  have hw := fun d (hd : d ∈ tables_1) => atoms_spec (ws := Jvm.Cond.code x code maxLocals ret :: tables_1) hat d (List.mem_cons_of_mem _ hd)
  obtain ⟨p0, e0⟩ := is_v ha0
  obtain rfl : w0 = (.int p0) := Option.some.inj e0
  obtain ⟨p1, e1⟩ := is_v ha1
  obtain rfl : w1 = (.int p1) := Option.some.inj e1
  obtain ⟨p2, e2⟩ := isL_v ha2
  obtain rfl : w2 = (.long p2) := Option.some.inj e2
  obtain ⟨p3, e3⟩ := isL_v ha3
  obtain rfl : w3 = (.long p3) := Option.some.inj e3
  obtain ⟨p4, e4⟩ := isL_v hg4
  obtain rfl : w4 = (.long p4) := Option.some.inj e4
  obtain ⟨n, o, h1, h2, h3, _, L, rfl, ⟨N, rfl⟩, hq⟩ := law_con l s _ hw s.heap.size p0 p1 p2 p3 p4 s.heap (Hp.nil Bs.start) p e ha hc hk s m _ below hf ((Spec.applies_iff_loose hf).mp happ).1 ⟨rfl, State.Warmed39.refl s, rfl⟩ trivial
  refine ⟨n, _, h1, h2, h3, hpost _ _ _ _ _ _ ⟨Cond.after_iff.mpr rfl, Cond.after_iff.mpr (eq_i res_at (Term.int_eval (1)) rfl), trivial⟩ ⟨hq.1, hq.2.1, (hq.2.2.sift fun y hy => Or.inr (N y hy)).mono (by decide) (by decide)⟩⟩
theorem main_1_1 : Claimed_1_1 := comes_1 fun _ _ _ _ _ _ h hF => ⟨h.1, hF⟩
theorem main_1_2 : Claimed_1_2 := comes_1 fun _ _ _ _ _ _ h hF => ⟨h.2.1, hF⟩
end Jvm.Pilot.@@N@@
namespace Jvm.Pilot.@@N@@
open Jvm Jvm.ClassFile Sem Op Lib Jvm.Free Jvm.Stand Jvm.Pilot.@@N@@.Jvm.D
/-! MADE BY PROGRAM (witnessworld.py) out of the Statement's table words and the real class files: 13 classes; the members and pool entries that the words name. The judged class is class 1, her method 1. -/
namespace start1
open Jvm.ClassFile
def u (s : String) : CpInfo := .utf8 (stringToUtf16 s)
/-- a pool by its gaps: so many unusable entries, then the entry; so many at the end -/
def gap : Nat → List CpInfo → List CpInfo
  | 0, r => r
  | n + 1, r => .unusable :: gap n r
def poolList (es : List (Nat × CpInfo)) (last : Nat) : List CpInfo := es.foldr (fun e r => gap e.1 (e.2 :: r)) (gap last [])
def pool (es : List (Nat × CpInfo)) (last : Nat) : Array CpInfo := ⟨poolList es last⟩
def fileOf (pool : Array CpInfo) (this : Nat) (attrs : Array Attribute := #[]) (ms : Array MethodInfo := #[]) (fl : Nat := 33) (sup : Nat := 0) (ifs : Array Nat := #[]) (fds : Array FieldInfo := #[]) : ClassFile where
  minorVersion := 0
  majorVersion := 65
  constantPool := pool
  accessFlags := fl
  thisClass := this
  superClass := sup
  interfaces := ifs
  fields := fds
  methods := ms
  attributes := attrs
def plain (name : String) (sup : Option ClassId) : Class where
  name := name
  kind := .ordinary
  loader := none
  accessFlags := 33
  super := sup
  interfaces := #[]
  cf := none
  fields := #[]
  methods := #[]
  instanceTypes := #[]
  staticTypes := #[]
  resolved := #[]
  callSites := []
  init := .initialized
  statics := none
  mirror := none

def pool0 : Array CpInfo := pool [(5, u "<init>"), (0, u "()V"), (1, .class_ 10), (1, u "java/lang/Object")] 113

def k0c0 : Code := { maxStack := 0, maxLocals := 1, code := object_method_1_code, exceptionTable := #[], attributes := #[] }
def k0m0 : Method := { name := "<init>", desc := "()V", sig := { parameters := [], returnType := none }, accessFlags := 1, code := some k0c0 }
/-- java/lang/Object -/
def k0 : Class := { plain "java/lang/Object" none with
  accessFlags := 33
  interfaces := #[]
  cf := some (fileOf pool0 8 #[] #[{ accessFlags := 1, nameIndex := 5, descriptorIndex := 6, attributes := #[] }] 33 0 #[] #[])
  fields := #[]
  methods := #[k0m0]
  instanceTypes := #[]
  staticTypes := #[]
  resolved := Array.replicate 124 none
  statics := none }

def pool1 : Array CpInfo := pool [(2, .class_ 4), (1, u "java/lang/Object"), (0, u "<init>"), (0, u "()V"), (0, .double 4611686018427387904), (1, .double 4613937818241073152), (1, .class_ 12), (0, u "com/example/dipper/dipper/Centroids"), (0, .double 4616189618054758400), (1, .methodref 11 16), (0, .nameAndType 5 17), (0, u "([D[JJDD)V"), (0, .methodref 11 19), (0, .nameAndType 20 21), (0, u "halfWeightAt"), (0, u "(I)D"), (0, .double 13826050856027422720), (1, .long 18442240474082181120), (1, .long 4503599627370496), (1, .double 4602678819172646912), (1, .class_ 31), (0, u "com/example/dipper/dipper/CentroidsHalfWeightAtPinLaw"), (2, u "law"), (0, u "(IIJJJ)Z")] 7

def k1m0 : Method := { name := "<init>", desc := "()V", sig := { parameters := [], returnType := none }, accessFlags := 1, code := none }
def k1c1 : Code := { maxStack := 10, maxLocals := 21, code := code, exceptionTable := #[], attributes := #[] }
def k1m1 : Method := { name := "law", desc := "(IIJJJ)Z", sig := { parameters := [.int, .int, .long, .long, .long], returnType := some .boolean }, accessFlags := 9, code := some k1c1 }
/-- com/example/dipper/dipper/CentroidsHalfWeightAtPinLaw -/
def k1 : Class := { plain "com/example/dipper/dipper/CentroidsHalfWeightAtPinLaw" (some 0) with
  accessFlags := 49
  interfaces := #[]
  cf := some (fileOf pool1 30 #[] #[{ accessFlags := 1, nameIndex := 5, descriptorIndex := 6, attributes := #[] }, { accessFlags := 9, nameIndex := 34, descriptorIndex := 35, attributes := #[] }] 49 2 #[] #[])
  fields := #[]
  methods := #[k1m0, k1m1]
  instanceTypes := #[]
  staticTypes := #[]
  resolved := Array.replicate 43 none
  statics := none }

def pool2 : Array CpInfo := pool [(1, .class_ 2), (0, u "com/example/dipper/dipper/Centroids"), (0, .methodref 4 5), (0, .class_ 6), (0, .nameAndType 7 8), (0, u "java/lang/Object"), (0, u "<init>"), (0, u "()V"), (0, .fieldref 1 10), (0, .nameAndType 11 12), (0, u "means"), (0, u "[D"), (0, .fieldref 1 14), (0, .nameAndType 15 16), (0, u "weights"), (0, u "[J"), (0, .fieldref 1 18), (0, .nameAndType 19 20), (0, u "count"), (0, u "J"), (0, .fieldref 1 22), (0, .nameAndType 23 24), (0, u "min"), (0, u "D"), (0, .fieldref 1 26), (0, .nameAndType 27 24), (0, u "max"), (6, .double 4611686018427387904), (26, .double 13826050856027422720), (8, .class_ 72), (1, u "com/example/dipper/dipper/Centroids$TwoValues"), (27, u "(I)D"), (31, u "HUG_REACH"), (0, u "I"), (2, u "HUG"), (0, u "SHAPE_REACH"), (1, u "([D[JJDD)V"), (12, u "halfWeightAt")] 5

def k2c0 : Code := { maxStack := 3, maxLocals := 9, code := prog_4_method_1_code, exceptionTable := #[], attributes := #[] }
def k2m0 : Method := { name := "<init>", desc := "([D[JJDD)V", sig := { parameters := [(.array .double), (.array .long), .long, .double, .double], returnType := none }, accessFlags := 0, code := some k2c0 }
def k2c1 : Code := { maxStack := 4, maxLocals := 2, code := prog_4_method_11_code, exceptionTable := #[], attributes := #[] }
def k2m1 : Method := { name := "halfWeightAt", desc := "(I)D", sig := { parameters := [.int], returnType := some .double }, accessFlags := 0, code := some k2c1 }
/-- com/example/dipper/dipper/Centroids -/
def k2 : Class := { plain "com/example/dipper/dipper/Centroids" (some 0) with
  accessFlags := 48
  interfaces := #[]
  cf := some (fileOf pool2 1 #[.nestMembers #[70]] #[{ accessFlags := 0, nameIndex := 7, descriptorIndex := 139, attributes := #[] }, { accessFlags := 0, nameIndex := 152, descriptorIndex := 100, attributes := #[] }] 48 4 #[] #[{ accessFlags := 26, nameIndex := 132, descriptorIndex := 133, attributes := #[] }, { accessFlags := 26, nameIndex := 136, descriptorIndex := 24, attributes := #[] }, { accessFlags := 26, nameIndex := 137, descriptorIndex := 133, attributes := #[] }, { accessFlags := 18, nameIndex := 11, descriptorIndex := 12, attributes := #[] }, { accessFlags := 18, nameIndex := 15, descriptorIndex := 16, attributes := #[] }, { accessFlags := 18, nameIndex := 19, descriptorIndex := 20, attributes := #[] }, { accessFlags := 18, nameIndex := 23, descriptorIndex := 24, attributes := #[] }, { accessFlags := 18, nameIndex := 27, descriptorIndex := 24, attributes := #[] }])
  fields := #[{ name := "HUG_REACH", type := .int, accessFlags := 26, slot := 0, constantValue := 0 }, { name := "HUG", type := .double, accessFlags := 26, slot := 1, constantValue := 0 }, { name := "SHAPE_REACH", type := .int, accessFlags := 26, slot := 2, constantValue := 0 }, { name := "means", type := (.array .double), accessFlags := 18, slot := 0, constantValue := 0 }, { name := "weights", type := (.array .long), accessFlags := 18, slot := 1, constantValue := 0 }, { name := "count", type := .long, accessFlags := 18, slot := 2, constantValue := 0 }, { name := "min", type := .double, accessFlags := 18, slot := 3, constantValue := 0 }, { name := "max", type := .double, accessFlags := 18, slot := 4, constantValue := 0 }]
  methods := #[k2m0, k2m1]
  instanceTypes := #[(.array .double), (.array .long), .long, .double, .double]
  staticTypes := #[.int, .double, .int]
  resolved := Array.replicate 158 none
  statics := none }

def pool3 : Array CpInfo := pool [(1, u "java/lang/Cloneable"), (0, .class_ 1), (0, u "java/lang/Object"), (0, .class_ 3)] 3

/-- java/lang/Cloneable -/
def k3 : Class := { plain "java/lang/Cloneable" (some 0) with
  accessFlags := 1537
  interfaces := #[]
  cf := some (fileOf pool3 2 #[] #[] 1537 4 #[] #[])
  fields := #[]
  methods := #[]
  instanceTypes := #[]
  staticTypes := #[]
  resolved := Array.replicate 8 none
  statics := none }

def pool4 : Array CpInfo := pool [(1, u "java/io/Serializable"), (0, .class_ 1), (0, u "java/lang/Object"), (0, .class_ 3)] 3

/-- java/io/Serializable -/
def k4 : Class := { plain "java/io/Serializable" (some 0) with
  accessFlags := 1537
  interfaces := #[]
  cf := some (fileOf pool4 2 #[] #[] 1537 4 #[] #[])
  fields := #[]
  methods := #[]
  instanceTypes := #[]
  staticTypes := #[]
  resolved := Array.replicate 8 none
  statics := none }

/-- the primitive byte -/
def k5 : Class := { plain "byte" none with kind := .primitive 'B', accessFlags := 0x411 }
/-- [B -/
def k6 : Class := { plain "[B" (some 0) with kind := .array 5 .byte, interfaces := #[3, 4], accessFlags := 1041 }

/-- the primitive double -/
def k7 : Class := { plain "double" none with kind := .primitive 'D', accessFlags := 0x411 }
/-- [D -/
def k8 : Class := { plain "[D" (some 0) with kind := .array 7 .double, interfaces := #[3, 4], accessFlags := 1041 }

/-- the primitive int -/
def k9 : Class := { plain "int" none with kind := .primitive 'I', accessFlags := 0x411 }
/-- [I -/
def k10 : Class := { plain "[I" (some 0) with kind := .array 9 .int, interfaces := #[3, 4], accessFlags := 1041 }

/-- the primitive long -/
def k11 : Class := { plain "long" none with kind := .primitive 'J', accessFlags := 0x411 }
/-- [J -/
def k12 : Class := { plain "[J" (some 0) with kind := .array 11 .long, interfaces := #[3, 4], accessFlags := 1041 }

def heap : Heap := #[]
def classes : Array Class := #[k0, k1, k2, k3, k4, k5, k6, k7, k8, k9, k10, k11, k12]
def interned : List (Array UInt16 × Addr) := []
def slotsUsed : Nat := 0
def theMethod : MethodId := ⟨1, 1⟩
def args0 : Array Value := #[.int 0, .int 1, .long 2, .long 3, .long 4]
def aboutOver (below : List Frame) : State where
  vm := { classes := classes, interned := interned.toArray }
  heap := heap
  slotsUsed := slotsUsed
  threads := #[{ frames := .invoking theMethod args0 :: below }]
def below0 : List Frame := [.native { method := ⟨0, 0⟩, args := #[] }]
def about1 : State := aboutOver below0
def p0 : Program := .bare "" "" ""
def e0 : Env := launch0.env 0 0 0
theorem w_frames : about1.frames = Frame.invoking theMethod args0 :: below0 := rfl
set_option maxRecDepth 65536 in
theorem w_args : argsFit about1.vm theMethod args0 = true := by decide +kernel
set_option maxRecDepth 65536 in
theorem w_heap : heapFits about1 = true := by decide +kernel
set_option maxRecDepth 65536 in
theorem w_runnable : about1.curStatus? = some .runnable := by decide +kernel
set_option maxRecDepth 65536 in
theorem w_alone : about1.alone = true := by decide +kernel
set_option maxRecDepth 65536 in
theorem w_named : about1.methodNamed? x = some theMethod := by decide +kernel
set_option maxRecDepth 65536 in
theorem w_hears : about1.hears theMethod below0 = true := by decide +kernel
set_option maxRecDepth 65536 in
theorem w_ripe : about1.ripe theMethod args0 below0 = true := by decide +kernel
theorem w_running : about1.status = .running := rfl
set_option maxRecDepth 65536 in
theorem w_room : about1.hasRoom e0.platform room_1 = true :=
  launch0.hasRoom_least _ room_1 (by decide +kernel) (by decide +kernel) (by decide +kernel) (by decide +kernel) (by decide +kernel) (by decide +kernel)
theorem allAtoms_all (ts : List Jvm.Cond) (a : Array Jvm.Value) (st : Jvm.State) : (allAtoms ts).before a st = ts.all (fun c => c.before a st) := by
  induction ts with
  | nil => rfl
  | cons c t ih =>
    show (Jvm.Cond.and c (allAtoms t)).before a st = _
    rw [Jvm.Cond.before_and, ih, List.all_cons]
def words1 : List Jvm.Cond := Jvm.Cond.code x code maxLocals ret :: tables_1
/-- a 'code' word, met by the world's own term for the bytes: nothing is compared byte by byte -/
theorem code_word {y : MethodName} {bytes : ByteArray} {mx : Nat} {rt : Option FieldType} {a : Array Value} {s : State} {m : MethodId} {meth : Method} {c : Code} (h1 : s.methodNamed? y = some m) (h2 : s.vm.method? m = some meth) (h3 : meth.code = some c) (h4 : c.code = bytes)
    (h5 : (c.maxLocals == mx && c.exceptionTable.isEmpty && decide (c.maxStack ≤ mostOperands) && decide (meth.sig.returnType = rt) && !meth.locks && decide (parseMethodDescriptor y.desc = some meth.sig)) = true) : (Jvm.Cond.code y bytes mx rt).before a s = true := by
  simp only [Bool.and_eq_true, beq_iff_eq, Bool.not_eq_true', decide_eq_true_eq] at h5
  obtain ⟨⟨⟨⟨⟨g1, g2⟩, g3⟩, g4⟩, g5⟩, g6⟩ := h5
  simp [Cond.before, Cond.holds, Cond.value, h1, h2, h3, h4, g1, g2, g3, g4, g5, g6]
def isCode : Jvm.Cond → Bool
  | .code _ _ _ _ => true
  | _ => false
theorem all_split {L : List Jvm.Cond} {P : Jvm.Cond → Bool} (h1 : L.all (fun c => isCode c || P c) = true) (h2 : ∀ c ∈ L.filter isCode, P c = true) : L.all P = true := by
  refine List.all_eq_true.mpr fun c hc => ?_
  have h := List.all_eq_true.mp h1 c hc
  rcases Bool.eq_false_or_eq_true (isCode c) with hi | hi
  · exact h2 c (List.mem_filter.mpr ⟨hc, hi⟩)
  · simpa [hi] using h
set_option maxRecDepth 65536 in
theorem w_c0 : (Jvm.Cond.code x code maxLocals ret).before args0 about1 = true := code_word (m := ⟨1, 1⟩) (meth := k1m1) (c := k1c1) (by decide +kernel) rfl rfl rfl (by decide +kernel)
set_option maxRecDepth 65536 in
theorem w_c1 : (Jvm.Cond.code ({ cls := "com/example/dipper/dipper/Centroids", name := "<init>", desc := "([D[JJDD)V" } : Jvm.MethodName) prog_4_method_1_code (9 : Nat) (Option.none : Option Jvm.ClassFile.FieldType)).before args0 about1 = true := code_word (m := ⟨2, 0⟩) (meth := k2m0) (c := k2c0) (by decide +kernel) rfl rfl rfl (by decide +kernel)
set_option maxRecDepth 65536 in
theorem w_c2 : (Jvm.Cond.code ({ cls := "java/lang/Object", name := "<init>", desc := "()V" } : Jvm.MethodName) object_method_1_code (1 : Nat) (Option.none : Option Jvm.ClassFile.FieldType)).before args0 about1 = true := code_word (m := ⟨0, 0⟩) (meth := k0m0) (c := k0c0) (by decide +kernel) rfl rfl rfl (by decide +kernel)
set_option maxRecDepth 65536 in
theorem w_c3 : (Jvm.Cond.code ({ cls := "com/example/dipper/dipper/Centroids", name := "halfWeightAt", desc := "(I)D" } : Jvm.MethodName) prog_4_method_11_code (2 : Nat) (Option.some Jvm.ClassFile.FieldType.double)).before args0 about1 = true := code_word (m := ⟨2, 1⟩) (meth := k2m1) (c := k2c1) (by decide +kernel) rfl rfl rfl (by decide +kernel)
def codes1 : List Jvm.Cond := [Jvm.Cond.code x code maxLocals ret, Jvm.Cond.code ({ cls := "com/example/dipper/dipper/Centroids", name := "<init>", desc := "([D[JJDD)V" } : Jvm.MethodName) prog_4_method_1_code (9 : Nat) (Option.none : Option Jvm.ClassFile.FieldType), Jvm.Cond.code ({ cls := "java/lang/Object", name := "<init>", desc := "()V" } : Jvm.MethodName) object_method_1_code (1 : Nat) (Option.none : Option Jvm.ClassFile.FieldType), Jvm.Cond.code ({ cls := "com/example/dipper/dipper/Centroids", name := "halfWeightAt", desc := "(I)D" } : Jvm.MethodName) prog_4_method_11_code (2 : Nat) (Option.some Jvm.ClassFile.FieldType.double)]
set_option maxRecDepth 65536 in
theorem codes_eq : words1.filter isCode = codes1 := rfl
theorem w_codes : ∀ c ∈ words1.filter isCode, c.before args0 about1 = true := by
  rw [codes_eq]
  intro c hc
  simp only [codes1, List.mem_cons, List.not_mem_nil, or_false] at hc
  rcases hc with rfl | rfl | rfl | rfl
  · exact w_c0
  · exact w_c1
  · exact w_c2
  · exact w_c3
set_option maxRecDepth 65536 in
theorem w_t1 : (words1.take 24).all (fun c => isCode c || c.before args0 about1) = true := by decide +kernel
set_option maxRecDepth 65536 in
theorem w_t2 : (words1.drop 24).all (fun c => isCode c || c.before args0 about1) = true := by decide +kernel
theorem w_tables : (allAtoms (Jvm.Cond.code x code maxLocals ret :: tables_1)).before args0 about1 = true := by
  rw [allAtoms_all]
  show words1.all (fun c => c.before args0 about1) = true
  refine all_split ?_ w_codes
  rw [← List.take_append_drop 24 words1, List.all_append, w_t1, w_t2]
  rfl
set_option maxRecDepth 65536 in
theorem w_case : (Jvm.Cond.and given_1 narrow_1).before args0 about1 = true := by decide +kernel
theorem w_applies : (headSpec (Jvm.Cond.code x code maxLocals ret :: tables_1) room_1).applies x e0.platform about1 = true :=
  (Spec.applies_iff w_frames).mpr ⟨w_running, w_runnable, w_alone, w_named, w_hears, w_ripe, w_room, w_tables⟩
theorem atStart : AtStart classFile x code maxLocals ret World_1 tables_1 room_1 Calls_1 rest_1 Pre_1 launch0 p0 e0 about1 theMethod args0 below0 :=
  ⟨lists_1, trivial, launch0.admits_env _ _ _, launch0.least_env, fairChoices_fair.cas, fairChoices_fair.clock, w_frames, w_args, w_heap, w_applies, trivial, trivial, w_case⟩
end start1
theorem witness_1 : WitnessClaimed_1 := ⟨start1.p0, start1.e0, start1.about1, start1.theMethod, start1.args0, start1.below0, start1.atStart⟩
end Jvm.Pilot.@@N@@
