import JvmDerived
import JvmDerived.Pilot.@@N@@Statement
import JvmDerived.Pilot.@@N@@Code
set_option linter.unusedVariables false
set_option linter.unusedSimpArgs false

namespace Jvm.OwnKit
open Sem ClassFile Op Lib Jvm.Stand Jvm.Free Jvm.LawKit Jvm.RoadKit Jvm.Free.Fl
/-- what is left to show of a run: from U it ends and returns, with E of the value, the end and the places written -/
def Goes (p : Program) (e : Env) (below : List Frame) (E : Option Value → State → List Loc → Prop) (U : State) : Prop :=
  ∃ s₂ v L, Steps p.tables e below U s₂ ∧ s₂.status = .running ∧ Ended s₂ below (.returned v) ∧ E v s₂ L
/-- the common end: nothing below n0 is written, Q holds of the value and the heap, the frame is k cells and j slots -/
def En (s : State) (n0 k j : Nat) (Q : Option Value → Heap → Prop) (v : Option Value) (s₂ : State) (L : List Loc) : Prop := (Fr n0 L ∧ Q v s₂.heap) ∧ FrameEnd s (.returned v) s₂ L k j
/-- where a walk of the body y stands -/
def Wk (Z : State) (y : MethodName) (bytes : ByteArray) (ml : Nat) (ret : Option FieldType) (n0 : Nat) (p : Program) (l : Launch) (e : Env) (R : Room) (s : State) (m : MethodId) (args : Array Value) (below : List Frame) (meth : Method) (c : Code) (T : State) (kc ks : Nat) : Prop :=
  (p.tables.exec = Jvm.exec ∧ Z.Warmed39 s.vm ∧ s.vm.findClass y.cls = some m.cls ∧ c.code = bytes ∧ c.maxLocals = ml ∧ meth.sig.returnType = ret ∧ meth.locks = false ∧ meth.name = y.name) ∧ ∃ locs, Stand p l e R s m args below meth c T locs kc ks ∧ Fr n0 locs
/-- a body's contract: called with the values as over the heap h0 it returns with Post -/
def Con (l : Launch) (Z : State) (n0 : Nat) (y : MethodName) (ws : List Cond) (bytes : ByteArray) (ml : Nat) (ret : Option FieldType) (rm : Room) (as : Array Value) (h0 : Heap) (Post : Option Value → Heap → Prop) : Prop :=
  MetFree l y (head1 (Cond.code y bytes ml ret :: ws) rm) (fun a U => a = as ∧ Z.Warmed39 U.vm ∧ U.heap = h0) (fun _ _ _ _ _ => True) (fun _ U o U' => ∃ v L, o = .returned v ∧ (Fr n0 L ∧ Post v U'.heap) ∧ FrameEnd U o U' L rm.cells rm.slots)
section Laws
variable {Z : State} {y : MethodName} {bytes : ByteArray} {ml : Nat} {ret : Option FieldType} {n0 : Nat} {p : Program} {l : Launch} {e : Env} {R : Room} {s : State} {m : MethodId} {args : Array Value} {below : List Frame} {meth : Method} {c : Code} {T : State} {kc ks k j : Nat} {Q : Option Value → Heap → Prop} {E : Option Value → State → List Loc → Prop} {pc pc' : Nat} {ls : Array Slot} {st : List Value} {a0 : Array Value}
theorem Goes.back {U U' : State} (g : Goes p e below E U') (h : ∀ t, Steps p.tables e below U' t → Steps p.tables e below U t) : Goes p e below E U := by
  obtain ⟨s₂, v, L, h1, h2⟩ := g; exact ⟨s₂, v, L, h _ h1, h2⟩
theorem Goes.mono {U : State} {E' : Option Value → State → List Loc → Prop} (g : Goes p e below E U) (h : ∀ v t L, E v t L → E' v t L) : Goes p e below E' U := by
  obtain ⟨s₂, v, L, h1, h2, h3, h4⟩ := g; exact ⟨s₂, v, L, h1, h2, h3, h _ _ _ h4⟩
theorem Con.mono {ws : List Cond} {rm : Room} {as : Array Value} {h0 : Heap} {Post Post' : Option Value → Heap → Prop} (C : Con l Z n0 y ws bytes ml ret rm as h0 Post) (h : ∀ v h, Post v h → Post' v h) : Con l Z n0 y ws bytes ml ret rm as h0 Post' := by
  intro p e ha hc hk s m args below hf happ hP hK
  obtain ⟨a, b, h1, h2, h3, v, L, h4, ⟨h5, h6⟩, h7⟩ := C p e ha hc hk s m args below hf happ hP hK
  exact ⟨a, b, h1, h2, h3, v, L, h4, ⟨h5, h _ _ h6⟩, h7⟩

theorem Wk.hx (W : Wk Z y bytes ml ret n0 p l e R s m args below meth c T kc ks) : p.tables.exec = Jvm.exec := W.1.1
theorem Wk.hZ (W : Wk Z y bytes ml ret n0 p l e R s m args below meth c T kc ks) : Z.Warmed39 s.vm := W.1.2.1
theorem Wk.hown (W : Wk Z y bytes ml ret n0 p l e R s m args below meth c T kc ks) : s.vm.findClass y.cls = some m.cls := W.1.2.2.1
theorem Wk.hby (W : Wk Z y bytes ml ret n0 p l e R s m args below meth c T kc ks) : c.code = bytes := W.1.2.2.2.1
theorem Wk.hml (W : Wk Z y bytes ml ret n0 p l e R s m args below meth c T kc ks) : c.maxLocals = ml := W.1.2.2.2.2.1
theorem Wk.hret (W : Wk Z y bytes ml ret n0 p l e R s m args below meth c T kc ks) : meth.sig.returnType = ret := W.1.2.2.2.2.2.1
theorem Wk.hlk (W : Wk Z y bytes ml ret n0 p l e R s m args below meth c T kc ks) : meth.locks = false := W.1.2.2.2.2.2.2.1
theorem Wk.hnm (W : Wk Z y bytes ml ret n0 p l e R s m args below meth c T kc ks) : meth.name = y.name := W.1.2.2.2.2.2.2.2
theorem Wk.here (W : Wk Z y bytes ml ret n0 p l e R s m args below meth c T kc ks) : At T m c below := by obtain ⟨_, _, X, _⟩ := W; exact X.here
theorem g_iloadN (W : Wk Z y bytes ml ret n0 p l e R s m args below meth c T kc ks) {i : Fin 4} {v : Int32} (hd : decode bytes pc = .ok (.iload_n i, 1)) (hpc : pc + 1 = pc') (hl : ls[i.val]? = some (.val (.int v))) (K : Goes p e below E (T.setTop (mkF m pc' ls (.int v :: st)))) : Goes p e below E (T.setTop (mkF m pc ls st)) := by
  subst hpc; exact K.back fun _ r => XS.iloadN W.here W.hx rfl (hb W.hby hd) hl r
theorem g_iload (W : Wk Z y bytes ml ret n0 p l e R s m args below meth c T kc ks) {i : Nat} {v : Int32} (hd : decode bytes pc = .ok (.iload i, 2)) (hpc : pc + 2 = pc') (hl : ls[i]? = some (.val (.int v))) (K : Goes p e below E (T.setTop (mkF m pc' ls (.int v :: st)))) : Goes p e below E (T.setTop (mkF m pc ls st)) := by
  subst hpc; exact K.back fun _ r => XS.iload W.here W.hx rfl (hb W.hby hd) hl r
theorem g_lloadN (W : Wk Z y bytes ml ret n0 p l e R s m args below meth c T kc ks) {i : Fin 4} {v : Int64} (hd : decode bytes pc = .ok (.lload_n i, 1)) (hpc : pc + 1 = pc') (hl : ls[i.val]? = some (.val (.long v))) (K : Goes p e below E (T.setTop (mkF m pc' ls (.long v :: st)))) : Goes p e below E (T.setTop (mkF m pc ls st)) := by
  subst hpc; exact K.back fun _ r => XT.lloadN W.here W.hx rfl (hb W.hby hd) hl r
theorem g_lload (W : Wk Z y bytes ml ret n0 p l e R s m args below meth c T kc ks) {i : Nat} {v : Int64} (hd : decode bytes pc = .ok (.lload i, 2)) (hpc : pc + 2 = pc') (hl : ls[i]? = some (.val (.long v))) (K : Goes p e below E (T.setTop (mkF m pc' ls (.long v :: st)))) : Goes p e below E (T.setTop (mkF m pc ls st)) := by
  subst hpc; exact K.back fun _ r => XT.lload W.here W.hx rfl (hb W.hby hd) hl r
theorem g_dloadN (W : Wk Z y bytes ml ret n0 p l e R s m args below meth c T kc ks) {i : Fin 4} {v : UInt64} (hd : decode bytes pc = .ok (.dload_n i, 1)) (hpc : pc + 1 = pc') (hl : ls[i.val]? = some (.val (.double v))) (K : Goes p e below E (T.setTop (mkF m pc' ls (.double v :: st)))) : Goes p e below E (T.setTop (mkF m pc ls st)) := by
  subst hpc; exact K.back fun _ r => XS.dloadN W.here W.hx rfl (hb W.hby hd) hl r
theorem g_dload (W : Wk Z y bytes ml ret n0 p l e R s m args below meth c T kc ks) {i : Nat} {v : UInt64} (hd : decode bytes pc = .ok (.dload i, 2)) (hpc : pc + 2 = pc') (hl : ls[i]? = some (.val (.double v))) (K : Goes p e below E (T.setTop (mkF m pc' ls (.double v :: st)))) : Goes p e below E (T.setTop (mkF m pc ls st)) := by
  subst hpc; exact K.back fun _ r => XS.dload W.here W.hx rfl (hb W.hby hd) hl r
theorem g_floadN (W : Wk Z y bytes ml ret n0 p l e R s m args below meth c T kc ks) {i : Fin 4} {v : UInt32} (hd : decode bytes pc = .ok (.fload_n i, 1)) (hpc : pc + 1 = pc') (hl : ls[i.val]? = some (.val (.float v))) (K : Goes p e below E (T.setTop (mkF m pc' ls (.float v :: st)))) : Goes p e below E (T.setTop (mkF m pc ls st)) := by
  subst hpc; exact K.back fun _ r => XS.floadN W.here W.hx rfl (hb W.hby hd) hl r
theorem g_fload (W : Wk Z y bytes ml ret n0 p l e R s m args below meth c T kc ks) {i : Nat} {v : UInt32} (hd : decode bytes pc = .ok (.fload i, 2)) (hpc : pc + 2 = pc') (hl : ls[i]? = some (.val (.float v))) (K : Goes p e below E (T.setTop (mkF m pc' ls (.float v :: st)))) : Goes p e below E (T.setTop (mkF m pc ls st)) := by
  subst hpc; exact K.back fun _ r => XS.fload W.here W.hx rfl (hb W.hby hd) hl r
theorem g_aloadN (W : Wk Z y bytes ml ret n0 p l e R s m args below meth c T kc ks) {i : Fin 4} {v : Value} (hd : decode bytes pc = .ok (.aload_n i, 1)) (hpc : pc + 1 = pc') (hl : ls[i.val]? = some (.val v)) (hv : v.isRef = true) (K : Goes p e below E (T.setTop (mkF m pc' ls (v :: st)))) : Goes p e below E (T.setTop (mkF m pc ls st)) := by
  subst hpc; exact K.back fun _ r => XS.aloadN W.here W.hx rfl (hb W.hby hd) hl hv r
theorem g_aload (W : Wk Z y bytes ml ret n0 p l e R s m args below meth c T kc ks) {i : Nat} {v : Value} (hd : decode bytes pc = .ok (.aload i, 2)) (hpc : pc + 2 = pc') (hl : ls[i]? = some (.val v)) (hv : v.isRef = true) (K : Goes p e below E (T.setTop (mkF m pc' ls (v :: st)))) : Goes p e below E (T.setTop (mkF m pc ls st)) := by
  subst hpc; exact K.back fun _ r => XS.aload W.here W.hx rfl (hb W.hby hd) hl hv r
theorem g_istoreN (W : Wk Z y bytes ml ret n0 p l e R s m args below meth c T kc ks) {i : Fin 4} {v : Int32} {ls' : Array Slot} (hd : decode bytes pc = .ok (.istore_n i, 1)) (hpc : pc + 1 = pc') (hl : storeLocals ls i.val (.int v) = some ls') (K : Goes p e below E (T.setTop (mkF m pc' ls' st))) : Goes p e below E (T.setTop (mkF m pc ls (.int v :: st))) := by
  subst hpc; exact K.back fun _ r => XS.istoreN W.here W.hx rfl (hb W.hby hd) rfl hl r
theorem g_istore (W : Wk Z y bytes ml ret n0 p l e R s m args below meth c T kc ks) {i : Nat} {v : Int32} {ls' : Array Slot} (hd : decode bytes pc = .ok (.istore i, 2)) (hpc : pc + 2 = pc') (hl : storeLocals ls i (.int v) = some ls') (K : Goes p e below E (T.setTop (mkF m pc' ls' st))) : Goes p e below E (T.setTop (mkF m pc ls (.int v :: st))) := by
  subst hpc; exact K.back fun _ r => XS.istore W.here W.hx rfl (hb W.hby hd) rfl hl r
theorem g_lstoreN (W : Wk Z y bytes ml ret n0 p l e R s m args below meth c T kc ks) {i : Fin 4} {v : Int64} {ls' : Array Slot} (hd : decode bytes pc = .ok (.lstore_n i, 1)) (hpc : pc + 1 = pc') (hl : storeLocals ls i.val (.long v) = some ls') (K : Goes p e below E (T.setTop (mkF m pc' ls' st))) : Goes p e below E (T.setTop (mkF m pc ls (.long v :: st))) := by
  subst hpc; exact K.back fun _ r => XT.lstoreN W.here W.hx rfl (hb W.hby hd) rfl hl r
theorem g_lstore (W : Wk Z y bytes ml ret n0 p l e R s m args below meth c T kc ks) {i : Nat} {v : Int64} {ls' : Array Slot} (hd : decode bytes pc = .ok (.lstore i, 2)) (hpc : pc + 2 = pc') (hl : storeLocals ls i (.long v) = some ls') (K : Goes p e below E (T.setTop (mkF m pc' ls' st))) : Goes p e below E (T.setTop (mkF m pc ls (.long v :: st))) := by
  subst hpc; exact K.back fun _ r => XT.lstore W.here W.hx rfl (hb W.hby hd) rfl hl r
theorem g_dstoreN (W : Wk Z y bytes ml ret n0 p l e R s m args below meth c T kc ks) {i : Fin 4} {v : UInt64} {ls' : Array Slot} (hd : decode bytes pc = .ok (.dstore_n i, 1)) (hpc : pc + 1 = pc') (hl : storeLocals ls i.val (.double v) = some ls') (K : Goes p e below E (T.setTop (mkF m pc' ls' st))) : Goes p e below E (T.setTop (mkF m pc ls (.double v :: st))) := by
  subst hpc; exact K.back fun _ r => XS.dstoreN W.here W.hx rfl (hb W.hby hd) rfl hl r
theorem g_dstore (W : Wk Z y bytes ml ret n0 p l e R s m args below meth c T kc ks) {i : Nat} {v : UInt64} {ls' : Array Slot} (hd : decode bytes pc = .ok (.dstore i, 2)) (hpc : pc + 2 = pc') (hl : storeLocals ls i (.double v) = some ls') (K : Goes p e below E (T.setTop (mkF m pc' ls' st))) : Goes p e below E (T.setTop (mkF m pc ls (.double v :: st))) := by
  subst hpc; exact K.back fun _ r => XS.dstore W.here W.hx rfl (hb W.hby hd) rfl hl r
theorem g_fstoreN (W : Wk Z y bytes ml ret n0 p l e R s m args below meth c T kc ks) {i : Fin 4} {v : UInt32} {ls' : Array Slot} (hd : decode bytes pc = .ok (.fstore_n i, 1)) (hpc : pc + 1 = pc') (hl : storeLocals ls i.val (.float v) = some ls') (K : Goes p e below E (T.setTop (mkF m pc' ls' st))) : Goes p e below E (T.setTop (mkF m pc ls (.float v :: st))) := by
  subst hpc; exact K.back fun _ r => XS.fstoreN W.here W.hx rfl (hb W.hby hd) rfl hl r
theorem g_fstore (W : Wk Z y bytes ml ret n0 p l e R s m args below meth c T kc ks) {i : Nat} {v : UInt32} {ls' : Array Slot} (hd : decode bytes pc = .ok (.fstore i, 2)) (hpc : pc + 2 = pc') (hl : storeLocals ls i (.float v) = some ls') (K : Goes p e below E (T.setTop (mkF m pc' ls' st))) : Goes p e below E (T.setTop (mkF m pc ls (.float v :: st))) := by
  subst hpc; exact K.back fun _ r => XS.fstore W.here W.hx rfl (hb W.hby hd) rfl hl r
theorem g_astoreN (W : Wk Z y bytes ml ret n0 p l e R s m args below meth c T kc ks) {i : Fin 4} {v : Value} {ls' : Array Slot} (hd : decode bytes pc = .ok (.astore_n i, 1)) (hpc : pc + 1 = pc') (hv : v.isRef = true) (hl : storeLocals ls i.val v = some ls') (K : Goes p e below E (T.setTop (mkF m pc' ls' st))) : Goes p e below E (T.setTop (mkF m pc ls (v :: st))) := by
  subst hpc; exact K.back fun _ r => XS.astoreN W.here W.hx rfl (hb W.hby hd) rfl hv hl r
theorem g_astore (W : Wk Z y bytes ml ret n0 p l e R s m args below meth c T kc ks) {i : Nat} {v : Value} {ls' : Array Slot} (hd : decode bytes pc = .ok (.astore i, 2)) (hpc : pc + 2 = pc') (hv : v.isRef = true) (hl : storeLocals ls i v = some ls') (K : Goes p e below E (T.setTop (mkF m pc' ls' st))) : Goes p e below E (T.setTop (mkF m pc ls (v :: st))) := by
  subst hpc; exact K.back fun _ r => XS.astore W.here W.hx rfl (hb W.hby hd) rfl hv hl r
theorem g_iconst (W : Wk Z y bytes ml ret n0 p l e R s m args below meth c T kc ks) {i : Int} {v : Int32} (hd : decode bytes pc = .ok (.iconst i, 1)) (hpc : pc + 1 = pc') (hv : Int32.ofInt i = v) (K : Goes p e below E (T.setTop (mkF m pc' ls (.int v :: st)))) : Goes p e below E (T.setTop (mkF m pc ls st)) := by
  subst hpc; exact K.back fun _ r => XS.iconst W.here W.hx rfl (hb W.hby hd) (by rw [hv]; exact r)
theorem g_bipush (W : Wk Z y bytes ml ret n0 p l e R s m args below meth c T kc ks) {i : Int} {v : Int32} (hd : decode bytes pc = .ok (.bipush i, 2)) (hpc : pc + 2 = pc') (hv : (Int8.ofInt i).toInt32 = v) (K : Goes p e below E (T.setTop (mkF m pc' ls (.int v :: st)))) : Goes p e below E (T.setTop (mkF m pc ls st)) := by
  subst hpc; exact K.back fun _ r => XS.bipush W.here W.hx rfl (hb W.hby hd) (by rw [hv]; exact r)
theorem g_sipush (W : Wk Z y bytes ml ret n0 p l e R s m args below meth c T kc ks) {i : Int} {v : Int32} (hd : decode bytes pc = .ok (.sipush i, 3)) (hpc : pc + 3 = pc') (hv : (Int16.ofInt i).toInt32 = v) (K : Goes p e below E (T.setTop (mkF m pc' ls (.int v :: st)))) : Goes p e below E (T.setTop (mkF m pc ls st)) := by
  subst hpc; exact K.back fun _ r => XS.sipush W.here W.hx rfl (hb W.hby hd) (by rw [hv]; exact r)
theorem g_lconst (W : Wk Z y bytes ml ret n0 p l e R s m args below meth c T kc ks) {i : Fin 2} {v : Int64} (hd : decode bytes pc = .ok (.lconst i, 1)) (hpc : pc + 1 = pc') (hv : Int64.ofNat i = v) (K : Goes p e below E (T.setTop (mkF m pc' ls (.long v :: st)))) : Goes p e below E (T.setTop (mkF m pc ls st)) := by
  subst hpc; exact K.back fun _ r => XT.lconst W.here W.hx rfl (hb W.hby hd) (by rw [hv]; exact r)
theorem g_dconst0 (W : Wk Z y bytes ml ret n0 p l e R s m args below meth c T kc ks)  (hd : decode bytes pc = .ok (.dconst 0, 1)) (hpc : pc + 1 = pc')  (K : Goes p e below E (T.setTop (mkF m pc' ls (.double 0 :: st)))) : Goes p e below E (T.setTop (mkF m pc ls st)) := by
  subst hpc; exact K.back fun _ r => XS.dconst0 W.here W.hx rfl (hb W.hby hd) rfl r
theorem g_dconst1 (W : Wk Z y bytes ml ret n0 p l e R s m args below meth c T kc ks)  (hd : decode bytes pc = .ok (.dconst 1, 1)) (hpc : pc + 1 = pc')  (K : Goes p e below E (T.setTop (mkF m pc' ls (.double 4607182418800017408 :: st)))) : Goes p e below E (T.setTop (mkF m pc ls st)) := by
  subst hpc; exact K.back fun _ r => XS.dconst1 W.here W.hx rfl (hb W.hby hd) rfl r
theorem g_aconst_null (W : Wk Z y bytes ml ret n0 p l e R s m args below meth c T kc ks)  (hd : decode bytes pc = .ok (.aconst_null, 1)) (hpc : pc + 1 = pc')  (K : Goes p e below E (T.setTop (mkF m pc' ls (.null :: st)))) : Goes p e below E (T.setTop (mkF m pc ls st)) := by
  subst hpc; exact K.back fun _ r => XS.aconstNull W.here W.hx rfl (hb W.hby hd) r
theorem g_iadd (W : Wk Z y bytes ml ret n0 p l e R s m args below meth c T kc ks) {x y0 v : Int32} (hd : decode bytes pc = .ok (.iadd, 1)) (hpc : pc + 1 = pc') (hv : x + y0 = v) (K : Goes p e below E (T.setTop (mkF m pc' ls (.int v :: st)))) : Goes p e below E (T.setTop (mkF m pc ls (.int y0 :: .int x :: st))) := by
  subst hpc; exact K.back fun _ r => XS.iadd W.here W.hx rfl (hb W.hby hd) rfl (by rw [hv]; exact r)
theorem g_isub (W : Wk Z y bytes ml ret n0 p l e R s m args below meth c T kc ks) {x y0 v : Int32} (hd : decode bytes pc = .ok (.isub, 1)) (hpc : pc + 1 = pc') (hv : x - y0 = v) (K : Goes p e below E (T.setTop (mkF m pc' ls (.int v :: st)))) : Goes p e below E (T.setTop (mkF m pc ls (.int y0 :: .int x :: st))) := by
  subst hpc; exact K.back fun _ r => XS.isub W.here W.hx rfl (hb W.hby hd) rfl (by rw [hv]; exact r)
theorem g_iand (W : Wk Z y bytes ml ret n0 p l e R s m args below meth c T kc ks) {x y0 v : Int32} (hd : decode bytes pc = .ok (.iand, 1)) (hpc : pc + 1 = pc') (hv : x &&& y0 = v) (K : Goes p e below E (T.setTop (mkF m pc' ls (.int v :: st)))) : Goes p e below E (T.setTop (mkF m pc ls (.int y0 :: .int x :: st))) := by
  subst hpc; exact K.back fun _ r => XS.iand W.here W.hx rfl (hb W.hby hd) rfl (by rw [hv]; exact r)
theorem g_imul (W : Wk Z y bytes ml ret n0 p l e R s m args below meth c T kc ks) {x y0 v : Int32} (hd : decode bytes pc = .ok (.imul, 1)) (hpc : pc + 1 = pc') (hv : x * y0 = v) (K : Goes p e below E (T.setTop (mkF m pc' ls (.int v :: st)))) : Goes p e below E (T.setTop (mkF m pc ls (.int y0 :: .int x :: st))) := by
  subst hpc; exact K.back fun _ r => XS.imul W.here W.hx rfl (hb W.hby hd) rfl (by rw [hv]; exact r)
theorem g_ixor (W : Wk Z y bytes ml ret n0 p l e R s m args below meth c T kc ks) {x y0 v : Int32} (hd : decode bytes pc = .ok (.ixor, 1)) (hpc : pc + 1 = pc') (hv : x ^^^ y0 = v) (K : Goes p e below E (T.setTop (mkF m pc' ls (.int v :: st)))) : Goes p e below E (T.setTop (mkF m pc ls (.int y0 :: .int x :: st))) := by
  subst hpc; exact K.back fun _ r => XT.ixor W.here W.hx rfl (hb W.hby hd) rfl (by rw [hv]; exact r)
theorem g_ior (W : Wk Z y bytes ml ret n0 p l e R s m args below meth c T kc ks) {x y0 v : Int32} (hd : decode bytes pc = .ok (.ior, 1)) (hpc : pc + 1 = pc') (hv : x ||| y0 = v) (K : Goes p e below E (T.setTop (mkF m pc' ls (.int v :: st)))) : Goes p e below E (T.setTop (mkF m pc ls (.int y0 :: .int x :: st))) := by
  subst hpc; exact K.back fun _ r => XT.ior W.here W.hx rfl (hb W.hby hd) rfl (by rw [hv]; exact r)
theorem g_ishl (W : Wk Z y bytes ml ret n0 p l e R s m args below meth c T kc ks) {x y0 v : Int32} (hd : decode bytes pc = .ok (.ishl, 1)) (hpc : pc + 1 = pc') (hv : x <<< (y0 &&& 31) = v) (K : Goes p e below E (T.setTop (mkF m pc' ls (.int v :: st)))) : Goes p e below E (T.setTop (mkF m pc ls (.int y0 :: .int x :: st))) := by
  subst hpc; exact K.back fun _ r => XT.ishl W.here W.hx rfl (hb W.hby hd) rfl (by rw [hv]; exact r)
theorem g_ishr (W : Wk Z y bytes ml ret n0 p l e R s m args below meth c T kc ks) {x y0 v : Int32} (hd : decode bytes pc = .ok (.ishr, 1)) (hpc : pc + 1 = pc') (hv : x >>> (y0 &&& 31) = v) (K : Goes p e below E (T.setTop (mkF m pc' ls (.int v :: st)))) : Goes p e below E (T.setTop (mkF m pc ls (.int y0 :: .int x :: st))) := by
  subst hpc; exact K.back fun _ r => XT.ishr W.here W.hx rfl (hb W.hby hd) rfl (by rw [hv]; exact r)
theorem g_iushr (W : Wk Z y bytes ml ret n0 p l e R s m args below meth c T kc ks) {x y0 v : Int32} (hd : decode bytes pc = .ok (.iushr, 1)) (hpc : pc + 1 = pc') (hv : XT.ushr x y0 = v) (K : Goes p e below E (T.setTop (mkF m pc' ls (.int v :: st)))) : Goes p e below E (T.setTop (mkF m pc ls (.int y0 :: .int x :: st))) := by
  subst hpc; exact K.back fun _ r => XT.iushr W.here W.hx rfl (hb W.hby hd) rfl (by rw [hv]; exact r)
theorem g_ineg (W : Wk Z y bytes ml ret n0 p l e R s m args below meth c T kc ks) {x v : Int32} (hd : decode bytes pc = .ok (.ineg, 1)) (hpc : pc + 1 = pc') (hv : -x = v) (K : Goes p e below E (T.setTop (mkF m pc' ls (.int v :: st)))) : Goes p e below E (T.setTop (mkF m pc ls (.int x :: st))) := by
  subst hpc; exact K.back fun _ r => XS.ineg W.here W.hx rfl (hb W.hby hd) rfl (by rw [hv]; exact r)
theorem g_ladd (W : Wk Z y bytes ml ret n0 p l e R s m args below meth c T kc ks) {x y0 v : Int64} (hd : decode bytes pc = .ok (.ladd, 1)) (hpc : pc + 1 = pc') (hv : x + y0 = v) (K : Goes p e below E (T.setTop (mkF m pc' ls (.long v :: st)))) : Goes p e below E (T.setTop (mkF m pc ls (.long y0 :: .long x :: st))) := by
  subst hpc; exact K.back fun _ r => XT.ladd W.here W.hx rfl (hb W.hby hd) rfl (by rw [hv]; exact r)
theorem g_lsub (W : Wk Z y bytes ml ret n0 p l e R s m args below meth c T kc ks) {x y0 v : Int64} (hd : decode bytes pc = .ok (.lsub, 1)) (hpc : pc + 1 = pc') (hv : x - y0 = v) (K : Goes p e below E (T.setTop (mkF m pc' ls (.long v :: st)))) : Goes p e below E (T.setTop (mkF m pc ls (.long y0 :: .long x :: st))) := by
  subst hpc; exact K.back fun _ r => XT.lsub W.here W.hx rfl (hb W.hby hd) rfl (by rw [hv]; exact r)
theorem g_lmul (W : Wk Z y bytes ml ret n0 p l e R s m args below meth c T kc ks) {x y0 v : Int64} (hd : decode bytes pc = .ok (.lmul, 1)) (hpc : pc + 1 = pc') (hv : x * y0 = v) (K : Goes p e below E (T.setTop (mkF m pc' ls (.long v :: st)))) : Goes p e below E (T.setTop (mkF m pc ls (.long y0 :: .long x :: st))) := by
  subst hpc; exact K.back fun _ r => XT.lmul W.here W.hx rfl (hb W.hby hd) rfl (by rw [hv]; exact r)
theorem g_land (W : Wk Z y bytes ml ret n0 p l e R s m args below meth c T kc ks) {x y0 v : Int64} (hd : decode bytes pc = .ok (.land, 1)) (hpc : pc + 1 = pc') (hv : x &&& y0 = v) (K : Goes p e below E (T.setTop (mkF m pc' ls (.long v :: st)))) : Goes p e below E (T.setTop (mkF m pc ls (.long y0 :: .long x :: st))) := by
  subst hpc; exact K.back fun _ r => XT.land W.here W.hx rfl (hb W.hby hd) rfl (by rw [hv]; exact r)
theorem g_lor (W : Wk Z y bytes ml ret n0 p l e R s m args below meth c T kc ks) {x y0 v : Int64} (hd : decode bytes pc = .ok (.lor, 1)) (hpc : pc + 1 = pc') (hv : x ||| y0 = v) (K : Goes p e below E (T.setTop (mkF m pc' ls (.long v :: st)))) : Goes p e below E (T.setTop (mkF m pc ls (.long y0 :: .long x :: st))) := by
  subst hpc; exact K.back fun _ r => XT.lor W.here W.hx rfl (hb W.hby hd) rfl (by rw [hv]; exact r)
theorem g_lxor (W : Wk Z y bytes ml ret n0 p l e R s m args below meth c T kc ks) {x y0 v : Int64} (hd : decode bytes pc = .ok (.lxor, 1)) (hpc : pc + 1 = pc') (hv : x ^^^ y0 = v) (K : Goes p e below E (T.setTop (mkF m pc' ls (.long v :: st)))) : Goes p e below E (T.setTop (mkF m pc ls (.long y0 :: .long x :: st))) := by
  subst hpc; exact K.back fun _ r => XT.lxor W.here W.hx rfl (hb W.hby hd) rfl (by rw [hv]; exact r)
theorem g_lneg (W : Wk Z y bytes ml ret n0 p l e R s m args below meth c T kc ks) {x v : Int64} (hd : decode bytes pc = .ok (.lneg, 1)) (hpc : pc + 1 = pc') (hv : -x = v) (K : Goes p e below E (T.setTop (mkF m pc' ls (.long v :: st)))) : Goes p e below E (T.setTop (mkF m pc ls (.long x :: st))) := by
  subst hpc; exact K.back fun _ r => XT.lneg W.here W.hx rfl (hb W.hby hd) rfl (by rw [hv]; exact r)
theorem g_lushr (W : Wk Z y bytes ml ret n0 p l e R s m args below meth c T kc ks) {x v : Int64} {y0 : Int32} (hd : decode bytes pc = .ok (.lushr, 1)) (hpc : pc + 1 = pc') (hv : XT.ushrL x y0 = v) (K : Goes p e below E (T.setTop (mkF m pc' ls (.long v :: st)))) : Goes p e below E (T.setTop (mkF m pc ls (.int y0 :: .long x :: st))) := by
  subst hpc; exact K.back fun _ r => XT.lushr W.here W.hx rfl (hb W.hby hd) rfl (by rw [hv]; exact r)
theorem g_lcmp (W : Wk Z y bytes ml ret n0 p l e R s m args below meth c T kc ks) {x y0 : Int64} {v : Int32} (hd : decode bytes pc = .ok (.lcmp, 1)) (hpc : pc + 1 = pc') (hv : XT.cmpL x y0 = v) (K : Goes p e below E (T.setTop (mkF m pc' ls (.int v :: st)))) : Goes p e below E (T.setTop (mkF m pc ls (.long y0 :: .long x :: st))) := by
  subst hpc; exact K.back fun _ r => XT.lcmp W.here W.hx rfl (hb W.hby hd) rfl (by rw [hv]; exact r)
theorem g_i2l (W : Wk Z y bytes ml ret n0 p l e R s m args below meth c T kc ks) {x : Int32} {v : Int64} (hd : decode bytes pc = .ok (.i2l, 1)) (hpc : pc + 1 = pc') (hv : x.toInt64 = v) (K : Goes p e below E (T.setTop (mkF m pc' ls (.long v :: st)))) : Goes p e below E (T.setTop (mkF m pc ls (.int x :: st))) := by
  subst hpc; exact K.back fun _ r => XT.i2l W.here W.hx rfl (hb W.hby hd) rfl (by rw [hv]; exact r)
theorem g_l2i (W : Wk Z y bytes ml ret n0 p l e R s m args below meth c T kc ks) {x : Int64} {v : Int32} (hd : decode bytes pc = .ok (.l2i, 1)) (hpc : pc + 1 = pc') (hv : x.toInt32 = v) (K : Goes p e below E (T.setTop (mkF m pc' ls (.int v :: st)))) : Goes p e below E (T.setTop (mkF m pc ls (.long x :: st))) := by
  subst hpc; exact K.back fun _ r => XT.l2i W.here W.hx rfl (hb W.hby hd) rfl (by rw [hv]; exact r)
theorem g_i2d (W : Wk Z y bytes ml ret n0 p l e R s m args below meth c T kc ks) {x : Int32} {v : UInt64} (hd : decode bytes pc = .ok (.i2d, 1)) (hpc : pc + 1 = pc') (hv : FP.i2d x = v) (K : Goes p e below E (T.setTop (mkF m pc' ls (.double v :: st)))) : Goes p e below E (T.setTop (mkF m pc ls (.int x :: st))) := by
  subst hpc; exact K.back fun _ r => XS.i2dS W.here W.hx rfl (hb W.hby hd) rfl hv r
theorem g_l2d (W : Wk Z y bytes ml ret n0 p l e R s m args below meth c T kc ks) {x : Int64} {v : UInt64} (hd : decode bytes pc = .ok (.l2d, 1)) (hpc : pc + 1 = pc') (hv : FP.l2d x = v) (K : Goes p e below E (T.setTop (mkF m pc' ls (.double v :: st)))) : Goes p e below E (T.setTop (mkF m pc ls (.long x :: st))) := by
  subst hpc; exact K.back fun _ r => XS.l2dS W.here W.hx rfl (hb W.hby hd) rfl hv r
theorem g_dneg (W : Wk Z y bytes ml ret n0 p l e R s m args below meth c T kc ks) {x v : UInt64} (hd : decode bytes pc = .ok (.dneg, 1)) (hpc : pc + 1 = pc') (hv : FP.dneg x = v) (K : Goes p e below E (T.setTop (mkF m pc' ls (.double v :: st)))) : Goes p e below E (T.setTop (mkF m pc ls (.double x :: st))) := by
  subst hpc; exact K.back fun _ r => XS.dnegS W.here W.hx rfl (hb W.hby hd) rfl hv r
theorem g_dcmp (W : Wk Z y bytes ml ret n0 p l e R s m args below meth c T kc ks) {o : CmpOp} {x y0 : UInt64} {v : Int32} (hd : decode bytes pc = .ok (.dcmp o, 1)) (hpc : pc + 1 = pc') (hv : cmpValue (FP.dcmp x y0) o = v) (K : Goes p e below E (T.setTop (mkF m pc' ls (.int v :: st)))) : Goes p e below E (T.setTop (mkF m pc ls (.double y0 :: .double x :: st))) := by
  subst hpc; exact K.back fun _ r => XS.dcmpS W.here W.hx rfl (hb W.hby hd) rfl hv r
theorem g_dadd (W : Wk Z y bytes ml ret n0 p l e R s m args below meth c T kc ks) {x y0 v : UInt64} (hd : decode bytes pc = .ok (.dadd, 1)) (hpc : pc + 1 = pc') (hv : FP.dadd x y0 = v) (hn : NoNaN64 v) (K : Goes p e below E (T.setTop (mkF m pc' ls (.double v :: st)))) : Goes p e below E (T.setTop (mkF m pc ls (.double y0 :: .double x :: st))) := by
  subst hpc; exact K.back fun _ r => XS.daddS W.here W.hx rfl (hb W.hby hd) rfl (by rw [hv]; exact hn) hv r
theorem g_dsub (W : Wk Z y bytes ml ret n0 p l e R s m args below meth c T kc ks) {x y0 v : UInt64} (hd : decode bytes pc = .ok (.dsub, 1)) (hpc : pc + 1 = pc') (hv : FP.dsub x y0 = v) (hn : NoNaN64 v) (K : Goes p e below E (T.setTop (mkF m pc' ls (.double v :: st)))) : Goes p e below E (T.setTop (mkF m pc ls (.double y0 :: .double x :: st))) := by
  subst hpc; exact K.back fun _ r => XS.dsubS W.here W.hx rfl (hb W.hby hd) rfl (by rw [hv]; exact hn) hv r
theorem g_dmul (W : Wk Z y bytes ml ret n0 p l e R s m args below meth c T kc ks) {x y0 v : UInt64} (hd : decode bytes pc = .ok (.dmul, 1)) (hpc : pc + 1 = pc') (hv : FP.dmul x y0 = v) (hn : NoNaN64 v) (K : Goes p e below E (T.setTop (mkF m pc' ls (.double v :: st)))) : Goes p e below E (T.setTop (mkF m pc ls (.double y0 :: .double x :: st))) := by
  subst hpc; exact K.back fun _ r => XS.dmulS W.here W.hx rfl (hb W.hby hd) rfl (by rw [hv]; exact hn) hv r
theorem g_ddiv (W : Wk Z y bytes ml ret n0 p l e R s m args below meth c T kc ks) {x y0 v : UInt64} (hd : decode bytes pc = .ok (.ddiv, 1)) (hpc : pc + 1 = pc') (hv : FP.ddiv x y0 = v) (hn : NoNaN64 v) (K : Goes p e below E (T.setTop (mkF m pc' ls (.double v :: st)))) : Goes p e below E (T.setTop (mkF m pc ls (.double y0 :: .double x :: st))) := by
  subst hpc; exact K.back fun _ r => XS.ddivS W.here W.hx rfl (hb W.hby hd) rfl (by rw [hv]; exact hn) hv r
theorem g_dup (W : Wk Z y bytes ml ret n0 p l e R s m args below meth c T kc ks) {v : Value} (hd : decode bytes pc = .ok (.dup, 1)) (hpc : pc + 1 = pc') (hc : v.category = 1) (K : Goes p e below E (T.setTop (mkF m pc' ls (v :: v :: st)))) : Goes p e below E (T.setTop (mkF m pc ls (v :: st))) := by
  subst hpc; exact K.back fun _ r => XS.dup W.here W.hx rfl (hb W.hby hd) rfl hc r
theorem g_pop (W : Wk Z y bytes ml ret n0 p l e R s m args below meth c T kc ks) {v : Value} (hd : decode bytes pc = .ok (.pop, 1)) (hpc : pc + 1 = pc') (hc : v.category = 1) (K : Goes p e below E (T.setTop (mkF m pc' ls st))) : Goes p e below E (T.setTop (mkF m pc ls (v :: st))) := by
  subst hpc; exact K.back fun _ r => XT.pop W.here W.hx rfl (hb W.hby hd) rfl hc r
theorem g_dup_x1 (W : Wk Z y bytes ml ret n0 p l e R s m args below meth c T kc ks) {v w : Value} (hd : decode bytes pc = .ok (.dup_x1, 1)) (hpc : pc + 1 = pc') (hc : v.category = 1) (hc2 : w.category = 1) (K : Goes p e below E (T.setTop (mkF m pc' ls (v :: w :: v :: st)))) : Goes p e below E (T.setTop (mkF m pc ls (v :: w :: st))) := by
  subst hpc; exact K.back fun _ r => XT.dupX1 W.here W.hx rfl (hb W.hby hd) rfl hc hc2 r
theorem g_dup2 (W : Wk Z y bytes ml ret n0 p l e R s m args below meth c T kc ks) {v w : Value} (hd : decode bytes pc = .ok (.dup2, 1)) (hpc : pc + 1 = pc') (hc : v.category = 1) (hc2 : w.category = 1) (K : Goes p e below E (T.setTop (mkF m pc' ls (v :: w :: v :: w :: st)))) : Goes p e below E (T.setTop (mkF m pc ls (v :: w :: st))) := by
  subst hpc; exact K.back fun _ r => XT.dup2 W.here W.hx rfl (hb W.hby hd) rfl hc hc2 r
theorem g_iinc (W : Wk Z y bytes ml ret n0 p l e R s m args below meth c T kc ks) {i : Nat} {d : Int} {x v : Int32} {ls' : Array Slot} (hd : decode bytes pc = .ok (.iinc i d, 3)) (hpc : pc + 3 = pc') (h1 : ls[i]? = some (.val (.int x))) (hv : x + Int32.ofInt d = v) (hl : storeLocals ls i (.int v) = some ls') (K : Goes p e below E (T.setTop (mkF m pc' ls' st))) : Goes p e below E (T.setTop (mkF m pc ls st)) := by
  subst hpc; exact K.back fun _ r => XS.iinc W.here W.hx rfl (hb W.hby hd) h1 (by rw [hv]; exact hl) r
theorem g_idiv (W : Wk Z y bytes ml ret n0 p l e R s m args below meth c T kc ks) {x y0 v : Int32} (hd : decode bytes pc = .ok (.idiv, 1)) (hpc : pc + 1 = pc') (h0 : y0 ≠ 0) (hv : x / y0 = v) (K : Goes p e below E (T.setTop (mkF m pc' ls (.int v :: st)))) : Goes p e below E (T.setTop (mkF m pc ls (.int y0 :: .int x :: st))) := by
  subst hpc; exact K.back fun _ r => XS.idiv W.here W.hx rfl (hb W.hby hd) rfl h0 (by rw [hv]; exact r)
theorem g_irem (W : Wk Z y bytes ml ret n0 p l e R s m args below meth c T kc ks) {x y0 v : Int32} (hd : decode bytes pc = .ok (.irem, 1)) (hpc : pc + 1 = pc') (h0 : y0 ≠ 0) (hv : x - (x / y0) * y0 = v) (K : Goes p e below E (T.setTop (mkF m pc' ls (.int v :: st)))) : Goes p e below E (T.setTop (mkF m pc ls (.int y0 :: .int x :: st))) := by
  subst hpc; exact K.back fun _ r => XS.irem W.here W.hx rfl (hb W.hby hd) rfl h0 (by rw [hv]; exact r)
theorem g_ldiv (W : Wk Z y bytes ml ret n0 p l e R s m args below meth c T kc ks) {x y0 v : Int64} (hd : decode bytes pc = .ok (.ldiv, 1)) (hpc : pc + 1 = pc') (h0 : y0 ≠ 0) (hv : x / y0 = v) (K : Goes p e below E (T.setTop (mkF m pc' ls (.long v :: st)))) : Goes p e below E (T.setTop (mkF m pc ls (.long y0 :: .long x :: st))) := by
  subst hpc; exact K.back fun _ r => XT.ldiv W.here W.hx rfl (hb W.hby hd) rfl h0 (by rw [hv]; exact r)
theorem g_lrem (W : Wk Z y bytes ml ret n0 p l e R s m args below meth c T kc ks) {x y0 v : Int64} (hd : decode bytes pc = .ok (.lrem, 1)) (hpc : pc + 1 = pc') (h0 : y0 ≠ 0) (hv : x - (x / y0) * y0 = v) (K : Goes p e below E (T.setTop (mkF m pc' ls (.long v :: st)))) : Goes p e below E (T.setTop (mkF m pc ls (.long y0 :: .long x :: st))) := by
  subst hpc; exact K.back fun _ r => XT.lrem W.here W.hx rfl (hb W.hby hd) rfl h0 (by rw [hv]; exact r)
theorem g_lshl (W : Wk Z y bytes ml ret n0 p l e R s m args below meth c T kc ks) {x v : Int64} {y0 : Int32} (hd : decode bytes pc = .ok (.lshl, 1)) (hpc : pc + 1 = pc') (hv : x <<< (y0.toInt64 &&& 63) = v) (K : Goes p e below E (T.setTop (mkF m pc' ls (.long v :: st)))) : Goes p e below E (T.setTop (mkF m pc ls (.int y0 :: .long x :: st))) := by
  subst hpc; exact K.back fun _ r => XT.lshl W.here W.hx rfl (hb W.hby hd) rfl (by rw [hv]; exact r)
theorem g_lshr (W : Wk Z y bytes ml ret n0 p l e R s m args below meth c T kc ks) {x v : Int64} {y0 : Int32} (hd : decode bytes pc = .ok (.lshr, 1)) (hpc : pc + 1 = pc') (hv : x >>> (y0.toInt64 &&& 63) = v) (K : Goes p e below E (T.setTop (mkF m pc' ls (.long v :: st)))) : Goes p e below E (T.setTop (mkF m pc ls (.int y0 :: .long x :: st))) := by
  subst hpc; exact K.back fun _ r => XT.lshr W.here W.hx rfl (hb W.hby hd) rfl (by rw [hv]; exact r)
def cP : ClassFile.Cond → Int32 → Int32 → Prop
  | .eq, x, y => x = y
  | .ne, x, y => ¬ x = y
  | .lt, x, y => x < y
  | .ge, x, y => ¬ x < y
  | .gt, x, y => y < x
  | .le, x, y => ¬ y < x
theorem cP_yes {cd : ClassFile.Cond} {x y : Int32} (h : cP cd x y) : if_icmp.holds cd x y = true := by
  cases cd
  · exact (teq h).1
  · exact (feq h).2
  · exact (tlt h).1
  · exact (flt h).2.1
  · exact (tlt h).2.2.1
  · exact (flt h).2.2.2
theorem cP_no {cd : ClassFile.Cond} {x y : Int32} (h : ¬ cP cd x y) : if_icmp.holds cd x y = false := by
  cases cd
  · exact (feq h).1
  · exact (teq (Classical.not_not.mp h)).2
  · exact (flt h).1
  · exact (tlt (Classical.not_not.mp h)).2.1
  · exact (flt h).2.2.1
  · exact (tlt (Classical.not_not.mp h)).2.2.2
theorem g_goto (W : Wk Z y bytes ml ret n0 p l e R s m args below meth c T kc ks) {o : Int} (hd : decode bytes pc = .ok (.goto o, 3)) (hpc : (pc : Int) + o = (pc' : Nat)) (K : Goes p e below E (T.setTop (mkF m pc' ls st))) : Goes p e below E (T.setTop (mkF m pc ls st)) :=
  K.back fun _ r => XS.goto W.here W.hx rfl (pc0 := pc) (pc' := pc') rfl (hb W.hby hd) (by omega) (by omega) r
theorem g_if (W : Wk Z y bytes ml ret n0 p l e R s m args below meth c T kc ks) {cd : ClassFile.Cond} {x : Int32} {o : Int} {pcy : Nat} (hd : decode bytes pc = .ok (.ifCond cd o, 3)) (hy : (pc : Int) + o = (pcy : Nat)) (hpc : pc + 3 = pc') (KY : cP cd x 0 → Goes p e below E (T.setTop (mkF m pcy ls st))) (KN : ¬ cP cd x 0 → Goes p e below E (T.setTop (mkF m pc' ls st))) : Goes p e below E (T.setTop (mkF m pc ls (.int x :: st))) := by
  subst hpc
  by_cases q : cP cd x 0
  · exact (KY q).back fun _ r => XS.ifYes W.here W.hx rfl (pc0 := pc) (pc' := pcy) rfl (hb W.hby hd) rfl ((if0 _ _).trans (cP_yes q)) (by omega) (by omega) r
  · exact (KN q).back fun _ r => XS.ifNo W.here W.hx rfl (hb W.hby hd) rfl ((if0 _ _).trans (cP_no q)) r
theorem g_icmp (W : Wk Z y bytes ml ret n0 p l e R s m args below meth c T kc ks) {cd : ClassFile.Cond} {x y0 : Int32} {o : Int} {pcy : Nat} (hd : decode bytes pc = .ok (.if_icmp cd o, 3)) (hy : (pc : Int) + o = (pcy : Nat)) (hpc : pc + 3 = pc') (KY : cP cd x y0 → Goes p e below E (T.setTop (mkF m pcy ls st))) (KN : ¬ cP cd x y0 → Goes p e below E (T.setTop (mkF m pc' ls st))) : Goes p e below E (T.setTop (mkF m pc ls (.int y0 :: .int x :: st))) := by
  subst hpc
  by_cases q : cP cd x y0
  · exact (KY q).back fun _ r => XS.icmpYes W.here W.hx rfl (pc0 := pc) (pc' := pcy) rfl (hb W.hby hd) rfl (cP_yes q) (by omega) (by omega) r
  · exact (KN q).back fun _ r => XS.icmpNo W.here W.hx rfl (hb W.hby hd) rfl (cP_no q) r

theorem Wk.more (W : Wk Z y bytes ml ret n0 p l e R s m args below meth c T kc ks) {kc' ks' : Nat} (h1 : kc ≤ kc') (h2 : ks ≤ ks') : Wk Z y bytes ml ret n0 p l e R s m args below meth c T kc' ks' := by
  obtain ⟨A, locs, X, N⟩ := W
  exact ⟨A, locs, X.more h1 h2, N⟩
theorem cmpL_self (x : Int64) : XT.cmpL x x = 0 := by
  show (if x < x then (1 : Int32) else if x = x then 0 else -1) = 0
  rw [if_neg (fun q => by rw [Int64.lt_iff_toInt_lt] at q; omega), if_pos rfl]
/-! ### the ends -/
theorem g_leave (W : Wk Z y bytes ml ret n0 p l e R s m args below meth c T kc ks) {v : Option Value} {U : State} (hv : ret = none → v = none) (hQ : Q v T.heap) (hk : kc ≤ k) (hj : ks ≤ j)
    (st : ∀ fs, (∀ (f : JFrame) (acts : List Action), f.method = m → f.locked = none → f.entered = [] → (doReturn e (T.setTop f) acts v).1 = T.setFrames fs) → Steps p.tables e below U (T.setFrames fs)) : Goes p e below (En s n0 k j Q) U := by
  have hlk := W.hlk
  have hret := W.hret
  obtain ⟨_, locs, X, N⟩ := W
  obtain ⟨fs, hr, hrun, hended, hW, hsame⟩ := X.leave (v := v) (fun q => hv (hret ▸ q)) hlk
  exact ⟨_, v, locs, st fs hr, hrun, hended, ⟨N, hQ⟩, ⟨_, rfl⟩, hW, hsame.mono hk hj⟩
theorem g_return (W : Wk Z y bytes ml none n0 p l e R s m args below meth c T kc ks) (hd : decode bytes pc = .ok (.return_, 1)) (hQ : Q none T.heap) (hk : kc ≤ k) (hj : ks ≤ j) : Goes p e below (En s n0 k j Q) (T.setTop (mkF m pc ls [])) :=
  g_leave W (fun _ => rfl) hQ hk hj fun fs hr => by
    have hret := W.hret
    have hx := W.hx
    have hby := W.hby
    obtain ⟨_, locs, X, N⟩ := W
    exact X.returnOut hx hret (hb hby hd) hr
theorem g_ret {t : FieldType} (W : Wk Z y bytes ml (some t) n0 p l e R s m args below meth c T kc ks) {w : Value} {i : Instr} (hn : narrow t w = w)
    (hi : (i = .ireturn ∧ (t = .int ∨ t = .boolean ∨ t = .byte ∨ t = .char ∨ t = .short) ∧ ∃ z, w = .int z) ∨ (i = .lreturn ∧ t = .long ∧ ∃ z, w = .long z) ∨ (i = .dreturn ∧ t = .double ∧ ∃ z, w = .double z) ∨ (i = .freturn ∧ t = .float ∧ ∃ z, w = .float z) ∨ (i = .areturn ∧ t.isReference = true ∧ w.isRef = true))
    (hd : decode bytes pc = .ok (i, 1)) (hQ : Q (some w) T.heap) (hk : kc ≤ k) (hj : ks ≤ j) : Goes p e below (En s n0 k j Q) (T.setTop (mkF m pc ls (w :: st))) :=
  g_leave W (fun q => nomatch q) hQ hk hj fun fs hr => by
    have hret := W.hret
    have hx := W.hx
    have hby := W.hby
    obtain ⟨_, locs, X, N⟩ := W
    exact retOut X hx hret hn hi (hb hby hd) hr
theorem g_ireturn (W : Wk Z y bytes ml (some .int) n0 p l e R s m args below meth c T kc ks) {x : Int32} (hd : decode bytes pc = .ok (.ireturn, 1)) (hQ : Q (some (.int x)) T.heap) (hk : kc ≤ k) (hj : ks ≤ j) : Goes p e below (En s n0 k j Q) (T.setTop (mkF m pc ls (.int x :: st))) :=
  g_ret W rfl (Or.inl ⟨rfl, Or.inl rfl, _, rfl⟩) hd hQ hk hj
theorem g_zreturn (W : Wk Z y bytes ml (some .boolean) n0 p l e R s m args below meth c T kc ks) {x : Int32} (h01 : x &&& 1 = x) (hd : decode bytes pc = .ok (.ireturn, 1)) (hQ : Q (some (.int x)) T.heap) (hk : kc ≤ k) (hj : ks ≤ j) : Goes p e below (En s n0 k j Q) (T.setTop (mkF m pc ls (.int x :: st))) :=
  g_ret W (by show Value.int (x &&& 1) = _; rw [h01]) (Or.inl ⟨rfl, Or.inr (Or.inl rfl), _, rfl⟩) hd hQ hk hj
theorem g_areturn {t : FieldType} (W : Wk Z y bytes ml (some t) n0 p l e R s m args below meth c T kc ks) {v : Value} (ht : t.isReference = true) (hr : v.isRef = true) (hd : decode bytes pc = .ok (.areturn, 1)) (hQ : Q (some v) T.heap) (hk : kc ≤ k) (hj : ks ≤ j) : Goes p e below (En s n0 k j Q) (T.setTop (mkF m pc ls (v :: st))) :=
  g_ret W (by cases t <;> first | (cases ht; done) | rfl) (Or.inr (Or.inr (Or.inr (Or.inr ⟨rfl, ht, hr⟩)))) hd hQ hk hj
theorem g_lreturn (W : Wk Z y bytes ml (some .long) n0 p l e R s m args below meth c T kc ks) {x : Int64} (hd : decode bytes pc = .ok (.lreturn, 1)) (hQ : Q (some (.long x)) T.heap) (hk : kc ≤ k) (hj : ks ≤ j) : Goes p e below (En s n0 k j Q) (T.setTop (mkF m pc ls (.long x :: st))) :=
  g_ret W rfl (Or.inr (Or.inl ⟨rfl, rfl, _, rfl⟩)) hd hQ hk hj
theorem g_dreturn (W : Wk Z y bytes ml (some .double) n0 p l e R s m args below meth c T kc ks) {x : UInt64} (hd : decode bytes pc = .ok (.dreturn, 1)) (hQ : Q (some (.double x)) T.heap) (hk : kc ≤ k) (hj : ks ≤ j) : Goes p e below (En s n0 k j Q) (T.setTop (mkF m pc ls (.double x :: st))) :=
  g_ret W rfl (Or.inr (Or.inr (Or.inl ⟨rfl, rfl, _, rfl⟩))) hd hQ hk hj
/-! ### the head of a body -/
theorem con_of {ws : List Cond} {rm : Room} {as : Array Value} {h0 : Heap} {Post : Option Value → Heap → Prop} (hpn : plainFor y = true)
    (body : ∀ (p : Program) (e : Env) (s : State) (m : MethodId) (below : List Frame) (meth : Method) (c : Code) (T : State), Wk Z y bytes ml ret n0 p l e rm s m as below meth c T 0 0 → T.heap = h0 → Goes p e below (En s n0 rm.cells rm.slots Post) (T.setTop (entryFrame m as ml))) :
    Con l Z n0 y ws bytes ml ret rm as h0 Post := by
  refine MetFree.of_bodySF hpn hisR ?_
  intro p e s m args below meth c s₁ Bd hml0 hP hK
  obtain ⟨rfl, hZ, hh⟩ := hP
  obtain ⟨s₂, v, L, g1, g2, g3, g4, g5⟩ := body p e s m below meth c s₁ ⟨⟨Bd.exec, hZ, findClass_of_methodNamed Bd.named, Bd.bytes, hml0, Bd.returns, Bd.notSynchronized, (name_of_methodNamed Bd.named Bd.method).1⟩, [], Stand.of_body Bd, Fr.nil n0⟩ (by rw [← hh, Bd.state]; rfl)
  exact ⟨s₂, _, g1, g2, g3, v, L, rfl, g4, g5⟩
theorem g_cast {g g' : JFrame} (q : g = g') (K : Goes p e below E (T.setTop g')) : Goes p e below E (T.setTop g) := q ▸ K
/-! ### constants of the pool -/
theorem g_ldcInt (W : Wk Z y bytes ml ret n0 p l e R s m args below meth c T kc ks) {ix : Nat} {v : Int32} (w : (Cond.constant y.cls ix v).before a0 Z = true) (hd : decode bytes pc = .ok (.ldc ix, 2)) (hpc : pc + 2 = pc') (K : Goes p e below E (T.setTop (mkF m pc' ls (.int v :: st)))) : Goes p e below E (T.setTop (mkF m pc ls st)) := by
  subst hpc
  have hx := W.hx; have hby := W.hby; have hown := W.hown; have hZ := W.hZ
  obtain ⟨_, locs, X, N⟩ := W
  exact K.back fun _ r => X.ldcInt hx hown (mvT hZ w) (g := mkF m pc ls st) rfl (hb hby hd) _ r
theorem g_ldc2Long (W : Wk Z y bytes ml ret n0 p l e R s m args below meth c T kc ks) {ix : Nat} {v : Int64} (w : (Cond.constantLong y.cls ix v).before a0 Z = true) (hd : decode bytes pc = .ok (.ldc2_w ix, 3)) (hpc : pc + 3 = pc') (K : Goes p e below E (T.setTop (mkF m pc' ls (.long v :: st)))) : Goes p e below E (T.setTop (mkF m pc ls st)) := by
  subst hpc
  have hx := W.hx; have hby := W.hby; have hown := W.hown; have hZ := W.hZ
  obtain ⟨_, locs, X, N⟩ := W
  exact K.back fun _ r => X.ldc2Long hx hown (mvT hZ w) (g := mkF m pc ls st) rfl (hb hby hd) _ r
theorem g_ldc2Double (W : Wk Z y bytes ml ret n0 p l e R s m args below meth c T kc ks) {ix : Nat} {v : UInt64} (w : (Cond.constantDouble y.cls ix v).before a0 Z = true) (hd : decode bytes pc = .ok (.ldc2_w ix, 3)) (hpc : pc + 3 = pc') (K : Goes p e below E (T.setTop (mkF m pc' ls (.double v :: st)))) : Goes p e below E (T.setTop (mkF m pc ls st)) := by
  subst hpc
  have hx := W.hx; have hby := W.hby; have hown := W.hown; have hZ := W.hZ
  obtain ⟨_, locs, X, N⟩ := W
  exact K.back fun _ r => X.ldc2DoubleC hx hown (mvT hZ w) (g := mkF m pc ls st) rfl (hb hby hd) _ r
theorem g_ldcFloat (W : Wk Z y bytes ml ret n0 p l e R s m args below meth c T kc ks) {ix : Nat} {v : UInt32} (w : (Cond.constantFloat y.cls ix v).before a0 Z = true) (hd : decode bytes pc = .ok (.ldc ix, 2)) (hpc : pc + 2 = pc') (K : Goes p e below E (T.setTop (mkF m pc' ls (.float v :: st)))) : Goes p e below E (T.setTop (mkF m pc ls st)) := by
  subst hpc
  have hx := W.hx; have hby := W.hby; have hown := W.hown; have hZ := W.hZ
  obtain ⟨_, locs, X, N⟩ := W
  exact K.back fun _ r => X.ldcFloatC hx hown (mvT hZ w) (g := mkF m pc ls st) rfl (hb hby hd) _ r
/-! ### the heap: a list of places, each with what its cell is -/
abbrev HRow := Addr × (Cell → Prop)
/-- what was there at the start Z is as it was -/
def Bs (Z : State) (n0 : Nat) (h : Heap) : Prop := n0 ≤ h.size ∧ Z.heap.size ≤ n0 ∧ Ext Z.heap h
def Hp (Z : State) (n0 : Nat) (h : Heap) (L : List HRow) : Prop := Bs Z n0 h ∧ (L.map (·.1)).Nodup ∧ ∀ r ∈ L, n0 ≤ r.1 ∧ ∃ c : Cell, h[r.1]? = some c ∧ r.2 c
abbrev FR := String × String × String × Value
def FldC (Z : State) (f : FR) (c : Cell) : Prop := ∃ (cf : ClassId) (k : Class) (i : Nat) (fd : Field), Z.fieldFound? f.1 f.2.1 f.2.2.1 = some (cf, k, i, fd) ∧ fd.isStatic = false ∧ Z.vm.assignable c.cls cf = true ∧ c.slots[fd.slot]? = some f.2.2.2
def ObC (Z : State) (C : String) (fs : List FR) (c : Cell) : Prop :=
  (∃ k : Class, Z.vm.findClass C = some c.cls ∧ Z.vm.classes[c.cls]? = some k ∧ (k.kind = .ordinary → c.slots.size = k.instanceTypes.size)) ∧ c.vm ≠ .unknown ∧ c.vm.isStatics = false ∧ (∀ f ∈ fs, FldC Z f c) ∧ (fs.map fun f => RoadKit.slotOf Z f.1 f.2.1 f.2.2.1).Nodup
def ArC (Z : State) (ty : FieldType) (vs : List Value) (c : Cell) : Prop := Z.isArrayOf c ty ∧ c.vm ≠ .unknown ∧ c.slots = vs.toArray ∧ vs.length < 2 ^ 31
section Heap
variable {h h' : Heap} {L : List HRow} {a : Addr} {P P' : Cell → Prop} {cell : Cell} {i jx : Nat} {C O n d R0 : String} {fs : List FR} {v w : Value} {vs : List Value} {ty : FieldType}
theorem Bs.start : Bs Z Z.heap.size Z.heap := ⟨Nat.le_refl _, Nat.le_refl _, Nat.le_refl _, fun _ _ q => q⟩
theorem Bs.ext (q : Bs Z n0 h) (E : Ext h h') : Bs Z n0 h' := ⟨Nat.le_trans q.1 E.1, q.2.1, Nat.le_trans q.2.2.1 E.1, fun a c r => E.2 a c (q.2.2.2 a c r)⟩
theorem Bs.put (q : Bs Z n0 h) (ha : n0 ≤ a) (c' : Cell) : Bs Z n0 (h.setIfInBounds a c') := by
  refine ⟨by simpa using q.1, q.2.1, by simpa using q.2.2.1, fun x c r => ?_⟩
  have hx := (Array.getElem?_eq_some_iff.mp r).1
  have := q.2.1
  rw [Array.getElem?_setIfInBounds_ne (by omega)]; exact q.2.2.2 x c r
theorem Hp.nil (q : Bs Z n0 h) : Hp Z n0 h [] := ⟨q, List.nodup_nil, fun _ r => nomatch r⟩
theorem Hp.get (H : Hp Z n0 h L) (hi : L[i]? = some (a, P)) : n0 ≤ a ∧ ∃ c : Cell, h[a]? = some c ∧ P c := H.2.2 (a, P) (List.mem_of_getElem? hi)
theorem map_set_same {α β : Type} (f : α → β) : ∀ (L : List α) (i : Nat) (x x' : α), L[i]? = some x → f x' = f x → (L.set i x').map f = L.map f
  | [], _, _, _, h, _ => by simp at h
  | z :: L, 0, x, x', h, e => by simp at h; subst h; simp [e]
  | z :: L, i + 1, x, x', h, e => by simp at h; simp [map_set_same f L i x x' h e]
theorem nodup_inj {α : Type} {l : List α} (h : l.Nodup) {i j : Nat} {x : α} (hi : l[i]? = some x) (hj : l[j]? = some x) : i = j := (List.getElem?_inj (List.getElem?_eq_some_iff.mp hi).1 h).mp (hi.trans hj.symm)
theorem erase_perm {α : Type} : ∀ (L : List α) (i : Nat) (x : α), L[i]? = some x → L.Perm (x :: L.eraseIdx i)
  | [], _, _, h => by simp at h
  | z :: L, 0, x, h => by simp at h; subst h; exact List.Perm.refl _
  | z :: L, i + 1, x, h => by
    simp at h
    exact ((erase_perm L i x h).cons z).trans (List.Perm.swap x z _)
theorem Hp.put (H : Hp Z n0 h L) (hi : L[i]? = some (a, P)) {c' : Cell} (hP : P' c') : Hp Z n0 (h.setIfInBounds a c') (L.set i (a, P')) := by
  obtain ⟨h1, h2, h3⟩ := H
  obtain ⟨q1, c0, q2, -⟩ := Hp.get ⟨h1, h2, h3⟩ hi
  have hlt := (Array.getElem?_eq_some_iff.mp q2).1
  refine ⟨h1.put q1 c', by rw [map_set_same (·.1) L i (a, P) (a, P') hi rfl]; exact h2, fun r hr => ?_⟩
  obtain ⟨jj, hj, hjr⟩ := List.mem_iff_getElem.mp hr
  have hjL : jj < L.length := by simpa using hj
  by_cases e : jj = i
  · subst e
    rw [List.getElem_set_self] at hjr
    subst hjr
    exact ⟨q1, c', by simp [hlt], hP⟩
  · rw [List.getElem_set_ne (Ne.symm e)] at hjr
    have hm : r ∈ L := hjr ▸ List.getElem_mem hjL
    obtain ⟨g1, c1, g2, g3⟩ := h3 r hm
    refine ⟨g1, c1, ?_, g3⟩
    have hne : a ≠ r.1 := fun q => by
      have e1 : (L.map (·.1))[i]? = some a := by rw [List.getElem?_map, hi]; rfl
      have e2 : (L.map (·.1))[jj]? = some a := by rw [List.getElem?_map, List.getElem?_eq_getElem hjL, hjr, q]; rfl
      exact e (nodup_inj h2 e2 e1)
    rw [Array.getElem?_setIfInBounds_ne hne]; exact g2
theorem Hp.push (H : Hp Z n0 h L) (E : Ext h h') {c : Cell} (hc : h'[h.size]? = some c) (hP : P c) : Hp Z n0 h' ((h.size, P) :: L) := by
  refine ⟨H.1.ext E, ?_, fun r hr => ?_⟩
  · rw [List.map_cons, List.nodup_cons]
    refine ⟨fun q => ?_, H.2.1⟩
    obtain ⟨r, hr, e⟩ := List.mem_map.mp q
    obtain ⟨-, c1, g2, -⟩ := H.2.2 r hr
    have := (Array.getElem?_eq_some_iff.mp g2).1
    have e' : r.1 = h.size := e
    rw [e'] at this; exact Nat.lt_irrefl _ this
  · rcases List.mem_cons.mp hr with rfl | hr
    · exact ⟨H.1.1, c, hc, hP⟩
    · obtain ⟨g1, c1, g2, g3⟩ := H.2.2 r hr
      exact ⟨g1, c1, E.2 _ _ g2, g3⟩
theorem Hp.perm {L' : List HRow} (H : Hp Z n0 h L) (q : L.Perm L') : Hp Z n0 h L' := ⟨H.1, (q.map _).nodup_iff.mp H.2.1, fun r hr => H.2.2 r (q.mem_iff.mpr hr)⟩
theorem Hp.front {r : HRow} (H : Hp Z n0 h L) (hi : L[i]? = some r) {L' : List HRow} (hL : r :: L.eraseIdx i = L') : Hp Z n0 h L' := by
  subst hL
  exact H.perm (erase_perm L i r hi)
theorem Hp.imp (H : Hp Z n0 h L) (hi : L[i]? = some (a, P)) (q : ∀ c, P c → P' c) : Hp Z n0 h (L.set i (a, P')) := by
  obtain ⟨q1, c0, q2, q3⟩ := H.get hi
  have := H.put hi (q c0 q3)
  have e : h.setIfInBounds a c0 = h := by
    apply Array.ext_getElem?; intro x
    by_cases z : a = x
    · subst z; simp [(Array.getElem?_eq_some_iff.mp q2).1, ← q2]
    · rw [Array.getElem?_setIfInBounds_ne z]
  rw [e] at this; exact this
theorem Hp.tail {r : HRow} (H : Hp Z n0 h (r :: L)) : Hp Z n0 h L := ⟨H.1, (List.nodup_cons.mp H.2.1).2, fun x hx => H.2.2 x (List.mem_cons_of_mem _ hx)⟩
theorem Hp.ne (H : Hp Z n0 h L) {b : Addr} (hi : L[i]? = some (a, P)) (hj : L[jx]? = some (b, P')) (hne : i ≠ jx) : a ≠ b := fun q => by
  have e1 : (L.map (·.1))[i]? = some a := by rw [List.getElem?_map, hi]; rfl
  have e2 : (L.map (·.1))[jx]? = some a := by rw [List.getElem?_map, hj, q]; rfl
  exact hne (nodup_inj H.2.1 e1 e2)
theorem FldC.fld {f : FR} (F : FldC Z f cell) (hc : h[a]? = some cell) (hu : cell.vm ≠ .unknown) (hst : cell.vm.isStatics = false) : Fld Z h a f.1 f.2.1 f.2.2.1 f.2.2.2 := by
  obtain ⟨cf, k, i, fd, h1, h2, h3, h4⟩ := F
  exact ⟨cell, cf, k, i, fd, hc, h1, h2, hu, hst, h3, h4⟩
theorem ObC.exa (F : ObC Z C fs cell) (hc : h[a]? = some cell) : Exa Z h a C := by
  obtain ⟨⟨k, h1, h2, h3⟩, h4, h5, -⟩ := F
  exact ⟨cell, k, hc, h1, h2, h5, h3⟩
theorem ObC.put (F : ObC Z C fs cell) (hj : fs[jx]? = some (O, n, d, v)) : ObC Z C (fs.set jx (O, n, d, w)) (cell.setSlot (RoadKit.slotOf Z O n d) w) := by
  obtain ⟨⟨k, h1, h2, h3⟩, h4, h5, h6, h7⟩ := F
  refine ⟨⟨k, h1, h2, fun q => by rw [sz_set]; exact h3 q⟩, h4, h5, fun f hf => ?_, by rw [map_set_same (fun f : FR => RoadKit.slotOf Z f.1 f.2.1 f.2.2.1) fs jx (O, n, d, v) (O, n, d, w) hj rfl]; exact h7⟩
  obtain ⟨hjL, hjE⟩ := List.getElem?_eq_some_iff.mp hj
  obtain ⟨ii, hi, hie⟩ := List.mem_iff_getElem.mp hf
  have hiL : ii < fs.length := by simpa using hi
  by_cases e : ii = jx
  · subst e
    rw [List.getElem_set_self] at hie
    subst hie
    obtain ⟨cf, kf, i, fd, g1, g2, g3, g4⟩ := h6 _ (hjE ▸ List.getElem_mem hjL)
    refine ⟨cf, kf, i, fd, g1, g2, g3, ?_⟩
    have es : RoadKit.slotOf Z O n d = fd.slot := by simp only [RoadKit.slotOf]; rw [show Z.fieldFound? O n d = _ from g1]; rfl
    have hlt := (Array.getElem?_eq_some_iff.mp g4).1
    simp [Cell.setSlot, es, hlt]
  · rw [List.getElem_set_ne (Ne.symm e)] at hie
    have hm : f ∈ fs := hie ▸ List.getElem_mem hiL
    obtain ⟨cf, kf, i, fd, g1, g2, g3, g4⟩ := h6 f hm
    refine ⟨cf, kf, i, fd, g1, g2, g3, ?_⟩
    have es : RoadKit.slotOf Z f.1 f.2.1 f.2.2.1 = fd.slot := by simp only [RoadKit.slotOf]; rw [g1]; rfl
    have hne : RoadKit.slotOf Z O n d ≠ fd.slot := fun q => by
      have e1 : (fs.map fun f => RoadKit.slotOf Z f.1 f.2.1 f.2.2.1)[jx]? = some fd.slot := by rw [List.getElem?_map, hj, ← q]; rfl
      have e2 : (fs.map fun f => RoadKit.slotOf Z f.1 f.2.1 f.2.2.1)[ii]? = some fd.slot := by rw [List.getElem?_map, List.getElem?_eq_getElem hiL, hie, ← es]; rfl
      exact e (nodup_inj h7 e2 e1)
    show (cell.slots.setIfInBounds _ w)[fd.slot]? = _
    rw [Array.getElem?_setIfInBounds_ne hne]; exact g4
/-- what a class's layout words give: each field laid, its first value, the names apart -/
def LaidAll (Z : State) (a0 : Array Value) (C : String) (fs : List FR) : Prop := ∀ f ∈ fs, Laid Z a0 C f.1 f.2.1 f.2.2.1 ∧ ∃ t, parseFieldDescriptor f.2.2.1 = some t ∧ f.2.2.2 = defaultValue t
theorem LaidAll.nil : LaidAll Z a0 C [] := fun _ q => nomatch q
theorem LaidAll.cons {t : FieldType} (q : Laid Z a0 C O n d) (ht : parseFieldDescriptor d = some t) (hv : v = defaultValue t) (r : LaidAll Z a0 C fs) : LaidAll Z a0 C ((O, n, d, v) :: fs) := fun f hf => by
  rcases List.mem_cons.mp hf with rfl | hf
  · exact ⟨q, t, ht, hv⟩
  · exact r f hf
theorem LaidAll.slots (H : LaidAll Z a0 C fs) (q : (fs.map (·.2.1)).Nodup) : (fs.map fun f => RoadKit.slotOf Z f.1 f.2.1 f.2.2.1).Nodup := by
  induction fs with
  | nil => exact List.nodup_nil
  | cons f fs ih =>
    rw [List.map_cons, List.nodup_cons] at q ⊢
    refine ⟨fun z => ?_, ih (fun x hx => H x (List.mem_cons_of_mem _ hx)) q.2⟩
    obtain ⟨g, hg, e⟩ := List.mem_map.mp z
    obtain ⟨L1, t1, p1, -⟩ := H f (List.mem_cons_self ..)
    obtain ⟨L2, t2, p2, -⟩ := H g (List.mem_cons_of_mem _ hg)
    exact slot_ne L2 L1 (fun u => q.1 (List.mem_map.mpr ⟨g, hg, u⟩)) p2 p1 e
/-! ### the steps that read or write it -/
theorem g_getf (W : Wk Z y bytes ml ret n0 p l e R s m args below meth c T kc ks) {ix : Nat} (w : (Cond.fieldLink y.cls ix R0 n d).before a0 Z = true) (via : Via Z R0 O n d) (H : Hp Z n0 T.heap L) (hi : L[i]? = some (a, ObC Z C fs)) (hj : fs[jx]? = some (O, n, d, v)) (hd : decode bytes pc = .ok (.getfield ix, 3)) (hpc : pc + 3 = pc')
    (K : ∀ T', Wk Z y bytes ml ret n0 p l e R s m args below meth c T' kc ks → Hp Z n0 T'.heap L → Goes p e below E (T'.setTop (mkF m pc' ls (v :: st)))) : Goes p e below E (T.setTop (mkF m pc ls (.ref a :: st))) := by
  subst hpc
  have hx := W.hx; have hby := W.hby; have hown := W.hown; have hZ := W.hZ
  obtain ⟨A, locs, X, N⟩ := W
  obtain ⟨-, cl, q1, q2⟩ := H.get hi
  have F := (q2.2.2.2.1 _ (List.mem_of_getElem? hj)).fld q1 q2.2.1 q2.2.2.1
  obtain ⟨T', X', e', st'⟩ := getF X hx hZ hown (host := "") (Or.inl w) via rfl F (g := mkF m pc ls (.ref a :: st)) rfl rfl (hb hby hd)
  exact (K T' ⟨A, locs, X', N⟩ (e' ▸ H)).back st'
theorem g_putf (W : Wk Z y bytes ml ret n0 p l e R s m args below meth c T kc ks) {ix kk : Nat} (wd : (Cond.fieldLink y.cls ix R0 n d).before a0 Z = true) (via : Via Z R0 O n d) (wl : (Cond.lays C O n d).before a0 Z = true ∨ ((Cond.laysFinal C O n d).before a0 Z = true ∧ y.cls = O ∧ y.name = "<init>")) (wi : (Cond.instantiable C kk).before a0 Z = true) (hty : parseFieldDescriptor d = some ty) (hn : narrow ty w = w) (hf : fits ty w = true)
    (H : Hp Z n0 T.heap L) (hi : L[i]? = some (a, ObC Z C fs)) (hj : fs[jx]? = some (O, n, d, v)) (hd : decode bytes pc = .ok (.putfield ix, 3)) (hpc : pc + 3 = pc') {L' : List HRow} (hL : L.set i (a, ObC Z C (fs.set jx (O, n, d, w))) = L')
    (K : ∀ T', Wk Z y bytes ml ret n0 p l e R s m args below meth c T' kc ks → Hp Z n0 T'.heap L' → Goes p e below E (T'.setTop (mkF m pc' ls st))) : Goes p e below E (T.setTop (mkF m pc ls (w :: .ref a :: st))) := by
  subst hpc hL
  have hx := W.hx; have hby := W.hby; have hown := W.hown; have hZ := W.hZ; have hnm := W.hnm
  obtain ⟨A, locs, X, N⟩ := W
  obtain ⟨hn0, cl, q1, q2⟩ := H.get hi
  have F := (q2.2.2.2.1 _ (List.mem_of_getElem? hj)).fld q1 q2.2.1 q2.2.2.1
  obtain ⟨T', h', X', e', Wr', st'⟩ := putF X hx hZ hown (host := "") (Or.inl wd) via rfl F (q2.exa q1) (wl.imp id fun q => ⟨q.1, q.2.1, hnm.trans q.2.2⟩) wi hty hn hf (g := mkF m pc ls (w :: .ref a :: st)) rfl rfl (hb hby hd)
  obtain ⟨cl', g1, -, -, rfl⟩ := Wr'
  cases q1.symm.trans g1
  exact (K T' ⟨A, _, X', Fr.snoc X' N hn0⟩ (by rw [e']; exact H.put hi (q2.put hj))).back st'
theorem g_new (W : Wk Z y bytes ml ret n0 p l e R s m args below meth c T kc ks) {ix nn : Nat} (w : (Cond.classLink y.cls ix C).before a0 Z = true) (wi : (Cond.instantiable C nn).before a0 Z = true) (wz : (Cond.initialized C).before a0 Z = true) (la : LaidAll Z a0 C fs) (nd : (fs.map (·.2.1)).Nodup) (H : Hp Z n0 T.heap L) (hd : decode bytes pc = .ok (.new ix, 3)) (hpc : pc + 3 = pc')
    {kc' ks' : Nat} (hkc : kc + 1 = kc') (hks : ks + nn = ks') (hc : kc' ≤ R.cells) (hl : ks' ≤ R.slots)
    (K : ∀ T' a, Wk Z y bytes ml ret n0 p l e R s m args below meth c T' kc' ks' → Hp Z n0 T'.heap ((a, ObC Z C fs) :: L) → Goes p e below E (T'.setTop (mkF m pc' ls (.ref a :: st)))) : Goes p e below E (T.setTop (mkF m pc ls st)) := by
  subst hpc hkc hks
  have hx := W.hx; have hby := W.hby; have hown := W.hown; have hZ := W.hZ
  obtain ⟨A, locs, X, N⟩ := W
  obtain ⟨T', h', X', e', E', X1, D, ⟨cell, hcell, hvm, -⟩, st'⟩ := newO X hx hZ hown w wi wz rfl (g := mkF m pc ls st) rfl (hb hby hd) hc hl
  have hob : ObC Z C fs cell := by
    obtain ⟨cell', k', g1, g2, g3, g4, g5⟩ := X1
    cases hcell.symm.trans g1
    refine ⟨⟨k', g2, g3, g5⟩, by rw [hvm]; simp, g4, fun f hf => ?_, la.slots nd⟩
    obtain ⟨Lf, t, ht, hv⟩ := la f hf
    obtain ⟨c2, cf, kf, ii, fd, r1, r2, r3, -, -, r6, r7⟩ := D Lf ht
    cases hcell.symm.trans r1
    exact ⟨cf, kf, ii, fd, r2, r3, r6, by rw [hv]; exact r7⟩
  exact (K T' T.heap.size ⟨A, locs, X', N⟩ (by rw [e']; exact H.push E' hcell hob)).back st'
theorem g_initO (W : Wk Z y bytes ml ret n0 p l e R s m args below meth c T kc ks) {ix : Nat} (w1 : (Cond.methodLink y.cls ix Lib.objectInit).before a0 Z = true) (w2 : (Cond.instanceMethod Lib.objectInit).before a0 Z = true) (w3 : (Cond.code Lib.objectInit ⟨#[0xb1]⟩ 1 none).before a0 Z = true) (H : Hp Z n0 T.heap L) (hls : ls.size = ml) (hd : decode bytes pc = .ok (.invokespecial ix, 3)) (hpc : pc + 3 = pc')
    (hf : 1 ≤ R.frames) {Wn : Nat} (hW : (st.map fun v => v.category).sum ≤ Wn) (hl : Wn + 12 ≤ R.locals)
    (K : ∀ T', Wk Z y bytes ml ret n0 p l e R s m args below meth c T' kc ks → Hp Z n0 T'.heap L → Goes p e below E (T'.setTop (mkF m pc' ls st))) : Goes p e below E (T.setTop (mkF m pc ls (.ref a :: st))) := by
  subst hpc
  have hx := W.hx; have hby := W.hby; have hown := W.hown; have hZ := W.hZ; have hml := W.hml
  obtain ⟨A, locs, X, N⟩ := W
  obtain ⟨T', X', e', st'⟩ := initO X hx hZ hown w1 w2 w3 rfl (g := mkF m pc ls (.ref a :: st)) rfl (by rw [hml]; exact hls) rfl (hb hby hd) hf (W := Wn) (by show 2 * 0 + _ ≤ _; omega) hl
  exact (K T' ⟨A, locs, X', N⟩ (e' ▸ H)).back st'
/-! ### arrays -/
theorem ArC.arr (F : ArC Z ty vs cell) (hc : h[a]? = some cell) : Arr Z h a cell ty := ⟨hc, F.1, F.2.1⟩
theorem idx_ok {x : Int32} (hx : x.toInt = (jx : Int)) (F : ArC Z ty vs cell) (hj : jx < vs.length) : ¬ (x < 0 ∨ cell.slots.size ≤ x.toNatClampNeg) := by
  rw [F.2.2.1]
  have e0 : (0 : Int32).toInt = 0 := rfl
  simp only [Int32.lt_iff_toInt_lt, Int32.toNatClampNeg, List.size_toArray, e0, hx]; omega
theorem idx_nat {x : Int32} (hx : x.toInt = (jx : Int)) : x.toNatClampNeg = jx := by simp only [Int32.toNatClampNeg, hx]; omega
theorem g_newarr (W : Wk Z y bytes ml ret n0 p l e R s m args below meth c T kc ks) {aty : ArrayType} (w : (Cond.arrayClass (newarray.typeOf aty)).before a0 Z = true) (H : Hp Z n0 T.heap L) {x : Int32} (hx0 : ¬ x < 0) (hvs : List.replicate x.toNatClampNeg (defaultValue (newarray.typeOf aty)) = vs) {cap : Nat} (hcap : vs.length ≤ cap) (hcb : cap * 8 ≤ 536870912) (hd : decode bytes pc = .ok (.newarray aty, 2)) (hpc : pc + 2 = pc')
    {kc' ks' : Nat} (hkc : kc + 1 = kc') (hks : ks + cap = ks') (hc : kc' ≤ R.cells) (hl : ks' ≤ R.slots)
    (K : ∀ T' a, Wk Z y bytes ml ret n0 p l e R s m args below meth c T' kc' ks' → Hp Z n0 T'.heap ((a, ArC Z (newarray.typeOf aty) vs) :: L) → Goes p e below E (T'.setTop (mkF m pc' ls (.ref a :: st)))) : Goes p e below E (T.setTop (mkF m pc ls (.int x :: st))) := by
  subst hpc hkc hks hvs
  have hx := W.hx; have hby := W.hby; have hZ := W.hZ
  obtain ⟨A, locs, X, N⟩ := W
  rw [List.length_replicate] at hcap
  obtain ⟨T', h', cA, X', e', E', A1, st'⟩ := newP X hx hZ w rfl (g := mkF m pc ls (.int x :: st)) rfl (hb hby hd) rfl hx0 hcap hcb hc hl
  have hl31 : (List.replicate x.toNatClampNeg (defaultValue (newarray.typeOf aty))).length < 2 ^ 31 := by rw [List.length_replicate]; omega
  exact (K T' T.heap.size ⟨A, locs, X', N⟩ (by rw [e']; exact H.push E' A1.1 ⟨A1.2.1, A1.2.2, by simp [newA], hl31⟩)).back st'
theorem g_arrlen (W : Wk Z y bytes ml ret n0 p l e R s m args below meth c T kc ks) (H : Hp Z n0 T.heap L) (hi : L[i]? = some (a, ArC Z ty vs)) {x : Int32} (hx : vs.length.toInt32 = x) (hd : decode bytes pc = .ok (.arraylength, 1)) (hpc : pc + 1 = pc') (K : Goes p e below E (T.setTop (mkF m pc' ls (.int x :: st)))) : Goes p e below E (T.setTop (mkF m pc ls (.ref a :: st))) := by
  subst hpc hx
  have hx := W.hx; have hby := W.hby; have hZ := W.hZ
  obtain ⟨A, locs, X, N⟩ := W
  obtain ⟨-, cl, q1, q2⟩ := H.get hi
  refine K.back fun t r => X.arraylength hx q1 (State.isArrayOf_alike hZ.alike q2.1) (g := mkF m pc ls (.ref a :: st)) rfl rfl (hb hby hd) t ?_
  have e : cl.slots.size = vs.length := by rw [q2.2.2.1]; simp
  rw [e]; exact r
theorem g_iaload (W : Wk Z y bytes ml ret n0 p l e R s m args below meth c T kc ks) (H : Hp Z n0 T.heap L) (hi : L[i]? = some (a, ArC Z .int vs)) {x : Int32} (hx : x.toInt = (jx : Int)) (hv : vs[jx]? = some v) (hd : decode bytes pc = .ok (.iaload, 1)) (hpc : pc + 1 = pc') (K : Goes p e below E (T.setTop (mkF m pc' ls (v :: st)))) : Goes p e below E (T.setTop (mkF m pc ls (.int x :: .ref a :: st))) := by
  subst hpc
  have hxx := W.hx; have hby := W.hby; have hZ := W.hZ
  obtain ⟨A, locs, X, N⟩ := W
  obtain ⟨-, cl, q1, q2⟩ := H.get hi
  exact K.back fun t r => X.iaload hxx q1 (State.isArrayOf_alike hZ.alike q2.1) q2.2.1 (idx_ok hx q2 (List.getElem?_eq_some_iff.mp hv).1) (by rw [idx_nat hx, q2.2.2.1]; simpa using hv) (g := mkF m pc ls (.int x :: .ref a :: st)) rfl rfl (hb hby hd) t r
theorem g_laload (W : Wk Z y bytes ml ret n0 p l e R s m args below meth c T kc ks) (H : Hp Z n0 T.heap L) (hi : L[i]? = some (a, ArC Z .long vs)) {x : Int32} (hx : x.toInt = (jx : Int)) (hv : vs[jx]? = some v) (hd : decode bytes pc = .ok (.laload, 1)) (hpc : pc + 1 = pc') (K : Goes p e below E (T.setTop (mkF m pc' ls (v :: st)))) : Goes p e below E (T.setTop (mkF m pc ls (.int x :: .ref a :: st))) := by
  subst hpc
  have hxx := W.hx; have hby := W.hby; have hZ := W.hZ
  obtain ⟨A, locs, X, N⟩ := W
  obtain ⟨-, cl, q1, q2⟩ := H.get hi
  exact K.back fun t r => X.laload hxx q1 (State.isArrayOf_alike hZ.alike q2.1) q2.2.1 (idx_ok hx q2 (List.getElem?_eq_some_iff.mp hv).1) (by rw [idx_nat hx, q2.2.2.1]; simpa using hv) (g := mkF m pc ls (.int x :: .ref a :: st)) rfl rfl (hb hby hd) t r
theorem g_daload (W : Wk Z y bytes ml ret n0 p l e R s m args below meth c T kc ks) (H : Hp Z n0 T.heap L) (hi : L[i]? = some (a, ArC Z .double vs)) {x : Int32} (hx : x.toInt = (jx : Int)) (hv : vs[jx]? = some v) (hd : decode bytes pc = .ok (.daload, 1)) (hpc : pc + 1 = pc') (K : Goes p e below E (T.setTop (mkF m pc' ls (v :: st)))) : Goes p e below E (T.setTop (mkF m pc ls (.int x :: .ref a :: st))) := by
  subst hpc
  have hxx := W.hx; have hby := W.hby; have hZ := W.hZ
  obtain ⟨A, locs, X, N⟩ := W
  obtain ⟨-, cl, q1, q2⟩ := H.get hi
  exact K.back fun t r => X.daload hxx q1 (State.isArrayOf_alike hZ.alike q2.1) q2.2.1 (idx_ok hx q2 (List.getElem?_eq_some_iff.mp hv).1) (by rw [idx_nat hx, q2.2.2.1]; simpa using hv) (g := mkF m pc ls (.int x :: .ref a :: st)) rfl rfl (hb hby hd) t r
theorem g_iastore (W : Wk Z y bytes ml ret n0 p l e R s m args below meth c T kc ks) (H : Hp Z n0 T.heap L) (hi : L[i]? = some (a, ArC Z .int vs)) {x : Int32} {u : Int32} (hx : x.toInt = (jx : Int)) (hj : jx < vs.length) (hd : decode bytes pc = .ok (.iastore, 1)) (hpc : pc + 1 = pc') {L' : List HRow} (hL : L.set i (a, ArC Z .int (vs.set jx (.int u))) = L')
    (K : ∀ T', Wk Z y bytes ml ret n0 p l e R s m args below meth c T' kc ks → Hp Z n0 T'.heap L' → Goes p e below E (T'.setTop (mkF m pc' ls st))) : Goes p e below E (T.setTop (mkF m pc ls (.int u :: .int x :: .ref a :: st))) := by
  subst hpc hL
  have hxx := W.hx; have hby := W.hby; have hZ := W.hZ
  obtain ⟨A, locs, X, N⟩ := W
  obtain ⟨hn0, cl, q1, q2⟩ := H.get hi
  obtain ⟨T', h', X', e', Wr', st'⟩ := stI X hxx hZ rfl (q2.arr q1) (idx_ok hx q2 hj) (g := mkF m pc ls (.int u :: .int x :: .ref a :: st)) rfl rfl (hb hby hd)
  obtain ⟨cl', g1, -, -, rfl⟩ := Wr'
  cases q1.symm.trans g1
  have hsl : (cl.setSlot x.toNatClampNeg (.int u)).slots = (vs.set jx (.int u)).toArray := by rw [idx_nat hx]; show cl.slots.setIfInBounds jx _ = _; rw [q2.2.2.1]; simp
  exact (K T' ⟨A, _, X', Fr.snoc X' N hn0⟩ (by rw [e']; exact H.put hi ⟨q2.1, q2.2.1, hsl, by rw [List.length_set]; exact q2.2.2.2⟩)).back st'
theorem g_lastore (W : Wk Z y bytes ml ret n0 p l e R s m args below meth c T kc ks) (H : Hp Z n0 T.heap L) (hi : L[i]? = some (a, ArC Z .long vs)) {x : Int32} {u : Int64} (hx : x.toInt = (jx : Int)) (hj : jx < vs.length) (hd : decode bytes pc = .ok (.lastore, 1)) (hpc : pc + 1 = pc') {L' : List HRow} (hL : L.set i (a, ArC Z .long (vs.set jx (.long u))) = L')
    (K : ∀ T', Wk Z y bytes ml ret n0 p l e R s m args below meth c T' kc ks → Hp Z n0 T'.heap L' → Goes p e below E (T'.setTop (mkF m pc' ls st))) : Goes p e below E (T.setTop (mkF m pc ls (.long u :: .int x :: .ref a :: st))) := by
  subst hpc hL
  have hxx := W.hx; have hby := W.hby; have hZ := W.hZ
  obtain ⟨A, locs, X, N⟩ := W
  obtain ⟨hn0, cl, q1, q2⟩ := H.get hi
  obtain ⟨T', h', X', e', Wr', st'⟩ := stJ X hxx hZ rfl (q2.arr q1) (idx_ok hx q2 hj) (g := mkF m pc ls (.long u :: .int x :: .ref a :: st)) rfl rfl (hb hby hd)
  obtain ⟨cl', g1, -, -, rfl⟩ := Wr'
  cases q1.symm.trans g1
  have hsl : (cl.setSlot x.toNatClampNeg (.long u)).slots = (vs.set jx (.long u)).toArray := by rw [idx_nat hx]; show cl.slots.setIfInBounds jx _ = _; rw [q2.2.2.1]; simp
  exact (K T' ⟨A, _, X', Fr.snoc X' N hn0⟩ (by rw [e']; exact H.put hi ⟨q2.1, q2.2.1, hsl, by rw [List.length_set]; exact q2.2.2.2⟩)).back st'
theorem g_dastore (W : Wk Z y bytes ml ret n0 p l e R s m args below meth c T kc ks) (H : Hp Z n0 T.heap L) (hi : L[i]? = some (a, ArC Z .double vs)) {x : Int32} {u : UInt64} (hx : x.toInt = (jx : Int)) (hj : jx < vs.length) (hd : decode bytes pc = .ok (.dastore, 1)) (hpc : pc + 1 = pc') {L' : List HRow} (hL : L.set i (a, ArC Z .double (vs.set jx (.double u))) = L')
    (K : ∀ T', Wk Z y bytes ml ret n0 p l e R s m args below meth c T' kc ks → Hp Z n0 T'.heap L' → Goes p e below E (T'.setTop (mkF m pc' ls st))) : Goes p e below E (T.setTop (mkF m pc ls (.double u :: .int x :: .ref a :: st))) := by
  subst hpc hL
  have hxx := W.hx; have hby := W.hby; have hZ := W.hZ
  obtain ⟨A, locs, X, N⟩ := W
  obtain ⟨hn0, cl, q1, q2⟩ := H.get hi
  obtain ⟨T', h', X', e', Wr', st'⟩ := stD X hxx hZ rfl (q2.arr q1) (idx_ok hx q2 hj) (g := mkF m pc ls (.double u :: .int x :: .ref a :: st)) rfl rfl (hb hby hd)
  obtain ⟨cl', g1, -, -, rfl⟩ := Wr'
  cases q1.symm.trans g1
  have hsl : (cl.setSlot x.toNatClampNeg (.double u)).slots = (vs.set jx (.double u)).toArray := by rw [idx_nat hx]; show cl.slots.setIfInBounds jx _ = _; rw [q2.2.2.1]; simp
  exact (K T' ⟨A, _, X', Fr.snoc X' N hn0⟩ (by rw [e']; exact H.put hi ⟨q2.1, q2.2.1, hsl, by rw [List.length_set]; exact q2.2.2.2⟩)).back st'
end Heap
/-! ### calls by contract -/
section Calls
variable {y' : MethodName} {bytes' : ByteArray} {ml' : Nat} {ret' : Option FieldType} {rm : Room} {Post : Option Value → Heap → Prop} {argsL stk : List Value} {ix : Nat} {Wn kc' ks' : Nat} {ps : List FieldType} {rt : Option FieldType}
theorem g_callS (W : Wk Z y bytes ml ret n0 p l e R s m args below meth c T kc ks) (w1 : (Cond.methodLink y.cls ix y').before a0 Z = true) (w2 : (Cond.static y').before a0 Z = true) (w3 : (Cond.initialized y'.cls).before a0 Z = true) (w4 : (Cond.code y' bytes' ml' ret').before a0 Z = true) (hy : y'.cls ≠ "java/lang/invoke/MethodHandle" ∧ y'.cls ≠ "java/lang/invoke/VarHandle")
    (con : Con l Z n0 y' [] bytes' ml' ret' rm argsL.toArray T.heap Post) (hpd : parseMethodDescriptor y'.desc = some ⟨ps, rt⟩) (hlen : argsL.length = ps.length) (hstk : stk = argsL.reverse ++ st) (hls : ls.size = ml) (hd : decode bytes pc = .ok (.invokestatic ix, 3)) (hpc : pc + 3 = pc')
    (hf : rm.frames + 1 ≤ R.frames) (hW : (st.map fun v => v.category).sum ≤ Wn) (hl : Wn + (ml' + 11) + rm.locals ≤ R.locals) (hkc : kc + rm.cells = kc') (hks : ks + rm.slots = ks') (hc : kc' ≤ R.cells) (hs : ks' ≤ R.slots)
    (K : ∀ T' v, Wk Z y bytes ml ret n0 p l e R s m args below meth c T' kc' ks' → Post v T'.heap → Goes p e below E (T'.setTop (mkF m pc' ls (v.toList ++ st)))) : Goes p e below E (T.setTop (mkF m pc ls stk)) := by
  subst hpc hkc hks hstk
  have hx := W.hx; have hby := W.hby; have hown := W.hown; have hZ := W.hZ; have hml := W.hml
  obtain ⟨A, locs, X, N⟩ := W
  obtain ⟨v, vm1, ⟨T', L', kk, jj⟩, -, X', ⟨Lc, ⟨hN, hQ⟩, l1, l2, l3⟩, st'⟩ := Jvm.LawKit.callS X hx hown (mvT hZ w1) (mvT hZ w2) (mvT hZ w3) (mvT hZ w4) hy (backOf (Q := fun v h L => Fr n0 L ∧ Post v h) (W := Wn) con hZ w4 w3 hf hl) (g := mkF m pc ls (argsL.reverse ++ st)) rfl (by rw [hml]; exact hls) (argsL := argsL) (rest := st) (lenOf hpd hlen) rfl (by show 2 * 0 + _ ≤ _; omega) (hb hby hd) (fun _ _ => ⟨rfl, rfl, hc, hs⟩)
  dsimp only [Pt.U, Pt.locs, Pt.cells, Pt.slots] at X' l1 l2 l3 hQ st'
  subst l1 l2 l3
  exact (K T' v ⟨A, _, X', N.app hN⟩ hQ).back st'
theorem g_callI (W : Wk Z y bytes ml ret n0 p l e R s m args below meth c T kc ks) (hin : y'.name = "<init>") (w1 : (Cond.methodLink y.cls ix y').before a0 Z = true) (w2 : (Cond.instanceMethod y').before a0 Z = true) (w3 : (Cond.initialized y'.cls).before a0 Z = true) (w4 : (Cond.code y' bytes' ml' none).before a0 Z = true) (hy : y'.cls ≠ "java/lang/invoke/MethodHandle" ∧ y'.cls ≠ "java/lang/invoke/VarHandle")
    {a : Addr} (con : Con l Z n0 y' [] bytes' ml' none rm (.ref a :: argsL).toArray T.heap Post) (hpd : parseMethodDescriptor y'.desc = some ⟨ps, rt⟩) (hlen : argsL.length = ps.length) (hstk : stk = argsL.reverse ++ .ref a :: st) (hls : ls.size = ml) (hd : decode bytes pc = .ok (.invokespecial ix, 3)) (hpc : pc + 3 = pc')
    (hf : rm.frames + 1 ≤ R.frames) (hW : (st.map fun v => v.category).sum ≤ Wn) (hl : Wn + (ml' + 11) + rm.locals ≤ R.locals) (hkc : kc + rm.cells = kc') (hks : ks + rm.slots = ks') (hc : kc' ≤ R.cells) (hs : ks' ≤ R.slots)
    (K : ∀ T' v, Wk Z y bytes ml ret n0 p l e R s m args below meth c T' kc' ks' → Post v T'.heap → Goes p e below E (T'.setTop (mkF m pc' ls (v.toList ++ st)))) : Goes p e below E (T.setTop (mkF m pc ls stk)) := by
  subst hpc hkc hks hstk
  have hx := W.hx; have hby := W.hby; have hown := W.hown; have hZ := W.hZ; have hml := W.hml
  obtain ⟨A, locs, X, N⟩ := W
  obtain ⟨v, vm1, ⟨T', L', kk, jj⟩, -, X', ⟨Lc, ⟨hN, hQ⟩, l1, l2, l3⟩, st'⟩ := X.specialBack hx (y := y') hin hown (mvT hZ w1) (mvT hZ w2) (mvT hZ w4) hy (backOf (Q := fun v h L => Fr n0 L ∧ Post v h) (W := Wn) con hZ w4 w3 hf hl) (g := mkF m pc ls (argsL.reverse ++ .ref a :: st)) rfl (by rw [hml]; exact hls) (Steps.refl _) (a := a) (argsL := argsL) (rest := st) (lenOf hpd hlen) rfl (by show 2 * 0 + _ ≤ _; omega) (hb hby hd) (fun _ _ => ⟨rfl, rfl, hc, hs⟩)
  dsimp only [Pt.U, Pt.locs, Pt.cells, Pt.slots] at X' l1 l2 l3 hQ st'
  subst l1 l2 l3
  exact (K T' v ⟨A, _, X', N.app hN⟩ hQ).back fun t r => st'.trans r
theorem g_callV (W : Wk Z y bytes ml ret n0 p l e R s m args below meth c T kc ks) {C : String} {fs : List FR} {L : List HRow} {i : Nat} (w1 : (Cond.methodLink y.cls ix y').before a0 Z = true) (w2 : (Cond.declares y').before a0 Z = true) (w3 : (Cond.selects C y' y').before a0 Z = true) (w4 : (Cond.instanceMethod y').before a0 Z = true) (w5 : (Cond.initialized y'.cls).before a0 Z = true) (w6 : (Cond.code y' bytes' ml' ret').before a0 Z = true) (hy : y'.cls ≠ "java/lang/invoke/MethodHandle" ∧ y'.cls ≠ "java/lang/invoke/VarHandle")
    {a : Addr} (H : Hp Z n0 T.heap L) (hi : L[i]? = some (a, ObC Z C fs)) (con : Con l Z n0 y' [] bytes' ml' ret' rm (.ref a :: argsL).toArray T.heap Post) (hpd : parseMethodDescriptor y'.desc = some ⟨ps, rt⟩) (hlen : argsL.length = ps.length) (hstk : stk = argsL.reverse ++ .ref a :: st) (hls : ls.size = ml) (hd : decode bytes pc = .ok (.invokevirtual ix, 3)) (hpc : pc + 3 = pc')
    (hf : rm.frames + 1 ≤ R.frames) (hW : (st.map fun v => v.category).sum ≤ Wn) (hl : Wn + (ml' + 11) + rm.locals ≤ R.locals) (hkc : kc + rm.cells = kc') (hks : ks + rm.slots = ks') (hc : kc' ≤ R.cells) (hs : ks' ≤ R.slots)
    (K : ∀ T' v, Wk Z y bytes ml ret n0 p l e R s m args below meth c T' kc' ks' → Post v T'.heap → Goes p e below E (T'.setTop (mkF m pc' ls (v.toList ++ st)))) : Goes p e below E (T.setTop (mkF m pc ls stk)) := by
  subst hpc hkc hks hstk
  have hx := W.hx; have hby := W.hby; have hown := W.hown; have hZ := W.hZ; have hml := W.hml
  obtain ⟨A, locs, X, N⟩ := W
  obtain ⟨-, cl, q1, q2⟩ := H.get hi
  obtain ⟨cB, kB, b1, b2, b3⟩ := isOf hZ rfl (q2.exa q1)
  obtain ⟨v, vm1, ⟨T', L', kk, jj⟩, -, X', ⟨Lc, ⟨hN, hQ⟩, l1, l2, l3⟩, st'⟩ := X.virtualBack hx (y := y') hown (mvT hZ w1) (mvT hZ w2) (notFace_of_selects (args := #[]) (mvT hZ w3)) (mvT hZ w3) (mvT hZ w4) hy (backOf (Q := fun v h L => Fr n0 L ∧ Post v h) (W := Wn) con hZ w6 w5 hf hl) b1 b3 (g := mkF m pc ls (argsL.reverse ++ .ref a :: st)) rfl (by rw [hml]; exact hls) (Steps.refl _) (argsL := argsL) (rest := st) (lenOf hpd hlen) rfl (by show 2 * 0 + _ ≤ _; omega) (hb hby hd) (fun _ _ => ⟨rfl, rfl, hc, hs⟩)
  dsimp only [Pt.U, Pt.locs, Pt.cells, Pt.slots] at X' l1 l2 l3 hQ st'
  subst l1 l2 l3
  exact (K T' v ⟨A, _, X', N.app hN⟩ hQ).back fun t r => st'.trans r
theorem g_callP (W : Wk Z y bytes ml ret n0 p l e R s m args below meth c T kc ks) {C : String} {fs : List FR} {L : List HRow} {i nn : Nat} (w1 : (Cond.methodLink y.cls ix y').before a0 Z = true) (w2 : (Cond.instanceMethod y').before a0 Z = true) (w3 : (Cond.privateMethod y').before a0 Z = true) (w4 : (Cond.instantiable y'.cls nn).before a0 Z = true) (w5 : (Cond.initialized y'.cls).before a0 Z = true) (w6 : (Cond.code y' bytes' ml' ret').before a0 Z = true) (hy : y'.cls ≠ "java/lang/invoke/MethodHandle" ∧ y'.cls ≠ "java/lang/invoke/VarHandle")
    {a : Addr} (H : Hp Z n0 T.heap L) (hi : L[i]? = some (a, ObC Z C fs)) (con : Con l Z n0 y' [] bytes' ml' ret' rm (.ref a :: argsL).toArray T.heap Post) (hpd : parseMethodDescriptor y'.desc = some ⟨ps, rt⟩) (hlen : argsL.length = ps.length) (hstk : stk = argsL.reverse ++ .ref a :: st) (hls : ls.size = ml) (hd : decode bytes pc = .ok (.invokevirtual ix, 3)) (hpc : pc + 3 = pc')
    (hf : rm.frames + 1 ≤ R.frames) (hW : (st.map fun v => v.category).sum ≤ Wn) (hl : Wn + (ml' + 11) + rm.locals ≤ R.locals) (hkc : kc + rm.cells = kc') (hks : ks + rm.slots = ks') (hc : kc' ≤ R.cells) (hs : ks' ≤ R.slots)
    (K : ∀ T' v, Wk Z y bytes ml ret n0 p l e R s m args below meth c T' kc' ks' → Post v T'.heap → Goes p e below E (T'.setTop (mkF m pc' ls (v.toList ++ st)))) : Goes p e below E (T.setTop (mkF m pc ls stk)) := by
  subst hpc hkc hks hstk
  have hx := W.hx; have hby := W.hby; have hown := W.hown; have hZ := W.hZ; have hml := W.hml
  obtain ⟨A, locs, X, N⟩ := W
  obtain ⟨-, cl, q1, q2⟩ := H.get hi
  have hst : ∀ q, cl.vm ≠ .statics q := fun q hq => by have := q2.2.2.1; rw [hq] at this; cases this
  obtain ⟨mk, methM, hnamed, hmethM, hstM, habM⟩ := Cond.instanceMethod_spec (args := #[]) (mvT hZ w2)
  obtain ⟨methM', cM, hmethM', -, -, -, -, -, -, hsigM⟩ := Cond.code_spec (args := #[]) hnamed (mvT hZ w6)
  cases hmethM.symm.trans hmethM'
  obtain ⟨cP0, kP, hf1, hkP, -, hkPi, -⟩ := Cond.instantiable_spec (mvT hZ w4 (args := #[]))
  cases (findClass_of_methodNamed hnamed).symm.trans hf1
  have hkPi' : kP.isInterface = false := (Bool.or_eq_false_iff.mp hkPi).1
  have hselP : selectMethod e.platform s.vm cl.cls mk = .method mk := selectMethod_private hmethM (Cond.privateMethod_at (mvP hZ w3 (args := #[])) mk methM hnamed hmethM)
  obtain ⟨vm1, X1, hstep1⟩ := X.invokevirtual hx hown (mvT hZ w1) hnamed hmethM hstM hkP hkPi' hy (a := a) (cell := cl) q1 hst hselP hmethM habM hkP hkPi' (g := mkF m pc ls (argsL.reverse ++ .ref a :: st)) rfl (argsL := argsL) (rest := st) (lenOf hpd hlen _ hsigM) rfl (hb hby hd)
  obtain ⟨v, ⟨T', L', kk, jj⟩, X', ⟨Lc, ⟨hN, hQ⟩, l1, l2, l3⟩, st'⟩ := (backOf (Q := fun v h L => Fr n0 L ∧ Post v h) (W := Wn) (len := 3) (p := p) (e := e) (below := below) (args := args) con hZ w6 w5 hf hl) m meth c ⟨T.setVm vm1, locs, kc, ks⟩ (mkF m pc ls st) (.invokevirtual ix) mk (.ref a :: argsL).toArray X1 rfl (by rw [hml]; exact hls) (hb hby hd) (by show 2 * 0 + (st.map fun v => v.category).sum ≤ Wn; omega) (X1.named hnamed) ⟨rfl, rfl, hc, hs⟩
  dsimp only [Pt.U, Pt.locs, Pt.cells, Pt.slots] at X' l1 l2 l3 hQ st'
  subst l1 l2 l3
  exact (K T' v ⟨A, _, X', N.app hN⟩ hQ).back fun t r => ((hstep1 _ fun acts => by rw [doInvoke_state]; exact Steps.refl _).trans st').trans r
end Calls
end Laws
end Jvm.OwnKit


@@BLOCK:NumsL.lean.txt@@
namespace Jvm.OwnKit
open Jvm.Free
/-! ### ints -/
theorem i32_zero {x : Int32} : x.toInt = 0 ↔ x = 0 := ⟨fun h => Int32.toInt_inj.mp (h.trans (by decide)), fun h => by rw [h]; decide⟩
theorem i32_lit {x y : Int32} {k : Int} (h : x.toInt = k) (hy : y.toInt = k) : x = y := Int32.toInt_inj.mp (h.trans hy.symm)
theorem and1 (x : Int32) : x &&& 1 = 0 ∨ x &&& 1 = 1 := by
  have h := Kit.i32_mask x 1 (k := 1) (by decide) (by decide)
  have q : (x &&& 1).toInt = 0 ∨ (x &&& 1).toInt = 1 := by omega
  rcases q with q | q
  · exact Or.inl (i32_lit q (by decide))
  · exact Or.inr (i32_lit q (by decide))
theorem and3 (x : Int32) : x &&& 3 = 0 ∨ x &&& 3 = 1 ∨ x &&& 3 = 2 ∨ x &&& 3 = 3 := by
  have h := Kit.i32_mask x 3 (k := 2) (by decide) (by decide)
  have q : (x &&& 3).toInt = 0 ∨ (x &&& 3).toInt = 1 ∨ (x &&& 3).toInt = 2 ∨ (x &&& 3).toInt = 3 := by omega
  rcases q with q | q | q | q
  · exact Or.inl (i32_lit q (by decide))
  · exact Or.inr (Or.inl (i32_lit q (by decide)))
  · exact Or.inr (Or.inr (Or.inl (i32_lit q (by decide))))
  · exact Or.inr (Or.inr (Or.inr (i32_lit q (by decide))))
theorem i32_remW (x y : Int32) : (x - (x / y) * y).toInt = x.toInt.tmod y.toInt := by
  have a := (x % y).toInt_lt; have b := (x % y).le_toInt
  rw [Int32.toInt_mod] at a b
  rw [Int32.toInt_sub, Int32.toInt_mul, Int32.toInt_div, Int.bmod_mul_bmod, Int.sub_bmod_bmod, Int.mul_comm, ← Int.tmod_def]
  exact Kit.bmod32 b a
theorem i32_remN {x y : Int32} (hx : 0 ≤ x.toInt) : (x - (x / y) * y).toInt = x.toInt % y.toInt := by rw [i32_remW, Int.tmod_eq_emod_of_nonneg hx]
theorem lt1 {j : Int32} (h : ¬ j < 0) (h2 : j < 1) : j = 0 := by
  rw [Int32.lt_iff_toInt_lt] at h h2
  have e0 : (0 : Int32).toInt = 0 := by decide
  have e1 : (1 : Int32).toInt = 1 := by decide
  exact i32_lit (k := 0) (by omega) e0
theorem lt2 {j : Int32} (h : ¬ j < 0) (h2 : j < 2) : j = 0 ∨ j = 1 := by
  rw [Int32.lt_iff_toInt_lt] at h h2
  have e0 : (0 : Int32).toInt = 0 := by decide
  have e1 : (2 : Int32).toInt = 2 := by decide
  have q : j.toInt = 0 ∨ j.toInt = 1 := by omega
  rcases q with q | q
  · exact Or.inl (i32_lit q (by decide))
  · exact Or.inr (i32_lit q (by decide))
theorem lt3 {j : Int32} (h : ¬ j < 0) (h2 : j < 3) : j = 0 ∨ j = 1 ∨ j = 2 := by
  rw [Int32.lt_iff_toInt_lt] at h h2
  have e0 : (0 : Int32).toInt = 0 := by decide
  have e1 : (3 : Int32).toInt = 3 := by decide
  have q : j.toInt = 0 ∨ j.toInt = 1 ∨ j.toInt = 2 := by omega
  rcases q with q | q | q
  · exact Or.inl (i32_lit q (by decide))
  · exact Or.inr (Or.inl (i32_lit q (by decide)))
  · exact Or.inr (Or.inr (i32_lit q (by decide)))
theorem lt0 {j : Int32} {P : Prop} (h : ¬ j < 0) (h2 : j < 0) : P := absurd h2 h
theorem cmpL3 (x y : Int64) : (x < y ∧ XT.cmpL x y = -1) ∨ (x = y ∧ XT.cmpL x y = 0) ∨ (y < x ∧ XT.cmpL x y = 1) := by
  have e : XT.cmpL x y = (if y < x then (1 : Int32) else if x = y then 0 else -1) := rfl
  by_cases h1 : y < x
  · exact Or.inr (Or.inr ⟨h1, by rw [e, if_pos h1]⟩)
  · by_cases h2 : x = y
    · exact Or.inr (Or.inl ⟨h2, by rw [e, if_neg h1, if_pos h2]⟩)
    · refine Or.inl ⟨?_, by rw [e, if_neg h1, if_neg h2]⟩
      rw [Int64.lt_iff_toInt_lt] at h1 ⊢
      have : x.toInt ≠ y.toInt := fun q => h2 (Int64.toInt_inj.mp q)
      omega
theorem cmpL_eq0 {x y : Int64} : XT.cmpL x y = 0 ↔ x = y := by
  rcases cmpL3 x y with ⟨h, g⟩ | ⟨h, g⟩ | ⟨h, g⟩ <;> rw [g]
  · exact ⟨fun q => absurd q (by decide), fun q => by subst q; rw [Int64.lt_iff_toInt_lt] at h; omega⟩
  · exact ⟨fun _ => h, fun _ => rfl⟩
  · exact ⟨fun q => absurd q (by decide), fun q => by subst q; rw [Int64.lt_iff_toInt_lt] at h; omega⟩
theorem cmpL_gt0 {x y : Int64} : (0 : Int32) < XT.cmpL x y ↔ y < x := by
  rcases cmpL3 x y with ⟨h, g⟩ | ⟨h, g⟩ | ⟨h, g⟩ <;> rw [g]
  · exact ⟨fun q => absurd q (by decide), fun q => by rw [Int64.lt_iff_toInt_lt] at h q; omega⟩
  · exact ⟨fun q => absurd q (by decide), fun q => by subst h; rw [Int64.lt_iff_toInt_lt] at q; omega⟩
  · exact ⟨fun _ => h, fun _ => by decide⟩
theorem cmpL_lt0 {x y : Int64} : XT.cmpL x y < (0 : Int32) ↔ x < y := by
  rcases cmpL3 x y with ⟨h, g⟩ | ⟨h, g⟩ | ⟨h, g⟩ <;> rw [g]
  · exact ⟨fun _ => h, fun _ => by decide⟩
  · exact ⟨fun q => absurd q (by decide), fun q => by subst h; rw [Int64.lt_iff_toInt_lt] at q; omega⟩
  · exact ⟨fun q => absurd q (by decide), fun q => by rw [Int64.lt_iff_toInt_lt] at h q; omega⟩
end Jvm.OwnKit

namespace Jvm.OwnKit
open Jvm.FP.Core Jvm.Free.Fl Jvm.Op Jvm.ClassFile
/-! ### exact doubles: a is n * 2^e -/
def Dy (n e : Int) (a : UInt64) : Prop := DFin a ∧ zval b64 (val64 a) = n * ((2 ^ (e + 1074).toNat : Nat) : Int)
theorem pw3 {A B X1 Y1 X Y : Nat} (h : A * 2 ^ X1 = B * 2 ^ Y1) (hd : X + Y1 = X1 + Y) : A * 2 ^ X = B * 2 ^ Y := by
  apply Nat.eq_of_mul_eq_mul_right (Nat.two_pow_pos X1)
  calc A * 2 ^ X * 2 ^ X1 = A * 2 ^ X1 * 2 ^ X := by rw [Nat.mul_right_comm]
    _ = B * 2 ^ Y1 * 2 ^ X := by rw [h]
    _ = B * 2 ^ Y * 2 ^ X1 := by rw [Nat.mul_assoc, Nat.mul_assoc, ← Nat.pow_add, ← Nat.pow_add, show Y1 + X = Y + X1 by omega]
theorem rr_exact {s : Bool} {A B n : Nat} {e q : Int} (hB : 0 < B) (hn : n < 2 ^ 53) (h1 : -1074 ≤ q) (h2 : q ≤ 971) (h : A * 2 ^ (e - q).toNat = n * B * 2 ^ (q - e).toNat) :
    ∃ c' q', roundRatio b64 s A B e = .fin s c' q' ∧ inUnits c' q' b64.qmin = n * 2 ^ (q + 1074).toNat := by
  have hc : roundRatio b64 s A B e = roundRatio b64 s n 1 q := roundRatio_congr hB (by decide) (by rw [Nat.mul_one]; exact h)
  obtain ⟨c', q', g1, g2⟩ := round_exact good_b64 s (c := n) (q := q) (show n < 2 ^ 53 from hn) (by rw [qmin_b64]; exact h1) (by rw [show b64.qmax = 971 by decide]; exact h2)
  refine ⟨c', q', hc.trans g1, g2.trans ?_⟩
  unfold inUnits; rw [qmin_b64, show (q - -1074).toNat = (q + 1074).toNat by omega]
theorem dy_rr {a : UInt64} {s : Bool} {A B n : Nat} {e q : Int} (ha : val64 a = roundRatio b64 s A B e) (hB : 0 < B) (hn : n < 2 ^ 53) (h1 : -1074 ≤ q) (h2 : q ≤ 971) (h : A * 2 ^ (e - q).toNat = n * B * 2 ^ (q - e).toNat) : Dy (signed s n) q a := by
  obtain ⟨c', q', g1, g2⟩ := rr_exact (s := s) hB hn h1 h2 h
  rw [g1] at ha
  refine ⟨⟨s, c', q', ha⟩, ?_⟩
  rw [ha]; show signed s (inUnits c' q' b64.qmin) = _; rw [g2, signed_mul]
theorem signed_back {s : Bool} {X P : Nat} {n : Int} (hP : 0 < P) (h : signed s X = n * (P : Int)) : signed s n.natAbs = n := by
  have hP' : (0 : Int) < P := Int.natCast_pos.mpr hP
  cases s
  · have h' : (X : Int) = n * P := h
    have : 0 ≤ n := Int.not_lt.mp fun q => by have := Int.mul_neg_of_neg_of_pos q hP'; omega
    show (n.natAbs : Int) = n; omega
  · have h' : -(X : Int) = n * P := h
    have : n ≤ 0 := Int.not_lt.mp fun q => by have := Int.mul_pos q hP'; omega
    show -(n.natAbs : Int) = n; omega
theorem dy_open {n e : Int} {a : UInt64} (ha : Dy n e a) : ∃ s c q, val64 a = .fin s c q ∧ -1074 ≤ q ∧ Jvm.FP.Core.fits b64 (.fin s c q) ∧ c * 2 ^ (q + 1074).toNat = n.natAbs * 2 ^ (e + 1074).toNat ∧ signed s n.natAbs = n := by
  obtain ⟨⟨s, c, q, hv⟩, hz⟩ := ha
  have hfit := val64_fits a
  rw [hv] at hfit hz
  have hq : -1074 ≤ q := by have := hfit.2.1; rwa [qmin_b64] at this
  have hz1 : signed s (inUnits c q b64.qmin) = n * ((2 ^ (e + 1074).toNat : Nat) : Int) := hz
  have hz2 := congrArg Int.natAbs hz1
  rw [natAbs_signed, Int.natAbs_mul, Int.natAbs_natCast] at hz2
  refine ⟨s, c, q, hv, hq, hfit, ?_, signed_back (Nat.two_pow_pos _) hz1⟩
  rw [← hz2]; unfold inUnits; rw [qmin_b64, show (q - -1074).toNat = (q + 1074).toNat by omega]
theorem quo_fin {s t : Bool} {c d : Nat} {q r : Int} (hd : d ≠ 0) : quotient b64 (.fin s c q) (.fin t d r) = roundRatio b64 (s != t) c d (q - r) := if_neg hd
theorem dy_div {n e k : Int} {a b : UInt64} (ha : Dy n e a) (he : -1074 ≤ e) (hb : val64 b = .fin false (2 ^ 52) (k - 52)) (hn : n.natAbs < 2 ^ 53) (h1 : -1074 ≤ e - k) (h2 : e - k ≤ 971) : Dy n (e - k) (FP.ddiv a b) := by
  obtain ⟨s, c, q, hv, hq, hfit, hz, hs⟩ := dy_open ha
  have hd : val64 (FP.ddiv a b) = roundRatio b64 s c (2 ^ 52) (q - (k - 52)) := by
    rw [show val64 (FP.ddiv a b) = _ from val64_ddiv a b, hv, hb]
    rw [quo_fin (by decide), show (s != false) = s by cases s <;> rfl]
  have := dy_rr hd (n := n.natAbs) (q := e - k) (by decide) hn h1 h2 (by
    rw [Nat.mul_assoc, ← Nat.pow_add]
    exact pw3 hz (by omega))
  rwa [hs] at this
theorem dy_mul {n e m f : Int} {a b : UInt64} (ha : Dy n e a) (hb : Dy m f b) (he : -1074 ≤ e) (hf : -1074 ≤ f) (hn : (n * m).natAbs < 2 ^ 53) (h1 : -1074 ≤ e + f) (h2 : e + f ≤ 971) : Dy (n * m) (e + f) (FP.dmul a b) := by
  obtain ⟨s, c, q, hv, hq, hfit, hz, hs⟩ := dy_open ha
  obtain ⟨t, d, r, hw, hr, hfit2, hz2, ht⟩ := dy_open hb
  have hd : val64 (FP.dmul a b) = roundRatio b64 (s != t) (c * d) 1 (q + r) := by
    rw [show val64 (FP.dmul a b) = _ from val64_dmul a b, hv, hw]; rfl
  have hp : c * d * 2 ^ ((q + 1074).toNat + (r + 1074).toNat) = (n * m).natAbs * 2 ^ ((e + 1074).toNat + (f + 1074).toNat) := by
    rw [Nat.pow_add, Nat.mul_mul_mul_comm, hz, hz2, Int.natAbs_mul, Nat.pow_add, Nat.mul_mul_mul_comm]
  have := dy_rr hd (n := (n * m).natAbs) (q := e + f) (by decide) hn h1 h2 (by
    rw [Nat.mul_one]
    exact pw3 hp (by omega))
  rw [Int.natAbs_mul, signed_xor, hs, ht] at this
  exact this
theorem dy_addG {n e m k : Int} {t : Nat} {a b : UInt64} (ha : Dy n e a) (hb : Dy m e b) (hnm : n + m = k * ((2 ^ t : Nat) : Int)) (hk : k.natAbs < 2 ^ 53) (h1 : -1074 ≤ e) (h2 : e + t ≤ 971) : Dy k (e + t) (FP.dadd a b) := by
  obtain ⟨⟨s, c, q, hv⟩, hz⟩ := ha
  obtain ⟨⟨s2, d, r, hw⟩, hz2⟩ := hb
  have f1 := val64_fits a
  have f2 := val64_fits b
  rw [hv] at f1 hz
  rw [hw] at f2 hz2
  obtain ⟨sg, N, E, g1, g2, g3⟩ := sum_units f1 f2
  rw [qmin_b64] at g2
  rw [hz, hz2, ← Int.add_mul, hnm, Int.mul_assoc, ← Int.natCast_mul, ← Nat.pow_add] at g3
  have hd : val64 (FP.dadd a b) = roundRatio b64 sg N 1 E := by
    rw [show val64 (FP.dadd a b) = _ from val64_dadd a b, hv, hw, g1]; rfl
  have g4 := congrArg Int.natAbs g3
  rw [natAbs_signed, Int.natAbs_mul, Int.natAbs_natCast] at g4
  unfold inUnits at g4
  rw [qmin_b64] at g4
  have := dy_rr hd (n := k.natAbs) (q := e + t) (by decide) hk (by omega) h2 (by
    rw [Nat.mul_one]
    exact pw3 g4 (by omega))
  rwa [signed_back (Nat.two_pow_pos _) g3] at this
theorem dy_add {n e m : Int} {a b : UInt64} (ha : Dy n e a) (hb : Dy m e b) (hn : (n + m).natAbs < 2 ^ 53) (h1 : -1074 ≤ e) (h2 : e ≤ 971) : Dy (n + m) e (FP.dadd a b) := by
  have := dy_addG (t := 0) ha hb (by rw [show ((2 ^ 0 : Nat) : Int) = 1 from rfl, Int.mul_one]) hn h1 (by omega)
  rwa [show e + ((0 : Nat) : Int) = e by omega] at this
theorem dy_re {n e : Int} {a : UInt64} (ha : Dy n e a) (k : Nat) (h : -1074 ≤ e - k) : Dy (n * ((2 ^ k : Nat) : Int)) (e - k) a := by
  refine ⟨ha.1, ha.2.trans ?_⟩
  rw [Int.mul_assoc, ← Int.natCast_mul, ← Nat.pow_add, show k + (e - k + 1074).toNat = (e + 1074).toNat by omega]
theorem dy_fin {a : UInt64} {s : Bool} {c : Nat} {q : Int} (h : val64 a = .fin s c q) : Dy (signed s c) q a := by
  have hf := val64_fits a
  rw [h] at hf
  have hq := hf.2.1
  rw [qmin_b64] at hq
  refine ⟨⟨s, c, q, h⟩, ?_⟩
  rw [h]; show signed s (inUnits c q b64.qmin) = _
  unfold inUnits
  rw [qmin_b64, signed_mul, show (q - -1074).toNat = (q + 1074).toNat by omega]
theorem dy_i2d (x : Int32) : Dy x.toInt 0 (FP.i2d x) := ⟨Jvm.FP.Core.i2d_fin x, DInt_zval (i2d_int x)⟩
theorem dy_l2d {x : Int64} (h : x.toInt.natAbs ≤ 2 ^ 53) : Dy x.toInt 0 (FP.l2d x) := ⟨Jvm.FP.Core.l2d_fin x, DInt_zval (l2d_int h)⟩
theorem dy_zero : Dy 0 0 0 := ⟨⟨false, 0, b64.qmin, val64_zero⟩, by rw [zval64_zero, Int.zero_mul]⟩
theorem Dy.fin {n e : Int} {a : UInt64} (h : Dy n e a) : Fin64 a := fin64_core.mpr h.1
theorem Dy.nn {n e : Int} {a : UInt64} (h : Dy n e a) : NoNaN64 a := h.fin.noNaN
theorem dy_cmp {n m e : Int} {a b : UInt64} (ha : Dy n e a) (hb : Dy m e b) : FP.dcmp a b = some (compare n m) := by
  have := dcmp_zval (DFin.ne_nan ha.1) (DFin.ne_nan hb.1)
  rw [ha.2, hb.2, compare_mul_pos _ _ _ (Int.natCast_pos.mpr (Nat.two_pow_pos _))] at this
  exact this
theorem cv_lt {n m : Int} (h : n < m) (o : CmpOp) : cmpValue (some (compare n m)) o = -1 := by rw [(compare_lt_iff n m).mpr h]; rfl
theorem cv_eq {n m : Int} (h : n = m) (o : CmpOp) : cmpValue (some (compare n m)) o = 0 := by rw [(compare_eq_iff n m).mpr h]; rfl
theorem cv_gt {n m : Int} (h : m < n) (o : CmpOp) : cmpValue (some (compare n m)) o = 1 := by rw [(compare_gt_iff n m).mpr h]; rfl
theorem cv3 (n m : Int) (o : CmpOp) : (n < m ∧ cmpValue (some (compare n m)) o = -1) ∨ (n = m ∧ cmpValue (some (compare n m)) o = 0) ∨ (m < n ∧ cmpValue (some (compare n m)) o = 1) := by
  rcases Int.lt_trichotomy n m with h | h | h
  · exact Or.inl ⟨h, cv_lt h o⟩
  · exact Or.inr (Or.inl ⟨h, cv_eq h o⟩)
  · exact Or.inr (Or.inr ⟨h, cv_gt h o⟩)
theorem dy_eq0 {n m e : Int} {a b : UInt64} (ha : Dy n e a) (hb : Dy m e b) (o : CmpOp) : cmpValue (FP.dcmp a b) o = 0 ↔ n = m := by
  rw [dy_cmp ha hb]; rcases cv3 n m o with ⟨h, g⟩ | ⟨h, g⟩ | ⟨h, g⟩ <;> rw [g]
  · exact ⟨fun q => absurd q (by decide), fun q => by omega⟩
  · exact ⟨fun _ => h, fun _ => rfl⟩
  · exact ⟨fun q => absurd q (by decide), fun q => by omega⟩
theorem dy_gt0 {n m e : Int} {a b : UInt64} (ha : Dy n e a) (hb : Dy m e b) (o : CmpOp) : 0 < cmpValue (FP.dcmp a b) o ↔ m < n := by
  rw [dy_cmp ha hb]; rcases cv3 n m o with ⟨h, g⟩ | ⟨h, g⟩ | ⟨h, g⟩ <;> rw [g]
  · exact ⟨fun q => absurd q (by decide), fun q => by omega⟩
  · exact ⟨fun q => absurd q (by decide), fun q => by omega⟩
  · exact ⟨fun _ => h, fun _ => by decide⟩
theorem dy_lt0 {n m e : Int} {a b : UInt64} (ha : Dy n e a) (hb : Dy m e b) (o : CmpOp) : cmpValue (FP.dcmp a b) o < 0 ↔ n < m := by
  rw [dy_cmp ha hb]; rcases cv3 n m o with ⟨h, g⟩ | ⟨h, g⟩ | ⟨h, g⟩ <;> rw [g]
  · exact ⟨fun _ => h, fun _ => by decide⟩
  · exact ⟨fun q => absurd q (by decide), fun q => by omega⟩
  · exact ⟨fun q => absurd q (by decide), fun q => by omega⟩
end Jvm.OwnKit

namespace Jvm.Pilot.@@N@@
open Jvm Jvm.ClassFile Sem Op Lib Jvm.Free Jvm.Stand Jvm.LawKit Jvm.RoadKit Jvm.OwnKit Jvm.Free.Fl Bundle Jvm.Pilot.@@N@@.Jvm.D
theorem wd_0 {Z : State} {a0 : Array Value} (hw : ∀ d ∈ tables_1, d.before a0 Z = true) : (Jvm.Cond.methodLink "com/example/dipper/dipper/CentroidsHoldsOneValuePinLaw" (11 : Nat) ({ cls := "com/example/dipper/dipper/CentroidsHoldsOneValuePinLaw", name := "weightOf", desc := "(JI)J" } : Jvm.MethodName)).before a0 Z = true := hw _ (List.mem_of_getElem? (i := 0) rfl)
theorem wd_1 {Z : State} {a0 : Array Value} (hw : ∀ d ∈ tables_1, d.before a0 Z = true) : (Jvm.Cond.static ({ cls := "com/example/dipper/dipper/CentroidsHoldsOneValuePinLaw", name := "weightOf", desc := "(JI)J" } : Jvm.MethodName)).before a0 Z = true := hw _ (List.mem_of_getElem? (i := 1) rfl)
theorem wd_2 {Z : State} {a0 : Array Value} (hw : ∀ d ∈ tables_1, d.before a0 Z = true) : (Jvm.Cond.initialized "com/example/dipper/dipper/CentroidsHoldsOneValuePinLaw").before a0 Z = true := hw _ (List.mem_of_getElem? (i := 2) rfl)
theorem wd_3 {Z : State} {a0 : Array Value} (hw : ∀ d ∈ tables_1, d.before a0 Z = true) : (Jvm.Cond.code ({ cls := "com/example/dipper/dipper/CentroidsHoldsOneValuePinLaw", name := "weightOf", desc := "(JI)J" } : Jvm.MethodName) method_2_code (4 : Nat) (Option.some Jvm.ClassFile.FieldType.long)).before a0 Z = true := hw _ (List.mem_of_getElem? (i := 3) rfl)
theorem wd_4 {Z : State} {a0 : Array Value} (hw : ∀ d ∈ tables_1, d.before a0 Z = true) : (Jvm.Cond.constantLong "com/example/dipper/dipper/CentroidsHoldsOneValuePinLaw" (7 : Nat) (65535 : Int64)).before a0 Z = true := hw _ (List.mem_of_getElem? (i := 4) rfl)
theorem wd_5 {Z : State} {a0 : Array Value} (hw : ∀ d ∈ tables_1, d.before a0 Z = true) : (Jvm.Cond.constantLong "com/example/dipper/dipper/CentroidsHoldsOneValuePinLaw" (9 : Nat) (2 : Int64)).before a0 Z = true := hw _ (List.mem_of_getElem? (i := 5) rfl)
theorem wd_6 {Z : State} {a0 : Array Value} (hw : ∀ d ∈ tables_1, d.before a0 Z = true) : (Jvm.Cond.classLink "com/example/dipper/dipper/CentroidsHoldsOneValuePinLaw" (17 : Nat) "com/example/dipper/dipper/Centroids").before a0 Z = true := hw _ (List.mem_of_getElem? (i := 6) rfl)
theorem wd_7 {Z : State} {a0 : Array Value} (hw : ∀ d ∈ tables_1, d.before a0 Z = true) : (Jvm.Cond.instantiable "com/example/dipper/dipper/Centroids" (5 : Nat)).before a0 Z = true := hw _ (List.mem_of_getElem? (i := 7) rfl)
theorem wd_8 {Z : State} {a0 : Array Value} (hw : ∀ d ∈ tables_1, d.before a0 Z = true) : (Jvm.Cond.initialized "com/example/dipper/dipper/Centroids").before a0 Z = true := hw _ (List.mem_of_getElem? (i := 8) rfl)
theorem wd_9 {Z : State} {a0 : Array Value} (hw : ∀ d ∈ tables_1, d.before a0 Z = true) : (Jvm.Cond.arrayClass Jvm.ClassFile.FieldType.double).before a0 Z = true := hw _ (List.mem_of_getElem? (i := 9) rfl)
theorem wd_10 {Z : State} {a0 : Array Value} (hw : ∀ d ∈ tables_1, d.before a0 Z = true) : (Jvm.Cond.arrayClass Jvm.ClassFile.FieldType.long).before a0 Z = true := hw _ (List.mem_of_getElem? (i := 10) rfl)
theorem wd_11 {Z : State} {a0 : Array Value} (hw : ∀ d ∈ tables_1, d.before a0 Z = true) : (Jvm.Cond.methodLink "com/example/dipper/dipper/CentroidsHoldsOneValuePinLaw" (19 : Nat) ({ cls := "com/example/dipper/dipper/Centroids", name := "<init>", desc := "([D[JJDD)V" } : Jvm.MethodName)).before a0 Z = true := hw _ (List.mem_of_getElem? (i := 11) rfl)
theorem wd_12 {Z : State} {a0 : Array Value} (hw : ∀ d ∈ tables_1, d.before a0 Z = true) : (Jvm.Cond.instanceMethod ({ cls := "com/example/dipper/dipper/Centroids", name := "<init>", desc := "([D[JJDD)V" } : Jvm.MethodName)).before a0 Z = true := hw _ (List.mem_of_getElem? (i := 12) rfl)
theorem wd_13 {Z : State} {a0 : Array Value} (hw : ∀ d ∈ tables_1, d.before a0 Z = true) : (Jvm.Cond.code ({ cls := "com/example/dipper/dipper/Centroids", name := "<init>", desc := "([D[JJDD)V" } : Jvm.MethodName) prog_4_method_1_code (9 : Nat) (Option.none : Option Jvm.ClassFile.FieldType)).before a0 Z = true := hw _ (List.mem_of_getElem? (i := 13) rfl)
theorem wd_14 {Z : State} {a0 : Array Value} (hw : ∀ d ∈ tables_1, d.before a0 Z = true) : (Jvm.Cond.methodLink "com/example/dipper/dipper/Centroids" (3 : Nat) ({ cls := "java/lang/Object", name := "<init>", desc := "()V" } : Jvm.MethodName)).before a0 Z = true := hw _ (List.mem_of_getElem? (i := 14) rfl)
theorem wd_15 {Z : State} {a0 : Array Value} (hw : ∀ d ∈ tables_1, d.before a0 Z = true) : (Jvm.Cond.instanceMethod ({ cls := "java/lang/Object", name := "<init>", desc := "()V" } : Jvm.MethodName)).before a0 Z = true := hw _ (List.mem_of_getElem? (i := 15) rfl)
theorem wd_16 {Z : State} {a0 : Array Value} (hw : ∀ d ∈ tables_1, d.before a0 Z = true) : (Jvm.Cond.code ({ cls := "java/lang/Object", name := "<init>", desc := "()V" } : Jvm.MethodName) object_method_1_code (1 : Nat) (Option.none : Option Jvm.ClassFile.FieldType)).before a0 Z = true := hw _ (List.mem_of_getElem? (i := 16) rfl)
theorem wd_17 {Z : State} {a0 : Array Value} (hw : ∀ d ∈ tables_1, d.before a0 Z = true) : (Jvm.Cond.fieldLink "com/example/dipper/dipper/Centroids" (9 : Nat) "com/example/dipper/dipper/Centroids" "means" "[D").before a0 Z = true := hw _ (List.mem_of_getElem? (i := 17) rfl)
theorem wd_18 {Z : State} {a0 : Array Value} (hw : ∀ d ∈ tables_1, d.before a0 Z = true) : (Jvm.Cond.laysFinal "com/example/dipper/dipper/Centroids" "com/example/dipper/dipper/Centroids" "means" "[D").before a0 Z = true := hw _ (List.mem_of_getElem? (i := 18) rfl)
theorem wd_19 {Z : State} {a0 : Array Value} (hw : ∀ d ∈ tables_1, d.before a0 Z = true) : (Jvm.Cond.fieldLink "com/example/dipper/dipper/Centroids" (13 : Nat) "com/example/dipper/dipper/Centroids" "weights" "[J").before a0 Z = true := hw _ (List.mem_of_getElem? (i := 19) rfl)
theorem wd_20 {Z : State} {a0 : Array Value} (hw : ∀ d ∈ tables_1, d.before a0 Z = true) : (Jvm.Cond.laysFinal "com/example/dipper/dipper/Centroids" "com/example/dipper/dipper/Centroids" "weights" "[J").before a0 Z = true := hw _ (List.mem_of_getElem? (i := 20) rfl)
theorem wd_21 {Z : State} {a0 : Array Value} (hw : ∀ d ∈ tables_1, d.before a0 Z = true) : (Jvm.Cond.fieldLink "com/example/dipper/dipper/Centroids" (17 : Nat) "com/example/dipper/dipper/Centroids" "count" "J").before a0 Z = true := hw _ (List.mem_of_getElem? (i := 21) rfl)
theorem wd_22 {Z : State} {a0 : Array Value} (hw : ∀ d ∈ tables_1, d.before a0 Z = true) : (Jvm.Cond.laysFinal "com/example/dipper/dipper/Centroids" "com/example/dipper/dipper/Centroids" "count" "J").before a0 Z = true := hw _ (List.mem_of_getElem? (i := 22) rfl)
theorem wd_23 {Z : State} {a0 : Array Value} (hw : ∀ d ∈ tables_1, d.before a0 Z = true) : (Jvm.Cond.fieldLink "com/example/dipper/dipper/Centroids" (21 : Nat) "com/example/dipper/dipper/Centroids" "min" "D").before a0 Z = true := hw _ (List.mem_of_getElem? (i := 23) rfl)
theorem wd_24 {Z : State} {a0 : Array Value} (hw : ∀ d ∈ tables_1, d.before a0 Z = true) : (Jvm.Cond.laysFinal "com/example/dipper/dipper/Centroids" "com/example/dipper/dipper/Centroids" "min" "D").before a0 Z = true := hw _ (List.mem_of_getElem? (i := 24) rfl)
theorem wd_25 {Z : State} {a0 : Array Value} (hw : ∀ d ∈ tables_1, d.before a0 Z = true) : (Jvm.Cond.fieldLink "com/example/dipper/dipper/Centroids" (25 : Nat) "com/example/dipper/dipper/Centroids" "max" "D").before a0 Z = true := hw _ (List.mem_of_getElem? (i := 25) rfl)
theorem wd_26 {Z : State} {a0 : Array Value} (hw : ∀ d ∈ tables_1, d.before a0 Z = true) : (Jvm.Cond.laysFinal "com/example/dipper/dipper/Centroids" "com/example/dipper/dipper/Centroids" "max" "D").before a0 Z = true := hw _ (List.mem_of_getElem? (i := 26) rfl)
theorem wd_27 {Z : State} {a0 : Array Value} (hw : ∀ d ∈ tables_1, d.before a0 Z = true) : (Jvm.Cond.methodLink "com/example/dipper/dipper/CentroidsHoldsOneValuePinLaw" (22 : Nat) ({ cls := "com/example/dipper/dipper/Centroids", name := "holdsOneValue", desc := "(I)Z" } : Jvm.MethodName)).before a0 Z = true := hw _ (List.mem_of_getElem? (i := 27) rfl)
theorem wd_28 {Z : State} {a0 : Array Value} (hw : ∀ d ∈ tables_1, d.before a0 Z = true) : (Jvm.Cond.declares ({ cls := "com/example/dipper/dipper/Centroids", name := "holdsOneValue", desc := "(I)Z" } : Jvm.MethodName)).before a0 Z = true := hw _ (List.mem_of_getElem? (i := 28) rfl)
theorem wd_29 {Z : State} {a0 : Array Value} (hw : ∀ d ∈ tables_1, d.before a0 Z = true) : (Jvm.Cond.instanceMethod ({ cls := "com/example/dipper/dipper/Centroids", name := "holdsOneValue", desc := "(I)Z" } : Jvm.MethodName)).before a0 Z = true := hw _ (List.mem_of_getElem? (i := 29) rfl)
theorem wd_30 {Z : State} {a0 : Array Value} (hw : ∀ d ∈ tables_1, d.before a0 Z = true) : (Jvm.Cond.selects "com/example/dipper/dipper/Centroids" ({ cls := "com/example/dipper/dipper/Centroids", name := "holdsOneValue", desc := "(I)Z" } : Jvm.MethodName) ({ cls := "com/example/dipper/dipper/Centroids", name := "holdsOneValue", desc := "(I)Z" } : Jvm.MethodName)).before a0 Z = true := hw _ (List.mem_of_getElem? (i := 30) rfl)
theorem wd_31 {Z : State} {a0 : Array Value} (hw : ∀ d ∈ tables_1, d.before a0 Z = true) : (Jvm.Cond.code ({ cls := "com/example/dipper/dipper/Centroids", name := "holdsOneValue", desc := "(I)Z" } : Jvm.MethodName) prog_4_method_8_code (2 : Nat) (Option.some Jvm.ClassFile.FieldType.boolean)).before a0 Z = true := hw _ (List.mem_of_getElem? (i := 31) rfl)
theorem wd_32 {Z : State} {a0 : Array Value} (hw : ∀ d ∈ tables_1, d.before a0 Z = true) : (Jvm.Cond.methodLink "com/example/dipper/dipper/Centroids" (53 : Nat) ({ cls := "com/example/dipper/dipper/Centroids", name := "repeats", desc := "(I)Z" } : Jvm.MethodName)).before a0 Z = true := hw _ (List.mem_of_getElem? (i := 32) rfl)
theorem wd_33 {Z : State} {a0 : Array Value} (hw : ∀ d ∈ tables_1, d.before a0 Z = true) : (Jvm.Cond.instanceMethod ({ cls := "com/example/dipper/dipper/Centroids", name := "repeats", desc := "(I)Z" } : Jvm.MethodName)).before a0 Z = true := hw _ (List.mem_of_getElem? (i := 33) rfl)
theorem wd_34 {Z : State} {a0 : Array Value} (hw : ∀ d ∈ tables_1, d.before a0 Z = true) : (Jvm.Cond.privateMethod ({ cls := "com/example/dipper/dipper/Centroids", name := "repeats", desc := "(I)Z" } : Jvm.MethodName)).before a0 Z = true := hw _ (List.mem_of_getElem? (i := 34) rfl)
theorem wd_35 {Z : State} {a0 : Array Value} (hw : ∀ d ∈ tables_1, d.before a0 Z = true) : (Jvm.Cond.code ({ cls := "com/example/dipper/dipper/Centroids", name := "repeats", desc := "(I)Z" } : Jvm.MethodName) prog_4_method_14_code (2 : Nat) (Option.some Jvm.ClassFile.FieldType.boolean)).before a0 Z = true := hw _ (List.mem_of_getElem? (i := 35) rfl)
theorem la_Centroids {Z : State} {a0 : Array Value} (hw : ∀ d ∈ tables_1, d.before a0 Z = true) : LaidAll Z a0 "com/example/dipper/dipper/Centroids" [("com/example/dipper/dipper/Centroids", "means", "[D", .null), ("com/example/dipper/dipper/Centroids", "weights", "[J", .null), ("com/example/dipper/dipper/Centroids", "count", "J", .long 0), ("com/example/dipper/dipper/Centroids", "min", "D", .double 0), ("com/example/dipper/dipper/Centroids", "max", "D", .double 0)] := LaidAll.cons (Or.inr (wd_18 hw)) (t := (.array .double)) (by decide) rfl (LaidAll.cons (Or.inr (wd_20 hw)) (t := (.array .long)) (by decide) rfl (LaidAll.cons (Or.inr (wd_22 hw)) (t := .long) (by decide) rfl (LaidAll.cons (Or.inr (wd_24 hw)) (t := .double) (by decide) rfl (LaidAll.cons (Or.inr (wd_26 hw)) (t := .double) (by decide) rfl (LaidAll.nil)))))
theorem ef_2 (m : MethodId) (x0 : Addr) (x1 : Addr) (x2 : Addr) (x3 : Int64) (x4 : UInt64) (x5 : UInt64) : entryFrame m #[.ref x0, .ref x1, .ref x2, .long x3, .double x4, .double x5] 9 = mkF m 0 #[.val (.ref x0), .val (.ref x1), .val (.ref x2), .val (.long x3), .second, .val (.double x4), .second, .val (.double x5), .second] [] := by first | (simp [entryFrame, mkF, argsToLocals, Value.category, maxLocals]; done) | rfl
theorem d2_0 : decode prog_4_method_1_code 0 = .ok (.aload_n 0, 1) := by decide +kernel
theorem d2_1 : decode prog_4_method_1_code 1 = .ok (.invokespecial 3, 3) := by decide +kernel
theorem d2_4 : decode prog_4_method_1_code 4 = .ok (.aload_n 0, 1) := by decide +kernel
theorem d2_5 : decode prog_4_method_1_code 5 = .ok (.aload_n 1, 1) := by decide +kernel
theorem d2_6 : decode prog_4_method_1_code 6 = .ok (.putfield 9, 3) := by decide +kernel
theorem d2_9 : decode prog_4_method_1_code 9 = .ok (.aload_n 0, 1) := by decide +kernel
theorem d2_10 : decode prog_4_method_1_code 10 = .ok (.aload_n 2, 1) := by decide +kernel
theorem d2_11 : decode prog_4_method_1_code 11 = .ok (.putfield 13, 3) := by decide +kernel
theorem d2_14 : decode prog_4_method_1_code 14 = .ok (.aload_n 0, 1) := by decide +kernel
theorem d2_15 : decode prog_4_method_1_code 15 = .ok (.lload_n 3, 1) := by decide +kernel
theorem d2_16 : decode prog_4_method_1_code 16 = .ok (.putfield 17, 3) := by decide +kernel
theorem d2_19 : decode prog_4_method_1_code 19 = .ok (.aload_n 0, 1) := by decide +kernel
theorem d2_20 : decode prog_4_method_1_code 20 = .ok (.dload 5, 2) := by decide +kernel
theorem d2_22 : decode prog_4_method_1_code 22 = .ok (.putfield 21, 3) := by decide +kernel
theorem d2_25 : decode prog_4_method_1_code 25 = .ok (.aload_n 0, 1) := by decide +kernel
theorem d2_26 : decode prog_4_method_1_code 26 = .ok (.dload 7, 2) := by decide +kernel
theorem d2_28 : decode prog_4_method_1_code 28 = .ok (.putfield 25, 3) := by decide +kernel
theorem d2_31 : decode prog_4_method_1_code 31 = .ok (.return_, 1) := by decide +kernel
theorem pn_Centroids : plainName "com/example/dipper/dipper/Centroids" = true := by first | (simp [plainName, overriddenIn]; done) | decide +kernel
theorem ef_1 (m : MethodId) (x0 : Int64) (x1 : Int32) : entryFrame m #[.long x0, .int x1] 4 = mkF m 0 #[.val (.long x0), .second, .val (.int x1), .unset] [] := by first | (simp [entryFrame, mkF, argsToLocals, Value.category, maxLocals]; done) | rfl
theorem d1_0 : decode method_2_code 0 = .ok (.lload_n 0, 1) := by decide +kernel
theorem d1_1 : decode method_2_code 1 = .ok (.bipush 16, 2) := by decide +kernel
theorem d1_3 : decode method_2_code 3 = .ok (.iload_n 2, 1) := by decide +kernel
theorem d1_4 : decode method_2_code 4 = .ok (.imul, 1) := by decide +kernel
theorem d1_5 : decode method_2_code 5 = .ok (.lushr, 1) := by decide +kernel
theorem d1_6 : decode method_2_code 6 = .ok (.ldc2_w 7, 3) := by decide +kernel
theorem d1_9 : decode method_2_code 9 = .ok (.land, 1) := by decide +kernel
theorem d1_10 : decode method_2_code 10 = .ok (.l2i, 1) := by decide +kernel
theorem d1_11 : decode method_2_code 11 = .ok (.istore_n 3, 1) := by decide +kernel
theorem d1_12 : decode method_2_code 12 = .ok (.iload_n 3, 1) := by decide +kernel
theorem d1_13 : decode method_2_code 13 = .ok (.iconst 1, 1) := by decide +kernel
theorem d1_14 : decode method_2_code 14 = .ok (.iand, 1) := by decide +kernel
theorem d1_15 : decode method_2_code 15 = .ok (.ifCond .ne 7, 3) := by decide +kernel
theorem d1_22 : decode method_2_code 22 = .ok (.ldc2_w 9, 3) := by decide +kernel
theorem d1_25 : decode method_2_code 25 = .ok (.iload_n 3, 1) := by decide +kernel
theorem d1_26 : decode method_2_code 26 = .ok (.iconst 1, 1) := by decide +kernel
theorem d1_27 : decode method_2_code 27 = .ok (.iushr, 1) := by decide +kernel
theorem d1_28 : decode method_2_code 28 = .ok (.i2l, 1) := by decide +kernel
theorem d1_29 : decode method_2_code 29 = .ok (.ladd, 1) := by decide +kernel
theorem d1_30 : decode method_2_code 30 = .ok (.lreturn, 1) := by decide +kernel
theorem d1_18 : decode method_2_code 18 = .ok (.lconst 1, 1) := by decide +kernel
theorem d1_19 : decode method_2_code 19 = .ok (.goto 11, 3) := by decide +kernel
theorem pn_CentroidsHoldsOneValuePinLaw : plainName "com/example/dipper/dipper/CentroidsHoldsOneValuePinLaw" = true := by first | (simp [plainName, overriddenIn]; done) | decide +kernel
theorem ef_5 (m : MethodId) (x0 : Addr) (x1 : Int32) : entryFrame m #[.ref x0, .int x1] 2 = mkF m 0 #[.val (.ref x0), .val (.int x1)] [] := by first | (simp [entryFrame, mkF, argsToLocals, Value.category, maxLocals]; done) | rfl
theorem d5_0 : decode prog_4_method_14_code 0 = .ok (.iload_n 1, 1) := by decide +kernel
theorem d5_1 : decode prog_4_method_14_code 1 = .ok (.ifCond .le 21, 3) := by decide +kernel
theorem d5_22 : decode prog_4_method_14_code 22 = .ok (.iload_n 1, 1) := by decide +kernel
theorem d5_23 : decode prog_4_method_14_code 23 = .ok (.iconst 1, 1) := by decide +kernel
theorem d5_24 : decode prog_4_method_14_code 24 = .ok (.iadd, 1) := by decide +kernel
theorem d5_25 : decode prog_4_method_14_code 25 = .ok (.aload_n 0, 1) := by decide +kernel
theorem d5_26 : decode prog_4_method_14_code 26 = .ok (.getfield 9, 3) := by decide +kernel
theorem d5_29 : decode prog_4_method_14_code 29 = .ok (.arraylength, 1) := by decide +kernel
theorem d5_30 : decode prog_4_method_14_code 30 = .ok (.if_icmp .ge 21, 3) := by decide +kernel
theorem d5_33 : decode prog_4_method_14_code 33 = .ok (.aload_n 0, 1) := by decide +kernel
theorem d5_34 : decode prog_4_method_14_code 34 = .ok (.getfield 9, 3) := by decide +kernel
theorem d5_37 : decode prog_4_method_14_code 37 = .ok (.iload_n 1, 1) := by decide +kernel
theorem d5_38 : decode prog_4_method_14_code 38 = .ok (.iconst 1, 1) := by decide +kernel
theorem d5_39 : decode prog_4_method_14_code 39 = .ok (.iadd, 1) := by decide +kernel
theorem d5_40 : decode prog_4_method_14_code 40 = .ok (.daload, 1) := by decide +kernel
theorem d5_41 : decode prog_4_method_14_code 41 = .ok (.aload_n 0, 1) := by decide +kernel
theorem d5_42 : decode prog_4_method_14_code 42 = .ok (.getfield 9, 3) := by decide +kernel
theorem d5_45 : decode prog_4_method_14_code 45 = .ok (.iload_n 1, 1) := by decide +kernel
theorem d5_46 : decode prog_4_method_14_code 46 = .ok (.daload, 1) := by decide +kernel
theorem d5_47 : decode prog_4_method_14_code 47 = .ok (.dcmp .l, 1) := by decide +kernel
theorem d5_48 : decode prog_4_method_14_code 48 = .ok (.ifCond .eq 42, 3) := by decide +kernel
theorem d5_90 : decode prog_4_method_14_code 90 = .ok (.iconst 1, 1) := by decide +kernel
theorem d5_91 : decode prog_4_method_14_code 91 = .ok (.goto 4, 3) := by decide +kernel
theorem d5_95 : decode prog_4_method_14_code 95 = .ok (.ireturn, 1) := by decide +kernel
theorem d5_51 : decode prog_4_method_14_code 51 = .ok (.aload_n 0, 1) := by decide +kernel
theorem d5_52 : decode prog_4_method_14_code 52 = .ok (.getfield 13, 3) := by decide +kernel
theorem d5_55 : decode prog_4_method_14_code 55 = .ok (.iload_n 1, 1) := by decide +kernel
theorem d5_56 : decode prog_4_method_14_code 56 = .ok (.laload, 1) := by decide +kernel
theorem d5_57 : decode prog_4_method_14_code 57 = .ok (.lconst 1, 1) := by decide +kernel
theorem d5_58 : decode prog_4_method_14_code 58 = .ok (.lcmp, 1) := by decide +kernel
theorem d5_59 : decode prog_4_method_14_code 59 = .ok (.ifCond .le 35, 3) := by decide +kernel
theorem d5_94 : decode prog_4_method_14_code 94 = .ok (.iconst 0, 1) := by decide +kernel
theorem d5_62 : decode prog_4_method_14_code 62 = .ok (.aload_n 0, 1) := by decide +kernel
theorem d5_63 : decode prog_4_method_14_code 63 = .ok (.getfield 9, 3) := by decide +kernel
theorem d5_66 : decode prog_4_method_14_code 66 = .ok (.iload_n 1, 1) := by decide +kernel
theorem d5_67 : decode prog_4_method_14_code 67 = .ok (.daload, 1) := by decide +kernel
theorem d5_68 : decode prog_4_method_14_code 68 = .ok (.aload_n 0, 1) := by decide +kernel
theorem d5_69 : decode prog_4_method_14_code 69 = .ok (.getfield 21, 3) := by decide +kernel
theorem d5_72 : decode prog_4_method_14_code 72 = .ok (.dcmp .l, 1) := by decide +kernel
theorem d5_73 : decode prog_4_method_14_code 73 = .ok (.ifCond .eq 17, 3) := by decide +kernel
theorem d5_76 : decode prog_4_method_14_code 76 = .ok (.aload_n 0, 1) := by decide +kernel
theorem d5_77 : decode prog_4_method_14_code 77 = .ok (.getfield 9, 3) := by decide +kernel
theorem d5_80 : decode prog_4_method_14_code 80 = .ok (.iload_n 1, 1) := by decide +kernel
theorem d5_81 : decode prog_4_method_14_code 81 = .ok (.daload, 1) := by decide +kernel
theorem d5_82 : decode prog_4_method_14_code 82 = .ok (.aload_n 0, 1) := by decide +kernel
theorem d5_83 : decode prog_4_method_14_code 83 = .ok (.getfield 25, 3) := by decide +kernel
theorem d5_86 : decode prog_4_method_14_code 86 = .ok (.dcmp .l, 1) := by decide +kernel
theorem d5_87 : decode prog_4_method_14_code 87 = .ok (.ifCond .ne 7, 3) := by decide +kernel
theorem ef_4 (m : MethodId) (x0 : Addr) (x1 : Int32) : entryFrame m #[.ref x0, .int x1] 2 = mkF m 0 #[.val (.ref x0), .val (.int x1)] [] := by first | (simp [entryFrame, mkF, argsToLocals, Value.category, maxLocals]; done) | rfl
theorem d4_0 : decode prog_4_method_8_code 0 = .ok (.aload_n 0, 1) := by decide +kernel
theorem d4_1 : decode prog_4_method_8_code 1 = .ok (.getfield 13, 3) := by decide +kernel
theorem d4_4 : decode prog_4_method_8_code 4 = .ok (.iload_n 1, 1) := by decide +kernel
theorem d4_5 : decode prog_4_method_8_code 5 = .ok (.laload, 1) := by decide +kernel
theorem d4_6 : decode prog_4_method_8_code 6 = .ok (.lconst 1, 1) := by decide +kernel
theorem d4_7 : decode prog_4_method_8_code 7 = .ok (.lcmp, 1) := by decide +kernel
theorem d4_8 : decode prog_4_method_8_code 8 = .ok (.ifCond .eq 11, 3) := by decide +kernel
theorem d4_19 : decode prog_4_method_8_code 19 = .ok (.iconst 1, 1) := by decide +kernel
theorem d4_20 : decode prog_4_method_8_code 20 = .ok (.goto 4, 3) := by decide +kernel
theorem d4_24 : decode prog_4_method_8_code 24 = .ok (.ireturn, 1) := by decide +kernel
theorem d4_11 : decode prog_4_method_8_code 11 = .ok (.aload_n 0, 1) := by decide +kernel
theorem d4_12 : decode prog_4_method_8_code 12 = .ok (.iload_n 1, 1) := by decide +kernel
theorem d4_13 : decode prog_4_method_8_code 13 = .ok (.invokevirtual 53, 3) := by decide +kernel
theorem pd_0 : parseMethodDescriptor "(I)Z" = some ⟨[.int], some .boolean⟩ := by decide +kernel
theorem d4_16 : decode prog_4_method_8_code 16 = .ok (.ifCond .eq 7, 3) := by decide +kernel
theorem d4_23 : decode prog_4_method_8_code 23 = .ok (.iconst 0, 1) := by decide +kernel
theorem d5_4 : decode prog_4_method_14_code 4 = .ok (.aload_n 0, 1) := by decide +kernel
theorem d5_5 : decode prog_4_method_14_code 5 = .ok (.getfield 9, 3) := by decide +kernel
theorem d5_8 : decode prog_4_method_14_code 8 = .ok (.iload_n 1, 1) := by decide +kernel
theorem d5_9 : decode prog_4_method_14_code 9 = .ok (.iconst 1, 1) := by decide +kernel
theorem d5_10 : decode prog_4_method_14_code 10 = .ok (.isub, 1) := by decide +kernel
theorem d5_11 : decode prog_4_method_14_code 11 = .ok (.daload, 1) := by decide +kernel
theorem d5_12 : decode prog_4_method_14_code 12 = .ok (.aload_n 0, 1) := by decide +kernel
theorem d5_13 : decode prog_4_method_14_code 13 = .ok (.getfield 9, 3) := by decide +kernel
theorem d5_16 : decode prog_4_method_14_code 16 = .ok (.iload_n 1, 1) := by decide +kernel
theorem d5_17 : decode prog_4_method_14_code 17 = .ok (.daload, 1) := by decide +kernel
theorem d5_18 : decode prog_4_method_14_code 18 = .ok (.dcmp .l, 1) := by decide +kernel
theorem d5_19 : decode prog_4_method_14_code 19 = .ok (.ifCond .eq 71, 3) := by decide +kernel
theorem ef_0 (m : MethodId) (x0 : Int64) (x1 : Int32) (x2 : Int32) (x3 : Int32) (x4 : Int32) : entryFrame m #[.long x0, .int x1, .int x2, .int x3, .int x4] maxLocals = mkF m 0 #[.val (.long x0), .second, .val (.int x1), .val (.int x2), .val (.int x3), .val (.int x4), .unset, .unset, .unset, .unset, .unset, .unset, .unset, .unset, .unset, .unset, .unset, .unset, .unset, .unset, .unset, .unset, .unset, .unset, .unset, .unset, .unset, .unset, .unset, .unset, .unset] [] := by first | (simp [entryFrame, mkF, argsToLocals, Value.category, maxLocals]; done) | rfl
theorem pd_1 : parseMethodDescriptor "(JI)J" = some ⟨[.long, .int], some .long⟩ := by decide +kernel
theorem pd_2 : parseMethodDescriptor "([D[JJDD)V" = some ⟨[(.array .double), (.array .long), .long, .double, .double], none⟩ := by decide +kernel

theorem own_add_eq {a d : Int32} : a = a + d ↔ d = 0 := by
  constructor
  · intro h
    have : a + d = a + 0 := by rw [Int32.add_zero]; exact h.symm
    exact (by have q := congrArg (fun z => z - a) this; simpa [Int32.add_comm a, Int32.add_sub_cancel] using q)
  · intro h; rw [h, Int32.add_zero]
theorem own_i2d_eq {a b : Int32} : cmpValue (FP.dcmp (FP.i2d a) (FP.i2d b)) .l = 0 ↔ a = b := (dy_eq0 (dy_i2d a) (dy_i2d b) .l).trans Int32.toInt_inj
theorem own_step {a d : Int32} : cmpValue (FP.dcmp (FP.i2d a) (FP.i2d (a + d))) .l = 0 ↔ d = 0 := own_i2d_eq.trans own_add_eq
theorem own_step' {a d : Int32} : cmpValue (FP.dcmp (FP.i2d (a + d)) (FP.i2d a)) .l = 0 ↔ d = 0 := own_i2d_eq.trans (eq_comm.trans own_add_eq)

set_option maxRecDepth 65536 in
set_option maxHeartbeats 40000000 in
theorem c_init (l : Launch) (Z : State) (a0 : Array Value) (hw : ∀ d ∈ tables_1, d.before a0 Z = true) (n0 : Nat) (a am aw : Addr) (cnt : Int64) (mn mx : UInt64) (h0 : Heap) (F : List HRow) (H00 : Hp Z n0 h0 ((a, ObC Z "com/example/dipper/dipper/Centroids" [("com/example/dipper/dipper/Centroids", "means", "[D", .null), ("com/example/dipper/dipper/Centroids", "weights", "[J", .null), ("com/example/dipper/dipper/Centroids", "count", "J", .long 0), ("com/example/dipper/dipper/Centroids", "min", "D", .double 0), ("com/example/dipper/dipper/Centroids", "max", "D", .double 0)]) :: F)) :
    Con l Z n0 ⟨"com/example/dipper/dipper/Centroids", "<init>", "([D[JJDD)V"⟩ [] prog_4_method_1_code 9 none ({ frames := 1, cells := 0, slots := 0, locals := 12 } : Room) #[.ref a, .ref am, .ref aw, .long cnt, .double mn, .double mx] h0 (fun v h => v = none ∧ Hp Z n0 h ((a, ObC Z "com/example/dipper/dipper/Centroids" [("com/example/dipper/dipper/Centroids", "means", "[D", .ref am), ("com/example/dipper/dipper/Centroids", "weights", "[J", .ref aw), ("com/example/dipper/dipper/Centroids", "count", "J", .long cnt), ("com/example/dipper/dipper/Centroids", "min", "D", .double mn), ("com/example/dipper/dipper/Centroids", "max", "D", .double mx)]) :: F)) := by
  refine con_of (plainFor_of_name pn_Centroids) ?_
  intro p e s m below meth c T0 W0 e0
  have H0 : Hp Z n0 T0.heap ((a, ObC Z "com/example/dipper/dipper/Centroids" [("com/example/dipper/dipper/Centroids", "means", "[D", .null), ("com/example/dipper/dipper/Centroids", "weights", "[J", .null), ("com/example/dipper/dipper/Centroids", "count", "J", .long 0), ("com/example/dipper/dipper/Centroids", "min", "D", .double 0), ("com/example/dipper/dipper/Centroids", "max", "D", .double 0)]) :: F) := e0 ▸ H00
  refine g_cast (ef_2 m a am aw cnt mn mx) ?_
  refine g_aloadN W0 d2_0 (pc' := 1) rfl rfl rfl ?_
  refine g_initO W0 (wd_14 hw) (wd_15 hw) (wd_16 hw) H0 rfl d2_1 (pc' := 4) rfl (by decide) (Wn := 0) (Nat.le_of_eq rfl) (by decide) ?_
  intro T1 W1 H1
  refine g_aloadN W1 d2_4 (pc' := 5) rfl rfl rfl ?_
  refine g_aloadN W1 d2_5 (pc' := 6) rfl rfl rfl ?_
  refine g_putf W1 (wd_17 hw) Via.refl (Or.inr ⟨(wd_18 hw), rfl, rfl⟩) (wd_7 hw) (ty := (.array .double)) (by decide) rfl rfl H1 (i := 0) rfl (jx := 0) rfl d2_6 (pc' := 9) rfl (L' := ((a, ObC Z "com/example/dipper/dipper/Centroids" [("com/example/dipper/dipper/Centroids", "means", "[D", .ref am), ("com/example/dipper/dipper/Centroids", "weights", "[J", .null), ("com/example/dipper/dipper/Centroids", "count", "J", .long 0), ("com/example/dipper/dipper/Centroids", "min", "D", .double 0), ("com/example/dipper/dipper/Centroids", "max", "D", .double 0)]) :: F)) rfl ?_
  intro T2 W2 H2
  refine g_aloadN W2 d2_9 (pc' := 10) rfl rfl rfl ?_
  refine g_aloadN W2 d2_10 (pc' := 11) rfl rfl rfl ?_
  refine g_putf W2 (wd_19 hw) Via.refl (Or.inr ⟨(wd_20 hw), rfl, rfl⟩) (wd_7 hw) (ty := (.array .long)) (by decide) rfl rfl H2 (i := 0) rfl (jx := 1) rfl d2_11 (pc' := 14) rfl (L' := ((a, ObC Z "com/example/dipper/dipper/Centroids" [("com/example/dipper/dipper/Centroids", "means", "[D", .ref am), ("com/example/dipper/dipper/Centroids", "weights", "[J", .ref aw), ("com/example/dipper/dipper/Centroids", "count", "J", .long 0), ("com/example/dipper/dipper/Centroids", "min", "D", .double 0), ("com/example/dipper/dipper/Centroids", "max", "D", .double 0)]) :: F)) rfl ?_
  intro T3 W3 H3
  refine g_aloadN W3 d2_14 (pc' := 15) rfl rfl rfl ?_
  refine g_lloadN W3 d2_15 (pc' := 16) rfl rfl ?_
  refine g_putf W3 (wd_21 hw) Via.refl (Or.inr ⟨(wd_22 hw), rfl, rfl⟩) (wd_7 hw) (ty := .long) (by decide) rfl rfl H3 (i := 0) rfl (jx := 2) rfl d2_16 (pc' := 19) rfl (L' := ((a, ObC Z "com/example/dipper/dipper/Centroids" [("com/example/dipper/dipper/Centroids", "means", "[D", .ref am), ("com/example/dipper/dipper/Centroids", "weights", "[J", .ref aw), ("com/example/dipper/dipper/Centroids", "count", "J", .long cnt), ("com/example/dipper/dipper/Centroids", "min", "D", .double 0), ("com/example/dipper/dipper/Centroids", "max", "D", .double 0)]) :: F)) rfl ?_
  intro T4 W4 H4
  refine g_aloadN W4 d2_19 (pc' := 20) rfl rfl rfl ?_
  refine g_dload W4 d2_20 (pc' := 22) rfl rfl ?_
  refine g_putf W4 (wd_23 hw) Via.refl (Or.inr ⟨(wd_24 hw), rfl, rfl⟩) (wd_7 hw) (ty := .double) (by decide) rfl rfl H4 (i := 0) rfl (jx := 3) rfl d2_22 (pc' := 25) rfl (L' := ((a, ObC Z "com/example/dipper/dipper/Centroids" [("com/example/dipper/dipper/Centroids", "means", "[D", .ref am), ("com/example/dipper/dipper/Centroids", "weights", "[J", .ref aw), ("com/example/dipper/dipper/Centroids", "count", "J", .long cnt), ("com/example/dipper/dipper/Centroids", "min", "D", .double mn), ("com/example/dipper/dipper/Centroids", "max", "D", .double 0)]) :: F)) rfl ?_
  intro T5 W5 H5
  refine g_aloadN W5 d2_25 (pc' := 26) rfl rfl rfl ?_
  refine g_dload W5 d2_26 (pc' := 28) rfl rfl ?_
  refine g_putf W5 (wd_25 hw) Via.refl (Or.inr ⟨(wd_26 hw), rfl, rfl⟩) (wd_7 hw) (ty := .double) (by decide) rfl rfl H5 (i := 0) rfl (jx := 4) rfl d2_28 (pc' := 31) rfl (L' := ((a, ObC Z "com/example/dipper/dipper/Centroids" [("com/example/dipper/dipper/Centroids", "means", "[D", .ref am), ("com/example/dipper/dipper/Centroids", "weights", "[J", .ref aw), ("com/example/dipper/dipper/Centroids", "count", "J", .long cnt), ("com/example/dipper/dipper/Centroids", "min", "D", .double mn), ("com/example/dipper/dipper/Centroids", "max", "D", .double mx)]) :: F)) rfl ?_
  intro T6 W6 H6
  exact g_return W6 d2_31 ⟨rfl, H6⟩ (by decide) (by decide)
set_option maxRecDepth 65536 in
set_option maxHeartbeats 40000000 in
theorem c_weight (l : Launch) (Z : State) (a0 : Array Value) (hw : ∀ d ∈ tables_1, d.before a0 Z = true) (n0 : Nat) (q0 : Int64) (q1 : Int32) (h0 : Heap) (F : List HRow) (H00 : Hp Z n0 h0 F) :
    Con l Z n0 ⟨"com/example/dipper/dipper/CentroidsHoldsOneValuePinLaw", "weightOf", "(JI)J"⟩ [] method_2_code 4 (some .long) ({ frames := 0, cells := 0, slots := 0, locals := 0 } : Room) #[.long q0, .int q1] h0 (fun v h => (∃ r : Int64, v = some (.long r)) ∧ Hp Z n0 h F) := by
  refine con_of (plainFor_of_name pn_CentroidsHoldsOneValuePinLaw) ?_
  intro p e s m below meth c T0 W0 e0
  have H0 : Hp Z n0 T0.heap F := e0 ▸ H00
  refine g_cast (ef_1 m q0 q1) ?_
  refine g_lloadN W0 d1_0 (pc' := 1) rfl rfl ?_
  refine g_bipush W0 d1_1 (pc' := 3) rfl (v := (16 : Int32)) (by decide) ?_
  refine g_iloadN W0 d1_3 (pc' := 4) rfl rfl ?_
  refine g_imul W0 d1_4 (pc' := 5) rfl rfl ?_
  refine g_lushr W0 d1_5 (pc' := 6) rfl rfl ?_
  refine g_ldc2Long W0 (wd_4 hw) d1_6 (pc' := 9) rfl ?_
  refine g_land W0 d1_9 (pc' := 10) rfl rfl ?_
  refine g_l2i W0 d1_10 (pc' := 11) rfl rfl ?_
  refine g_istoreN W0 d1_11 (pc' := 12) rfl (ls' := #[.val (.long q0), .second, .val (.int q1), .val (.int ((XT.ushrL q0 ((16 : Int32) * q1)) &&& (65535 : Int64)).toInt32)]) rfl ?_
  refine g_iloadN W0 d1_12 (pc' := 13) rfl rfl ?_
  refine g_iconst W0 d1_13 (pc' := 14) rfl (v := (1 : Int32)) (by decide) ?_
  refine g_iand W0 d1_14 (pc' := 15) rfl rfl ?_
  refine g_if W0 d1_15 (pcy := 22) (by decide) (pc' := 18) rfl (fun (c1 : ¬ (((XT.ushrL q0 ((16 : Int32) * q1)) &&& (65535 : Int64)).toInt32 &&& (1 : Int32)) = (0 : Int32)) => ?_) (fun (c1 : ¬ ¬ (((XT.ushrL q0 ((16 : Int32) * q1)) &&& (65535 : Int64)).toInt32 &&& (1 : Int32)) = (0 : Int32)) => ?_)
  · refine g_ldc2Long W0 (wd_5 hw) d1_22 (pc' := 25) rfl ?_
    refine g_iloadN W0 d1_25 (pc' := 26) rfl rfl ?_
    refine g_iconst W0 d1_26 (pc' := 27) rfl (v := (1 : Int32)) (by decide) ?_
    refine g_iushr W0 d1_27 (pc' := 28) rfl rfl ?_
    refine g_i2l W0 d1_28 (pc' := 29) rfl rfl ?_
    refine g_ladd W0 d1_29 (pc' := 30) rfl rfl ?_
    exact g_lreturn W0 d1_30 ⟨⟨_, rfl⟩, H0⟩ (by decide) (by decide)
  · replace c1 := Classical.not_not.mp c1
    refine g_lconst W0 d1_18 (pc' := 19) rfl (v := (1 : Int64)) (by decide) ?_
    refine g_goto W0 d1_19 (pc' := 30) (by decide) ?_
    exact g_lreturn W0 d1_30 ⟨⟨_, rfl⟩, H0⟩ (by decide) (by decide)
set_option maxRecDepth 65536 in
set_option maxHeartbeats 40000000 in
theorem c_rep0 (l : Launch) (Z : State) (a0 : Array Value) (hw : ∀ d ∈ tables_1, d.before a0 Z = true) (n0 : Nat) (a am aw : Addr) (cnt : Int64) (mn mx : UInt64) (x0 x1 x2 x3 : UInt64) (u0 u1 u2 u3 : Int64) (r : Int32) (hr : r = if (False ∨ cmpValue (FP.dcmp x1 x0) .l = 0 ∨ ((1 : Int64) < u0 ∧ (cmpValue (FP.dcmp x0 mn) .l = 0 ∨ cmpValue (FP.dcmp x0 mx) .l = 0))) then 1 else 0) (h0 : Heap) (F : List HRow) (H00 : Hp Z n0 h0 ((a, ObC Z "com/example/dipper/dipper/Centroids" [("com/example/dipper/dipper/Centroids", "means", "[D", .ref am), ("com/example/dipper/dipper/Centroids", "weights", "[J", .ref aw), ("com/example/dipper/dipper/Centroids", "count", "J", .long cnt), ("com/example/dipper/dipper/Centroids", "min", "D", .double mn), ("com/example/dipper/dipper/Centroids", "max", "D", .double mx)]) :: (am, ArC Z .double [.double x0, .double x1, .double x2, .double x3]) :: (aw, ArC Z .long [.long u0, .long u1, .long u2, .long u3]) :: F)) :
    Con l Z n0 ⟨"com/example/dipper/dipper/Centroids", "repeats", "(I)Z"⟩ [] prog_4_method_14_code 2 (some .boolean) ({ frames := 0, cells := 0, slots := 0, locals := 0 } : Room) #[.ref a, .int (0 : Int32)] h0 (fun v h => v = some (.int r) ∧ Hp Z n0 h ((a, ObC Z "com/example/dipper/dipper/Centroids" [("com/example/dipper/dipper/Centroids", "means", "[D", .ref am), ("com/example/dipper/dipper/Centroids", "weights", "[J", .ref aw), ("com/example/dipper/dipper/Centroids", "count", "J", .long cnt), ("com/example/dipper/dipper/Centroids", "min", "D", .double mn), ("com/example/dipper/dipper/Centroids", "max", "D", .double mx)]) :: (am, ArC Z .double [.double x0, .double x1, .double x2, .double x3]) :: (aw, ArC Z .long [.long u0, .long u1, .long u2, .long u3]) :: F)) := by
  refine con_of (plainFor_of_name pn_Centroids) ?_
  intro p e s m below meth c T0 W0 e0
  have H0 : Hp Z n0 T0.heap ((a, ObC Z "com/example/dipper/dipper/Centroids" [("com/example/dipper/dipper/Centroids", "means", "[D", .ref am), ("com/example/dipper/dipper/Centroids", "weights", "[J", .ref aw), ("com/example/dipper/dipper/Centroids", "count", "J", .long cnt), ("com/example/dipper/dipper/Centroids", "min", "D", .double mn), ("com/example/dipper/dipper/Centroids", "max", "D", .double mx)]) :: (am, ArC Z .double [.double x0, .double x1, .double x2, .double x3]) :: (aw, ArC Z .long [.long u0, .long u1, .long u2, .long u3]) :: F) := e0 ▸ H00
  refine g_cast (ef_5 m a (0 : Int32)) ?_
  refine g_iloadN W0 d5_0 (pc' := 1) rfl rfl ?_
  refine g_if W0 d5_1 (pcy := 22) (by decide) (pc' := 4) rfl (fun _ => ?_) (fun (h : ¬ ¬ (0 : Int32) < (0 : Int32)) => absurd h (by decide))
  refine g_iloadN W0 d5_22 (pc' := 23) rfl rfl ?_
  refine g_iconst W0 d5_23 (pc' := 24) rfl (v := (1 : Int32)) (by decide) ?_
  refine g_iadd W0 d5_24 (pc' := 25) rfl (v := (1 : Int32)) (by decide) ?_
  refine g_aloadN W0 d5_25 (pc' := 26) rfl rfl rfl ?_
  refine g_getf W0 (wd_17 hw) Via.refl H0 (i := 0) rfl (jx := 0) rfl d5_26 (pc' := 29) rfl ?_
  intro T1 W1 H1
  refine g_arrlen W1 H1 (i := 1) rfl (x := (4 : Int32)) rfl d5_29 (pc' := 30) rfl ?_
  refine g_icmp W1 d5_30 (pcy := 51) (by decide) (pc' := 33) rfl (fun (h : ¬ (1 : Int32) < (4 : Int32)) => absurd h (by decide)) (fun _ => ?_)
  refine g_aloadN W1 d5_33 (pc' := 34) rfl rfl rfl ?_
  refine g_getf W1 (wd_17 hw) Via.refl H1 (i := 0) rfl (jx := 0) rfl d5_34 (pc' := 37) rfl ?_
  intro T2 W2 H2
  refine g_iloadN W2 d5_37 (pc' := 38) rfl rfl ?_
  refine g_iconst W2 d5_38 (pc' := 39) rfl (v := (1 : Int32)) (by decide) ?_
  refine g_iadd W2 d5_39 (pc' := 40) rfl (v := (1 : Int32)) (by decide) ?_
  refine g_daload W2 H2 (i := 1) rfl (jx := 1) (by decide) (v := .double x1) rfl d5_40 (pc' := 41) rfl ?_
  refine g_aloadN W2 d5_41 (pc' := 42) rfl rfl rfl ?_
  refine g_getf W2 (wd_17 hw) Via.refl H2 (i := 0) rfl (jx := 0) rfl d5_42 (pc' := 45) rfl ?_
  intro T3 W3 H3
  refine g_iloadN W3 d5_45 (pc' := 46) rfl rfl ?_
  refine g_daload W3 H3 (i := 1) rfl (jx := 0) (by decide) (v := .double x0) rfl d5_46 (pc' := 47) rfl ?_
  refine g_dcmp W3 d5_47 (pc' := 48) rfl rfl ?_
  refine g_if W3 d5_48 (pcy := 90) (by decide) (pc' := 51) rfl (fun (c4 : (cmpValue (FP.dcmp x1 x0) .l) = (0 : Int32)) => ?_) (fun (c4 : ¬ (cmpValue (FP.dcmp x1 x0) .l) = (0 : Int32)) => ?_)
  · refine g_iconst W3 d5_90 (pc' := 91) rfl (v := (1 : Int32)) (by decide) ?_
    refine g_goto W3 d5_91 (pc' := 95) (by decide) ?_
    exact g_zreturn W3 (by decide) d5_95 ⟨by rw [hr, if_pos (Or.inr (Or.inl c4))], H3⟩ (by decide) (by decide)
  · refine g_aloadN W3 d5_51 (pc' := 52) rfl rfl rfl ?_
    refine g_getf W3 (wd_19 hw) Via.refl H3 (i := 0) rfl (jx := 1) rfl d5_52 (pc' := 55) rfl ?_
    intro T5 W5 H5
    refine g_iloadN W5 d5_55 (pc' := 56) rfl rfl ?_
    refine g_laload W5 H5 (i := 2) rfl (jx := 0) (by decide) (v := .long u0) rfl d5_56 (pc' := 57) rfl ?_
    refine g_lconst W5 d5_57 (pc' := 58) rfl (v := (1 : Int64)) (by decide) ?_
    refine g_lcmp W5 d5_58 (pc' := 59) rfl rfl ?_
    refine g_if W5 d5_59 (pcy := 94) (by decide) (pc' := 62) rfl (fun (c6 : ¬ (0 : Int32) < (XT.cmpL u0 (1 : Int64))) => ?_) (fun (c6 : ¬ ¬ (0 : Int32) < (XT.cmpL u0 (1 : Int64))) => ?_)
    · refine g_iconst W5 d5_94 (pc' := 95) rfl (v := (0 : Int32)) (by decide) ?_
      exact g_zreturn W5 (by decide) d5_95 ⟨by rw [hr, if_neg (fun q => q.elim id (fun q => q.elim c4 (fun q => c6 (cmpL_gt0.mpr q.1))))], H5⟩ (by decide) (by decide)
    · replace c6 := Classical.not_not.mp c6
      refine g_aloadN W5 d5_62 (pc' := 63) rfl rfl rfl ?_
      refine g_getf W5 (wd_17 hw) Via.refl H5 (i := 0) rfl (jx := 0) rfl d5_63 (pc' := 66) rfl ?_
      intro T7 W7 H7
      refine g_iloadN W7 d5_66 (pc' := 67) rfl rfl ?_
      refine g_daload W7 H7 (i := 1) rfl (jx := 0) (by decide) (v := .double x0) rfl d5_67 (pc' := 68) rfl ?_
      refine g_aloadN W7 d5_68 (pc' := 69) rfl rfl rfl ?_
      refine g_getf W7 (wd_23 hw) Via.refl H7 (i := 0) rfl (jx := 3) rfl d5_69 (pc' := 72) rfl ?_
      intro T8 W8 H8
      refine g_dcmp W8 d5_72 (pc' := 73) rfl rfl ?_
      refine g_if W8 d5_73 (pcy := 90) (by decide) (pc' := 76) rfl (fun (c9 : (cmpValue (FP.dcmp x0 mn) .l) = (0 : Int32)) => ?_) (fun (c9 : ¬ (cmpValue (FP.dcmp x0 mn) .l) = (0 : Int32)) => ?_)
      · refine g_iconst W8 d5_90 (pc' := 91) rfl (v := (1 : Int32)) (by decide) ?_
        refine g_goto W8 d5_91 (pc' := 95) (by decide) ?_
        exact g_zreturn W8 (by decide) d5_95 ⟨by rw [hr, if_pos (Or.inr (Or.inr ⟨cmpL_gt0.mp c6, Or.inl c9⟩))], H8⟩ (by decide) (by decide)
      · refine g_aloadN W8 d5_76 (pc' := 77) rfl rfl rfl ?_
        refine g_getf W8 (wd_17 hw) Via.refl H8 (i := 0) rfl (jx := 0) rfl d5_77 (pc' := 80) rfl ?_
        intro T10 W10 H10
        refine g_iloadN W10 d5_80 (pc' := 81) rfl rfl ?_
        refine g_daload W10 H10 (i := 1) rfl (jx := 0) (by decide) (v := .double x0) rfl d5_81 (pc' := 82) rfl ?_
        refine g_aloadN W10 d5_82 (pc' := 83) rfl rfl rfl ?_
        refine g_getf W10 (wd_25 hw) Via.refl H10 (i := 0) rfl (jx := 4) rfl d5_83 (pc' := 86) rfl ?_
        intro T11 W11 H11
        refine g_dcmp W11 d5_86 (pc' := 87) rfl rfl ?_
        refine g_if W11 d5_87 (pcy := 94) (by decide) (pc' := 90) rfl (fun (c12 : ¬ (cmpValue (FP.dcmp x0 mx) .l) = (0 : Int32)) => ?_) (fun (c12 : ¬ ¬ (cmpValue (FP.dcmp x0 mx) .l) = (0 : Int32)) => ?_)
        · refine g_iconst W11 d5_94 (pc' := 95) rfl (v := (0 : Int32)) (by decide) ?_
          exact g_zreturn W11 (by decide) d5_95 ⟨by rw [hr, if_neg (fun q => q.elim id (fun q => q.elim c4 (fun q => q.2.elim c9 c12)))], H11⟩ (by decide) (by decide)
        · replace c12 := Classical.not_not.mp c12
          refine g_iconst W11 d5_90 (pc' := 91) rfl (v := (1 : Int32)) (by decide) ?_
          refine g_goto W11 d5_91 (pc' := 95) (by decide) ?_
          exact g_zreturn W11 (by decide) d5_95 ⟨by rw [hr, if_pos (Or.inr (Or.inr ⟨cmpL_gt0.mp c6, Or.inr c12⟩))], H11⟩ (by decide) (by decide)
set_option maxRecDepth 65536 in
set_option maxHeartbeats 40000000 in
theorem c_hold0 (l : Launch) (Z : State) (a0 : Array Value) (hw : ∀ d ∈ tables_1, d.before a0 Z = true) (n0 : Nat) (a am aw : Addr) (cnt : Int64) (mn mx : UInt64) (x0 x1 x2 x3 : UInt64) (u0 u1 u2 u3 : Int64) (r : Int32) (hr : r = if (u0 = 1 ∨ (False ∨ cmpValue (FP.dcmp x1 x0) .l = 0 ∨ ((1 : Int64) < u0 ∧ (cmpValue (FP.dcmp x0 mn) .l = 0 ∨ cmpValue (FP.dcmp x0 mx) .l = 0)))) then 1 else 0) (h0 : Heap) (F : List HRow) (H00 : Hp Z n0 h0 ((a, ObC Z "com/example/dipper/dipper/Centroids" [("com/example/dipper/dipper/Centroids", "means", "[D", .ref am), ("com/example/dipper/dipper/Centroids", "weights", "[J", .ref aw), ("com/example/dipper/dipper/Centroids", "count", "J", .long cnt), ("com/example/dipper/dipper/Centroids", "min", "D", .double mn), ("com/example/dipper/dipper/Centroids", "max", "D", .double mx)]) :: (am, ArC Z .double [.double x0, .double x1, .double x2, .double x3]) :: (aw, ArC Z .long [.long u0, .long u1, .long u2, .long u3]) :: F)) :
    Con l Z n0 ⟨"com/example/dipper/dipper/Centroids", "holdsOneValue", "(I)Z"⟩ [] prog_4_method_8_code 2 (some .boolean) ({ frames := 1, cells := 0, slots := 0, locals := 13 } : Room) #[.ref a, .int (0 : Int32)] h0 (fun v h => v = some (.int r) ∧ Hp Z n0 h ((a, ObC Z "com/example/dipper/dipper/Centroids" [("com/example/dipper/dipper/Centroids", "means", "[D", .ref am), ("com/example/dipper/dipper/Centroids", "weights", "[J", .ref aw), ("com/example/dipper/dipper/Centroids", "count", "J", .long cnt), ("com/example/dipper/dipper/Centroids", "min", "D", .double mn), ("com/example/dipper/dipper/Centroids", "max", "D", .double mx)]) :: (am, ArC Z .double [.double x0, .double x1, .double x2, .double x3]) :: (aw, ArC Z .long [.long u0, .long u1, .long u2, .long u3]) :: F)) := by
  refine con_of (plainFor_of_name pn_Centroids) ?_
  intro p e s m below meth c T0 W0 e0
  have H0 : Hp Z n0 T0.heap ((a, ObC Z "com/example/dipper/dipper/Centroids" [("com/example/dipper/dipper/Centroids", "means", "[D", .ref am), ("com/example/dipper/dipper/Centroids", "weights", "[J", .ref aw), ("com/example/dipper/dipper/Centroids", "count", "J", .long cnt), ("com/example/dipper/dipper/Centroids", "min", "D", .double mn), ("com/example/dipper/dipper/Centroids", "max", "D", .double mx)]) :: (am, ArC Z .double [.double x0, .double x1, .double x2, .double x3]) :: (aw, ArC Z .long [.long u0, .long u1, .long u2, .long u3]) :: F) := e0 ▸ H00
  refine g_cast (ef_4 m a (0 : Int32)) ?_
  refine g_aloadN W0 d4_0 (pc' := 1) rfl rfl rfl ?_
  refine g_getf W0 (wd_19 hw) Via.refl H0 (i := 0) rfl (jx := 1) rfl d4_1 (pc' := 4) rfl ?_
  intro T1 W1 H1
  refine g_iloadN W1 d4_4 (pc' := 5) rfl rfl ?_
  refine g_laload W1 H1 (i := 2) rfl (jx := 0) (by decide) (v := .long u0) rfl d4_5 (pc' := 6) rfl ?_
  refine g_lconst W1 d4_6 (pc' := 7) rfl (v := (1 : Int64)) (by decide) ?_
  refine g_lcmp W1 d4_7 (pc' := 8) rfl rfl ?_
  refine g_if W1 d4_8 (pcy := 19) (by decide) (pc' := 11) rfl (fun (c2 : (XT.cmpL u0 (1 : Int64)) = (0 : Int32)) => ?_) (fun (c2 : ¬ (XT.cmpL u0 (1 : Int64)) = (0 : Int32)) => ?_)
  · refine g_iconst W1 d4_19 (pc' := 20) rfl (v := (1 : Int32)) (by decide) ?_
    refine g_goto W1 d4_20 (pc' := 24) (by decide) ?_
    exact g_zreturn W1 (by decide) d4_24 ⟨by rw [hr, if_pos (Or.inl (cmpL_eq0.mp c2))], H1⟩ (by decide) (by decide)
  · refine g_aloadN W1 d4_11 (pc' := 12) rfl rfl rfl ?_
    refine g_iloadN W1 d4_12 (pc' := 13) rfl rfl ?_
    rcases Classical.em (False ∨ cmpValue (FP.dcmp x1 x0) .l = 0 ∨ ((1 : Int64) < u0 ∧ (cmpValue (FP.dcmp x0 mn) .l = 0 ∨ cmpValue (FP.dcmp x0 mx) .l = 0))) with hs | hs
    · refine g_callP W1 (argsL := [.int (0 : Int32)]) (st := []) (wd_32 hw) (wd_33 hw) (wd_34 hw) (wd_7 hw) (wd_8 hw) (wd_35 hw) (by decide) (a := a) H1 (i := 0) rfl (c_rep0 l Z a0 hw n0 a am aw cnt mn mx x0 x1 x2 x3 u0 u1 u2 u3 (1 : Int32) (if_pos hs).symm _ _ H1) pd_0 rfl rfl rfl d4_13 (pc' := 16) rfl (by decide) (Wn := 0) (Nat.le_of_eq rfl) (by decide) (kc' := 0) (ks' := 0) rfl rfl (by decide) (by decide) ?_
      intro T3 v3 W3 hp3
      obtain ⟨rfl, H3⟩ := hp3
      show Goes p e below _ (T3.setTop (mkF m 16 #[.val (.ref a), .val (.int (0 : Int32))] [.int (1 : Int32)]))
      refine g_if W3 d4_16 (pcy := 23) (by decide) (pc' := 19) rfl (fun (h : (1 : Int32) = (0 : Int32)) => absurd h (by decide)) (fun _ => ?_)
      refine g_iconst W3 d4_19 (pc' := 20) rfl (v := (1 : Int32)) (by decide) ?_
      refine g_goto W3 d4_20 (pc' := 24) (by decide) ?_
      exact g_zreturn W3 (by decide) d4_24 ⟨by rw [hr, if_pos (Or.inr hs)], H3⟩ (by decide) (by decide)
    · refine g_callP W1 (argsL := [.int (0 : Int32)]) (st := []) (wd_32 hw) (wd_33 hw) (wd_34 hw) (wd_7 hw) (wd_8 hw) (wd_35 hw) (by decide) (a := a) H1 (i := 0) rfl (c_rep0 l Z a0 hw n0 a am aw cnt mn mx x0 x1 x2 x3 u0 u1 u2 u3 (0 : Int32) (if_neg hs).symm _ _ H1) pd_0 rfl rfl rfl d4_13 (pc' := 16) rfl (by decide) (Wn := 0) (Nat.le_of_eq rfl) (by decide) (kc' := 0) (ks' := 0) rfl rfl (by decide) (by decide) ?_
      intro T4 v4 W4 hp4
      obtain ⟨rfl, H4⟩ := hp4
      show Goes p e below _ (T4.setTop (mkF m 16 #[.val (.ref a), .val (.int (0 : Int32))] [.int (0 : Int32)]))
      refine g_if W4 d4_16 (pcy := 23) (by decide) (pc' := 19) rfl (fun _ => ?_) (fun (h : ¬ (0 : Int32) = (0 : Int32)) => absurd h (by decide))
      refine g_iconst W4 d4_23 (pc' := 24) rfl (v := (0 : Int32)) (by decide) ?_
      exact g_zreturn W4 (by decide) d4_24 ⟨by rw [hr, if_neg (fun q => q.elim (fun q => c2 (cmpL_eq0.mpr q)) hs)], H4⟩ (by decide) (by decide)
set_option maxRecDepth 65536 in
set_option maxHeartbeats 40000000 in
theorem c_rep1 (l : Launch) (Z : State) (a0 : Array Value) (hw : ∀ d ∈ tables_1, d.before a0 Z = true) (n0 : Nat) (a am aw : Addr) (cnt : Int64) (mn mx : UInt64) (x0 x1 x2 x3 : UInt64) (u0 u1 u2 u3 : Int64) (r : Int32) (hr : r = if (cmpValue (FP.dcmp x0 x1) .l = 0 ∨ cmpValue (FP.dcmp x2 x1) .l = 0 ∨ ((1 : Int64) < u1 ∧ (cmpValue (FP.dcmp x1 mn) .l = 0 ∨ cmpValue (FP.dcmp x1 mx) .l = 0))) then 1 else 0) (h0 : Heap) (F : List HRow) (H00 : Hp Z n0 h0 ((a, ObC Z "com/example/dipper/dipper/Centroids" [("com/example/dipper/dipper/Centroids", "means", "[D", .ref am), ("com/example/dipper/dipper/Centroids", "weights", "[J", .ref aw), ("com/example/dipper/dipper/Centroids", "count", "J", .long cnt), ("com/example/dipper/dipper/Centroids", "min", "D", .double mn), ("com/example/dipper/dipper/Centroids", "max", "D", .double mx)]) :: (am, ArC Z .double [.double x0, .double x1, .double x2, .double x3]) :: (aw, ArC Z .long [.long u0, .long u1, .long u2, .long u3]) :: F)) :
    Con l Z n0 ⟨"com/example/dipper/dipper/Centroids", "repeats", "(I)Z"⟩ [] prog_4_method_14_code 2 (some .boolean) ({ frames := 0, cells := 0, slots := 0, locals := 0 } : Room) #[.ref a, .int (1 : Int32)] h0 (fun v h => v = some (.int r) ∧ Hp Z n0 h ((a, ObC Z "com/example/dipper/dipper/Centroids" [("com/example/dipper/dipper/Centroids", "means", "[D", .ref am), ("com/example/dipper/dipper/Centroids", "weights", "[J", .ref aw), ("com/example/dipper/dipper/Centroids", "count", "J", .long cnt), ("com/example/dipper/dipper/Centroids", "min", "D", .double mn), ("com/example/dipper/dipper/Centroids", "max", "D", .double mx)]) :: (am, ArC Z .double [.double x0, .double x1, .double x2, .double x3]) :: (aw, ArC Z .long [.long u0, .long u1, .long u2, .long u3]) :: F)) := by
  refine con_of (plainFor_of_name pn_Centroids) ?_
  intro p e s m below meth c T0 W0 e0
  have H0 : Hp Z n0 T0.heap ((a, ObC Z "com/example/dipper/dipper/Centroids" [("com/example/dipper/dipper/Centroids", "means", "[D", .ref am), ("com/example/dipper/dipper/Centroids", "weights", "[J", .ref aw), ("com/example/dipper/dipper/Centroids", "count", "J", .long cnt), ("com/example/dipper/dipper/Centroids", "min", "D", .double mn), ("com/example/dipper/dipper/Centroids", "max", "D", .double mx)]) :: (am, ArC Z .double [.double x0, .double x1, .double x2, .double x3]) :: (aw, ArC Z .long [.long u0, .long u1, .long u2, .long u3]) :: F) := e0 ▸ H00
  refine g_cast (ef_5 m a (1 : Int32)) ?_
  refine g_iloadN W0 d5_0 (pc' := 1) rfl rfl ?_
  refine g_if W0 d5_1 (pcy := 22) (by decide) (pc' := 4) rfl (fun (h : ¬ (0 : Int32) < (1 : Int32)) => absurd h (by decide)) (fun _ => ?_)
  refine g_aloadN W0 d5_4 (pc' := 5) rfl rfl rfl ?_
  refine g_getf W0 (wd_17 hw) Via.refl H0 (i := 0) rfl (jx := 0) rfl d5_5 (pc' := 8) rfl ?_
  intro T1 W1 H1
  refine g_iloadN W1 d5_8 (pc' := 9) rfl rfl ?_
  refine g_iconst W1 d5_9 (pc' := 10) rfl (v := (1 : Int32)) (by decide) ?_
  refine g_isub W1 d5_10 (pc' := 11) rfl (v := (0 : Int32)) (by decide) ?_
  refine g_daload W1 H1 (i := 1) rfl (jx := 0) (by decide) (v := .double x0) rfl d5_11 (pc' := 12) rfl ?_
  refine g_aloadN W1 d5_12 (pc' := 13) rfl rfl rfl ?_
  refine g_getf W1 (wd_17 hw) Via.refl H1 (i := 0) rfl (jx := 0) rfl d5_13 (pc' := 16) rfl ?_
  intro T2 W2 H2
  refine g_iloadN W2 d5_16 (pc' := 17) rfl rfl ?_
  refine g_daload W2 H2 (i := 1) rfl (jx := 1) (by decide) (v := .double x1) rfl d5_17 (pc' := 18) rfl ?_
  refine g_dcmp W2 d5_18 (pc' := 19) rfl rfl ?_
  refine g_if W2 d5_19 (pcy := 90) (by decide) (pc' := 22) rfl (fun (c3 : (cmpValue (FP.dcmp x0 x1) .l) = (0 : Int32)) => ?_) (fun (c3 : ¬ (cmpValue (FP.dcmp x0 x1) .l) = (0 : Int32)) => ?_)
  · refine g_iconst W2 d5_90 (pc' := 91) rfl (v := (1 : Int32)) (by decide) ?_
    refine g_goto W2 d5_91 (pc' := 95) (by decide) ?_
    exact g_zreturn W2 (by decide) d5_95 ⟨by rw [hr, if_pos (Or.inl c3)], H2⟩ (by decide) (by decide)
  · refine g_iloadN W2 d5_22 (pc' := 23) rfl rfl ?_
    refine g_iconst W2 d5_23 (pc' := 24) rfl (v := (1 : Int32)) (by decide) ?_
    refine g_iadd W2 d5_24 (pc' := 25) rfl (v := (2 : Int32)) (by decide) ?_
    refine g_aloadN W2 d5_25 (pc' := 26) rfl rfl rfl ?_
    refine g_getf W2 (wd_17 hw) Via.refl H2 (i := 0) rfl (jx := 0) rfl d5_26 (pc' := 29) rfl ?_
    intro T4 W4 H4
    refine g_arrlen W4 H4 (i := 1) rfl (x := (4 : Int32)) rfl d5_29 (pc' := 30) rfl ?_
    refine g_icmp W4 d5_30 (pcy := 51) (by decide) (pc' := 33) rfl (fun (h : ¬ (2 : Int32) < (4 : Int32)) => absurd h (by decide)) (fun _ => ?_)
    refine g_aloadN W4 d5_33 (pc' := 34) rfl rfl rfl ?_
    refine g_getf W4 (wd_17 hw) Via.refl H4 (i := 0) rfl (jx := 0) rfl d5_34 (pc' := 37) rfl ?_
    intro T5 W5 H5
    refine g_iloadN W5 d5_37 (pc' := 38) rfl rfl ?_
    refine g_iconst W5 d5_38 (pc' := 39) rfl (v := (1 : Int32)) (by decide) ?_
    refine g_iadd W5 d5_39 (pc' := 40) rfl (v := (2 : Int32)) (by decide) ?_
    refine g_daload W5 H5 (i := 1) rfl (jx := 2) (by decide) (v := .double x2) rfl d5_40 (pc' := 41) rfl ?_
    refine g_aloadN W5 d5_41 (pc' := 42) rfl rfl rfl ?_
    refine g_getf W5 (wd_17 hw) Via.refl H5 (i := 0) rfl (jx := 0) rfl d5_42 (pc' := 45) rfl ?_
    intro T6 W6 H6
    refine g_iloadN W6 d5_45 (pc' := 46) rfl rfl ?_
    refine g_daload W6 H6 (i := 1) rfl (jx := 1) (by decide) (v := .double x1) rfl d5_46 (pc' := 47) rfl ?_
    refine g_dcmp W6 d5_47 (pc' := 48) rfl rfl ?_
    refine g_if W6 d5_48 (pcy := 90) (by decide) (pc' := 51) rfl (fun (c7 : (cmpValue (FP.dcmp x2 x1) .l) = (0 : Int32)) => ?_) (fun (c7 : ¬ (cmpValue (FP.dcmp x2 x1) .l) = (0 : Int32)) => ?_)
    · refine g_iconst W6 d5_90 (pc' := 91) rfl (v := (1 : Int32)) (by decide) ?_
      refine g_goto W6 d5_91 (pc' := 95) (by decide) ?_
      exact g_zreturn W6 (by decide) d5_95 ⟨by rw [hr, if_pos (Or.inr (Or.inl c7))], H6⟩ (by decide) (by decide)
    · refine g_aloadN W6 d5_51 (pc' := 52) rfl rfl rfl ?_
      refine g_getf W6 (wd_19 hw) Via.refl H6 (i := 0) rfl (jx := 1) rfl d5_52 (pc' := 55) rfl ?_
      intro T8 W8 H8
      refine g_iloadN W8 d5_55 (pc' := 56) rfl rfl ?_
      refine g_laload W8 H8 (i := 2) rfl (jx := 1) (by decide) (v := .long u1) rfl d5_56 (pc' := 57) rfl ?_
      refine g_lconst W8 d5_57 (pc' := 58) rfl (v := (1 : Int64)) (by decide) ?_
      refine g_lcmp W8 d5_58 (pc' := 59) rfl rfl ?_
      refine g_if W8 d5_59 (pcy := 94) (by decide) (pc' := 62) rfl (fun (c9 : ¬ (0 : Int32) < (XT.cmpL u1 (1 : Int64))) => ?_) (fun (c9 : ¬ ¬ (0 : Int32) < (XT.cmpL u1 (1 : Int64))) => ?_)
      · refine g_iconst W8 d5_94 (pc' := 95) rfl (v := (0 : Int32)) (by decide) ?_
        exact g_zreturn W8 (by decide) d5_95 ⟨by rw [hr, if_neg (fun q => q.elim c3 (fun q => q.elim c7 (fun q => c9 (cmpL_gt0.mpr q.1))))], H8⟩ (by decide) (by decide)
      · replace c9 := Classical.not_not.mp c9
        refine g_aloadN W8 d5_62 (pc' := 63) rfl rfl rfl ?_
        refine g_getf W8 (wd_17 hw) Via.refl H8 (i := 0) rfl (jx := 0) rfl d5_63 (pc' := 66) rfl ?_
        intro T10 W10 H10
        refine g_iloadN W10 d5_66 (pc' := 67) rfl rfl ?_
        refine g_daload W10 H10 (i := 1) rfl (jx := 1) (by decide) (v := .double x1) rfl d5_67 (pc' := 68) rfl ?_
        refine g_aloadN W10 d5_68 (pc' := 69) rfl rfl rfl ?_
        refine g_getf W10 (wd_23 hw) Via.refl H10 (i := 0) rfl (jx := 3) rfl d5_69 (pc' := 72) rfl ?_
        intro T11 W11 H11
        refine g_dcmp W11 d5_72 (pc' := 73) rfl rfl ?_
        refine g_if W11 d5_73 (pcy := 90) (by decide) (pc' := 76) rfl (fun (c12 : (cmpValue (FP.dcmp x1 mn) .l) = (0 : Int32)) => ?_) (fun (c12 : ¬ (cmpValue (FP.dcmp x1 mn) .l) = (0 : Int32)) => ?_)
        · refine g_iconst W11 d5_90 (pc' := 91) rfl (v := (1 : Int32)) (by decide) ?_
          refine g_goto W11 d5_91 (pc' := 95) (by decide) ?_
          exact g_zreturn W11 (by decide) d5_95 ⟨by rw [hr, if_pos (Or.inr (Or.inr ⟨cmpL_gt0.mp c9, Or.inl c12⟩))], H11⟩ (by decide) (by decide)
        · refine g_aloadN W11 d5_76 (pc' := 77) rfl rfl rfl ?_
          refine g_getf W11 (wd_17 hw) Via.refl H11 (i := 0) rfl (jx := 0) rfl d5_77 (pc' := 80) rfl ?_
          intro T13 W13 H13
          refine g_iloadN W13 d5_80 (pc' := 81) rfl rfl ?_
          refine g_daload W13 H13 (i := 1) rfl (jx := 1) (by decide) (v := .double x1) rfl d5_81 (pc' := 82) rfl ?_
          refine g_aloadN W13 d5_82 (pc' := 83) rfl rfl rfl ?_
          refine g_getf W13 (wd_25 hw) Via.refl H13 (i := 0) rfl (jx := 4) rfl d5_83 (pc' := 86) rfl ?_
          intro T14 W14 H14
          refine g_dcmp W14 d5_86 (pc' := 87) rfl rfl ?_
          refine g_if W14 d5_87 (pcy := 94) (by decide) (pc' := 90) rfl (fun (c15 : ¬ (cmpValue (FP.dcmp x1 mx) .l) = (0 : Int32)) => ?_) (fun (c15 : ¬ ¬ (cmpValue (FP.dcmp x1 mx) .l) = (0 : Int32)) => ?_)
          · refine g_iconst W14 d5_94 (pc' := 95) rfl (v := (0 : Int32)) (by decide) ?_
            exact g_zreturn W14 (by decide) d5_95 ⟨by rw [hr, if_neg (fun q => q.elim c3 (fun q => q.elim c7 (fun q => q.2.elim c12 c15)))], H14⟩ (by decide) (by decide)
          · replace c15 := Classical.not_not.mp c15
            refine g_iconst W14 d5_90 (pc' := 91) rfl (v := (1 : Int32)) (by decide) ?_
            refine g_goto W14 d5_91 (pc' := 95) (by decide) ?_
            exact g_zreturn W14 (by decide) d5_95 ⟨by rw [hr, if_pos (Or.inr (Or.inr ⟨cmpL_gt0.mp c9, Or.inr c15⟩))], H14⟩ (by decide) (by decide)
set_option maxRecDepth 65536 in
set_option maxHeartbeats 40000000 in
theorem c_hold1 (l : Launch) (Z : State) (a0 : Array Value) (hw : ∀ d ∈ tables_1, d.before a0 Z = true) (n0 : Nat) (a am aw : Addr) (cnt : Int64) (mn mx : UInt64) (x0 x1 x2 x3 : UInt64) (u0 u1 u2 u3 : Int64) (r : Int32) (hr : r = if (u1 = 1 ∨ (cmpValue (FP.dcmp x0 x1) .l = 0 ∨ cmpValue (FP.dcmp x2 x1) .l = 0 ∨ ((1 : Int64) < u1 ∧ (cmpValue (FP.dcmp x1 mn) .l = 0 ∨ cmpValue (FP.dcmp x1 mx) .l = 0)))) then 1 else 0) (h0 : Heap) (F : List HRow) (H00 : Hp Z n0 h0 ((a, ObC Z "com/example/dipper/dipper/Centroids" [("com/example/dipper/dipper/Centroids", "means", "[D", .ref am), ("com/example/dipper/dipper/Centroids", "weights", "[J", .ref aw), ("com/example/dipper/dipper/Centroids", "count", "J", .long cnt), ("com/example/dipper/dipper/Centroids", "min", "D", .double mn), ("com/example/dipper/dipper/Centroids", "max", "D", .double mx)]) :: (am, ArC Z .double [.double x0, .double x1, .double x2, .double x3]) :: (aw, ArC Z .long [.long u0, .long u1, .long u2, .long u3]) :: F)) :
    Con l Z n0 ⟨"com/example/dipper/dipper/Centroids", "holdsOneValue", "(I)Z"⟩ [] prog_4_method_8_code 2 (some .boolean) ({ frames := 1, cells := 0, slots := 0, locals := 13 } : Room) #[.ref a, .int (1 : Int32)] h0 (fun v h => v = some (.int r) ∧ Hp Z n0 h ((a, ObC Z "com/example/dipper/dipper/Centroids" [("com/example/dipper/dipper/Centroids", "means", "[D", .ref am), ("com/example/dipper/dipper/Centroids", "weights", "[J", .ref aw), ("com/example/dipper/dipper/Centroids", "count", "J", .long cnt), ("com/example/dipper/dipper/Centroids", "min", "D", .double mn), ("com/example/dipper/dipper/Centroids", "max", "D", .double mx)]) :: (am, ArC Z .double [.double x0, .double x1, .double x2, .double x3]) :: (aw, ArC Z .long [.long u0, .long u1, .long u2, .long u3]) :: F)) := by
  refine con_of (plainFor_of_name pn_Centroids) ?_
  intro p e s m below meth c T0 W0 e0
  have H0 : Hp Z n0 T0.heap ((a, ObC Z "com/example/dipper/dipper/Centroids" [("com/example/dipper/dipper/Centroids", "means", "[D", .ref am), ("com/example/dipper/dipper/Centroids", "weights", "[J", .ref aw), ("com/example/dipper/dipper/Centroids", "count", "J", .long cnt), ("com/example/dipper/dipper/Centroids", "min", "D", .double mn), ("com/example/dipper/dipper/Centroids", "max", "D", .double mx)]) :: (am, ArC Z .double [.double x0, .double x1, .double x2, .double x3]) :: (aw, ArC Z .long [.long u0, .long u1, .long u2, .long u3]) :: F) := e0 ▸ H00
  refine g_cast (ef_4 m a (1 : Int32)) ?_
  refine g_aloadN W0 d4_0 (pc' := 1) rfl rfl rfl ?_
  refine g_getf W0 (wd_19 hw) Via.refl H0 (i := 0) rfl (jx := 1) rfl d4_1 (pc' := 4) rfl ?_
  intro T1 W1 H1
  refine g_iloadN W1 d4_4 (pc' := 5) rfl rfl ?_
  refine g_laload W1 H1 (i := 2) rfl (jx := 1) (by decide) (v := .long u1) rfl d4_5 (pc' := 6) rfl ?_
  refine g_lconst W1 d4_6 (pc' := 7) rfl (v := (1 : Int64)) (by decide) ?_
  refine g_lcmp W1 d4_7 (pc' := 8) rfl rfl ?_
  refine g_if W1 d4_8 (pcy := 19) (by decide) (pc' := 11) rfl (fun (c2 : (XT.cmpL u1 (1 : Int64)) = (0 : Int32)) => ?_) (fun (c2 : ¬ (XT.cmpL u1 (1 : Int64)) = (0 : Int32)) => ?_)
  · refine g_iconst W1 d4_19 (pc' := 20) rfl (v := (1 : Int32)) (by decide) ?_
    refine g_goto W1 d4_20 (pc' := 24) (by decide) ?_
    exact g_zreturn W1 (by decide) d4_24 ⟨by rw [hr, if_pos (Or.inl (cmpL_eq0.mp c2))], H1⟩ (by decide) (by decide)
  · refine g_aloadN W1 d4_11 (pc' := 12) rfl rfl rfl ?_
    refine g_iloadN W1 d4_12 (pc' := 13) rfl rfl ?_
    rcases Classical.em (cmpValue (FP.dcmp x0 x1) .l = 0 ∨ cmpValue (FP.dcmp x2 x1) .l = 0 ∨ ((1 : Int64) < u1 ∧ (cmpValue (FP.dcmp x1 mn) .l = 0 ∨ cmpValue (FP.dcmp x1 mx) .l = 0))) with hs | hs
    · refine g_callP W1 (argsL := [.int (1 : Int32)]) (st := []) (wd_32 hw) (wd_33 hw) (wd_34 hw) (wd_7 hw) (wd_8 hw) (wd_35 hw) (by decide) (a := a) H1 (i := 0) rfl (c_rep1 l Z a0 hw n0 a am aw cnt mn mx x0 x1 x2 x3 u0 u1 u2 u3 (1 : Int32) (if_pos hs).symm _ _ H1) pd_0 rfl rfl rfl d4_13 (pc' := 16) rfl (by decide) (Wn := 0) (Nat.le_of_eq rfl) (by decide) (kc' := 0) (ks' := 0) rfl rfl (by decide) (by decide) ?_
      intro T3 v3 W3 hp3
      obtain ⟨rfl, H3⟩ := hp3
      show Goes p e below _ (T3.setTop (mkF m 16 #[.val (.ref a), .val (.int (1 : Int32))] [.int (1 : Int32)]))
      refine g_if W3 d4_16 (pcy := 23) (by decide) (pc' := 19) rfl (fun (h : (1 : Int32) = (0 : Int32)) => absurd h (by decide)) (fun _ => ?_)
      refine g_iconst W3 d4_19 (pc' := 20) rfl (v := (1 : Int32)) (by decide) ?_
      refine g_goto W3 d4_20 (pc' := 24) (by decide) ?_
      exact g_zreturn W3 (by decide) d4_24 ⟨by rw [hr, if_pos (Or.inr hs)], H3⟩ (by decide) (by decide)
    · refine g_callP W1 (argsL := [.int (1 : Int32)]) (st := []) (wd_32 hw) (wd_33 hw) (wd_34 hw) (wd_7 hw) (wd_8 hw) (wd_35 hw) (by decide) (a := a) H1 (i := 0) rfl (c_rep1 l Z a0 hw n0 a am aw cnt mn mx x0 x1 x2 x3 u0 u1 u2 u3 (0 : Int32) (if_neg hs).symm _ _ H1) pd_0 rfl rfl rfl d4_13 (pc' := 16) rfl (by decide) (Wn := 0) (Nat.le_of_eq rfl) (by decide) (kc' := 0) (ks' := 0) rfl rfl (by decide) (by decide) ?_
      intro T4 v4 W4 hp4
      obtain ⟨rfl, H4⟩ := hp4
      show Goes p e below _ (T4.setTop (mkF m 16 #[.val (.ref a), .val (.int (1 : Int32))] [.int (0 : Int32)]))
      refine g_if W4 d4_16 (pcy := 23) (by decide) (pc' := 19) rfl (fun _ => ?_) (fun (h : ¬ (0 : Int32) = (0 : Int32)) => absurd h (by decide))
      refine g_iconst W4 d4_23 (pc' := 24) rfl (v := (0 : Int32)) (by decide) ?_
      exact g_zreturn W4 (by decide) d4_24 ⟨by rw [hr, if_neg (fun q => q.elim (fun q => c2 (cmpL_eq0.mpr q)) hs)], H4⟩ (by decide) (by decide)
set_option maxRecDepth 65536 in
set_option maxHeartbeats 40000000 in
theorem c_rep2 (l : Launch) (Z : State) (a0 : Array Value) (hw : ∀ d ∈ tables_1, d.before a0 Z = true) (n0 : Nat) (a am aw : Addr) (cnt : Int64) (mn mx : UInt64) (x0 x1 x2 x3 : UInt64) (u0 u1 u2 u3 : Int64) (r : Int32) (hr : r = if (cmpValue (FP.dcmp x1 x2) .l = 0 ∨ cmpValue (FP.dcmp x3 x2) .l = 0 ∨ ((1 : Int64) < u2 ∧ (cmpValue (FP.dcmp x2 mn) .l = 0 ∨ cmpValue (FP.dcmp x2 mx) .l = 0))) then 1 else 0) (h0 : Heap) (F : List HRow) (H00 : Hp Z n0 h0 ((a, ObC Z "com/example/dipper/dipper/Centroids" [("com/example/dipper/dipper/Centroids", "means", "[D", .ref am), ("com/example/dipper/dipper/Centroids", "weights", "[J", .ref aw), ("com/example/dipper/dipper/Centroids", "count", "J", .long cnt), ("com/example/dipper/dipper/Centroids", "min", "D", .double mn), ("com/example/dipper/dipper/Centroids", "max", "D", .double mx)]) :: (am, ArC Z .double [.double x0, .double x1, .double x2, .double x3]) :: (aw, ArC Z .long [.long u0, .long u1, .long u2, .long u3]) :: F)) :
    Con l Z n0 ⟨"com/example/dipper/dipper/Centroids", "repeats", "(I)Z"⟩ [] prog_4_method_14_code 2 (some .boolean) ({ frames := 0, cells := 0, slots := 0, locals := 0 } : Room) #[.ref a, .int (2 : Int32)] h0 (fun v h => v = some (.int r) ∧ Hp Z n0 h ((a, ObC Z "com/example/dipper/dipper/Centroids" [("com/example/dipper/dipper/Centroids", "means", "[D", .ref am), ("com/example/dipper/dipper/Centroids", "weights", "[J", .ref aw), ("com/example/dipper/dipper/Centroids", "count", "J", .long cnt), ("com/example/dipper/dipper/Centroids", "min", "D", .double mn), ("com/example/dipper/dipper/Centroids", "max", "D", .double mx)]) :: (am, ArC Z .double [.double x0, .double x1, .double x2, .double x3]) :: (aw, ArC Z .long [.long u0, .long u1, .long u2, .long u3]) :: F)) := by
  refine con_of (plainFor_of_name pn_Centroids) ?_
  intro p e s m below meth c T0 W0 e0
  have H0 : Hp Z n0 T0.heap ((a, ObC Z "com/example/dipper/dipper/Centroids" [("com/example/dipper/dipper/Centroids", "means", "[D", .ref am), ("com/example/dipper/dipper/Centroids", "weights", "[J", .ref aw), ("com/example/dipper/dipper/Centroids", "count", "J", .long cnt), ("com/example/dipper/dipper/Centroids", "min", "D", .double mn), ("com/example/dipper/dipper/Centroids", "max", "D", .double mx)]) :: (am, ArC Z .double [.double x0, .double x1, .double x2, .double x3]) :: (aw, ArC Z .long [.long u0, .long u1, .long u2, .long u3]) :: F) := e0 ▸ H00
  refine g_cast (ef_5 m a (2 : Int32)) ?_
  refine g_iloadN W0 d5_0 (pc' := 1) rfl rfl ?_
  refine g_if W0 d5_1 (pcy := 22) (by decide) (pc' := 4) rfl (fun (h : ¬ (0 : Int32) < (2 : Int32)) => absurd h (by decide)) (fun _ => ?_)
  refine g_aloadN W0 d5_4 (pc' := 5) rfl rfl rfl ?_
  refine g_getf W0 (wd_17 hw) Via.refl H0 (i := 0) rfl (jx := 0) rfl d5_5 (pc' := 8) rfl ?_
  intro T1 W1 H1
  refine g_iloadN W1 d5_8 (pc' := 9) rfl rfl ?_
  refine g_iconst W1 d5_9 (pc' := 10) rfl (v := (1 : Int32)) (by decide) ?_
  refine g_isub W1 d5_10 (pc' := 11) rfl (v := (1 : Int32)) (by decide) ?_
  refine g_daload W1 H1 (i := 1) rfl (jx := 1) (by decide) (v := .double x1) rfl d5_11 (pc' := 12) rfl ?_
  refine g_aloadN W1 d5_12 (pc' := 13) rfl rfl rfl ?_
  refine g_getf W1 (wd_17 hw) Via.refl H1 (i := 0) rfl (jx := 0) rfl d5_13 (pc' := 16) rfl ?_
  intro T2 W2 H2
  refine g_iloadN W2 d5_16 (pc' := 17) rfl rfl ?_
  refine g_daload W2 H2 (i := 1) rfl (jx := 2) (by decide) (v := .double x2) rfl d5_17 (pc' := 18) rfl ?_
  refine g_dcmp W2 d5_18 (pc' := 19) rfl rfl ?_
  refine g_if W2 d5_19 (pcy := 90) (by decide) (pc' := 22) rfl (fun (c3 : (cmpValue (FP.dcmp x1 x2) .l) = (0 : Int32)) => ?_) (fun (c3 : ¬ (cmpValue (FP.dcmp x1 x2) .l) = (0 : Int32)) => ?_)
  · refine g_iconst W2 d5_90 (pc' := 91) rfl (v := (1 : Int32)) (by decide) ?_
    refine g_goto W2 d5_91 (pc' := 95) (by decide) ?_
    exact g_zreturn W2 (by decide) d5_95 ⟨by rw [hr, if_pos (Or.inl c3)], H2⟩ (by decide) (by decide)
  · refine g_iloadN W2 d5_22 (pc' := 23) rfl rfl ?_
    refine g_iconst W2 d5_23 (pc' := 24) rfl (v := (1 : Int32)) (by decide) ?_
    refine g_iadd W2 d5_24 (pc' := 25) rfl (v := (3 : Int32)) (by decide) ?_
    refine g_aloadN W2 d5_25 (pc' := 26) rfl rfl rfl ?_
    refine g_getf W2 (wd_17 hw) Via.refl H2 (i := 0) rfl (jx := 0) rfl d5_26 (pc' := 29) rfl ?_
    intro T4 W4 H4
    refine g_arrlen W4 H4 (i := 1) rfl (x := (4 : Int32)) rfl d5_29 (pc' := 30) rfl ?_
    refine g_icmp W4 d5_30 (pcy := 51) (by decide) (pc' := 33) rfl (fun (h : ¬ (3 : Int32) < (4 : Int32)) => absurd h (by decide)) (fun _ => ?_)
    refine g_aloadN W4 d5_33 (pc' := 34) rfl rfl rfl ?_
    refine g_getf W4 (wd_17 hw) Via.refl H4 (i := 0) rfl (jx := 0) rfl d5_34 (pc' := 37) rfl ?_
    intro T5 W5 H5
    refine g_iloadN W5 d5_37 (pc' := 38) rfl rfl ?_
    refine g_iconst W5 d5_38 (pc' := 39) rfl (v := (1 : Int32)) (by decide) ?_
    refine g_iadd W5 d5_39 (pc' := 40) rfl (v := (3 : Int32)) (by decide) ?_
    refine g_daload W5 H5 (i := 1) rfl (jx := 3) (by decide) (v := .double x3) rfl d5_40 (pc' := 41) rfl ?_
    refine g_aloadN W5 d5_41 (pc' := 42) rfl rfl rfl ?_
    refine g_getf W5 (wd_17 hw) Via.refl H5 (i := 0) rfl (jx := 0) rfl d5_42 (pc' := 45) rfl ?_
    intro T6 W6 H6
    refine g_iloadN W6 d5_45 (pc' := 46) rfl rfl ?_
    refine g_daload W6 H6 (i := 1) rfl (jx := 2) (by decide) (v := .double x2) rfl d5_46 (pc' := 47) rfl ?_
    refine g_dcmp W6 d5_47 (pc' := 48) rfl rfl ?_
    refine g_if W6 d5_48 (pcy := 90) (by decide) (pc' := 51) rfl (fun (c7 : (cmpValue (FP.dcmp x3 x2) .l) = (0 : Int32)) => ?_) (fun (c7 : ¬ (cmpValue (FP.dcmp x3 x2) .l) = (0 : Int32)) => ?_)
    · refine g_iconst W6 d5_90 (pc' := 91) rfl (v := (1 : Int32)) (by decide) ?_
      refine g_goto W6 d5_91 (pc' := 95) (by decide) ?_
      exact g_zreturn W6 (by decide) d5_95 ⟨by rw [hr, if_pos (Or.inr (Or.inl c7))], H6⟩ (by decide) (by decide)
    · refine g_aloadN W6 d5_51 (pc' := 52) rfl rfl rfl ?_
      refine g_getf W6 (wd_19 hw) Via.refl H6 (i := 0) rfl (jx := 1) rfl d5_52 (pc' := 55) rfl ?_
      intro T8 W8 H8
      refine g_iloadN W8 d5_55 (pc' := 56) rfl rfl ?_
      refine g_laload W8 H8 (i := 2) rfl (jx := 2) (by decide) (v := .long u2) rfl d5_56 (pc' := 57) rfl ?_
      refine g_lconst W8 d5_57 (pc' := 58) rfl (v := (1 : Int64)) (by decide) ?_
      refine g_lcmp W8 d5_58 (pc' := 59) rfl rfl ?_
      refine g_if W8 d5_59 (pcy := 94) (by decide) (pc' := 62) rfl (fun (c9 : ¬ (0 : Int32) < (XT.cmpL u2 (1 : Int64))) => ?_) (fun (c9 : ¬ ¬ (0 : Int32) < (XT.cmpL u2 (1 : Int64))) => ?_)
      · refine g_iconst W8 d5_94 (pc' := 95) rfl (v := (0 : Int32)) (by decide) ?_
        exact g_zreturn W8 (by decide) d5_95 ⟨by rw [hr, if_neg (fun q => q.elim c3 (fun q => q.elim c7 (fun q => c9 (cmpL_gt0.mpr q.1))))], H8⟩ (by decide) (by decide)
      · replace c9 := Classical.not_not.mp c9
        refine g_aloadN W8 d5_62 (pc' := 63) rfl rfl rfl ?_
        refine g_getf W8 (wd_17 hw) Via.refl H8 (i := 0) rfl (jx := 0) rfl d5_63 (pc' := 66) rfl ?_
        intro T10 W10 H10
        refine g_iloadN W10 d5_66 (pc' := 67) rfl rfl ?_
        refine g_daload W10 H10 (i := 1) rfl (jx := 2) (by decide) (v := .double x2) rfl d5_67 (pc' := 68) rfl ?_
        refine g_aloadN W10 d5_68 (pc' := 69) rfl rfl rfl ?_
        refine g_getf W10 (wd_23 hw) Via.refl H10 (i := 0) rfl (jx := 3) rfl d5_69 (pc' := 72) rfl ?_
        intro T11 W11 H11
        refine g_dcmp W11 d5_72 (pc' := 73) rfl rfl ?_
        refine g_if W11 d5_73 (pcy := 90) (by decide) (pc' := 76) rfl (fun (c12 : (cmpValue (FP.dcmp x2 mn) .l) = (0 : Int32)) => ?_) (fun (c12 : ¬ (cmpValue (FP.dcmp x2 mn) .l) = (0 : Int32)) => ?_)
        · refine g_iconst W11 d5_90 (pc' := 91) rfl (v := (1 : Int32)) (by decide) ?_
          refine g_goto W11 d5_91 (pc' := 95) (by decide) ?_
          exact g_zreturn W11 (by decide) d5_95 ⟨by rw [hr, if_pos (Or.inr (Or.inr ⟨cmpL_gt0.mp c9, Or.inl c12⟩))], H11⟩ (by decide) (by decide)
        · refine g_aloadN W11 d5_76 (pc' := 77) rfl rfl rfl ?_
          refine g_getf W11 (wd_17 hw) Via.refl H11 (i := 0) rfl (jx := 0) rfl d5_77 (pc' := 80) rfl ?_
          intro T13 W13 H13
          refine g_iloadN W13 d5_80 (pc' := 81) rfl rfl ?_
          refine g_daload W13 H13 (i := 1) rfl (jx := 2) (by decide) (v := .double x2) rfl d5_81 (pc' := 82) rfl ?_
          refine g_aloadN W13 d5_82 (pc' := 83) rfl rfl rfl ?_
          refine g_getf W13 (wd_25 hw) Via.refl H13 (i := 0) rfl (jx := 4) rfl d5_83 (pc' := 86) rfl ?_
          intro T14 W14 H14
          refine g_dcmp W14 d5_86 (pc' := 87) rfl rfl ?_
          refine g_if W14 d5_87 (pcy := 94) (by decide) (pc' := 90) rfl (fun (c15 : ¬ (cmpValue (FP.dcmp x2 mx) .l) = (0 : Int32)) => ?_) (fun (c15 : ¬ ¬ (cmpValue (FP.dcmp x2 mx) .l) = (0 : Int32)) => ?_)
          · refine g_iconst W14 d5_94 (pc' := 95) rfl (v := (0 : Int32)) (by decide) ?_
            exact g_zreturn W14 (by decide) d5_95 ⟨by rw [hr, if_neg (fun q => q.elim c3 (fun q => q.elim c7 (fun q => q.2.elim c12 c15)))], H14⟩ (by decide) (by decide)
          · replace c15 := Classical.not_not.mp c15
            refine g_iconst W14 d5_90 (pc' := 91) rfl (v := (1 : Int32)) (by decide) ?_
            refine g_goto W14 d5_91 (pc' := 95) (by decide) ?_
            exact g_zreturn W14 (by decide) d5_95 ⟨by rw [hr, if_pos (Or.inr (Or.inr ⟨cmpL_gt0.mp c9, Or.inr c15⟩))], H14⟩ (by decide) (by decide)
set_option maxRecDepth 65536 in
set_option maxHeartbeats 40000000 in
theorem c_hold2 (l : Launch) (Z : State) (a0 : Array Value) (hw : ∀ d ∈ tables_1, d.before a0 Z = true) (n0 : Nat) (a am aw : Addr) (cnt : Int64) (mn mx : UInt64) (x0 x1 x2 x3 : UInt64) (u0 u1 u2 u3 : Int64) (r : Int32) (hr : r = if (u2 = 1 ∨ (cmpValue (FP.dcmp x1 x2) .l = 0 ∨ cmpValue (FP.dcmp x3 x2) .l = 0 ∨ ((1 : Int64) < u2 ∧ (cmpValue (FP.dcmp x2 mn) .l = 0 ∨ cmpValue (FP.dcmp x2 mx) .l = 0)))) then 1 else 0) (h0 : Heap) (F : List HRow) (H00 : Hp Z n0 h0 ((a, ObC Z "com/example/dipper/dipper/Centroids" [("com/example/dipper/dipper/Centroids", "means", "[D", .ref am), ("com/example/dipper/dipper/Centroids", "weights", "[J", .ref aw), ("com/example/dipper/dipper/Centroids", "count", "J", .long cnt), ("com/example/dipper/dipper/Centroids", "min", "D", .double mn), ("com/example/dipper/dipper/Centroids", "max", "D", .double mx)]) :: (am, ArC Z .double [.double x0, .double x1, .double x2, .double x3]) :: (aw, ArC Z .long [.long u0, .long u1, .long u2, .long u3]) :: F)) :
    Con l Z n0 ⟨"com/example/dipper/dipper/Centroids", "holdsOneValue", "(I)Z"⟩ [] prog_4_method_8_code 2 (some .boolean) ({ frames := 1, cells := 0, slots := 0, locals := 13 } : Room) #[.ref a, .int (2 : Int32)] h0 (fun v h => v = some (.int r) ∧ Hp Z n0 h ((a, ObC Z "com/example/dipper/dipper/Centroids" [("com/example/dipper/dipper/Centroids", "means", "[D", .ref am), ("com/example/dipper/dipper/Centroids", "weights", "[J", .ref aw), ("com/example/dipper/dipper/Centroids", "count", "J", .long cnt), ("com/example/dipper/dipper/Centroids", "min", "D", .double mn), ("com/example/dipper/dipper/Centroids", "max", "D", .double mx)]) :: (am, ArC Z .double [.double x0, .double x1, .double x2, .double x3]) :: (aw, ArC Z .long [.long u0, .long u1, .long u2, .long u3]) :: F)) := by
  refine con_of (plainFor_of_name pn_Centroids) ?_
  intro p e s m below meth c T0 W0 e0
  have H0 : Hp Z n0 T0.heap ((a, ObC Z "com/example/dipper/dipper/Centroids" [("com/example/dipper/dipper/Centroids", "means", "[D", .ref am), ("com/example/dipper/dipper/Centroids", "weights", "[J", .ref aw), ("com/example/dipper/dipper/Centroids", "count", "J", .long cnt), ("com/example/dipper/dipper/Centroids", "min", "D", .double mn), ("com/example/dipper/dipper/Centroids", "max", "D", .double mx)]) :: (am, ArC Z .double [.double x0, .double x1, .double x2, .double x3]) :: (aw, ArC Z .long [.long u0, .long u1, .long u2, .long u3]) :: F) := e0 ▸ H00
  refine g_cast (ef_4 m a (2 : Int32)) ?_
  refine g_aloadN W0 d4_0 (pc' := 1) rfl rfl rfl ?_
  refine g_getf W0 (wd_19 hw) Via.refl H0 (i := 0) rfl (jx := 1) rfl d4_1 (pc' := 4) rfl ?_
  intro T1 W1 H1
  refine g_iloadN W1 d4_4 (pc' := 5) rfl rfl ?_
  refine g_laload W1 H1 (i := 2) rfl (jx := 2) (by decide) (v := .long u2) rfl d4_5 (pc' := 6) rfl ?_
  refine g_lconst W1 d4_6 (pc' := 7) rfl (v := (1 : Int64)) (by decide) ?_
  refine g_lcmp W1 d4_7 (pc' := 8) rfl rfl ?_
  refine g_if W1 d4_8 (pcy := 19) (by decide) (pc' := 11) rfl (fun (c2 : (XT.cmpL u2 (1 : Int64)) = (0 : Int32)) => ?_) (fun (c2 : ¬ (XT.cmpL u2 (1 : Int64)) = (0 : Int32)) => ?_)
  · refine g_iconst W1 d4_19 (pc' := 20) rfl (v := (1 : Int32)) (by decide) ?_
    refine g_goto W1 d4_20 (pc' := 24) (by decide) ?_
    exact g_zreturn W1 (by decide) d4_24 ⟨by rw [hr, if_pos (Or.inl (cmpL_eq0.mp c2))], H1⟩ (by decide) (by decide)
  · refine g_aloadN W1 d4_11 (pc' := 12) rfl rfl rfl ?_
    refine g_iloadN W1 d4_12 (pc' := 13) rfl rfl ?_
    rcases Classical.em (cmpValue (FP.dcmp x1 x2) .l = 0 ∨ cmpValue (FP.dcmp x3 x2) .l = 0 ∨ ((1 : Int64) < u2 ∧ (cmpValue (FP.dcmp x2 mn) .l = 0 ∨ cmpValue (FP.dcmp x2 mx) .l = 0))) with hs | hs
    · refine g_callP W1 (argsL := [.int (2 : Int32)]) (st := []) (wd_32 hw) (wd_33 hw) (wd_34 hw) (wd_7 hw) (wd_8 hw) (wd_35 hw) (by decide) (a := a) H1 (i := 0) rfl (c_rep2 l Z a0 hw n0 a am aw cnt mn mx x0 x1 x2 x3 u0 u1 u2 u3 (1 : Int32) (if_pos hs).symm _ _ H1) pd_0 rfl rfl rfl d4_13 (pc' := 16) rfl (by decide) (Wn := 0) (Nat.le_of_eq rfl) (by decide) (kc' := 0) (ks' := 0) rfl rfl (by decide) (by decide) ?_
      intro T3 v3 W3 hp3
      obtain ⟨rfl, H3⟩ := hp3
      show Goes p e below _ (T3.setTop (mkF m 16 #[.val (.ref a), .val (.int (2 : Int32))] [.int (1 : Int32)]))
      refine g_if W3 d4_16 (pcy := 23) (by decide) (pc' := 19) rfl (fun (h : (1 : Int32) = (0 : Int32)) => absurd h (by decide)) (fun _ => ?_)
      refine g_iconst W3 d4_19 (pc' := 20) rfl (v := (1 : Int32)) (by decide) ?_
      refine g_goto W3 d4_20 (pc' := 24) (by decide) ?_
      exact g_zreturn W3 (by decide) d4_24 ⟨by rw [hr, if_pos (Or.inr hs)], H3⟩ (by decide) (by decide)
    · refine g_callP W1 (argsL := [.int (2 : Int32)]) (st := []) (wd_32 hw) (wd_33 hw) (wd_34 hw) (wd_7 hw) (wd_8 hw) (wd_35 hw) (by decide) (a := a) H1 (i := 0) rfl (c_rep2 l Z a0 hw n0 a am aw cnt mn mx x0 x1 x2 x3 u0 u1 u2 u3 (0 : Int32) (if_neg hs).symm _ _ H1) pd_0 rfl rfl rfl d4_13 (pc' := 16) rfl (by decide) (Wn := 0) (Nat.le_of_eq rfl) (by decide) (kc' := 0) (ks' := 0) rfl rfl (by decide) (by decide) ?_
      intro T4 v4 W4 hp4
      obtain ⟨rfl, H4⟩ := hp4
      show Goes p e below _ (T4.setTop (mkF m 16 #[.val (.ref a), .val (.int (2 : Int32))] [.int (0 : Int32)]))
      refine g_if W4 d4_16 (pcy := 23) (by decide) (pc' := 19) rfl (fun _ => ?_) (fun (h : ¬ (0 : Int32) = (0 : Int32)) => absurd h (by decide))
      refine g_iconst W4 d4_23 (pc' := 24) rfl (v := (0 : Int32)) (by decide) ?_
      exact g_zreturn W4 (by decide) d4_24 ⟨by rw [hr, if_neg (fun q => q.elim (fun q => c2 (cmpL_eq0.mpr q)) hs)], H4⟩ (by decide) (by decide)
set_option maxRecDepth 65536 in
set_option maxHeartbeats 40000000 in
theorem c_rep3 (l : Launch) (Z : State) (a0 : Array Value) (hw : ∀ d ∈ tables_1, d.before a0 Z = true) (n0 : Nat) (a am aw : Addr) (cnt : Int64) (mn mx : UInt64) (x0 x1 x2 x3 : UInt64) (u0 u1 u2 u3 : Int64) (r : Int32) (hr : r = if (cmpValue (FP.dcmp x2 x3) .l = 0 ∨ False ∨ ((1 : Int64) < u3 ∧ (cmpValue (FP.dcmp x3 mn) .l = 0 ∨ cmpValue (FP.dcmp x3 mx) .l = 0))) then 1 else 0) (h0 : Heap) (F : List HRow) (H00 : Hp Z n0 h0 ((a, ObC Z "com/example/dipper/dipper/Centroids" [("com/example/dipper/dipper/Centroids", "means", "[D", .ref am), ("com/example/dipper/dipper/Centroids", "weights", "[J", .ref aw), ("com/example/dipper/dipper/Centroids", "count", "J", .long cnt), ("com/example/dipper/dipper/Centroids", "min", "D", .double mn), ("com/example/dipper/dipper/Centroids", "max", "D", .double mx)]) :: (am, ArC Z .double [.double x0, .double x1, .double x2, .double x3]) :: (aw, ArC Z .long [.long u0, .long u1, .long u2, .long u3]) :: F)) :
    Con l Z n0 ⟨"com/example/dipper/dipper/Centroids", "repeats", "(I)Z"⟩ [] prog_4_method_14_code 2 (some .boolean) ({ frames := 0, cells := 0, slots := 0, locals := 0 } : Room) #[.ref a, .int (3 : Int32)] h0 (fun v h => v = some (.int r) ∧ Hp Z n0 h ((a, ObC Z "com/example/dipper/dipper/Centroids" [("com/example/dipper/dipper/Centroids", "means", "[D", .ref am), ("com/example/dipper/dipper/Centroids", "weights", "[J", .ref aw), ("com/example/dipper/dipper/Centroids", "count", "J", .long cnt), ("com/example/dipper/dipper/Centroids", "min", "D", .double mn), ("com/example/dipper/dipper/Centroids", "max", "D", .double mx)]) :: (am, ArC Z .double [.double x0, .double x1, .double x2, .double x3]) :: (aw, ArC Z .long [.long u0, .long u1, .long u2, .long u3]) :: F)) := by
  refine con_of (plainFor_of_name pn_Centroids) ?_
  intro p e s m below meth c T0 W0 e0
  have H0 : Hp Z n0 T0.heap ((a, ObC Z "com/example/dipper/dipper/Centroids" [("com/example/dipper/dipper/Centroids", "means", "[D", .ref am), ("com/example/dipper/dipper/Centroids", "weights", "[J", .ref aw), ("com/example/dipper/dipper/Centroids", "count", "J", .long cnt), ("com/example/dipper/dipper/Centroids", "min", "D", .double mn), ("com/example/dipper/dipper/Centroids", "max", "D", .double mx)]) :: (am, ArC Z .double [.double x0, .double x1, .double x2, .double x3]) :: (aw, ArC Z .long [.long u0, .long u1, .long u2, .long u3]) :: F) := e0 ▸ H00
  refine g_cast (ef_5 m a (3 : Int32)) ?_
  refine g_iloadN W0 d5_0 (pc' := 1) rfl rfl ?_
  refine g_if W0 d5_1 (pcy := 22) (by decide) (pc' := 4) rfl (fun (h : ¬ (0 : Int32) < (3 : Int32)) => absurd h (by decide)) (fun _ => ?_)
  refine g_aloadN W0 d5_4 (pc' := 5) rfl rfl rfl ?_
  refine g_getf W0 (wd_17 hw) Via.refl H0 (i := 0) rfl (jx := 0) rfl d5_5 (pc' := 8) rfl ?_
  intro T1 W1 H1
  refine g_iloadN W1 d5_8 (pc' := 9) rfl rfl ?_
  refine g_iconst W1 d5_9 (pc' := 10) rfl (v := (1 : Int32)) (by decide) ?_
  refine g_isub W1 d5_10 (pc' := 11) rfl (v := (2 : Int32)) (by decide) ?_
  refine g_daload W1 H1 (i := 1) rfl (jx := 2) (by decide) (v := .double x2) rfl d5_11 (pc' := 12) rfl ?_
  refine g_aloadN W1 d5_12 (pc' := 13) rfl rfl rfl ?_
  refine g_getf W1 (wd_17 hw) Via.refl H1 (i := 0) rfl (jx := 0) rfl d5_13 (pc' := 16) rfl ?_
  intro T2 W2 H2
  refine g_iloadN W2 d5_16 (pc' := 17) rfl rfl ?_
  refine g_daload W2 H2 (i := 1) rfl (jx := 3) (by decide) (v := .double x3) rfl d5_17 (pc' := 18) rfl ?_
  refine g_dcmp W2 d5_18 (pc' := 19) rfl rfl ?_
  refine g_if W2 d5_19 (pcy := 90) (by decide) (pc' := 22) rfl (fun (c3 : (cmpValue (FP.dcmp x2 x3) .l) = (0 : Int32)) => ?_) (fun (c3 : ¬ (cmpValue (FP.dcmp x2 x3) .l) = (0 : Int32)) => ?_)
  · refine g_iconst W2 d5_90 (pc' := 91) rfl (v := (1 : Int32)) (by decide) ?_
    refine g_goto W2 d5_91 (pc' := 95) (by decide) ?_
    exact g_zreturn W2 (by decide) d5_95 ⟨by rw [hr, if_pos (Or.inl c3)], H2⟩ (by decide) (by decide)
  · refine g_iloadN W2 d5_22 (pc' := 23) rfl rfl ?_
    refine g_iconst W2 d5_23 (pc' := 24) rfl (v := (1 : Int32)) (by decide) ?_
    refine g_iadd W2 d5_24 (pc' := 25) rfl (v := (4 : Int32)) (by decide) ?_
    refine g_aloadN W2 d5_25 (pc' := 26) rfl rfl rfl ?_
    refine g_getf W2 (wd_17 hw) Via.refl H2 (i := 0) rfl (jx := 0) rfl d5_26 (pc' := 29) rfl ?_
    intro T4 W4 H4
    refine g_arrlen W4 H4 (i := 1) rfl (x := (4 : Int32)) rfl d5_29 (pc' := 30) rfl ?_
    refine g_icmp W4 d5_30 (pcy := 51) (by decide) (pc' := 33) rfl (fun _ => ?_) (fun (h : ¬ ¬ (4 : Int32) < (4 : Int32)) => absurd h (by decide))
    refine g_aloadN W4 d5_51 (pc' := 52) rfl rfl rfl ?_
    refine g_getf W4 (wd_19 hw) Via.refl H4 (i := 0) rfl (jx := 1) rfl d5_52 (pc' := 55) rfl ?_
    intro T5 W5 H5
    refine g_iloadN W5 d5_55 (pc' := 56) rfl rfl ?_
    refine g_laload W5 H5 (i := 2) rfl (jx := 3) (by decide) (v := .long u3) rfl d5_56 (pc' := 57) rfl ?_
    refine g_lconst W5 d5_57 (pc' := 58) rfl (v := (1 : Int64)) (by decide) ?_
    refine g_lcmp W5 d5_58 (pc' := 59) rfl rfl ?_
    refine g_if W5 d5_59 (pcy := 94) (by decide) (pc' := 62) rfl (fun (c6 : ¬ (0 : Int32) < (XT.cmpL u3 (1 : Int64))) => ?_) (fun (c6 : ¬ ¬ (0 : Int32) < (XT.cmpL u3 (1 : Int64))) => ?_)
    · refine g_iconst W5 d5_94 (pc' := 95) rfl (v := (0 : Int32)) (by decide) ?_
      exact g_zreturn W5 (by decide) d5_95 ⟨by rw [hr, if_neg (fun q => q.elim c3 (fun q => q.elim id (fun q => c6 (cmpL_gt0.mpr q.1))))], H5⟩ (by decide) (by decide)
    · replace c6 := Classical.not_not.mp c6
      refine g_aloadN W5 d5_62 (pc' := 63) rfl rfl rfl ?_
      refine g_getf W5 (wd_17 hw) Via.refl H5 (i := 0) rfl (jx := 0) rfl d5_63 (pc' := 66) rfl ?_
      intro T7 W7 H7
      refine g_iloadN W7 d5_66 (pc' := 67) rfl rfl ?_
      refine g_daload W7 H7 (i := 1) rfl (jx := 3) (by decide) (v := .double x3) rfl d5_67 (pc' := 68) rfl ?_
      refine g_aloadN W7 d5_68 (pc' := 69) rfl rfl rfl ?_
      refine g_getf W7 (wd_23 hw) Via.refl H7 (i := 0) rfl (jx := 3) rfl d5_69 (pc' := 72) rfl ?_
      intro T8 W8 H8
      refine g_dcmp W8 d5_72 (pc' := 73) rfl rfl ?_
      refine g_if W8 d5_73 (pcy := 90) (by decide) (pc' := 76) rfl (fun (c9 : (cmpValue (FP.dcmp x3 mn) .l) = (0 : Int32)) => ?_) (fun (c9 : ¬ (cmpValue (FP.dcmp x3 mn) .l) = (0 : Int32)) => ?_)
      · refine g_iconst W8 d5_90 (pc' := 91) rfl (v := (1 : Int32)) (by decide) ?_
        refine g_goto W8 d5_91 (pc' := 95) (by decide) ?_
        exact g_zreturn W8 (by decide) d5_95 ⟨by rw [hr, if_pos (Or.inr (Or.inr ⟨cmpL_gt0.mp c6, Or.inl c9⟩))], H8⟩ (by decide) (by decide)
      · refine g_aloadN W8 d5_76 (pc' := 77) rfl rfl rfl ?_
        refine g_getf W8 (wd_17 hw) Via.refl H8 (i := 0) rfl (jx := 0) rfl d5_77 (pc' := 80) rfl ?_
        intro T10 W10 H10
        refine g_iloadN W10 d5_80 (pc' := 81) rfl rfl ?_
        refine g_daload W10 H10 (i := 1) rfl (jx := 3) (by decide) (v := .double x3) rfl d5_81 (pc' := 82) rfl ?_
        refine g_aloadN W10 d5_82 (pc' := 83) rfl rfl rfl ?_
        refine g_getf W10 (wd_25 hw) Via.refl H10 (i := 0) rfl (jx := 4) rfl d5_83 (pc' := 86) rfl ?_
        intro T11 W11 H11
        refine g_dcmp W11 d5_86 (pc' := 87) rfl rfl ?_
        refine g_if W11 d5_87 (pcy := 94) (by decide) (pc' := 90) rfl (fun (c12 : ¬ (cmpValue (FP.dcmp x3 mx) .l) = (0 : Int32)) => ?_) (fun (c12 : ¬ ¬ (cmpValue (FP.dcmp x3 mx) .l) = (0 : Int32)) => ?_)
        · refine g_iconst W11 d5_94 (pc' := 95) rfl (v := (0 : Int32)) (by decide) ?_
          exact g_zreturn W11 (by decide) d5_95 ⟨by rw [hr, if_neg (fun q => q.elim c3 (fun q => q.elim id (fun q => q.2.elim c9 c12)))], H11⟩ (by decide) (by decide)
        · replace c12 := Classical.not_not.mp c12
          refine g_iconst W11 d5_90 (pc' := 91) rfl (v := (1 : Int32)) (by decide) ?_
          refine g_goto W11 d5_91 (pc' := 95) (by decide) ?_
          exact g_zreturn W11 (by decide) d5_95 ⟨by rw [hr, if_pos (Or.inr (Or.inr ⟨cmpL_gt0.mp c6, Or.inr c12⟩))], H11⟩ (by decide) (by decide)
set_option maxRecDepth 65536 in
set_option maxHeartbeats 40000000 in
theorem c_hold3 (l : Launch) (Z : State) (a0 : Array Value) (hw : ∀ d ∈ tables_1, d.before a0 Z = true) (n0 : Nat) (a am aw : Addr) (cnt : Int64) (mn mx : UInt64) (x0 x1 x2 x3 : UInt64) (u0 u1 u2 u3 : Int64) (r : Int32) (hr : r = if (u3 = 1 ∨ (cmpValue (FP.dcmp x2 x3) .l = 0 ∨ False ∨ ((1 : Int64) < u3 ∧ (cmpValue (FP.dcmp x3 mn) .l = 0 ∨ cmpValue (FP.dcmp x3 mx) .l = 0)))) then 1 else 0) (h0 : Heap) (F : List HRow) (H00 : Hp Z n0 h0 ((a, ObC Z "com/example/dipper/dipper/Centroids" [("com/example/dipper/dipper/Centroids", "means", "[D", .ref am), ("com/example/dipper/dipper/Centroids", "weights", "[J", .ref aw), ("com/example/dipper/dipper/Centroids", "count", "J", .long cnt), ("com/example/dipper/dipper/Centroids", "min", "D", .double mn), ("com/example/dipper/dipper/Centroids", "max", "D", .double mx)]) :: (am, ArC Z .double [.double x0, .double x1, .double x2, .double x3]) :: (aw, ArC Z .long [.long u0, .long u1, .long u2, .long u3]) :: F)) :
    Con l Z n0 ⟨"com/example/dipper/dipper/Centroids", "holdsOneValue", "(I)Z"⟩ [] prog_4_method_8_code 2 (some .boolean) ({ frames := 1, cells := 0, slots := 0, locals := 13 } : Room) #[.ref a, .int (3 : Int32)] h0 (fun v h => v = some (.int r) ∧ Hp Z n0 h ((a, ObC Z "com/example/dipper/dipper/Centroids" [("com/example/dipper/dipper/Centroids", "means", "[D", .ref am), ("com/example/dipper/dipper/Centroids", "weights", "[J", .ref aw), ("com/example/dipper/dipper/Centroids", "count", "J", .long cnt), ("com/example/dipper/dipper/Centroids", "min", "D", .double mn), ("com/example/dipper/dipper/Centroids", "max", "D", .double mx)]) :: (am, ArC Z .double [.double x0, .double x1, .double x2, .double x3]) :: (aw, ArC Z .long [.long u0, .long u1, .long u2, .long u3]) :: F)) := by
  refine con_of (plainFor_of_name pn_Centroids) ?_
  intro p e s m below meth c T0 W0 e0
  have H0 : Hp Z n0 T0.heap ((a, ObC Z "com/example/dipper/dipper/Centroids" [("com/example/dipper/dipper/Centroids", "means", "[D", .ref am), ("com/example/dipper/dipper/Centroids", "weights", "[J", .ref aw), ("com/example/dipper/dipper/Centroids", "count", "J", .long cnt), ("com/example/dipper/dipper/Centroids", "min", "D", .double mn), ("com/example/dipper/dipper/Centroids", "max", "D", .double mx)]) :: (am, ArC Z .double [.double x0, .double x1, .double x2, .double x3]) :: (aw, ArC Z .long [.long u0, .long u1, .long u2, .long u3]) :: F) := e0 ▸ H00
  refine g_cast (ef_4 m a (3 : Int32)) ?_
  refine g_aloadN W0 d4_0 (pc' := 1) rfl rfl rfl ?_
  refine g_getf W0 (wd_19 hw) Via.refl H0 (i := 0) rfl (jx := 1) rfl d4_1 (pc' := 4) rfl ?_
  intro T1 W1 H1
  refine g_iloadN W1 d4_4 (pc' := 5) rfl rfl ?_
  refine g_laload W1 H1 (i := 2) rfl (jx := 3) (by decide) (v := .long u3) rfl d4_5 (pc' := 6) rfl ?_
  refine g_lconst W1 d4_6 (pc' := 7) rfl (v := (1 : Int64)) (by decide) ?_
  refine g_lcmp W1 d4_7 (pc' := 8) rfl rfl ?_
  refine g_if W1 d4_8 (pcy := 19) (by decide) (pc' := 11) rfl (fun (c2 : (XT.cmpL u3 (1 : Int64)) = (0 : Int32)) => ?_) (fun (c2 : ¬ (XT.cmpL u3 (1 : Int64)) = (0 : Int32)) => ?_)
  · refine g_iconst W1 d4_19 (pc' := 20) rfl (v := (1 : Int32)) (by decide) ?_
    refine g_goto W1 d4_20 (pc' := 24) (by decide) ?_
    exact g_zreturn W1 (by decide) d4_24 ⟨by rw [hr, if_pos (Or.inl (cmpL_eq0.mp c2))], H1⟩ (by decide) (by decide)
  · refine g_aloadN W1 d4_11 (pc' := 12) rfl rfl rfl ?_
    refine g_iloadN W1 d4_12 (pc' := 13) rfl rfl ?_
    rcases Classical.em (cmpValue (FP.dcmp x2 x3) .l = 0 ∨ False ∨ ((1 : Int64) < u3 ∧ (cmpValue (FP.dcmp x3 mn) .l = 0 ∨ cmpValue (FP.dcmp x3 mx) .l = 0))) with hs | hs
    · refine g_callP W1 (argsL := [.int (3 : Int32)]) (st := []) (wd_32 hw) (wd_33 hw) (wd_34 hw) (wd_7 hw) (wd_8 hw) (wd_35 hw) (by decide) (a := a) H1 (i := 0) rfl (c_rep3 l Z a0 hw n0 a am aw cnt mn mx x0 x1 x2 x3 u0 u1 u2 u3 (1 : Int32) (if_pos hs).symm _ _ H1) pd_0 rfl rfl rfl d4_13 (pc' := 16) rfl (by decide) (Wn := 0) (Nat.le_of_eq rfl) (by decide) (kc' := 0) (ks' := 0) rfl rfl (by decide) (by decide) ?_
      intro T3 v3 W3 hp3
      obtain ⟨rfl, H3⟩ := hp3
      show Goes p e below _ (T3.setTop (mkF m 16 #[.val (.ref a), .val (.int (3 : Int32))] [.int (1 : Int32)]))
      refine g_if W3 d4_16 (pcy := 23) (by decide) (pc' := 19) rfl (fun (h : (1 : Int32) = (0 : Int32)) => absurd h (by decide)) (fun _ => ?_)
      refine g_iconst W3 d4_19 (pc' := 20) rfl (v := (1 : Int32)) (by decide) ?_
      refine g_goto W3 d4_20 (pc' := 24) (by decide) ?_
      exact g_zreturn W3 (by decide) d4_24 ⟨by rw [hr, if_pos (Or.inr hs)], H3⟩ (by decide) (by decide)
    · refine g_callP W1 (argsL := [.int (3 : Int32)]) (st := []) (wd_32 hw) (wd_33 hw) (wd_34 hw) (wd_7 hw) (wd_8 hw) (wd_35 hw) (by decide) (a := a) H1 (i := 0) rfl (c_rep3 l Z a0 hw n0 a am aw cnt mn mx x0 x1 x2 x3 u0 u1 u2 u3 (0 : Int32) (if_neg hs).symm _ _ H1) pd_0 rfl rfl rfl d4_13 (pc' := 16) rfl (by decide) (Wn := 0) (Nat.le_of_eq rfl) (by decide) (kc' := 0) (ks' := 0) rfl rfl (by decide) (by decide) ?_
      intro T4 v4 W4 hp4
      obtain ⟨rfl, H4⟩ := hp4
      show Goes p e below _ (T4.setTop (mkF m 16 #[.val (.ref a), .val (.int (3 : Int32))] [.int (0 : Int32)]))
      refine g_if W4 d4_16 (pcy := 23) (by decide) (pc' := 19) rfl (fun _ => ?_) (fun (h : ¬ (0 : Int32) = (0 : Int32)) => absurd h (by decide))
      refine g_iconst W4 d4_23 (pc' := 24) rfl (v := (0 : Int32)) (by decide) ?_
      exact g_zreturn W4 (by decide) d4_24 ⟨by rw [hr, if_neg (fun q => q.elim (fun q => c2 (cmpL_eq0.mpr q)) hs)], H4⟩ (by decide) (by decide)
set_option maxRecDepth 65536 in
set_option maxHeartbeats 40000000 in
theorem law_con (l : Launch) (Z : State) (a0 : Array Value) (hw : ∀ d ∈ tables_1, d.before a0 Z = true) (n0 : Nat) (p0 : Int64) (p1 p2 p3 p4 : Int32) (h0 : Heap) (H00 : Hp Z n0 h0 []) :
    Con l Z n0 x tables_1 code maxLocals ret room_1 #[.long p0, .int p1, .int p2, .int p3, .int p4] h0 (fun v _ => v = some (.int 1)) := by
  refine con_of (plainFor_of_name pn_CentroidsHoldsOneValuePinLaw) ?_
  intro p e s m below meth c T0 W0 e0
  have H0 : Hp Z n0 T0.heap [] := e0 ▸ H00
  refine g_cast (ef_0 m p0 p1 p2 p3 p4) ?_
  refine g_iloadN W0 at_0 (pc' := 1) rfl rfl ?_
  refine g_bipush W0 at_1 (pc' := 3) rfl (v := (7 : Int32)) (by decide) ?_
  refine g_iand W0 at_3 (pc' := 4) rfl rfl ?_
  refine g_iconst W0 at_4 (pc' := 5) rfl (v := (4 : Int32)) (by decide) ?_
  refine g_isub W0 at_5 (pc' := 6) rfl rfl ?_
  generalize h_m0 : ((p1 &&& (7 : Int32)) - (4 : Int32)) = m0
  refine g_istore W0 at_6 (pc' := 8) rfl (ls' := #[.val (.long p0), .second, .val (.int p1), .val (.int p2), .val (.int p3), .val (.int p4), .val (.int m0), .unset, .unset, .unset, .unset, .unset, .unset, .unset, .unset, .unset, .unset, .unset, .unset, .unset, .unset, .unset, .unset, .unset, .unset, .unset, .unset, .unset, .unset, .unset, .unset]) rfl ?_
  refine g_iloadN W0 at_8 (pc' := 9) rfl rfl ?_
  refine g_iconst W0 at_9 (pc' := 10) rfl (v := (3 : Int32)) (by decide) ?_
  refine g_iushr W0 at_10 (pc' := 11) rfl rfl ?_
  refine g_iconst W0 at_11 (pc' := 12) rfl (v := (1 : Int32)) (by decide) ?_
  refine g_iand W0 at_12 (pc' := 13) rfl rfl ?_
  generalize h_d1 : ((XT.ushr p1 (3 : Int32)) &&& (1 : Int32)) = d1
  refine g_istore W0 at_13 (pc' := 15) rfl (ls' := #[.val (.long p0), .second, .val (.int p1), .val (.int p2), .val (.int p3), .val (.int p4), .val (.int m0), .val (.int d1), .unset, .unset, .unset, .unset, .unset, .unset, .unset, .unset, .unset, .unset, .unset, .unset, .unset, .unset, .unset, .unset, .unset, .unset, .unset, .unset, .unset, .unset, .unset]) rfl ?_
  refine g_iloadN W0 at_15 (pc' := 16) rfl rfl ?_
  refine g_iconst W0 at_16 (pc' := 17) rfl (v := (4 : Int32)) (by decide) ?_
  refine g_iushr W0 at_17 (pc' := 18) rfl rfl ?_
  refine g_iconst W0 at_18 (pc' := 19) rfl (v := (1 : Int32)) (by decide) ?_
  refine g_iand W0 at_19 (pc' := 20) rfl rfl ?_
  generalize h_d2 : ((XT.ushr p1 (4 : Int32)) &&& (1 : Int32)) = d2
  refine g_istore W0 at_20 (pc' := 22) rfl (ls' := #[.val (.long p0), .second, .val (.int p1), .val (.int p2), .val (.int p3), .val (.int p4), .val (.int m0), .val (.int d1), .val (.int d2), .unset, .unset, .unset, .unset, .unset, .unset, .unset, .unset, .unset, .unset, .unset, .unset, .unset, .unset, .unset, .unset, .unset, .unset, .unset, .unset, .unset, .unset]) rfl ?_
  refine g_iloadN W0 at_22 (pc' := 23) rfl rfl ?_
  refine g_iconst W0 at_23 (pc' := 24) rfl (v := (5 : Int32)) (by decide) ?_
  refine g_iushr W0 at_24 (pc' := 25) rfl rfl ?_
  refine g_iconst W0 at_25 (pc' := 26) rfl (v := (1 : Int32)) (by decide) ?_
  refine g_iand W0 at_26 (pc' := 27) rfl rfl ?_
  generalize h_d3 : ((XT.ushr p1 (5 : Int32)) &&& (1 : Int32)) = d3
  refine g_istore W0 at_27 (pc' := 29) rfl (ls' := #[.val (.long p0), .second, .val (.int p1), .val (.int p2), .val (.int p3), .val (.int p4), .val (.int m0), .val (.int d1), .val (.int d2), .val (.int d3), .unset, .unset, .unset, .unset, .unset, .unset, .unset, .unset, .unset, .unset, .unset, .unset, .unset, .unset, .unset, .unset, .unset, .unset, .unset, .unset, .unset]) rfl ?_
  refine g_iload W0 at_29 (pc' := 31) rfl rfl ?_
  refine g_iload W0 at_31 (pc' := 33) rfl rfl ?_
  refine g_iadd W0 at_33 (pc' := 34) rfl rfl ?_
  refine g_istore W0 at_34 (pc' := 36) rfl (ls' := #[.val (.long p0), .second, .val (.int p1), .val (.int p2), .val (.int p3), .val (.int p4), .val (.int m0), .val (.int d1), .val (.int d2), .val (.int d3), .val (.int (m0 + d1)), .unset, .unset, .unset, .unset, .unset, .unset, .unset, .unset, .unset, .unset, .unset, .unset, .unset, .unset, .unset, .unset, .unset, .unset, .unset, .unset]) rfl ?_
  refine g_iload W0 at_36 (pc' := 38) rfl rfl ?_
  refine g_iload W0 at_38 (pc' := 40) rfl rfl ?_
  refine g_iadd W0 at_40 (pc' := 41) rfl rfl ?_
  refine g_istore W0 at_41 (pc' := 43) rfl (ls' := #[.val (.long p0), .second, .val (.int p1), .val (.int p2), .val (.int p3), .val (.int p4), .val (.int m0), .val (.int d1), .val (.int d2), .val (.int d3), .val (.int (m0 + d1)), .val (.int ((m0 + d1) + d2)), .unset, .unset, .unset, .unset, .unset, .unset, .unset, .unset, .unset, .unset, .unset, .unset, .unset, .unset, .unset, .unset, .unset, .unset, .unset]) rfl ?_
  refine g_iload W0 at_43 (pc' := 45) rfl rfl ?_
  refine g_iload W0 at_45 (pc' := 47) rfl rfl ?_
  refine g_iadd W0 at_47 (pc' := 48) rfl rfl ?_
  refine g_istore W0 at_48 (pc' := 50) rfl (ls' := #[.val (.long p0), .second, .val (.int p1), .val (.int p2), .val (.int p3), .val (.int p4), .val (.int m0), .val (.int d1), .val (.int d2), .val (.int d3), .val (.int (m0 + d1)), .val (.int ((m0 + d1) + d2)), .val (.int (((m0 + d1) + d2) + d3)), .unset, .unset, .unset, .unset, .unset, .unset, .unset, .unset, .unset, .unset, .unset, .unset, .unset, .unset, .unset, .unset, .unset, .unset]) rfl ?_
  refine g_iload W0 at_50 (pc' := 52) rfl rfl ?_
  refine g_iloadN W0 at_52 (pc' := 53) rfl rfl ?_
  refine g_iconst W0 at_53 (pc' := 54) rfl (v := (1 : Int32)) (by decide) ?_
  refine g_iand W0 at_54 (pc' := 55) rfl rfl ?_
  refine g_isub W0 at_55 (pc' := 56) rfl rfl ?_
  generalize h_lo : (m0 - (p2 &&& (1 : Int32))) = lo
  refine g_istore W0 at_56 (pc' := 58) rfl (ls' := #[.val (.long p0), .second, .val (.int p1), .val (.int p2), .val (.int p3), .val (.int p4), .val (.int m0), .val (.int d1), .val (.int d2), .val (.int d3), .val (.int (m0 + d1)), .val (.int ((m0 + d1) + d2)), .val (.int (((m0 + d1) + d2) + d3)), .val (.int lo), .unset, .unset, .unset, .unset, .unset, .unset, .unset, .unset, .unset, .unset, .unset, .unset, .unset, .unset, .unset, .unset, .unset]) rfl ?_
  refine g_iload W0 at_58 (pc' := 60) rfl rfl ?_
  refine g_iload W0 at_60 (pc' := 62) rfl rfl ?_
  refine g_iconst W0 at_62 (pc' := 63) rfl (v := (1 : Int32)) (by decide) ?_
  refine g_iand W0 at_63 (pc' := 64) rfl rfl ?_
  refine g_iadd W0 at_64 (pc' := 65) rfl rfl ?_
  generalize h_hi : ((((m0 + d1) + d2) + d3) + (p3 &&& (1 : Int32))) = hi
  refine g_istore W0 at_65 (pc' := 67) rfl (ls' := #[.val (.long p0), .second, .val (.int p1), .val (.int p2), .val (.int p3), .val (.int p4), .val (.int m0), .val (.int d1), .val (.int d2), .val (.int d3), .val (.int (m0 + d1)), .val (.int ((m0 + d1) + d2)), .val (.int (((m0 + d1) + d2) + d3)), .val (.int lo), .val (.int hi), .unset, .unset, .unset, .unset, .unset, .unset, .unset, .unset, .unset, .unset, .unset, .unset, .unset, .unset, .unset, .unset]) rfl ?_
  refine g_lloadN W0 at_67 (pc' := 68) rfl rfl ?_
  refine g_iconst W0 at_68 (pc' := 69) rfl (v := (0 : Int32)) (by decide) ?_
  refine g_callS W0 (argsL := [.long p0, .int (0 : Int32)]) (st := []) (wd_0 hw) (wd_1 hw) (wd_2 hw) (wd_3 hw) (by decide) (c_weight l Z a0 hw n0 p0 (0 : Int32) _ _ H0) pd_1 rfl rfl rfl at_69 (pc' := 72) rfl (by decide) (Wn := 0) (Nat.le_of_eq rfl) (by decide) (kc' := 0) (ks' := 0) rfl rfl (by decide) (by decide) ?_
  intro T1 v1 W1 hp1
  obtain ⟨⟨u0, rfl⟩, H1⟩ := hp1
  show Goes p e below _ (T1.setTop (mkF m 72 #[.val (.long p0), .second, .val (.int p1), .val (.int p2), .val (.int p3), .val (.int p4), .val (.int m0), .val (.int d1), .val (.int d2), .val (.int d3), .val (.int (m0 + d1)), .val (.int ((m0 + d1) + d2)), .val (.int (((m0 + d1) + d2) + d3)), .val (.int lo), .val (.int hi), .unset, .unset, .unset, .unset, .unset, .unset, .unset, .unset, .unset, .unset, .unset, .unset, .unset, .unset, .unset, .unset] [.long u0]))
  refine g_lstore W1 at_72 (pc' := 74) rfl (ls' := #[.val (.long p0), .second, .val (.int p1), .val (.int p2), .val (.int p3), .val (.int p4), .val (.int m0), .val (.int d1), .val (.int d2), .val (.int d3), .val (.int (m0 + d1)), .val (.int ((m0 + d1) + d2)), .val (.int (((m0 + d1) + d2) + d3)), .val (.int lo), .val (.int hi), .val (.long u0), .second, .unset, .unset, .unset, .unset, .unset, .unset, .unset, .unset, .unset, .unset, .unset, .unset, .unset, .unset]) rfl ?_
  refine g_lloadN W1 at_74 (pc' := 75) rfl rfl ?_
  refine g_iconst W1 at_75 (pc' := 76) rfl (v := (1 : Int32)) (by decide) ?_
  refine g_callS W1 (argsL := [.long p0, .int (1 : Int32)]) (st := []) (wd_0 hw) (wd_1 hw) (wd_2 hw) (wd_3 hw) (by decide) (c_weight l Z a0 hw n0 p0 (1 : Int32) _ _ H1) pd_1 rfl rfl rfl at_76 (pc' := 79) rfl (by decide) (Wn := 0) (Nat.le_of_eq rfl) (by decide) (kc' := 0) (ks' := 0) rfl rfl (by decide) (by decide) ?_
  intro T2 v2 W2 hp2
  obtain ⟨⟨u1, rfl⟩, H2⟩ := hp2
  show Goes p e below _ (T2.setTop (mkF m 79 #[.val (.long p0), .second, .val (.int p1), .val (.int p2), .val (.int p3), .val (.int p4), .val (.int m0), .val (.int d1), .val (.int d2), .val (.int d3), .val (.int (m0 + d1)), .val (.int ((m0 + d1) + d2)), .val (.int (((m0 + d1) + d2) + d3)), .val (.int lo), .val (.int hi), .val (.long u0), .second, .unset, .unset, .unset, .unset, .unset, .unset, .unset, .unset, .unset, .unset, .unset, .unset, .unset, .unset] [.long u1]))
  refine g_lstore W2 at_79 (pc' := 81) rfl (ls' := #[.val (.long p0), .second, .val (.int p1), .val (.int p2), .val (.int p3), .val (.int p4), .val (.int m0), .val (.int d1), .val (.int d2), .val (.int d3), .val (.int (m0 + d1)), .val (.int ((m0 + d1) + d2)), .val (.int (((m0 + d1) + d2) + d3)), .val (.int lo), .val (.int hi), .val (.long u0), .second, .val (.long u1), .second, .unset, .unset, .unset, .unset, .unset, .unset, .unset, .unset, .unset, .unset, .unset, .unset]) rfl ?_
  refine g_lloadN W2 at_81 (pc' := 82) rfl rfl ?_
  refine g_iconst W2 at_82 (pc' := 83) rfl (v := (2 : Int32)) (by decide) ?_
  refine g_callS W2 (argsL := [.long p0, .int (2 : Int32)]) (st := []) (wd_0 hw) (wd_1 hw) (wd_2 hw) (wd_3 hw) (by decide) (c_weight l Z a0 hw n0 p0 (2 : Int32) _ _ H2) pd_1 rfl rfl rfl at_83 (pc' := 86) rfl (by decide) (Wn := 0) (Nat.le_of_eq rfl) (by decide) (kc' := 0) (ks' := 0) rfl rfl (by decide) (by decide) ?_
  intro T3 v3 W3 hp3
  obtain ⟨⟨u2, rfl⟩, H3⟩ := hp3
  show Goes p e below _ (T3.setTop (mkF m 86 #[.val (.long p0), .second, .val (.int p1), .val (.int p2), .val (.int p3), .val (.int p4), .val (.int m0), .val (.int d1), .val (.int d2), .val (.int d3), .val (.int (m0 + d1)), .val (.int ((m0 + d1) + d2)), .val (.int (((m0 + d1) + d2) + d3)), .val (.int lo), .val (.int hi), .val (.long u0), .second, .val (.long u1), .second, .unset, .unset, .unset, .unset, .unset, .unset, .unset, .unset, .unset, .unset, .unset, .unset] [.long u2]))
  refine g_lstore W3 at_86 (pc' := 88) rfl (ls' := #[.val (.long p0), .second, .val (.int p1), .val (.int p2), .val (.int p3), .val (.int p4), .val (.int m0), .val (.int d1), .val (.int d2), .val (.int d3), .val (.int (m0 + d1)), .val (.int ((m0 + d1) + d2)), .val (.int (((m0 + d1) + d2) + d3)), .val (.int lo), .val (.int hi), .val (.long u0), .second, .val (.long u1), .second, .val (.long u2), .second, .unset, .unset, .unset, .unset, .unset, .unset, .unset, .unset, .unset, .unset]) rfl ?_
  refine g_lloadN W3 at_88 (pc' := 89) rfl rfl ?_
  refine g_iconst W3 at_89 (pc' := 90) rfl (v := (3 : Int32)) (by decide) ?_
  refine g_callS W3 (argsL := [.long p0, .int (3 : Int32)]) (st := []) (wd_0 hw) (wd_1 hw) (wd_2 hw) (wd_3 hw) (by decide) (c_weight l Z a0 hw n0 p0 (3 : Int32) _ _ H3) pd_1 rfl rfl rfl at_90 (pc' := 93) rfl (by decide) (Wn := 0) (Nat.le_of_eq rfl) (by decide) (kc' := 0) (ks' := 0) rfl rfl (by decide) (by decide) ?_
  intro T4 v4 W4 hp4
  obtain ⟨⟨u3, rfl⟩, H4⟩ := hp4
  show Goes p e below _ (T4.setTop (mkF m 93 #[.val (.long p0), .second, .val (.int p1), .val (.int p2), .val (.int p3), .val (.int p4), .val (.int m0), .val (.int d1), .val (.int d2), .val (.int d3), .val (.int (m0 + d1)), .val (.int ((m0 + d1) + d2)), .val (.int (((m0 + d1) + d2) + d3)), .val (.int lo), .val (.int hi), .val (.long u0), .second, .val (.long u1), .second, .val (.long u2), .second, .unset, .unset, .unset, .unset, .unset, .unset, .unset, .unset, .unset, .unset] [.long u3]))
  refine g_lstore W4 at_93 (pc' := 95) rfl (ls' := #[.val (.long p0), .second, .val (.int p1), .val (.int p2), .val (.int p3), .val (.int p4), .val (.int m0), .val (.int d1), .val (.int d2), .val (.int d3), .val (.int (m0 + d1)), .val (.int ((m0 + d1) + d2)), .val (.int (((m0 + d1) + d2) + d3)), .val (.int lo), .val (.int hi), .val (.long u0), .second, .val (.long u1), .second, .val (.long u2), .second, .val (.long u3), .second, .unset, .unset, .unset, .unset, .unset, .unset, .unset, .unset]) rfl ?_
  refine g_iload W4 at_95 (pc' := 97) rfl rfl ?_
  refine g_iconst W4 at_97 (pc' := 98) rfl (v := (3 : Int32)) (by decide) ?_
  refine g_iand W4 at_98 (pc' := 99) rfl rfl ?_
  rcases and3 p4 with hn | hn | hn | hn
  · rw [hn]
    refine g_istore W4 at_99 (pc' := 101) rfl (ls' := #[.val (.long p0), .second, .val (.int p1), .val (.int p2), .val (.int p3), .val (.int p4), .val (.int m0), .val (.int d1), .val (.int d2), .val (.int d3), .val (.int (m0 + d1)), .val (.int ((m0 + d1) + d2)), .val (.int (((m0 + d1) + d2) + d3)), .val (.int lo), .val (.int hi), .val (.long u0), .second, .val (.long u1), .second, .val (.long u2), .second, .val (.long u3), .second, .val (.int (0 : Int32)), .unset, .unset, .unset, .unset, .unset, .unset, .unset]) rfl ?_
    refine g_new W4 (wd_6 hw) (wd_7 hw) (wd_8 hw) (la_Centroids hw) (by decide) H4 at_101 (pc' := 104) rfl (kc' := 1) (ks' := 5) rfl rfl (by decide) (by decide) ?_
    intro T5 a5 W5 H5
    refine g_dup W5 at_104 (pc' := 105) rfl rfl ?_
    refine g_iconst W5 at_105 (pc' := 106) rfl (v := (4 : Int32)) (by decide) ?_
    refine g_newarr (aty := .double) W5 (wd_9 hw) H5 (by decide) (vs := [.double 0, .double 0, .double 0, .double 0]) rfl (cap := 4) (Nat.le_of_eq rfl) (by decide) at_106 (pc' := 108) rfl (kc' := 2) (ks' := 9) rfl rfl (by decide) (by decide) ?_
    intro T6 a6 W6 H6
    replace H6 : Hp Z n0 T6.heap [(a6, ArC Z .double [.double 0, .double 0, .double 0, .double 0]), (a5, ObC Z "com/example/dipper/dipper/Centroids" [("com/example/dipper/dipper/Centroids", "means", "[D", .null), ("com/example/dipper/dipper/Centroids", "weights", "[J", .null), ("com/example/dipper/dipper/Centroids", "count", "J", .long 0), ("com/example/dipper/dipper/Centroids", "min", "D", .double 0), ("com/example/dipper/dipper/Centroids", "max", "D", .double 0)])] := H6
    refine g_dup W6 at_108 (pc' := 109) rfl rfl ?_
    refine g_iconst W6 at_109 (pc' := 110) rfl (v := (0 : Int32)) (by decide) ?_
    refine g_iload W6 at_110 (pc' := 112) rfl rfl ?_
    refine g_i2d W6 at_112 (pc' := 113) rfl rfl ?_
    refine g_dastore W6 H6 (i := 0) rfl (jx := 0) (by decide) (by exact (by decide : 0 < 4)) at_113 (pc' := 114) rfl (L' := [(a6, ArC Z .double [.double (FP.i2d m0), .double 0, .double 0, .double 0]), (a5, ObC Z "com/example/dipper/dipper/Centroids" [("com/example/dipper/dipper/Centroids", "means", "[D", .null), ("com/example/dipper/dipper/Centroids", "weights", "[J", .null), ("com/example/dipper/dipper/Centroids", "count", "J", .long 0), ("com/example/dipper/dipper/Centroids", "min", "D", .double 0), ("com/example/dipper/dipper/Centroids", "max", "D", .double 0)])]) rfl ?_
    intro T7 W7 H7
    refine g_dup W7 at_114 (pc' := 115) rfl rfl ?_
    refine g_iconst W7 at_115 (pc' := 116) rfl (v := (1 : Int32)) (by decide) ?_
    refine g_iload W7 at_116 (pc' := 118) rfl rfl ?_
    refine g_i2d W7 at_118 (pc' := 119) rfl rfl ?_
    refine g_dastore W7 H7 (i := 0) rfl (jx := 1) (by decide) (by exact (by decide : 1 < 4)) at_119 (pc' := 120) rfl (L' := [(a6, ArC Z .double [.double (FP.i2d m0), .double (FP.i2d (m0 + d1)), .double 0, .double 0]), (a5, ObC Z "com/example/dipper/dipper/Centroids" [("com/example/dipper/dipper/Centroids", "means", "[D", .null), ("com/example/dipper/dipper/Centroids", "weights", "[J", .null), ("com/example/dipper/dipper/Centroids", "count", "J", .long 0), ("com/example/dipper/dipper/Centroids", "min", "D", .double 0), ("com/example/dipper/dipper/Centroids", "max", "D", .double 0)])]) rfl ?_
    intro T8 W8 H8
    refine g_dup W8 at_120 (pc' := 121) rfl rfl ?_
    refine g_iconst W8 at_121 (pc' := 122) rfl (v := (2 : Int32)) (by decide) ?_
    refine g_iload W8 at_122 (pc' := 124) rfl rfl ?_
    refine g_i2d W8 at_124 (pc' := 125) rfl rfl ?_
    refine g_dastore W8 H8 (i := 0) rfl (jx := 2) (by decide) (by exact (by decide : 2 < 4)) at_125 (pc' := 126) rfl (L' := [(a6, ArC Z .double [.double (FP.i2d m0), .double (FP.i2d (m0 + d1)), .double (FP.i2d ((m0 + d1) + d2)), .double 0]), (a5, ObC Z "com/example/dipper/dipper/Centroids" [("com/example/dipper/dipper/Centroids", "means", "[D", .null), ("com/example/dipper/dipper/Centroids", "weights", "[J", .null), ("com/example/dipper/dipper/Centroids", "count", "J", .long 0), ("com/example/dipper/dipper/Centroids", "min", "D", .double 0), ("com/example/dipper/dipper/Centroids", "max", "D", .double 0)])]) rfl ?_
    intro T9 W9 H9
    refine g_dup W9 at_126 (pc' := 127) rfl rfl ?_
    refine g_iconst W9 at_127 (pc' := 128) rfl (v := (3 : Int32)) (by decide) ?_
    refine g_iload W9 at_128 (pc' := 130) rfl rfl ?_
    refine g_i2d W9 at_130 (pc' := 131) rfl rfl ?_
    refine g_dastore W9 H9 (i := 0) rfl (jx := 3) (by decide) (by exact (by decide : 3 < 4)) at_131 (pc' := 132) rfl (L' := [(a6, ArC Z .double [.double (FP.i2d m0), .double (FP.i2d (m0 + d1)), .double (FP.i2d ((m0 + d1) + d2)), .double (FP.i2d (((m0 + d1) + d2) + d3))]), (a5, ObC Z "com/example/dipper/dipper/Centroids" [("com/example/dipper/dipper/Centroids", "means", "[D", .null), ("com/example/dipper/dipper/Centroids", "weights", "[J", .null), ("com/example/dipper/dipper/Centroids", "count", "J", .long 0), ("com/example/dipper/dipper/Centroids", "min", "D", .double 0), ("com/example/dipper/dipper/Centroids", "max", "D", .double 0)])]) rfl ?_
    intro T10 W10 H10
    refine g_iconst W10 at_132 (pc' := 133) rfl (v := (4 : Int32)) (by decide) ?_
    refine g_newarr (aty := .long) W10 (wd_10 hw) H10 (by decide) (vs := [.long 0, .long 0, .long 0, .long 0]) rfl (cap := 4) (Nat.le_of_eq rfl) (by decide) at_133 (pc' := 135) rfl (kc' := 3) (ks' := 13) rfl rfl (by decide) (by decide) ?_
    intro T11 a11 W11 H11
    replace H11 : Hp Z n0 T11.heap [(a11, ArC Z .long [.long 0, .long 0, .long 0, .long 0]), (a6, ArC Z .double [.double (FP.i2d m0), .double (FP.i2d (m0 + d1)), .double (FP.i2d ((m0 + d1) + d2)), .double (FP.i2d (((m0 + d1) + d2) + d3))]), (a5, ObC Z "com/example/dipper/dipper/Centroids" [("com/example/dipper/dipper/Centroids", "means", "[D", .null), ("com/example/dipper/dipper/Centroids", "weights", "[J", .null), ("com/example/dipper/dipper/Centroids", "count", "J", .long 0), ("com/example/dipper/dipper/Centroids", "min", "D", .double 0), ("com/example/dipper/dipper/Centroids", "max", "D", .double 0)])] := H11
    refine g_dup W11 at_135 (pc' := 136) rfl rfl ?_
    refine g_iconst W11 at_136 (pc' := 137) rfl (v := (0 : Int32)) (by decide) ?_
    refine g_lload W11 at_137 (pc' := 139) rfl rfl ?_
    refine g_lastore W11 H11 (i := 0) rfl (jx := 0) (by decide) (by exact (by decide : 0 < 4)) at_139 (pc' := 140) rfl (L' := [(a11, ArC Z .long [.long u0, .long 0, .long 0, .long 0]), (a6, ArC Z .double [.double (FP.i2d m0), .double (FP.i2d (m0 + d1)), .double (FP.i2d ((m0 + d1) + d2)), .double (FP.i2d (((m0 + d1) + d2) + d3))]), (a5, ObC Z "com/example/dipper/dipper/Centroids" [("com/example/dipper/dipper/Centroids", "means", "[D", .null), ("com/example/dipper/dipper/Centroids", "weights", "[J", .null), ("com/example/dipper/dipper/Centroids", "count", "J", .long 0), ("com/example/dipper/dipper/Centroids", "min", "D", .double 0), ("com/example/dipper/dipper/Centroids", "max", "D", .double 0)])]) rfl ?_
    intro T12 W12 H12
    refine g_dup W12 at_140 (pc' := 141) rfl rfl ?_
    refine g_iconst W12 at_141 (pc' := 142) rfl (v := (1 : Int32)) (by decide) ?_
    refine g_lload W12 at_142 (pc' := 144) rfl rfl ?_
    refine g_lastore W12 H12 (i := 0) rfl (jx := 1) (by decide) (by exact (by decide : 1 < 4)) at_144 (pc' := 145) rfl (L' := [(a11, ArC Z .long [.long u0, .long u1, .long 0, .long 0]), (a6, ArC Z .double [.double (FP.i2d m0), .double (FP.i2d (m0 + d1)), .double (FP.i2d ((m0 + d1) + d2)), .double (FP.i2d (((m0 + d1) + d2) + d3))]), (a5, ObC Z "com/example/dipper/dipper/Centroids" [("com/example/dipper/dipper/Centroids", "means", "[D", .null), ("com/example/dipper/dipper/Centroids", "weights", "[J", .null), ("com/example/dipper/dipper/Centroids", "count", "J", .long 0), ("com/example/dipper/dipper/Centroids", "min", "D", .double 0), ("com/example/dipper/dipper/Centroids", "max", "D", .double 0)])]) rfl ?_
    intro T13 W13 H13
    refine g_dup W13 at_145 (pc' := 146) rfl rfl ?_
    refine g_iconst W13 at_146 (pc' := 147) rfl (v := (2 : Int32)) (by decide) ?_
    refine g_lload W13 at_147 (pc' := 149) rfl rfl ?_
    refine g_lastore W13 H13 (i := 0) rfl (jx := 2) (by decide) (by exact (by decide : 2 < 4)) at_149 (pc' := 150) rfl (L' := [(a11, ArC Z .long [.long u0, .long u1, .long u2, .long 0]), (a6, ArC Z .double [.double (FP.i2d m0), .double (FP.i2d (m0 + d1)), .double (FP.i2d ((m0 + d1) + d2)), .double (FP.i2d (((m0 + d1) + d2) + d3))]), (a5, ObC Z "com/example/dipper/dipper/Centroids" [("com/example/dipper/dipper/Centroids", "means", "[D", .null), ("com/example/dipper/dipper/Centroids", "weights", "[J", .null), ("com/example/dipper/dipper/Centroids", "count", "J", .long 0), ("com/example/dipper/dipper/Centroids", "min", "D", .double 0), ("com/example/dipper/dipper/Centroids", "max", "D", .double 0)])]) rfl ?_
    intro T14 W14 H14
    refine g_dup W14 at_150 (pc' := 151) rfl rfl ?_
    refine g_iconst W14 at_151 (pc' := 152) rfl (v := (3 : Int32)) (by decide) ?_
    refine g_lload W14 at_152 (pc' := 154) rfl rfl ?_
    refine g_lastore W14 H14 (i := 0) rfl (jx := 3) (by decide) (by exact (by decide : 3 < 4)) at_154 (pc' := 155) rfl (L' := [(a11, ArC Z .long [.long u0, .long u1, .long u2, .long u3]), (a6, ArC Z .double [.double (FP.i2d m0), .double (FP.i2d (m0 + d1)), .double (FP.i2d ((m0 + d1) + d2)), .double (FP.i2d (((m0 + d1) + d2) + d3))]), (a5, ObC Z "com/example/dipper/dipper/Centroids" [("com/example/dipper/dipper/Centroids", "means", "[D", .null), ("com/example/dipper/dipper/Centroids", "weights", "[J", .null), ("com/example/dipper/dipper/Centroids", "count", "J", .long 0), ("com/example/dipper/dipper/Centroids", "min", "D", .double 0), ("com/example/dipper/dipper/Centroids", "max", "D", .double 0)])]) rfl ?_
    intro T15 W15 H15
    refine g_lload W15 at_155 (pc' := 157) rfl rfl ?_
    refine g_lload W15 at_157 (pc' := 159) rfl rfl ?_
    refine g_ladd W15 at_159 (pc' := 160) rfl rfl ?_
    refine g_lload W15 at_160 (pc' := 162) rfl rfl ?_
    refine g_ladd W15 at_162 (pc' := 163) rfl rfl ?_
    refine g_lload W15 at_163 (pc' := 165) rfl rfl ?_
    refine g_ladd W15 at_165 (pc' := 166) rfl rfl ?_
    refine g_iload W15 at_166 (pc' := 168) rfl rfl ?_
    refine g_i2d W15 at_168 (pc' := 169) rfl rfl ?_
    refine g_iload W15 at_169 (pc' := 171) rfl rfl ?_
    refine g_i2d W15 at_171 (pc' := 172) rfl rfl ?_
    have H16f : Hp Z n0 T15.heap [(a5, ObC Z "com/example/dipper/dipper/Centroids" [("com/example/dipper/dipper/Centroids", "means", "[D", .null), ("com/example/dipper/dipper/Centroids", "weights", "[J", .null), ("com/example/dipper/dipper/Centroids", "count", "J", .long 0), ("com/example/dipper/dipper/Centroids", "min", "D", .double 0), ("com/example/dipper/dipper/Centroids", "max", "D", .double 0)]), (a11, ArC Z .long [.long u0, .long u1, .long u2, .long u3]), (a6, ArC Z .double [.double (FP.i2d m0), .double (FP.i2d (m0 + d1)), .double (FP.i2d ((m0 + d1) + d2)), .double (FP.i2d (((m0 + d1) + d2) + d3))])] := H15.front (i := 2) rfl rfl
    refine g_callI W15 (argsL := [.ref a6, .ref a11, .long (((u0 + u1) + u2) + u3), .double (FP.i2d lo), .double (FP.i2d hi)]) (st := [.ref a5]) rfl (wd_11 hw) (wd_12 hw) (wd_8 hw) (wd_13 hw) (by decide) (a := a5) (c_init l Z a0 hw n0 a5 a6 a11 (((u0 + u1) + u2) + u3) (FP.i2d lo) (FP.i2d hi) _ _ H16f) pd_2 rfl rfl rfl at_172 (pc' := 175) rfl (by decide) (Wn := 1) (Nat.le_of_eq rfl) (by decide) (kc' := 3) (ks' := 13) rfl rfl (by decide) (by decide) ?_
    intro T17 v17 W17 hp17
    obtain ⟨rfl, H17⟩ := hp17
    show Goes p e below _ (T17.setTop (mkF m 175 #[.val (.long p0), .second, .val (.int p1), .val (.int p2), .val (.int p3), .val (.int p4), .val (.int m0), .val (.int d1), .val (.int d2), .val (.int d3), .val (.int (m0 + d1)), .val (.int ((m0 + d1) + d2)), .val (.int (((m0 + d1) + d2) + d3)), .val (.int lo), .val (.int hi), .val (.long u0), .second, .val (.long u1), .second, .val (.long u2), .second, .val (.long u3), .second, .val (.int (0 : Int32)), .unset, .unset, .unset, .unset, .unset, .unset, .unset] [.ref a5]))
    have H18f : Hp Z n0 T17.heap [(a11, ArC Z .long [.long u0, .long u1, .long u2, .long u3]), (a5, ObC Z "com/example/dipper/dipper/Centroids" [("com/example/dipper/dipper/Centroids", "means", "[D", .ref a6), ("com/example/dipper/dipper/Centroids", "weights", "[J", .ref a11), ("com/example/dipper/dipper/Centroids", "count", "J", .long (((u0 + u1) + u2) + u3)), ("com/example/dipper/dipper/Centroids", "min", "D", .double (FP.i2d lo)), ("com/example/dipper/dipper/Centroids", "max", "D", .double (FP.i2d hi))]), (a6, ArC Z .double [.double (FP.i2d m0), .double (FP.i2d (m0 + d1)), .double (FP.i2d ((m0 + d1) + d2)), .double (FP.i2d (((m0 + d1) + d2) + d3))])] := H17.front (i := 1) rfl rfl
    have H19f : Hp Z n0 T17.heap [(a6, ArC Z .double [.double (FP.i2d m0), .double (FP.i2d (m0 + d1)), .double (FP.i2d ((m0 + d1) + d2)), .double (FP.i2d (((m0 + d1) + d2) + d3))]), (a11, ArC Z .long [.long u0, .long u1, .long u2, .long u3]), (a5, ObC Z "com/example/dipper/dipper/Centroids" [("com/example/dipper/dipper/Centroids", "means", "[D", .ref a6), ("com/example/dipper/dipper/Centroids", "weights", "[J", .ref a11), ("com/example/dipper/dipper/Centroids", "count", "J", .long (((u0 + u1) + u2) + u3)), ("com/example/dipper/dipper/Centroids", "min", "D", .double (FP.i2d lo)), ("com/example/dipper/dipper/Centroids", "max", "D", .double (FP.i2d hi))])] := H18f.front (i := 2) rfl rfl
    have H20f : Hp Z n0 T17.heap [(a5, ObC Z "com/example/dipper/dipper/Centroids" [("com/example/dipper/dipper/Centroids", "means", "[D", .ref a6), ("com/example/dipper/dipper/Centroids", "weights", "[J", .ref a11), ("com/example/dipper/dipper/Centroids", "count", "J", .long (((u0 + u1) + u2) + u3)), ("com/example/dipper/dipper/Centroids", "min", "D", .double (FP.i2d lo)), ("com/example/dipper/dipper/Centroids", "max", "D", .double (FP.i2d hi))]), (a6, ArC Z .double [.double (FP.i2d m0), .double (FP.i2d (m0 + d1)), .double (FP.i2d ((m0 + d1) + d2)), .double (FP.i2d (((m0 + d1) + d2) + d3))]), (a11, ArC Z .long [.long u0, .long u1, .long u2, .long u3])] := H19f.front (i := 2) rfl rfl
    refine g_astore W17 at_175 (pc' := 177) rfl rfl (ls' := #[.val (.long p0), .second, .val (.int p1), .val (.int p2), .val (.int p3), .val (.int p4), .val (.int m0), .val (.int d1), .val (.int d2), .val (.int d3), .val (.int (m0 + d1)), .val (.int ((m0 + d1) + d2)), .val (.int (((m0 + d1) + d2) + d3)), .val (.int lo), .val (.int hi), .val (.long u0), .second, .val (.long u1), .second, .val (.long u2), .second, .val (.long u3), .second, .val (.int (0 : Int32)), .val (.ref a5), .unset, .unset, .unset, .unset, .unset, .unset]) rfl ?_
    refine g_iload W17 at_177 (pc' := 179) rfl rfl ?_
    refine g_if W17 at_179 (pcy := 187) (by decide) (pc' := 182) rfl (fun (h : ¬ (0 : Int32) = (0 : Int32)) => absurd h (by decide)) (fun _ => ?_)
    refine g_iload W17 at_182 (pc' := 184) rfl rfl ?_
    refine g_goto W17 at_184 (pc' := 211) (by decide) ?_
    refine g_istore W17 at_211 (pc' := 213) rfl (ls' := #[.val (.long p0), .second, .val (.int p1), .val (.int p2), .val (.int p3), .val (.int p4), .val (.int m0), .val (.int d1), .val (.int d2), .val (.int d3), .val (.int (m0 + d1)), .val (.int ((m0 + d1) + d2)), .val (.int (((m0 + d1) + d2) + d3)), .val (.int lo), .val (.int hi), .val (.long u0), .second, .val (.long u1), .second, .val (.long u2), .second, .val (.long u3), .second, .val (.int (0 : Int32)), .val (.ref a5), .val (.int m0), .unset, .unset, .unset, .unset, .unset]) rfl ?_
    refine g_iload W17 at_213 (pc' := 215) rfl rfl ?_
    refine g_if W17 at_215 (pcy := 223) (by decide) (pc' := 218) rfl (fun (h : ¬ (0 : Int32) = (0 : Int32)) => absurd h (by decide)) (fun _ => ?_)
    refine g_lload W17 at_218 (pc' := 220) rfl rfl ?_
    refine g_goto W17 at_220 (pc' := 247) (by decide) ?_
    refine g_lstore W17 at_247 (pc' := 249) rfl (ls' := #[.val (.long p0), .second, .val (.int p1), .val (.int p2), .val (.int p3), .val (.int p4), .val (.int m0), .val (.int d1), .val (.int d2), .val (.int d3), .val (.int (m0 + d1)), .val (.int ((m0 + d1) + d2)), .val (.int (((m0 + d1) + d2) + d3)), .val (.int lo), .val (.int hi), .val (.long u0), .second, .val (.long u1), .second, .val (.long u2), .second, .val (.long u3), .second, .val (.int (0 : Int32)), .val (.ref a5), .val (.int m0), .val (.long u0), .second, .unset, .unset, .unset]) rfl ?_
    refine g_iload W17 at_249 (pc' := 251) rfl rfl ?_
    refine g_iconst W17 at_251 (pc' := 252) rfl (v := (1 : Int32)) (by decide) ?_
    refine g_icmp W17 at_252 (pcy := 268) (by decide) (pc' := 255) rfl (fun _ => ?_) (fun (h : ¬ ¬ (0 : Int32) = (1 : Int32)) => absurd h (by decide))
    refine g_iload W17 at_268 (pc' := 270) rfl rfl ?_
    refine g_iconst W17 at_270 (pc' := 271) rfl (v := (2 : Int32)) (by decide) ?_
    refine g_icmp W17 at_271 (pcy := 287) (by decide) (pc' := 274) rfl (fun _ => ?_) (fun (h : ¬ ¬ (0 : Int32) = (2 : Int32)) => absurd h (by decide))
    refine g_iload W17 at_287 (pc' := 289) rfl rfl ?_
    refine g_iconst W17 at_289 (pc' := 290) rfl (v := (3 : Int32)) (by decide) ?_
    refine g_icmp W17 at_290 (pcy := 306) (by decide) (pc' := 293) rfl (fun _ => ?_) (fun (h : ¬ ¬ (0 : Int32) = (3 : Int32)) => absurd h (by decide))
    refine g_iconst W17 at_306 (pc' := 307) rfl (v := (0 : Int32)) (by decide) ?_
    refine g_istore W17 at_307 (pc' := 309) rfl (ls' := #[.val (.long p0), .second, .val (.int p1), .val (.int p2), .val (.int p3), .val (.int p4), .val (.int m0), .val (.int d1), .val (.int d2), .val (.int d3), .val (.int (m0 + d1)), .val (.int ((m0 + d1) + d2)), .val (.int (((m0 + d1) + d2) + d3)), .val (.int lo), .val (.int hi), .val (.long u0), .second, .val (.long u1), .second, .val (.long u2), .second, .val (.long u3), .second, .val (.int (0 : Int32)), .val (.ref a5), .val (.int m0), .val (.long u0), .second, .val (.int (0 : Int32)), .unset, .unset]) rfl ?_
    refine g_iload W17 at_309 (pc' := 311) rfl rfl ?_
    refine g_if W17 at_311 (pcy := 327) (by decide) (pc' := 314) rfl (fun (h : ¬ (0 : Int32) = (0 : Int32)) => absurd h (by decide)) (fun _ => ?_)
    refine g_iload W17 at_314 (pc' := 316) rfl rfl ?_
    refine g_if W17 at_316 (pcy := 323) (by decide) (pc' := 319) rfl (fun (c21 : ¬ d1 = (0 : Int32)) => ?_) (fun (c21 : ¬ ¬ d1 = (0 : Int32)) => ?_)
    · refine g_iconst W17 at_323 (pc' := 324) rfl (v := (0 : Int32)) (by decide) ?_
      refine g_goto W17 at_324 (pc' := 366) (by decide) ?_
      refine g_istore W17 at_366 (pc' := 368) rfl (ls' := #[.val (.long p0), .second, .val (.int p1), .val (.int p2), .val (.int p3), .val (.int p4), .val (.int m0), .val (.int d1), .val (.int d2), .val (.int d3), .val (.int (m0 + d1)), .val (.int ((m0 + d1) + d2)), .val (.int (((m0 + d1) + d2) + d3)), .val (.int lo), .val (.int hi), .val (.long u0), .second, .val (.long u1), .second, .val (.long u2), .second, .val (.long u3), .second, .val (.int (0 : Int32)), .val (.ref a5), .val (.int m0), .val (.long u0), .second, .val (.int (0 : Int32)), .val (.int (0 : Int32)), .unset]) rfl ?_
      refine g_lload W17 at_368 (pc' := 370) rfl rfl ?_
      refine g_lconst W17 at_370 (pc' := 371) rfl (v := (1 : Int64)) (by decide) ?_
      refine g_lcmp W17 at_371 (pc' := 372) rfl rfl ?_
      refine g_if W17 at_372 (pcy := 406) (by decide) (pc' := 375) rfl (fun (c22 : (XT.cmpL u0 (1 : Int64)) = (0 : Int32)) => ?_) (fun (c22 : ¬ (XT.cmpL u0 (1 : Int64)) = (0 : Int32)) => ?_)
      · refine g_iconst W17 at_406 (pc' := 407) rfl (v := (1 : Int32)) (by decide) ?_
        refine g_goto W17 at_407 (pc' := 411) (by decide) ?_
        refine g_istore W17 at_411 (pc' := 413) rfl (ls' := #[.val (.long p0), .second, .val (.int p1), .val (.int p2), .val (.int p3), .val (.int p4), .val (.int m0), .val (.int d1), .val (.int d2), .val (.int d3), .val (.int (m0 + d1)), .val (.int ((m0 + d1) + d2)), .val (.int (((m0 + d1) + d2) + d3)), .val (.int lo), .val (.int hi), .val (.long u0), .second, .val (.long u1), .second, .val (.long u2), .second, .val (.long u3), .second, .val (.int (0 : Int32)), .val (.ref a5), .val (.int m0), .val (.long u0), .second, .val (.int (0 : Int32)), .val (.int (0 : Int32)), .val (.int (1 : Int32))]) rfl ?_
        refine g_aload W17 at_413 (pc' := 415) rfl rfl rfl ?_
        refine g_iload W17 at_415 (pc' := 417) rfl rfl ?_
        refine g_callV W17 (argsL := [.int (0 : Int32)]) (st := []) (wd_27 hw) (wd_28 hw) (wd_30 hw) (wd_29 hw) (wd_8 hw) (wd_31 hw) (by decide) (a := a5) H20f (i := 0) rfl (c_hold0 l Z a0 hw n0 a5 a6 a11 (((u0 + u1) + u2) + u3) (FP.i2d lo) (FP.i2d hi) (FP.i2d m0) (FP.i2d (m0 + d1)) (FP.i2d ((m0 + d1) + d2)) (FP.i2d (((m0 + d1) + d2) + d3)) u0 u1 u2 u3 (1 : Int32) ((if_pos (Or.inl (cmpL_eq0.mp c22))).symm) _ _ H20f) pd_0 rfl rfl rfl at_417 (pc' := 420) rfl (by decide) (Wn := 0) (Nat.le_of_eq rfl) (by decide) (kc' := 3) (ks' := 13) rfl rfl (by decide) (by decide) ?_
        intro T23 v23 W23 hp23
        obtain ⟨rfl, H23⟩ := hp23
        show Goes p e below _ (T23.setTop (mkF m 420 #[.val (.long p0), .second, .val (.int p1), .val (.int p2), .val (.int p3), .val (.int p4), .val (.int m0), .val (.int d1), .val (.int d2), .val (.int d3), .val (.int (m0 + d1)), .val (.int ((m0 + d1) + d2)), .val (.int (((m0 + d1) + d2) + d3)), .val (.int lo), .val (.int hi), .val (.long u0), .second, .val (.long u1), .second, .val (.long u2), .second, .val (.long u3), .second, .val (.int (0 : Int32)), .val (.ref a5), .val (.int m0), .val (.long u0), .second, .val (.int (0 : Int32)), .val (.int (0 : Int32)), .val (.int (1 : Int32))] [.int (1 : Int32)]))
        refine g_iload W23 at_420 (pc' := 422) rfl rfl ?_
        refine g_icmp W23 at_422 (pcy := 429) (by decide) (pc' := 425) rfl (fun (h : ¬ (1 : Int32) = (1 : Int32)) => absurd h (by decide)) (fun _ => ?_)
        refine g_iconst W23 at_425 (pc' := 426) rfl (v := (1 : Int32)) (by decide) ?_
        refine g_goto W23 at_426 (pc' := 430) (by decide) ?_
        exact g_zreturn W23 (by decide) at_430 rfl (by decide) (by decide)
      · refine g_iload W17 at_375 (pc' := 377) rfl rfl ?_
        refine g_if W17 at_377 (pcy := 406) (by decide) (pc' := 380) rfl (fun (h : ¬ (0 : Int32) = (0 : Int32)) => absurd h (by decide)) (fun _ => ?_)
        refine g_iload W17 at_380 (pc' := 382) rfl rfl ?_
        refine g_if W17 at_382 (pcy := 406) (by decide) (pc' := 385) rfl (fun (h : ¬ (0 : Int32) = (0 : Int32)) => absurd h (by decide)) (fun _ => ?_)
        refine g_lload W17 at_385 (pc' := 387) rfl rfl ?_
        refine g_lconst W17 at_387 (pc' := 388) rfl (v := (1 : Int64)) (by decide) ?_
        refine g_lcmp W17 at_388 (pc' := 389) rfl rfl ?_
        refine g_if W17 at_389 (pcy := 410) (by decide) (pc' := 392) rfl (fun (c24 : ¬ (0 : Int32) < (XT.cmpL u0 (1 : Int64))) => ?_) (fun (c24 : ¬ ¬ (0 : Int32) < (XT.cmpL u0 (1 : Int64))) => ?_)
        · refine g_iconst W17 at_410 (pc' := 411) rfl (v := (0 : Int32)) (by decide) ?_
          refine g_istore W17 at_411 (pc' := 413) rfl (ls' := #[.val (.long p0), .second, .val (.int p1), .val (.int p2), .val (.int p3), .val (.int p4), .val (.int m0), .val (.int d1), .val (.int d2), .val (.int d3), .val (.int (m0 + d1)), .val (.int ((m0 + d1) + d2)), .val (.int (((m0 + d1) + d2) + d3)), .val (.int lo), .val (.int hi), .val (.long u0), .second, .val (.long u1), .second, .val (.long u2), .second, .val (.long u3), .second, .val (.int (0 : Int32)), .val (.ref a5), .val (.int m0), .val (.long u0), .second, .val (.int (0 : Int32)), .val (.int (0 : Int32)), .val (.int (0 : Int32))]) rfl ?_
          refine g_aload W17 at_413 (pc' := 415) rfl rfl rfl ?_
          refine g_iload W17 at_415 (pc' := 417) rfl rfl ?_
          refine g_callV W17 (argsL := [.int (0 : Int32)]) (st := []) (wd_27 hw) (wd_28 hw) (wd_30 hw) (wd_29 hw) (wd_8 hw) (wd_31 hw) (by decide) (a := a5) H20f (i := 0) rfl (c_hold0 l Z a0 hw n0 a5 a6 a11 (((u0 + u1) + u2) + u3) (FP.i2d lo) (FP.i2d hi) (FP.i2d m0) (FP.i2d (m0 + d1)) (FP.i2d ((m0 + d1) + d2)) (FP.i2d (((m0 + d1) + d2) + d3)) u0 u1 u2 u3 (0 : Int32) ((if_neg (fun q => q.elim (fun q => c22 (cmpL_eq0.mpr q)) (fun q => q.elim id (fun q => q.elim (fun q => c21 (own_step'.mp q)) (fun q => c24 (cmpL_gt0.mpr q.1)))))).symm) _ _ H20f) pd_0 rfl rfl rfl at_417 (pc' := 420) rfl (by decide) (Wn := 0) (Nat.le_of_eq rfl) (by decide) (kc' := 3) (ks' := 13) rfl rfl (by decide) (by decide) ?_
          intro T25 v25 W25 hp25
          obtain ⟨rfl, H25⟩ := hp25
          show Goes p e below _ (T25.setTop (mkF m 420 #[.val (.long p0), .second, .val (.int p1), .val (.int p2), .val (.int p3), .val (.int p4), .val (.int m0), .val (.int d1), .val (.int d2), .val (.int d3), .val (.int (m0 + d1)), .val (.int ((m0 + d1) + d2)), .val (.int (((m0 + d1) + d2) + d3)), .val (.int lo), .val (.int hi), .val (.long u0), .second, .val (.long u1), .second, .val (.long u2), .second, .val (.long u3), .second, .val (.int (0 : Int32)), .val (.ref a5), .val (.int m0), .val (.long u0), .second, .val (.int (0 : Int32)), .val (.int (0 : Int32)), .val (.int (0 : Int32))] [.int (0 : Int32)]))
          refine g_iload W25 at_420 (pc' := 422) rfl rfl ?_
          refine g_icmp W25 at_422 (pcy := 429) (by decide) (pc' := 425) rfl (fun (h : ¬ (0 : Int32) = (0 : Int32)) => absurd h (by decide)) (fun _ => ?_)
          refine g_iconst W25 at_425 (pc' := 426) rfl (v := (1 : Int32)) (by decide) ?_
          refine g_goto W25 at_426 (pc' := 430) (by decide) ?_
          exact g_zreturn W25 (by decide) at_430 rfl (by decide) (by decide)
        · replace c24 := Classical.not_not.mp c24
          refine g_iload W17 at_392 (pc' := 394) rfl rfl ?_
          refine g_iload W17 at_394 (pc' := 396) rfl rfl ?_
          refine g_icmp W17 at_396 (pcy := 406) (by decide) (pc' := 399) rfl (fun (c26 : m0 = lo) => ?_) (fun (c26 : ¬ m0 = lo) => ?_)
          · refine g_iconst W17 at_406 (pc' := 407) rfl (v := (1 : Int32)) (by decide) ?_
            refine g_goto W17 at_407 (pc' := 411) (by decide) ?_
            refine g_istore W17 at_411 (pc' := 413) rfl (ls' := #[.val (.long p0), .second, .val (.int p1), .val (.int p2), .val (.int p3), .val (.int p4), .val (.int m0), .val (.int d1), .val (.int d2), .val (.int d3), .val (.int (m0 + d1)), .val (.int ((m0 + d1) + d2)), .val (.int (((m0 + d1) + d2) + d3)), .val (.int lo), .val (.int hi), .val (.long u0), .second, .val (.long u1), .second, .val (.long u2), .second, .val (.long u3), .second, .val (.int (0 : Int32)), .val (.ref a5), .val (.int m0), .val (.long u0), .second, .val (.int (0 : Int32)), .val (.int (0 : Int32)), .val (.int (1 : Int32))]) rfl ?_
            refine g_aload W17 at_413 (pc' := 415) rfl rfl rfl ?_
            refine g_iload W17 at_415 (pc' := 417) rfl rfl ?_
            refine g_callV W17 (argsL := [.int (0 : Int32)]) (st := []) (wd_27 hw) (wd_28 hw) (wd_30 hw) (wd_29 hw) (wd_8 hw) (wd_31 hw) (by decide) (a := a5) H20f (i := 0) rfl (c_hold0 l Z a0 hw n0 a5 a6 a11 (((u0 + u1) + u2) + u3) (FP.i2d lo) (FP.i2d hi) (FP.i2d m0) (FP.i2d (m0 + d1)) (FP.i2d ((m0 + d1) + d2)) (FP.i2d (((m0 + d1) + d2) + d3)) u0 u1 u2 u3 (1 : Int32) ((if_pos (Or.inr (Or.inr (Or.inr ⟨cmpL_gt0.mp c24, Or.inl (own_i2d_eq.mpr c26)⟩)))).symm) _ _ H20f) pd_0 rfl rfl rfl at_417 (pc' := 420) rfl (by decide) (Wn := 0) (Nat.le_of_eq rfl) (by decide) (kc' := 3) (ks' := 13) rfl rfl (by decide) (by decide) ?_
            intro T27 v27 W27 hp27
            obtain ⟨rfl, H27⟩ := hp27
            show Goes p e below _ (T27.setTop (mkF m 420 #[.val (.long p0), .second, .val (.int p1), .val (.int p2), .val (.int p3), .val (.int p4), .val (.int m0), .val (.int d1), .val (.int d2), .val (.int d3), .val (.int (m0 + d1)), .val (.int ((m0 + d1) + d2)), .val (.int (((m0 + d1) + d2) + d3)), .val (.int lo), .val (.int hi), .val (.long u0), .second, .val (.long u1), .second, .val (.long u2), .second, .val (.long u3), .second, .val (.int (0 : Int32)), .val (.ref a5), .val (.int m0), .val (.long u0), .second, .val (.int (0 : Int32)), .val (.int (0 : Int32)), .val (.int (1 : Int32))] [.int (1 : Int32)]))
            refine g_iload W27 at_420 (pc' := 422) rfl rfl ?_
            refine g_icmp W27 at_422 (pcy := 429) (by decide) (pc' := 425) rfl (fun (h : ¬ (1 : Int32) = (1 : Int32)) => absurd h (by decide)) (fun _ => ?_)
            refine g_iconst W27 at_425 (pc' := 426) rfl (v := (1 : Int32)) (by decide) ?_
            refine g_goto W27 at_426 (pc' := 430) (by decide) ?_
            exact g_zreturn W27 (by decide) at_430 rfl (by decide) (by decide)
          · refine g_iload W17 at_399 (pc' := 401) rfl rfl ?_
            refine g_iload W17 at_401 (pc' := 403) rfl rfl ?_
            refine g_icmp W17 at_403 (pcy := 410) (by decide) (pc' := 406) rfl (fun (c28 : ¬ m0 = hi) => ?_) (fun (c28 : ¬ ¬ m0 = hi) => ?_)
            · refine g_iconst W17 at_410 (pc' := 411) rfl (v := (0 : Int32)) (by decide) ?_
              refine g_istore W17 at_411 (pc' := 413) rfl (ls' := #[.val (.long p0), .second, .val (.int p1), .val (.int p2), .val (.int p3), .val (.int p4), .val (.int m0), .val (.int d1), .val (.int d2), .val (.int d3), .val (.int (m0 + d1)), .val (.int ((m0 + d1) + d2)), .val (.int (((m0 + d1) + d2) + d3)), .val (.int lo), .val (.int hi), .val (.long u0), .second, .val (.long u1), .second, .val (.long u2), .second, .val (.long u3), .second, .val (.int (0 : Int32)), .val (.ref a5), .val (.int m0), .val (.long u0), .second, .val (.int (0 : Int32)), .val (.int (0 : Int32)), .val (.int (0 : Int32))]) rfl ?_
              refine g_aload W17 at_413 (pc' := 415) rfl rfl rfl ?_
              refine g_iload W17 at_415 (pc' := 417) rfl rfl ?_
              refine g_callV W17 (argsL := [.int (0 : Int32)]) (st := []) (wd_27 hw) (wd_28 hw) (wd_30 hw) (wd_29 hw) (wd_8 hw) (wd_31 hw) (by decide) (a := a5) H20f (i := 0) rfl (c_hold0 l Z a0 hw n0 a5 a6 a11 (((u0 + u1) + u2) + u3) (FP.i2d lo) (FP.i2d hi) (FP.i2d m0) (FP.i2d (m0 + d1)) (FP.i2d ((m0 + d1) + d2)) (FP.i2d (((m0 + d1) + d2) + d3)) u0 u1 u2 u3 (0 : Int32) ((if_neg (fun q => q.elim (fun q => c22 (cmpL_eq0.mpr q)) (fun q => q.elim id (fun q => q.elim (fun q => c21 (own_step'.mp q)) (fun q => q.2.elim (fun q => c26 (own_i2d_eq.mp q)) (fun q => c28 (own_i2d_eq.mp q))))))).symm) _ _ H20f) pd_0 rfl rfl rfl at_417 (pc' := 420) rfl (by decide) (Wn := 0) (Nat.le_of_eq rfl) (by decide) (kc' := 3) (ks' := 13) rfl rfl (by decide) (by decide) ?_
              intro T29 v29 W29 hp29
              obtain ⟨rfl, H29⟩ := hp29
              show Goes p e below _ (T29.setTop (mkF m 420 #[.val (.long p0), .second, .val (.int p1), .val (.int p2), .val (.int p3), .val (.int p4), .val (.int m0), .val (.int d1), .val (.int d2), .val (.int d3), .val (.int (m0 + d1)), .val (.int ((m0 + d1) + d2)), .val (.int (((m0 + d1) + d2) + d3)), .val (.int lo), .val (.int hi), .val (.long u0), .second, .val (.long u1), .second, .val (.long u2), .second, .val (.long u3), .second, .val (.int (0 : Int32)), .val (.ref a5), .val (.int m0), .val (.long u0), .second, .val (.int (0 : Int32)), .val (.int (0 : Int32)), .val (.int (0 : Int32))] [.int (0 : Int32)]))
              refine g_iload W29 at_420 (pc' := 422) rfl rfl ?_
              refine g_icmp W29 at_422 (pcy := 429) (by decide) (pc' := 425) rfl (fun (h : ¬ (0 : Int32) = (0 : Int32)) => absurd h (by decide)) (fun _ => ?_)
              refine g_iconst W29 at_425 (pc' := 426) rfl (v := (1 : Int32)) (by decide) ?_
              refine g_goto W29 at_426 (pc' := 430) (by decide) ?_
              exact g_zreturn W29 (by decide) at_430 rfl (by decide) (by decide)
            · replace c28 := Classical.not_not.mp c28
              refine g_iconst W17 at_406 (pc' := 407) rfl (v := (1 : Int32)) (by decide) ?_
              refine g_goto W17 at_407 (pc' := 411) (by decide) ?_
              refine g_istore W17 at_411 (pc' := 413) rfl (ls' := #[.val (.long p0), .second, .val (.int p1), .val (.int p2), .val (.int p3), .val (.int p4), .val (.int m0), .val (.int d1), .val (.int d2), .val (.int d3), .val (.int (m0 + d1)), .val (.int ((m0 + d1) + d2)), .val (.int (((m0 + d1) + d2) + d3)), .val (.int lo), .val (.int hi), .val (.long u0), .second, .val (.long u1), .second, .val (.long u2), .second, .val (.long u3), .second, .val (.int (0 : Int32)), .val (.ref a5), .val (.int m0), .val (.long u0), .second, .val (.int (0 : Int32)), .val (.int (0 : Int32)), .val (.int (1 : Int32))]) rfl ?_
              refine g_aload W17 at_413 (pc' := 415) rfl rfl rfl ?_
              refine g_iload W17 at_415 (pc' := 417) rfl rfl ?_
              refine g_callV W17 (argsL := [.int (0 : Int32)]) (st := []) (wd_27 hw) (wd_28 hw) (wd_30 hw) (wd_29 hw) (wd_8 hw) (wd_31 hw) (by decide) (a := a5) H20f (i := 0) rfl (c_hold0 l Z a0 hw n0 a5 a6 a11 (((u0 + u1) + u2) + u3) (FP.i2d lo) (FP.i2d hi) (FP.i2d m0) (FP.i2d (m0 + d1)) (FP.i2d ((m0 + d1) + d2)) (FP.i2d (((m0 + d1) + d2) + d3)) u0 u1 u2 u3 (1 : Int32) ((if_pos (Or.inr (Or.inr (Or.inr ⟨cmpL_gt0.mp c24, Or.inr (own_i2d_eq.mpr c28)⟩)))).symm) _ _ H20f) pd_0 rfl rfl rfl at_417 (pc' := 420) rfl (by decide) (Wn := 0) (Nat.le_of_eq rfl) (by decide) (kc' := 3) (ks' := 13) rfl rfl (by decide) (by decide) ?_
              intro T30 v30 W30 hp30
              obtain ⟨rfl, H30⟩ := hp30
              show Goes p e below _ (T30.setTop (mkF m 420 #[.val (.long p0), .second, .val (.int p1), .val (.int p2), .val (.int p3), .val (.int p4), .val (.int m0), .val (.int d1), .val (.int d2), .val (.int d3), .val (.int (m0 + d1)), .val (.int ((m0 + d1) + d2)), .val (.int (((m0 + d1) + d2) + d3)), .val (.int lo), .val (.int hi), .val (.long u0), .second, .val (.long u1), .second, .val (.long u2), .second, .val (.long u3), .second, .val (.int (0 : Int32)), .val (.ref a5), .val (.int m0), .val (.long u0), .second, .val (.int (0 : Int32)), .val (.int (0 : Int32)), .val (.int (1 : Int32))] [.int (1 : Int32)]))
              refine g_iload W30 at_420 (pc' := 422) rfl rfl ?_
              refine g_icmp W30 at_422 (pcy := 429) (by decide) (pc' := 425) rfl (fun (h : ¬ (1 : Int32) = (1 : Int32)) => absurd h (by decide)) (fun _ => ?_)
              refine g_iconst W30 at_425 (pc' := 426) rfl (v := (1 : Int32)) (by decide) ?_
              refine g_goto W30 at_426 (pc' := 430) (by decide) ?_
              exact g_zreturn W30 (by decide) at_430 rfl (by decide) (by decide)
    · replace c21 := Classical.not_not.mp c21
      refine g_iconst W17 at_319 (pc' := 320) rfl (v := (1 : Int32)) (by decide) ?_
      refine g_goto W17 at_320 (pc' := 366) (by decide) ?_
      refine g_istore W17 at_366 (pc' := 368) rfl (ls' := #[.val (.long p0), .second, .val (.int p1), .val (.int p2), .val (.int p3), .val (.int p4), .val (.int m0), .val (.int d1), .val (.int d2), .val (.int d3), .val (.int (m0 + d1)), .val (.int ((m0 + d1) + d2)), .val (.int (((m0 + d1) + d2) + d3)), .val (.int lo), .val (.int hi), .val (.long u0), .second, .val (.long u1), .second, .val (.long u2), .second, .val (.long u3), .second, .val (.int (0 : Int32)), .val (.ref a5), .val (.int m0), .val (.long u0), .second, .val (.int (0 : Int32)), .val (.int (1 : Int32)), .unset]) rfl ?_
      refine g_lload W17 at_368 (pc' := 370) rfl rfl ?_
      refine g_lconst W17 at_370 (pc' := 371) rfl (v := (1 : Int64)) (by decide) ?_
      refine g_lcmp W17 at_371 (pc' := 372) rfl rfl ?_
      refine g_if W17 at_372 (pcy := 406) (by decide) (pc' := 375) rfl (fun (c31 : (XT.cmpL u0 (1 : Int64)) = (0 : Int32)) => ?_) (fun (c31 : ¬ (XT.cmpL u0 (1 : Int64)) = (0 : Int32)) => ?_)
      · refine g_iconst W17 at_406 (pc' := 407) rfl (v := (1 : Int32)) (by decide) ?_
        refine g_goto W17 at_407 (pc' := 411) (by decide) ?_
        refine g_istore W17 at_411 (pc' := 413) rfl (ls' := #[.val (.long p0), .second, .val (.int p1), .val (.int p2), .val (.int p3), .val (.int p4), .val (.int m0), .val (.int d1), .val (.int d2), .val (.int d3), .val (.int (m0 + d1)), .val (.int ((m0 + d1) + d2)), .val (.int (((m0 + d1) + d2) + d3)), .val (.int lo), .val (.int hi), .val (.long u0), .second, .val (.long u1), .second, .val (.long u2), .second, .val (.long u3), .second, .val (.int (0 : Int32)), .val (.ref a5), .val (.int m0), .val (.long u0), .second, .val (.int (0 : Int32)), .val (.int (1 : Int32)), .val (.int (1 : Int32))]) rfl ?_
        refine g_aload W17 at_413 (pc' := 415) rfl rfl rfl ?_
        refine g_iload W17 at_415 (pc' := 417) rfl rfl ?_
        refine g_callV W17 (argsL := [.int (0 : Int32)]) (st := []) (wd_27 hw) (wd_28 hw) (wd_30 hw) (wd_29 hw) (wd_8 hw) (wd_31 hw) (by decide) (a := a5) H20f (i := 0) rfl (c_hold0 l Z a0 hw n0 a5 a6 a11 (((u0 + u1) + u2) + u3) (FP.i2d lo) (FP.i2d hi) (FP.i2d m0) (FP.i2d (m0 + d1)) (FP.i2d ((m0 + d1) + d2)) (FP.i2d (((m0 + d1) + d2) + d3)) u0 u1 u2 u3 (1 : Int32) ((if_pos (Or.inl (cmpL_eq0.mp c31))).symm) _ _ H20f) pd_0 rfl rfl rfl at_417 (pc' := 420) rfl (by decide) (Wn := 0) (Nat.le_of_eq rfl) (by decide) (kc' := 3) (ks' := 13) rfl rfl (by decide) (by decide) ?_
        intro T32 v32 W32 hp32
        obtain ⟨rfl, H32⟩ := hp32
        show Goes p e below _ (T32.setTop (mkF m 420 #[.val (.long p0), .second, .val (.int p1), .val (.int p2), .val (.int p3), .val (.int p4), .val (.int m0), .val (.int d1), .val (.int d2), .val (.int d3), .val (.int (m0 + d1)), .val (.int ((m0 + d1) + d2)), .val (.int (((m0 + d1) + d2) + d3)), .val (.int lo), .val (.int hi), .val (.long u0), .second, .val (.long u1), .second, .val (.long u2), .second, .val (.long u3), .second, .val (.int (0 : Int32)), .val (.ref a5), .val (.int m0), .val (.long u0), .second, .val (.int (0 : Int32)), .val (.int (1 : Int32)), .val (.int (1 : Int32))] [.int (1 : Int32)]))
        refine g_iload W32 at_420 (pc' := 422) rfl rfl ?_
        refine g_icmp W32 at_422 (pcy := 429) (by decide) (pc' := 425) rfl (fun (h : ¬ (1 : Int32) = (1 : Int32)) => absurd h (by decide)) (fun _ => ?_)
        refine g_iconst W32 at_425 (pc' := 426) rfl (v := (1 : Int32)) (by decide) ?_
        refine g_goto W32 at_426 (pc' := 430) (by decide) ?_
        exact g_zreturn W32 (by decide) at_430 rfl (by decide) (by decide)
      · refine g_iload W17 at_375 (pc' := 377) rfl rfl ?_
        refine g_if W17 at_377 (pcy := 406) (by decide) (pc' := 380) rfl (fun (h : ¬ (0 : Int32) = (0 : Int32)) => absurd h (by decide)) (fun _ => ?_)
        refine g_iload W17 at_380 (pc' := 382) rfl rfl ?_
        refine g_if W17 at_382 (pcy := 406) (by decide) (pc' := 385) rfl (fun _ => ?_) (fun (h : ¬ ¬ (1 : Int32) = (0 : Int32)) => absurd h (by decide))
        refine g_iconst W17 at_406 (pc' := 407) rfl (v := (1 : Int32)) (by decide) ?_
        refine g_goto W17 at_407 (pc' := 411) (by decide) ?_
        refine g_istore W17 at_411 (pc' := 413) rfl (ls' := #[.val (.long p0), .second, .val (.int p1), .val (.int p2), .val (.int p3), .val (.int p4), .val (.int m0), .val (.int d1), .val (.int d2), .val (.int d3), .val (.int (m0 + d1)), .val (.int ((m0 + d1) + d2)), .val (.int (((m0 + d1) + d2) + d3)), .val (.int lo), .val (.int hi), .val (.long u0), .second, .val (.long u1), .second, .val (.long u2), .second, .val (.long u3), .second, .val (.int (0 : Int32)), .val (.ref a5), .val (.int m0), .val (.long u0), .second, .val (.int (0 : Int32)), .val (.int (1 : Int32)), .val (.int (1 : Int32))]) rfl ?_
        refine g_aload W17 at_413 (pc' := 415) rfl rfl rfl ?_
        refine g_iload W17 at_415 (pc' := 417) rfl rfl ?_
        refine g_callV W17 (argsL := [.int (0 : Int32)]) (st := []) (wd_27 hw) (wd_28 hw) (wd_30 hw) (wd_29 hw) (wd_8 hw) (wd_31 hw) (by decide) (a := a5) H20f (i := 0) rfl (c_hold0 l Z a0 hw n0 a5 a6 a11 (((u0 + u1) + u2) + u3) (FP.i2d lo) (FP.i2d hi) (FP.i2d m0) (FP.i2d (m0 + d1)) (FP.i2d ((m0 + d1) + d2)) (FP.i2d (((m0 + d1) + d2) + d3)) u0 u1 u2 u3 (1 : Int32) ((if_pos (Or.inr (Or.inr (Or.inl (own_step'.mpr c21))))).symm) _ _ H20f) pd_0 rfl rfl rfl at_417 (pc' := 420) rfl (by decide) (Wn := 0) (Nat.le_of_eq rfl) (by decide) (kc' := 3) (ks' := 13) rfl rfl (by decide) (by decide) ?_
        intro T33 v33 W33 hp33
        obtain ⟨rfl, H33⟩ := hp33
        show Goes p e below _ (T33.setTop (mkF m 420 #[.val (.long p0), .second, .val (.int p1), .val (.int p2), .val (.int p3), .val (.int p4), .val (.int m0), .val (.int d1), .val (.int d2), .val (.int d3), .val (.int (m0 + d1)), .val (.int ((m0 + d1) + d2)), .val (.int (((m0 + d1) + d2) + d3)), .val (.int lo), .val (.int hi), .val (.long u0), .second, .val (.long u1), .second, .val (.long u2), .second, .val (.long u3), .second, .val (.int (0 : Int32)), .val (.ref a5), .val (.int m0), .val (.long u0), .second, .val (.int (0 : Int32)), .val (.int (1 : Int32)), .val (.int (1 : Int32))] [.int (1 : Int32)]))
        refine g_iload W33 at_420 (pc' := 422) rfl rfl ?_
        refine g_icmp W33 at_422 (pcy := 429) (by decide) (pc' := 425) rfl (fun (h : ¬ (1 : Int32) = (1 : Int32)) => absurd h (by decide)) (fun _ => ?_)
        refine g_iconst W33 at_425 (pc' := 426) rfl (v := (1 : Int32)) (by decide) ?_
        refine g_goto W33 at_426 (pc' := 430) (by decide) ?_
        exact g_zreturn W33 (by decide) at_430 rfl (by decide) (by decide)
  · rw [hn]
    refine g_istore W4 at_99 (pc' := 101) rfl (ls' := #[.val (.long p0), .second, .val (.int p1), .val (.int p2), .val (.int p3), .val (.int p4), .val (.int m0), .val (.int d1), .val (.int d2), .val (.int d3), .val (.int (m0 + d1)), .val (.int ((m0 + d1) + d2)), .val (.int (((m0 + d1) + d2) + d3)), .val (.int lo), .val (.int hi), .val (.long u0), .second, .val (.long u1), .second, .val (.long u2), .second, .val (.long u3), .second, .val (.int (1 : Int32)), .unset, .unset, .unset, .unset, .unset, .unset, .unset]) rfl ?_
    refine g_new W4 (wd_6 hw) (wd_7 hw) (wd_8 hw) (la_Centroids hw) (by decide) H4 at_101 (pc' := 104) rfl (kc' := 1) (ks' := 5) rfl rfl (by decide) (by decide) ?_
    intro T34 a34 W34 H34
    refine g_dup W34 at_104 (pc' := 105) rfl rfl ?_
    refine g_iconst W34 at_105 (pc' := 106) rfl (v := (4 : Int32)) (by decide) ?_
    refine g_newarr (aty := .double) W34 (wd_9 hw) H34 (by decide) (vs := [.double 0, .double 0, .double 0, .double 0]) rfl (cap := 4) (Nat.le_of_eq rfl) (by decide) at_106 (pc' := 108) rfl (kc' := 2) (ks' := 9) rfl rfl (by decide) (by decide) ?_
    intro T35 a35 W35 H35
    replace H35 : Hp Z n0 T35.heap [(a35, ArC Z .double [.double 0, .double 0, .double 0, .double 0]), (a34, ObC Z "com/example/dipper/dipper/Centroids" [("com/example/dipper/dipper/Centroids", "means", "[D", .null), ("com/example/dipper/dipper/Centroids", "weights", "[J", .null), ("com/example/dipper/dipper/Centroids", "count", "J", .long 0), ("com/example/dipper/dipper/Centroids", "min", "D", .double 0), ("com/example/dipper/dipper/Centroids", "max", "D", .double 0)])] := H35
    refine g_dup W35 at_108 (pc' := 109) rfl rfl ?_
    refine g_iconst W35 at_109 (pc' := 110) rfl (v := (0 : Int32)) (by decide) ?_
    refine g_iload W35 at_110 (pc' := 112) rfl rfl ?_
    refine g_i2d W35 at_112 (pc' := 113) rfl rfl ?_
    refine g_dastore W35 H35 (i := 0) rfl (jx := 0) (by decide) (by exact (by decide : 0 < 4)) at_113 (pc' := 114) rfl (L' := [(a35, ArC Z .double [.double (FP.i2d m0), .double 0, .double 0, .double 0]), (a34, ObC Z "com/example/dipper/dipper/Centroids" [("com/example/dipper/dipper/Centroids", "means", "[D", .null), ("com/example/dipper/dipper/Centroids", "weights", "[J", .null), ("com/example/dipper/dipper/Centroids", "count", "J", .long 0), ("com/example/dipper/dipper/Centroids", "min", "D", .double 0), ("com/example/dipper/dipper/Centroids", "max", "D", .double 0)])]) rfl ?_
    intro T36 W36 H36
    refine g_dup W36 at_114 (pc' := 115) rfl rfl ?_
    refine g_iconst W36 at_115 (pc' := 116) rfl (v := (1 : Int32)) (by decide) ?_
    refine g_iload W36 at_116 (pc' := 118) rfl rfl ?_
    refine g_i2d W36 at_118 (pc' := 119) rfl rfl ?_
    refine g_dastore W36 H36 (i := 0) rfl (jx := 1) (by decide) (by exact (by decide : 1 < 4)) at_119 (pc' := 120) rfl (L' := [(a35, ArC Z .double [.double (FP.i2d m0), .double (FP.i2d (m0 + d1)), .double 0, .double 0]), (a34, ObC Z "com/example/dipper/dipper/Centroids" [("com/example/dipper/dipper/Centroids", "means", "[D", .null), ("com/example/dipper/dipper/Centroids", "weights", "[J", .null), ("com/example/dipper/dipper/Centroids", "count", "J", .long 0), ("com/example/dipper/dipper/Centroids", "min", "D", .double 0), ("com/example/dipper/dipper/Centroids", "max", "D", .double 0)])]) rfl ?_
    intro T37 W37 H37
    refine g_dup W37 at_120 (pc' := 121) rfl rfl ?_
    refine g_iconst W37 at_121 (pc' := 122) rfl (v := (2 : Int32)) (by decide) ?_
    refine g_iload W37 at_122 (pc' := 124) rfl rfl ?_
    refine g_i2d W37 at_124 (pc' := 125) rfl rfl ?_
    refine g_dastore W37 H37 (i := 0) rfl (jx := 2) (by decide) (by exact (by decide : 2 < 4)) at_125 (pc' := 126) rfl (L' := [(a35, ArC Z .double [.double (FP.i2d m0), .double (FP.i2d (m0 + d1)), .double (FP.i2d ((m0 + d1) + d2)), .double 0]), (a34, ObC Z "com/example/dipper/dipper/Centroids" [("com/example/dipper/dipper/Centroids", "means", "[D", .null), ("com/example/dipper/dipper/Centroids", "weights", "[J", .null), ("com/example/dipper/dipper/Centroids", "count", "J", .long 0), ("com/example/dipper/dipper/Centroids", "min", "D", .double 0), ("com/example/dipper/dipper/Centroids", "max", "D", .double 0)])]) rfl ?_
    intro T38 W38 H38
    refine g_dup W38 at_126 (pc' := 127) rfl rfl ?_
    refine g_iconst W38 at_127 (pc' := 128) rfl (v := (3 : Int32)) (by decide) ?_
    refine g_iload W38 at_128 (pc' := 130) rfl rfl ?_
    refine g_i2d W38 at_130 (pc' := 131) rfl rfl ?_
    refine g_dastore W38 H38 (i := 0) rfl (jx := 3) (by decide) (by exact (by decide : 3 < 4)) at_131 (pc' := 132) rfl (L' := [(a35, ArC Z .double [.double (FP.i2d m0), .double (FP.i2d (m0 + d1)), .double (FP.i2d ((m0 + d1) + d2)), .double (FP.i2d (((m0 + d1) + d2) + d3))]), (a34, ObC Z "com/example/dipper/dipper/Centroids" [("com/example/dipper/dipper/Centroids", "means", "[D", .null), ("com/example/dipper/dipper/Centroids", "weights", "[J", .null), ("com/example/dipper/dipper/Centroids", "count", "J", .long 0), ("com/example/dipper/dipper/Centroids", "min", "D", .double 0), ("com/example/dipper/dipper/Centroids", "max", "D", .double 0)])]) rfl ?_
    intro T39 W39 H39
    refine g_iconst W39 at_132 (pc' := 133) rfl (v := (4 : Int32)) (by decide) ?_
    refine g_newarr (aty := .long) W39 (wd_10 hw) H39 (by decide) (vs := [.long 0, .long 0, .long 0, .long 0]) rfl (cap := 4) (Nat.le_of_eq rfl) (by decide) at_133 (pc' := 135) rfl (kc' := 3) (ks' := 13) rfl rfl (by decide) (by decide) ?_
    intro T40 a40 W40 H40
    replace H40 : Hp Z n0 T40.heap [(a40, ArC Z .long [.long 0, .long 0, .long 0, .long 0]), (a35, ArC Z .double [.double (FP.i2d m0), .double (FP.i2d (m0 + d1)), .double (FP.i2d ((m0 + d1) + d2)), .double (FP.i2d (((m0 + d1) + d2) + d3))]), (a34, ObC Z "com/example/dipper/dipper/Centroids" [("com/example/dipper/dipper/Centroids", "means", "[D", .null), ("com/example/dipper/dipper/Centroids", "weights", "[J", .null), ("com/example/dipper/dipper/Centroids", "count", "J", .long 0), ("com/example/dipper/dipper/Centroids", "min", "D", .double 0), ("com/example/dipper/dipper/Centroids", "max", "D", .double 0)])] := H40
    refine g_dup W40 at_135 (pc' := 136) rfl rfl ?_
    refine g_iconst W40 at_136 (pc' := 137) rfl (v := (0 : Int32)) (by decide) ?_
    refine g_lload W40 at_137 (pc' := 139) rfl rfl ?_
    refine g_lastore W40 H40 (i := 0) rfl (jx := 0) (by decide) (by exact (by decide : 0 < 4)) at_139 (pc' := 140) rfl (L' := [(a40, ArC Z .long [.long u0, .long 0, .long 0, .long 0]), (a35, ArC Z .double [.double (FP.i2d m0), .double (FP.i2d (m0 + d1)), .double (FP.i2d ((m0 + d1) + d2)), .double (FP.i2d (((m0 + d1) + d2) + d3))]), (a34, ObC Z "com/example/dipper/dipper/Centroids" [("com/example/dipper/dipper/Centroids", "means", "[D", .null), ("com/example/dipper/dipper/Centroids", "weights", "[J", .null), ("com/example/dipper/dipper/Centroids", "count", "J", .long 0), ("com/example/dipper/dipper/Centroids", "min", "D", .double 0), ("com/example/dipper/dipper/Centroids", "max", "D", .double 0)])]) rfl ?_
    intro T41 W41 H41
    refine g_dup W41 at_140 (pc' := 141) rfl rfl ?_
    refine g_iconst W41 at_141 (pc' := 142) rfl (v := (1 : Int32)) (by decide) ?_
    refine g_lload W41 at_142 (pc' := 144) rfl rfl ?_
    refine g_lastore W41 H41 (i := 0) rfl (jx := 1) (by decide) (by exact (by decide : 1 < 4)) at_144 (pc' := 145) rfl (L' := [(a40, ArC Z .long [.long u0, .long u1, .long 0, .long 0]), (a35, ArC Z .double [.double (FP.i2d m0), .double (FP.i2d (m0 + d1)), .double (FP.i2d ((m0 + d1) + d2)), .double (FP.i2d (((m0 + d1) + d2) + d3))]), (a34, ObC Z "com/example/dipper/dipper/Centroids" [("com/example/dipper/dipper/Centroids", "means", "[D", .null), ("com/example/dipper/dipper/Centroids", "weights", "[J", .null), ("com/example/dipper/dipper/Centroids", "count", "J", .long 0), ("com/example/dipper/dipper/Centroids", "min", "D", .double 0), ("com/example/dipper/dipper/Centroids", "max", "D", .double 0)])]) rfl ?_
    intro T42 W42 H42
    refine g_dup W42 at_145 (pc' := 146) rfl rfl ?_
    refine g_iconst W42 at_146 (pc' := 147) rfl (v := (2 : Int32)) (by decide) ?_
    refine g_lload W42 at_147 (pc' := 149) rfl rfl ?_
    refine g_lastore W42 H42 (i := 0) rfl (jx := 2) (by decide) (by exact (by decide : 2 < 4)) at_149 (pc' := 150) rfl (L' := [(a40, ArC Z .long [.long u0, .long u1, .long u2, .long 0]), (a35, ArC Z .double [.double (FP.i2d m0), .double (FP.i2d (m0 + d1)), .double (FP.i2d ((m0 + d1) + d2)), .double (FP.i2d (((m0 + d1) + d2) + d3))]), (a34, ObC Z "com/example/dipper/dipper/Centroids" [("com/example/dipper/dipper/Centroids", "means", "[D", .null), ("com/example/dipper/dipper/Centroids", "weights", "[J", .null), ("com/example/dipper/dipper/Centroids", "count", "J", .long 0), ("com/example/dipper/dipper/Centroids", "min", "D", .double 0), ("com/example/dipper/dipper/Centroids", "max", "D", .double 0)])]) rfl ?_
    intro T43 W43 H43
    refine g_dup W43 at_150 (pc' := 151) rfl rfl ?_
    refine g_iconst W43 at_151 (pc' := 152) rfl (v := (3 : Int32)) (by decide) ?_
    refine g_lload W43 at_152 (pc' := 154) rfl rfl ?_
    refine g_lastore W43 H43 (i := 0) rfl (jx := 3) (by decide) (by exact (by decide : 3 < 4)) at_154 (pc' := 155) rfl (L' := [(a40, ArC Z .long [.long u0, .long u1, .long u2, .long u3]), (a35, ArC Z .double [.double (FP.i2d m0), .double (FP.i2d (m0 + d1)), .double (FP.i2d ((m0 + d1) + d2)), .double (FP.i2d (((m0 + d1) + d2) + d3))]), (a34, ObC Z "com/example/dipper/dipper/Centroids" [("com/example/dipper/dipper/Centroids", "means", "[D", .null), ("com/example/dipper/dipper/Centroids", "weights", "[J", .null), ("com/example/dipper/dipper/Centroids", "count", "J", .long 0), ("com/example/dipper/dipper/Centroids", "min", "D", .double 0), ("com/example/dipper/dipper/Centroids", "max", "D", .double 0)])]) rfl ?_
    intro T44 W44 H44
    refine g_lload W44 at_155 (pc' := 157) rfl rfl ?_
    refine g_lload W44 at_157 (pc' := 159) rfl rfl ?_
    refine g_ladd W44 at_159 (pc' := 160) rfl rfl ?_
    refine g_lload W44 at_160 (pc' := 162) rfl rfl ?_
    refine g_ladd W44 at_162 (pc' := 163) rfl rfl ?_
    refine g_lload W44 at_163 (pc' := 165) rfl rfl ?_
    refine g_ladd W44 at_165 (pc' := 166) rfl rfl ?_
    refine g_iload W44 at_166 (pc' := 168) rfl rfl ?_
    refine g_i2d W44 at_168 (pc' := 169) rfl rfl ?_
    refine g_iload W44 at_169 (pc' := 171) rfl rfl ?_
    refine g_i2d W44 at_171 (pc' := 172) rfl rfl ?_
    have H45f : Hp Z n0 T44.heap [(a34, ObC Z "com/example/dipper/dipper/Centroids" [("com/example/dipper/dipper/Centroids", "means", "[D", .null), ("com/example/dipper/dipper/Centroids", "weights", "[J", .null), ("com/example/dipper/dipper/Centroids", "count", "J", .long 0), ("com/example/dipper/dipper/Centroids", "min", "D", .double 0), ("com/example/dipper/dipper/Centroids", "max", "D", .double 0)]), (a40, ArC Z .long [.long u0, .long u1, .long u2, .long u3]), (a35, ArC Z .double [.double (FP.i2d m0), .double (FP.i2d (m0 + d1)), .double (FP.i2d ((m0 + d1) + d2)), .double (FP.i2d (((m0 + d1) + d2) + d3))])] := H44.front (i := 2) rfl rfl
    refine g_callI W44 (argsL := [.ref a35, .ref a40, .long (((u0 + u1) + u2) + u3), .double (FP.i2d lo), .double (FP.i2d hi)]) (st := [.ref a34]) rfl (wd_11 hw) (wd_12 hw) (wd_8 hw) (wd_13 hw) (by decide) (a := a34) (c_init l Z a0 hw n0 a34 a35 a40 (((u0 + u1) + u2) + u3) (FP.i2d lo) (FP.i2d hi) _ _ H45f) pd_2 rfl rfl rfl at_172 (pc' := 175) rfl (by decide) (Wn := 1) (Nat.le_of_eq rfl) (by decide) (kc' := 3) (ks' := 13) rfl rfl (by decide) (by decide) ?_
    intro T46 v46 W46 hp46
    obtain ⟨rfl, H46⟩ := hp46
    show Goes p e below _ (T46.setTop (mkF m 175 #[.val (.long p0), .second, .val (.int p1), .val (.int p2), .val (.int p3), .val (.int p4), .val (.int m0), .val (.int d1), .val (.int d2), .val (.int d3), .val (.int (m0 + d1)), .val (.int ((m0 + d1) + d2)), .val (.int (((m0 + d1) + d2) + d3)), .val (.int lo), .val (.int hi), .val (.long u0), .second, .val (.long u1), .second, .val (.long u2), .second, .val (.long u3), .second, .val (.int (1 : Int32)), .unset, .unset, .unset, .unset, .unset, .unset, .unset] [.ref a34]))
    have H47f : Hp Z n0 T46.heap [(a40, ArC Z .long [.long u0, .long u1, .long u2, .long u3]), (a34, ObC Z "com/example/dipper/dipper/Centroids" [("com/example/dipper/dipper/Centroids", "means", "[D", .ref a35), ("com/example/dipper/dipper/Centroids", "weights", "[J", .ref a40), ("com/example/dipper/dipper/Centroids", "count", "J", .long (((u0 + u1) + u2) + u3)), ("com/example/dipper/dipper/Centroids", "min", "D", .double (FP.i2d lo)), ("com/example/dipper/dipper/Centroids", "max", "D", .double (FP.i2d hi))]), (a35, ArC Z .double [.double (FP.i2d m0), .double (FP.i2d (m0 + d1)), .double (FP.i2d ((m0 + d1) + d2)), .double (FP.i2d (((m0 + d1) + d2) + d3))])] := H46.front (i := 1) rfl rfl
    have H48f : Hp Z n0 T46.heap [(a35, ArC Z .double [.double (FP.i2d m0), .double (FP.i2d (m0 + d1)), .double (FP.i2d ((m0 + d1) + d2)), .double (FP.i2d (((m0 + d1) + d2) + d3))]), (a40, ArC Z .long [.long u0, .long u1, .long u2, .long u3]), (a34, ObC Z "com/example/dipper/dipper/Centroids" [("com/example/dipper/dipper/Centroids", "means", "[D", .ref a35), ("com/example/dipper/dipper/Centroids", "weights", "[J", .ref a40), ("com/example/dipper/dipper/Centroids", "count", "J", .long (((u0 + u1) + u2) + u3)), ("com/example/dipper/dipper/Centroids", "min", "D", .double (FP.i2d lo)), ("com/example/dipper/dipper/Centroids", "max", "D", .double (FP.i2d hi))])] := H47f.front (i := 2) rfl rfl
    have H49f : Hp Z n0 T46.heap [(a34, ObC Z "com/example/dipper/dipper/Centroids" [("com/example/dipper/dipper/Centroids", "means", "[D", .ref a35), ("com/example/dipper/dipper/Centroids", "weights", "[J", .ref a40), ("com/example/dipper/dipper/Centroids", "count", "J", .long (((u0 + u1) + u2) + u3)), ("com/example/dipper/dipper/Centroids", "min", "D", .double (FP.i2d lo)), ("com/example/dipper/dipper/Centroids", "max", "D", .double (FP.i2d hi))]), (a35, ArC Z .double [.double (FP.i2d m0), .double (FP.i2d (m0 + d1)), .double (FP.i2d ((m0 + d1) + d2)), .double (FP.i2d (((m0 + d1) + d2) + d3))]), (a40, ArC Z .long [.long u0, .long u1, .long u2, .long u3])] := H48f.front (i := 2) rfl rfl
    refine g_astore W46 at_175 (pc' := 177) rfl rfl (ls' := #[.val (.long p0), .second, .val (.int p1), .val (.int p2), .val (.int p3), .val (.int p4), .val (.int m0), .val (.int d1), .val (.int d2), .val (.int d3), .val (.int (m0 + d1)), .val (.int ((m0 + d1) + d2)), .val (.int (((m0 + d1) + d2) + d3)), .val (.int lo), .val (.int hi), .val (.long u0), .second, .val (.long u1), .second, .val (.long u2), .second, .val (.long u3), .second, .val (.int (1 : Int32)), .val (.ref a34), .unset, .unset, .unset, .unset, .unset, .unset]) rfl ?_
    refine g_iload W46 at_177 (pc' := 179) rfl rfl ?_
    refine g_if W46 at_179 (pcy := 187) (by decide) (pc' := 182) rfl (fun _ => ?_) (fun (h : ¬ ¬ (1 : Int32) = (0 : Int32)) => absurd h (by decide))
    refine g_iload W46 at_187 (pc' := 189) rfl rfl ?_
    refine g_iconst W46 at_189 (pc' := 190) rfl (v := (1 : Int32)) (by decide) ?_
    refine g_icmp W46 at_190 (pcy := 198) (by decide) (pc' := 193) rfl (fun (h : ¬ (1 : Int32) = (1 : Int32)) => absurd h (by decide)) (fun _ => ?_)
    refine g_iload W46 at_193 (pc' := 195) rfl rfl ?_
    refine g_goto W46 at_195 (pc' := 211) (by decide) ?_
    refine g_istore W46 at_211 (pc' := 213) rfl (ls' := #[.val (.long p0), .second, .val (.int p1), .val (.int p2), .val (.int p3), .val (.int p4), .val (.int m0), .val (.int d1), .val (.int d2), .val (.int d3), .val (.int (m0 + d1)), .val (.int ((m0 + d1) + d2)), .val (.int (((m0 + d1) + d2) + d3)), .val (.int lo), .val (.int hi), .val (.long u0), .second, .val (.long u1), .second, .val (.long u2), .second, .val (.long u3), .second, .val (.int (1 : Int32)), .val (.ref a34), .val (.int (m0 + d1)), .unset, .unset, .unset, .unset, .unset]) rfl ?_
    refine g_iload W46 at_213 (pc' := 215) rfl rfl ?_
    refine g_if W46 at_215 (pcy := 223) (by decide) (pc' := 218) rfl (fun _ => ?_) (fun (h : ¬ ¬ (1 : Int32) = (0 : Int32)) => absurd h (by decide))
    refine g_iload W46 at_223 (pc' := 225) rfl rfl ?_
    refine g_iconst W46 at_225 (pc' := 226) rfl (v := (1 : Int32)) (by decide) ?_
    refine g_icmp W46 at_226 (pcy := 234) (by decide) (pc' := 229) rfl (fun (h : ¬ (1 : Int32) = (1 : Int32)) => absurd h (by decide)) (fun _ => ?_)
    refine g_lload W46 at_229 (pc' := 231) rfl rfl ?_
    refine g_goto W46 at_231 (pc' := 247) (by decide) ?_
    refine g_lstore W46 at_247 (pc' := 249) rfl (ls' := #[.val (.long p0), .second, .val (.int p1), .val (.int p2), .val (.int p3), .val (.int p4), .val (.int m0), .val (.int d1), .val (.int d2), .val (.int d3), .val (.int (m0 + d1)), .val (.int ((m0 + d1) + d2)), .val (.int (((m0 + d1) + d2) + d3)), .val (.int lo), .val (.int hi), .val (.long u0), .second, .val (.long u1), .second, .val (.long u2), .second, .val (.long u3), .second, .val (.int (1 : Int32)), .val (.ref a34), .val (.int (m0 + d1)), .val (.long u1), .second, .unset, .unset, .unset]) rfl ?_
    refine g_iload W46 at_249 (pc' := 251) rfl rfl ?_
    refine g_iconst W46 at_251 (pc' := 252) rfl (v := (1 : Int32)) (by decide) ?_
    refine g_icmp W46 at_252 (pcy := 268) (by decide) (pc' := 255) rfl (fun (h : ¬ (1 : Int32) = (1 : Int32)) => absurd h (by decide)) (fun _ => ?_)
    refine g_iload W46 at_255 (pc' := 257) rfl rfl ?_
    refine g_if W46 at_257 (pcy := 264) (by decide) (pc' := 260) rfl (fun (c50 : ¬ d1 = (0 : Int32)) => ?_) (fun (c50 : ¬ ¬ d1 = (0 : Int32)) => ?_)
    · refine g_iconst W46 at_264 (pc' := 265) rfl (v := (0 : Int32)) (by decide) ?_
      refine g_goto W46 at_265 (pc' := 307) (by decide) ?_
      refine g_istore W46 at_307 (pc' := 309) rfl (ls' := #[.val (.long p0), .second, .val (.int p1), .val (.int p2), .val (.int p3), .val (.int p4), .val (.int m0), .val (.int d1), .val (.int d2), .val (.int d3), .val (.int (m0 + d1)), .val (.int ((m0 + d1) + d2)), .val (.int (((m0 + d1) + d2) + d3)), .val (.int lo), .val (.int hi), .val (.long u0), .second, .val (.long u1), .second, .val (.long u2), .second, .val (.long u3), .second, .val (.int (1 : Int32)), .val (.ref a34), .val (.int (m0 + d1)), .val (.long u1), .second, .val (.int (0 : Int32)), .unset, .unset]) rfl ?_
      refine g_iload W46 at_309 (pc' := 311) rfl rfl ?_
      refine g_if W46 at_311 (pcy := 327) (by decide) (pc' := 314) rfl (fun _ => ?_) (fun (h : ¬ ¬ (1 : Int32) = (0 : Int32)) => absurd h (by decide))
      refine g_iload W46 at_327 (pc' := 329) rfl rfl ?_
      refine g_iconst W46 at_329 (pc' := 330) rfl (v := (1 : Int32)) (by decide) ?_
      refine g_icmp W46 at_330 (pcy := 346) (by decide) (pc' := 333) rfl (fun (h : ¬ (1 : Int32) = (1 : Int32)) => absurd h (by decide)) (fun _ => ?_)
      refine g_iload W46 at_333 (pc' := 335) rfl rfl ?_
      refine g_if W46 at_335 (pcy := 342) (by decide) (pc' := 338) rfl (fun (c51 : ¬ d2 = (0 : Int32)) => ?_) (fun (c51 : ¬ ¬ d2 = (0 : Int32)) => ?_)
      · refine g_iconst W46 at_342 (pc' := 343) rfl (v := (0 : Int32)) (by decide) ?_
        refine g_goto W46 at_343 (pc' := 366) (by decide) ?_
        refine g_istore W46 at_366 (pc' := 368) rfl (ls' := #[.val (.long p0), .second, .val (.int p1), .val (.int p2), .val (.int p3), .val (.int p4), .val (.int m0), .val (.int d1), .val (.int d2), .val (.int d3), .val (.int (m0 + d1)), .val (.int ((m0 + d1) + d2)), .val (.int (((m0 + d1) + d2) + d3)), .val (.int lo), .val (.int hi), .val (.long u0), .second, .val (.long u1), .second, .val (.long u2), .second, .val (.long u3), .second, .val (.int (1 : Int32)), .val (.ref a34), .val (.int (m0 + d1)), .val (.long u1), .second, .val (.int (0 : Int32)), .val (.int (0 : Int32)), .unset]) rfl ?_
        refine g_lload W46 at_368 (pc' := 370) rfl rfl ?_
        refine g_lconst W46 at_370 (pc' := 371) rfl (v := (1 : Int64)) (by decide) ?_
        refine g_lcmp W46 at_371 (pc' := 372) rfl rfl ?_
        refine g_if W46 at_372 (pcy := 406) (by decide) (pc' := 375) rfl (fun (c52 : (XT.cmpL u1 (1 : Int64)) = (0 : Int32)) => ?_) (fun (c52 : ¬ (XT.cmpL u1 (1 : Int64)) = (0 : Int32)) => ?_)
        · refine g_iconst W46 at_406 (pc' := 407) rfl (v := (1 : Int32)) (by decide) ?_
          refine g_goto W46 at_407 (pc' := 411) (by decide) ?_
          refine g_istore W46 at_411 (pc' := 413) rfl (ls' := #[.val (.long p0), .second, .val (.int p1), .val (.int p2), .val (.int p3), .val (.int p4), .val (.int m0), .val (.int d1), .val (.int d2), .val (.int d3), .val (.int (m0 + d1)), .val (.int ((m0 + d1) + d2)), .val (.int (((m0 + d1) + d2) + d3)), .val (.int lo), .val (.int hi), .val (.long u0), .second, .val (.long u1), .second, .val (.long u2), .second, .val (.long u3), .second, .val (.int (1 : Int32)), .val (.ref a34), .val (.int (m0 + d1)), .val (.long u1), .second, .val (.int (0 : Int32)), .val (.int (0 : Int32)), .val (.int (1 : Int32))]) rfl ?_
          refine g_aload W46 at_413 (pc' := 415) rfl rfl rfl ?_
          refine g_iload W46 at_415 (pc' := 417) rfl rfl ?_
          refine g_callV W46 (argsL := [.int (1 : Int32)]) (st := []) (wd_27 hw) (wd_28 hw) (wd_30 hw) (wd_29 hw) (wd_8 hw) (wd_31 hw) (by decide) (a := a34) H49f (i := 0) rfl (c_hold1 l Z a0 hw n0 a34 a35 a40 (((u0 + u1) + u2) + u3) (FP.i2d lo) (FP.i2d hi) (FP.i2d m0) (FP.i2d (m0 + d1)) (FP.i2d ((m0 + d1) + d2)) (FP.i2d (((m0 + d1) + d2) + d3)) u0 u1 u2 u3 (1 : Int32) ((if_pos (Or.inl (cmpL_eq0.mp c52))).symm) _ _ H49f) pd_0 rfl rfl rfl at_417 (pc' := 420) rfl (by decide) (Wn := 0) (Nat.le_of_eq rfl) (by decide) (kc' := 3) (ks' := 13) rfl rfl (by decide) (by decide) ?_
          intro T53 v53 W53 hp53
          obtain ⟨rfl, H53⟩ := hp53
          show Goes p e below _ (T53.setTop (mkF m 420 #[.val (.long p0), .second, .val (.int p1), .val (.int p2), .val (.int p3), .val (.int p4), .val (.int m0), .val (.int d1), .val (.int d2), .val (.int d3), .val (.int (m0 + d1)), .val (.int ((m0 + d1) + d2)), .val (.int (((m0 + d1) + d2) + d3)), .val (.int lo), .val (.int hi), .val (.long u0), .second, .val (.long u1), .second, .val (.long u2), .second, .val (.long u3), .second, .val (.int (1 : Int32)), .val (.ref a34), .val (.int (m0 + d1)), .val (.long u1), .second, .val (.int (0 : Int32)), .val (.int (0 : Int32)), .val (.int (1 : Int32))] [.int (1 : Int32)]))
          refine g_iload W53 at_420 (pc' := 422) rfl rfl ?_
          refine g_icmp W53 at_422 (pcy := 429) (by decide) (pc' := 425) rfl (fun (h : ¬ (1 : Int32) = (1 : Int32)) => absurd h (by decide)) (fun _ => ?_)
          refine g_iconst W53 at_425 (pc' := 426) rfl (v := (1 : Int32)) (by decide) ?_
          refine g_goto W53 at_426 (pc' := 430) (by decide) ?_
          exact g_zreturn W53 (by decide) at_430 rfl (by decide) (by decide)
        · refine g_iload W46 at_375 (pc' := 377) rfl rfl ?_
          refine g_if W46 at_377 (pcy := 406) (by decide) (pc' := 380) rfl (fun (h : ¬ (0 : Int32) = (0 : Int32)) => absurd h (by decide)) (fun _ => ?_)
          refine g_iload W46 at_380 (pc' := 382) rfl rfl ?_
          refine g_if W46 at_382 (pcy := 406) (by decide) (pc' := 385) rfl (fun (h : ¬ (0 : Int32) = (0 : Int32)) => absurd h (by decide)) (fun _ => ?_)
          refine g_lload W46 at_385 (pc' := 387) rfl rfl ?_
          refine g_lconst W46 at_387 (pc' := 388) rfl (v := (1 : Int64)) (by decide) ?_
          refine g_lcmp W46 at_388 (pc' := 389) rfl rfl ?_
          refine g_if W46 at_389 (pcy := 410) (by decide) (pc' := 392) rfl (fun (c54 : ¬ (0 : Int32) < (XT.cmpL u1 (1 : Int64))) => ?_) (fun (c54 : ¬ ¬ (0 : Int32) < (XT.cmpL u1 (1 : Int64))) => ?_)
          · refine g_iconst W46 at_410 (pc' := 411) rfl (v := (0 : Int32)) (by decide) ?_
            refine g_istore W46 at_411 (pc' := 413) rfl (ls' := #[.val (.long p0), .second, .val (.int p1), .val (.int p2), .val (.int p3), .val (.int p4), .val (.int m0), .val (.int d1), .val (.int d2), .val (.int d3), .val (.int (m0 + d1)), .val (.int ((m0 + d1) + d2)), .val (.int (((m0 + d1) + d2) + d3)), .val (.int lo), .val (.int hi), .val (.long u0), .second, .val (.long u1), .second, .val (.long u2), .second, .val (.long u3), .second, .val (.int (1 : Int32)), .val (.ref a34), .val (.int (m0 + d1)), .val (.long u1), .second, .val (.int (0 : Int32)), .val (.int (0 : Int32)), .val (.int (0 : Int32))]) rfl ?_
            refine g_aload W46 at_413 (pc' := 415) rfl rfl rfl ?_
            refine g_iload W46 at_415 (pc' := 417) rfl rfl ?_
            refine g_callV W46 (argsL := [.int (1 : Int32)]) (st := []) (wd_27 hw) (wd_28 hw) (wd_30 hw) (wd_29 hw) (wd_8 hw) (wd_31 hw) (by decide) (a := a34) H49f (i := 0) rfl (c_hold1 l Z a0 hw n0 a34 a35 a40 (((u0 + u1) + u2) + u3) (FP.i2d lo) (FP.i2d hi) (FP.i2d m0) (FP.i2d (m0 + d1)) (FP.i2d ((m0 + d1) + d2)) (FP.i2d (((m0 + d1) + d2) + d3)) u0 u1 u2 u3 (0 : Int32) ((if_neg (fun q => q.elim (fun q => c52 (cmpL_eq0.mpr q)) (fun q => q.elim (fun q => c50 (own_step.mp q)) (fun q => q.elim (fun q => c51 (own_step'.mp q)) (fun q => c54 (cmpL_gt0.mpr q.1)))))).symm) _ _ H49f) pd_0 rfl rfl rfl at_417 (pc' := 420) rfl (by decide) (Wn := 0) (Nat.le_of_eq rfl) (by decide) (kc' := 3) (ks' := 13) rfl rfl (by decide) (by decide) ?_
            intro T55 v55 W55 hp55
            obtain ⟨rfl, H55⟩ := hp55
            show Goes p e below _ (T55.setTop (mkF m 420 #[.val (.long p0), .second, .val (.int p1), .val (.int p2), .val (.int p3), .val (.int p4), .val (.int m0), .val (.int d1), .val (.int d2), .val (.int d3), .val (.int (m0 + d1)), .val (.int ((m0 + d1) + d2)), .val (.int (((m0 + d1) + d2) + d3)), .val (.int lo), .val (.int hi), .val (.long u0), .second, .val (.long u1), .second, .val (.long u2), .second, .val (.long u3), .second, .val (.int (1 : Int32)), .val (.ref a34), .val (.int (m0 + d1)), .val (.long u1), .second, .val (.int (0 : Int32)), .val (.int (0 : Int32)), .val (.int (0 : Int32))] [.int (0 : Int32)]))
            refine g_iload W55 at_420 (pc' := 422) rfl rfl ?_
            refine g_icmp W55 at_422 (pcy := 429) (by decide) (pc' := 425) rfl (fun (h : ¬ (0 : Int32) = (0 : Int32)) => absurd h (by decide)) (fun _ => ?_)
            refine g_iconst W55 at_425 (pc' := 426) rfl (v := (1 : Int32)) (by decide) ?_
            refine g_goto W55 at_426 (pc' := 430) (by decide) ?_
            exact g_zreturn W55 (by decide) at_430 rfl (by decide) (by decide)
          · replace c54 := Classical.not_not.mp c54
            refine g_iload W46 at_392 (pc' := 394) rfl rfl ?_
            refine g_iload W46 at_394 (pc' := 396) rfl rfl ?_
            refine g_icmp W46 at_396 (pcy := 406) (by decide) (pc' := 399) rfl (fun (c56 : (m0 + d1) = lo) => ?_) (fun (c56 : ¬ (m0 + d1) = lo) => ?_)
            · refine g_iconst W46 at_406 (pc' := 407) rfl (v := (1 : Int32)) (by decide) ?_
              refine g_goto W46 at_407 (pc' := 411) (by decide) ?_
              refine g_istore W46 at_411 (pc' := 413) rfl (ls' := #[.val (.long p0), .second, .val (.int p1), .val (.int p2), .val (.int p3), .val (.int p4), .val (.int m0), .val (.int d1), .val (.int d2), .val (.int d3), .val (.int (m0 + d1)), .val (.int ((m0 + d1) + d2)), .val (.int (((m0 + d1) + d2) + d3)), .val (.int lo), .val (.int hi), .val (.long u0), .second, .val (.long u1), .second, .val (.long u2), .second, .val (.long u3), .second, .val (.int (1 : Int32)), .val (.ref a34), .val (.int (m0 + d1)), .val (.long u1), .second, .val (.int (0 : Int32)), .val (.int (0 : Int32)), .val (.int (1 : Int32))]) rfl ?_
              refine g_aload W46 at_413 (pc' := 415) rfl rfl rfl ?_
              refine g_iload W46 at_415 (pc' := 417) rfl rfl ?_
              refine g_callV W46 (argsL := [.int (1 : Int32)]) (st := []) (wd_27 hw) (wd_28 hw) (wd_30 hw) (wd_29 hw) (wd_8 hw) (wd_31 hw) (by decide) (a := a34) H49f (i := 0) rfl (c_hold1 l Z a0 hw n0 a34 a35 a40 (((u0 + u1) + u2) + u3) (FP.i2d lo) (FP.i2d hi) (FP.i2d m0) (FP.i2d (m0 + d1)) (FP.i2d ((m0 + d1) + d2)) (FP.i2d (((m0 + d1) + d2) + d3)) u0 u1 u2 u3 (1 : Int32) ((if_pos (Or.inr (Or.inr (Or.inr ⟨cmpL_gt0.mp c54, Or.inl (own_i2d_eq.mpr c56)⟩)))).symm) _ _ H49f) pd_0 rfl rfl rfl at_417 (pc' := 420) rfl (by decide) (Wn := 0) (Nat.le_of_eq rfl) (by decide) (kc' := 3) (ks' := 13) rfl rfl (by decide) (by decide) ?_
              intro T57 v57 W57 hp57
              obtain ⟨rfl, H57⟩ := hp57
              show Goes p e below _ (T57.setTop (mkF m 420 #[.val (.long p0), .second, .val (.int p1), .val (.int p2), .val (.int p3), .val (.int p4), .val (.int m0), .val (.int d1), .val (.int d2), .val (.int d3), .val (.int (m0 + d1)), .val (.int ((m0 + d1) + d2)), .val (.int (((m0 + d1) + d2) + d3)), .val (.int lo), .val (.int hi), .val (.long u0), .second, .val (.long u1), .second, .val (.long u2), .second, .val (.long u3), .second, .val (.int (1 : Int32)), .val (.ref a34), .val (.int (m0 + d1)), .val (.long u1), .second, .val (.int (0 : Int32)), .val (.int (0 : Int32)), .val (.int (1 : Int32))] [.int (1 : Int32)]))
              refine g_iload W57 at_420 (pc' := 422) rfl rfl ?_
              refine g_icmp W57 at_422 (pcy := 429) (by decide) (pc' := 425) rfl (fun (h : ¬ (1 : Int32) = (1 : Int32)) => absurd h (by decide)) (fun _ => ?_)
              refine g_iconst W57 at_425 (pc' := 426) rfl (v := (1 : Int32)) (by decide) ?_
              refine g_goto W57 at_426 (pc' := 430) (by decide) ?_
              exact g_zreturn W57 (by decide) at_430 rfl (by decide) (by decide)
            · refine g_iload W46 at_399 (pc' := 401) rfl rfl ?_
              refine g_iload W46 at_401 (pc' := 403) rfl rfl ?_
              refine g_icmp W46 at_403 (pcy := 410) (by decide) (pc' := 406) rfl (fun (c58 : ¬ (m0 + d1) = hi) => ?_) (fun (c58 : ¬ ¬ (m0 + d1) = hi) => ?_)
              · refine g_iconst W46 at_410 (pc' := 411) rfl (v := (0 : Int32)) (by decide) ?_
                refine g_istore W46 at_411 (pc' := 413) rfl (ls' := #[.val (.long p0), .second, .val (.int p1), .val (.int p2), .val (.int p3), .val (.int p4), .val (.int m0), .val (.int d1), .val (.int d2), .val (.int d3), .val (.int (m0 + d1)), .val (.int ((m0 + d1) + d2)), .val (.int (((m0 + d1) + d2) + d3)), .val (.int lo), .val (.int hi), .val (.long u0), .second, .val (.long u1), .second, .val (.long u2), .second, .val (.long u3), .second, .val (.int (1 : Int32)), .val (.ref a34), .val (.int (m0 + d1)), .val (.long u1), .second, .val (.int (0 : Int32)), .val (.int (0 : Int32)), .val (.int (0 : Int32))]) rfl ?_
                refine g_aload W46 at_413 (pc' := 415) rfl rfl rfl ?_
                refine g_iload W46 at_415 (pc' := 417) rfl rfl ?_
                refine g_callV W46 (argsL := [.int (1 : Int32)]) (st := []) (wd_27 hw) (wd_28 hw) (wd_30 hw) (wd_29 hw) (wd_8 hw) (wd_31 hw) (by decide) (a := a34) H49f (i := 0) rfl (c_hold1 l Z a0 hw n0 a34 a35 a40 (((u0 + u1) + u2) + u3) (FP.i2d lo) (FP.i2d hi) (FP.i2d m0) (FP.i2d (m0 + d1)) (FP.i2d ((m0 + d1) + d2)) (FP.i2d (((m0 + d1) + d2) + d3)) u0 u1 u2 u3 (0 : Int32) ((if_neg (fun q => q.elim (fun q => c52 (cmpL_eq0.mpr q)) (fun q => q.elim (fun q => c50 (own_step.mp q)) (fun q => q.elim (fun q => c51 (own_step'.mp q)) (fun q => q.2.elim (fun q => c56 (own_i2d_eq.mp q)) (fun q => c58 (own_i2d_eq.mp q))))))).symm) _ _ H49f) pd_0 rfl rfl rfl at_417 (pc' := 420) rfl (by decide) (Wn := 0) (Nat.le_of_eq rfl) (by decide) (kc' := 3) (ks' := 13) rfl rfl (by decide) (by decide) ?_
                intro T59 v59 W59 hp59
                obtain ⟨rfl, H59⟩ := hp59
                show Goes p e below _ (T59.setTop (mkF m 420 #[.val (.long p0), .second, .val (.int p1), .val (.int p2), .val (.int p3), .val (.int p4), .val (.int m0), .val (.int d1), .val (.int d2), .val (.int d3), .val (.int (m0 + d1)), .val (.int ((m0 + d1) + d2)), .val (.int (((m0 + d1) + d2) + d3)), .val (.int lo), .val (.int hi), .val (.long u0), .second, .val (.long u1), .second, .val (.long u2), .second, .val (.long u3), .second, .val (.int (1 : Int32)), .val (.ref a34), .val (.int (m0 + d1)), .val (.long u1), .second, .val (.int (0 : Int32)), .val (.int (0 : Int32)), .val (.int (0 : Int32))] [.int (0 : Int32)]))
                refine g_iload W59 at_420 (pc' := 422) rfl rfl ?_
                refine g_icmp W59 at_422 (pcy := 429) (by decide) (pc' := 425) rfl (fun (h : ¬ (0 : Int32) = (0 : Int32)) => absurd h (by decide)) (fun _ => ?_)
                refine g_iconst W59 at_425 (pc' := 426) rfl (v := (1 : Int32)) (by decide) ?_
                refine g_goto W59 at_426 (pc' := 430) (by decide) ?_
                exact g_zreturn W59 (by decide) at_430 rfl (by decide) (by decide)
              · replace c58 := Classical.not_not.mp c58
                refine g_iconst W46 at_406 (pc' := 407) rfl (v := (1 : Int32)) (by decide) ?_
                refine g_goto W46 at_407 (pc' := 411) (by decide) ?_
                refine g_istore W46 at_411 (pc' := 413) rfl (ls' := #[.val (.long p0), .second, .val (.int p1), .val (.int p2), .val (.int p3), .val (.int p4), .val (.int m0), .val (.int d1), .val (.int d2), .val (.int d3), .val (.int (m0 + d1)), .val (.int ((m0 + d1) + d2)), .val (.int (((m0 + d1) + d2) + d3)), .val (.int lo), .val (.int hi), .val (.long u0), .second, .val (.long u1), .second, .val (.long u2), .second, .val (.long u3), .second, .val (.int (1 : Int32)), .val (.ref a34), .val (.int (m0 + d1)), .val (.long u1), .second, .val (.int (0 : Int32)), .val (.int (0 : Int32)), .val (.int (1 : Int32))]) rfl ?_
                refine g_aload W46 at_413 (pc' := 415) rfl rfl rfl ?_
                refine g_iload W46 at_415 (pc' := 417) rfl rfl ?_
                refine g_callV W46 (argsL := [.int (1 : Int32)]) (st := []) (wd_27 hw) (wd_28 hw) (wd_30 hw) (wd_29 hw) (wd_8 hw) (wd_31 hw) (by decide) (a := a34) H49f (i := 0) rfl (c_hold1 l Z a0 hw n0 a34 a35 a40 (((u0 + u1) + u2) + u3) (FP.i2d lo) (FP.i2d hi) (FP.i2d m0) (FP.i2d (m0 + d1)) (FP.i2d ((m0 + d1) + d2)) (FP.i2d (((m0 + d1) + d2) + d3)) u0 u1 u2 u3 (1 : Int32) ((if_pos (Or.inr (Or.inr (Or.inr ⟨cmpL_gt0.mp c54, Or.inr (own_i2d_eq.mpr c58)⟩)))).symm) _ _ H49f) pd_0 rfl rfl rfl at_417 (pc' := 420) rfl (by decide) (Wn := 0) (Nat.le_of_eq rfl) (by decide) (kc' := 3) (ks' := 13) rfl rfl (by decide) (by decide) ?_
                intro T60 v60 W60 hp60
                obtain ⟨rfl, H60⟩ := hp60
                show Goes p e below _ (T60.setTop (mkF m 420 #[.val (.long p0), .second, .val (.int p1), .val (.int p2), .val (.int p3), .val (.int p4), .val (.int m0), .val (.int d1), .val (.int d2), .val (.int d3), .val (.int (m0 + d1)), .val (.int ((m0 + d1) + d2)), .val (.int (((m0 + d1) + d2) + d3)), .val (.int lo), .val (.int hi), .val (.long u0), .second, .val (.long u1), .second, .val (.long u2), .second, .val (.long u3), .second, .val (.int (1 : Int32)), .val (.ref a34), .val (.int (m0 + d1)), .val (.long u1), .second, .val (.int (0 : Int32)), .val (.int (0 : Int32)), .val (.int (1 : Int32))] [.int (1 : Int32)]))
                refine g_iload W60 at_420 (pc' := 422) rfl rfl ?_
                refine g_icmp W60 at_422 (pcy := 429) (by decide) (pc' := 425) rfl (fun (h : ¬ (1 : Int32) = (1 : Int32)) => absurd h (by decide)) (fun _ => ?_)
                refine g_iconst W60 at_425 (pc' := 426) rfl (v := (1 : Int32)) (by decide) ?_
                refine g_goto W60 at_426 (pc' := 430) (by decide) ?_
                exact g_zreturn W60 (by decide) at_430 rfl (by decide) (by decide)
      · replace c51 := Classical.not_not.mp c51
        refine g_iconst W46 at_338 (pc' := 339) rfl (v := (1 : Int32)) (by decide) ?_
        refine g_goto W46 at_339 (pc' := 366) (by decide) ?_
        refine g_istore W46 at_366 (pc' := 368) rfl (ls' := #[.val (.long p0), .second, .val (.int p1), .val (.int p2), .val (.int p3), .val (.int p4), .val (.int m0), .val (.int d1), .val (.int d2), .val (.int d3), .val (.int (m0 + d1)), .val (.int ((m0 + d1) + d2)), .val (.int (((m0 + d1) + d2) + d3)), .val (.int lo), .val (.int hi), .val (.long u0), .second, .val (.long u1), .second, .val (.long u2), .second, .val (.long u3), .second, .val (.int (1 : Int32)), .val (.ref a34), .val (.int (m0 + d1)), .val (.long u1), .second, .val (.int (0 : Int32)), .val (.int (1 : Int32)), .unset]) rfl ?_
        refine g_lload W46 at_368 (pc' := 370) rfl rfl ?_
        refine g_lconst W46 at_370 (pc' := 371) rfl (v := (1 : Int64)) (by decide) ?_
        refine g_lcmp W46 at_371 (pc' := 372) rfl rfl ?_
        refine g_if W46 at_372 (pcy := 406) (by decide) (pc' := 375) rfl (fun (c61 : (XT.cmpL u1 (1 : Int64)) = (0 : Int32)) => ?_) (fun (c61 : ¬ (XT.cmpL u1 (1 : Int64)) = (0 : Int32)) => ?_)
        · refine g_iconst W46 at_406 (pc' := 407) rfl (v := (1 : Int32)) (by decide) ?_
          refine g_goto W46 at_407 (pc' := 411) (by decide) ?_
          refine g_istore W46 at_411 (pc' := 413) rfl (ls' := #[.val (.long p0), .second, .val (.int p1), .val (.int p2), .val (.int p3), .val (.int p4), .val (.int m0), .val (.int d1), .val (.int d2), .val (.int d3), .val (.int (m0 + d1)), .val (.int ((m0 + d1) + d2)), .val (.int (((m0 + d1) + d2) + d3)), .val (.int lo), .val (.int hi), .val (.long u0), .second, .val (.long u1), .second, .val (.long u2), .second, .val (.long u3), .second, .val (.int (1 : Int32)), .val (.ref a34), .val (.int (m0 + d1)), .val (.long u1), .second, .val (.int (0 : Int32)), .val (.int (1 : Int32)), .val (.int (1 : Int32))]) rfl ?_
          refine g_aload W46 at_413 (pc' := 415) rfl rfl rfl ?_
          refine g_iload W46 at_415 (pc' := 417) rfl rfl ?_
          refine g_callV W46 (argsL := [.int (1 : Int32)]) (st := []) (wd_27 hw) (wd_28 hw) (wd_30 hw) (wd_29 hw) (wd_8 hw) (wd_31 hw) (by decide) (a := a34) H49f (i := 0) rfl (c_hold1 l Z a0 hw n0 a34 a35 a40 (((u0 + u1) + u2) + u3) (FP.i2d lo) (FP.i2d hi) (FP.i2d m0) (FP.i2d (m0 + d1)) (FP.i2d ((m0 + d1) + d2)) (FP.i2d (((m0 + d1) + d2) + d3)) u0 u1 u2 u3 (1 : Int32) ((if_pos (Or.inl (cmpL_eq0.mp c61))).symm) _ _ H49f) pd_0 rfl rfl rfl at_417 (pc' := 420) rfl (by decide) (Wn := 0) (Nat.le_of_eq rfl) (by decide) (kc' := 3) (ks' := 13) rfl rfl (by decide) (by decide) ?_
          intro T62 v62 W62 hp62
          obtain ⟨rfl, H62⟩ := hp62
          show Goes p e below _ (T62.setTop (mkF m 420 #[.val (.long p0), .second, .val (.int p1), .val (.int p2), .val (.int p3), .val (.int p4), .val (.int m0), .val (.int d1), .val (.int d2), .val (.int d3), .val (.int (m0 + d1)), .val (.int ((m0 + d1) + d2)), .val (.int (((m0 + d1) + d2) + d3)), .val (.int lo), .val (.int hi), .val (.long u0), .second, .val (.long u1), .second, .val (.long u2), .second, .val (.long u3), .second, .val (.int (1 : Int32)), .val (.ref a34), .val (.int (m0 + d1)), .val (.long u1), .second, .val (.int (0 : Int32)), .val (.int (1 : Int32)), .val (.int (1 : Int32))] [.int (1 : Int32)]))
          refine g_iload W62 at_420 (pc' := 422) rfl rfl ?_
          refine g_icmp W62 at_422 (pcy := 429) (by decide) (pc' := 425) rfl (fun (h : ¬ (1 : Int32) = (1 : Int32)) => absurd h (by decide)) (fun _ => ?_)
          refine g_iconst W62 at_425 (pc' := 426) rfl (v := (1 : Int32)) (by decide) ?_
          refine g_goto W62 at_426 (pc' := 430) (by decide) ?_
          exact g_zreturn W62 (by decide) at_430 rfl (by decide) (by decide)
        · refine g_iload W46 at_375 (pc' := 377) rfl rfl ?_
          refine g_if W46 at_377 (pcy := 406) (by decide) (pc' := 380) rfl (fun (h : ¬ (0 : Int32) = (0 : Int32)) => absurd h (by decide)) (fun _ => ?_)
          refine g_iload W46 at_380 (pc' := 382) rfl rfl ?_
          refine g_if W46 at_382 (pcy := 406) (by decide) (pc' := 385) rfl (fun _ => ?_) (fun (h : ¬ ¬ (1 : Int32) = (0 : Int32)) => absurd h (by decide))
          refine g_iconst W46 at_406 (pc' := 407) rfl (v := (1 : Int32)) (by decide) ?_
          refine g_goto W46 at_407 (pc' := 411) (by decide) ?_
          refine g_istore W46 at_411 (pc' := 413) rfl (ls' := #[.val (.long p0), .second, .val (.int p1), .val (.int p2), .val (.int p3), .val (.int p4), .val (.int m0), .val (.int d1), .val (.int d2), .val (.int d3), .val (.int (m0 + d1)), .val (.int ((m0 + d1) + d2)), .val (.int (((m0 + d1) + d2) + d3)), .val (.int lo), .val (.int hi), .val (.long u0), .second, .val (.long u1), .second, .val (.long u2), .second, .val (.long u3), .second, .val (.int (1 : Int32)), .val (.ref a34), .val (.int (m0 + d1)), .val (.long u1), .second, .val (.int (0 : Int32)), .val (.int (1 : Int32)), .val (.int (1 : Int32))]) rfl ?_
          refine g_aload W46 at_413 (pc' := 415) rfl rfl rfl ?_
          refine g_iload W46 at_415 (pc' := 417) rfl rfl ?_
          refine g_callV W46 (argsL := [.int (1 : Int32)]) (st := []) (wd_27 hw) (wd_28 hw) (wd_30 hw) (wd_29 hw) (wd_8 hw) (wd_31 hw) (by decide) (a := a34) H49f (i := 0) rfl (c_hold1 l Z a0 hw n0 a34 a35 a40 (((u0 + u1) + u2) + u3) (FP.i2d lo) (FP.i2d hi) (FP.i2d m0) (FP.i2d (m0 + d1)) (FP.i2d ((m0 + d1) + d2)) (FP.i2d (((m0 + d1) + d2) + d3)) u0 u1 u2 u3 (1 : Int32) ((if_pos (Or.inr (Or.inr (Or.inl (own_step'.mpr c51))))).symm) _ _ H49f) pd_0 rfl rfl rfl at_417 (pc' := 420) rfl (by decide) (Wn := 0) (Nat.le_of_eq rfl) (by decide) (kc' := 3) (ks' := 13) rfl rfl (by decide) (by decide) ?_
          intro T63 v63 W63 hp63
          obtain ⟨rfl, H63⟩ := hp63
          show Goes p e below _ (T63.setTop (mkF m 420 #[.val (.long p0), .second, .val (.int p1), .val (.int p2), .val (.int p3), .val (.int p4), .val (.int m0), .val (.int d1), .val (.int d2), .val (.int d3), .val (.int (m0 + d1)), .val (.int ((m0 + d1) + d2)), .val (.int (((m0 + d1) + d2) + d3)), .val (.int lo), .val (.int hi), .val (.long u0), .second, .val (.long u1), .second, .val (.long u2), .second, .val (.long u3), .second, .val (.int (1 : Int32)), .val (.ref a34), .val (.int (m0 + d1)), .val (.long u1), .second, .val (.int (0 : Int32)), .val (.int (1 : Int32)), .val (.int (1 : Int32))] [.int (1 : Int32)]))
          refine g_iload W63 at_420 (pc' := 422) rfl rfl ?_
          refine g_icmp W63 at_422 (pcy := 429) (by decide) (pc' := 425) rfl (fun (h : ¬ (1 : Int32) = (1 : Int32)) => absurd h (by decide)) (fun _ => ?_)
          refine g_iconst W63 at_425 (pc' := 426) rfl (v := (1 : Int32)) (by decide) ?_
          refine g_goto W63 at_426 (pc' := 430) (by decide) ?_
          exact g_zreturn W63 (by decide) at_430 rfl (by decide) (by decide)
    · replace c50 := Classical.not_not.mp c50
      refine g_iconst W46 at_260 (pc' := 261) rfl (v := (1 : Int32)) (by decide) ?_
      refine g_goto W46 at_261 (pc' := 307) (by decide) ?_
      refine g_istore W46 at_307 (pc' := 309) rfl (ls' := #[.val (.long p0), .second, .val (.int p1), .val (.int p2), .val (.int p3), .val (.int p4), .val (.int m0), .val (.int d1), .val (.int d2), .val (.int d3), .val (.int (m0 + d1)), .val (.int ((m0 + d1) + d2)), .val (.int (((m0 + d1) + d2) + d3)), .val (.int lo), .val (.int hi), .val (.long u0), .second, .val (.long u1), .second, .val (.long u2), .second, .val (.long u3), .second, .val (.int (1 : Int32)), .val (.ref a34), .val (.int (m0 + d1)), .val (.long u1), .second, .val (.int (1 : Int32)), .unset, .unset]) rfl ?_
      refine g_iload W46 at_309 (pc' := 311) rfl rfl ?_
      refine g_if W46 at_311 (pcy := 327) (by decide) (pc' := 314) rfl (fun _ => ?_) (fun (h : ¬ ¬ (1 : Int32) = (0 : Int32)) => absurd h (by decide))
      refine g_iload W46 at_327 (pc' := 329) rfl rfl ?_
      refine g_iconst W46 at_329 (pc' := 330) rfl (v := (1 : Int32)) (by decide) ?_
      refine g_icmp W46 at_330 (pcy := 346) (by decide) (pc' := 333) rfl (fun (h : ¬ (1 : Int32) = (1 : Int32)) => absurd h (by decide)) (fun _ => ?_)
      refine g_iload W46 at_333 (pc' := 335) rfl rfl ?_
      refine g_if W46 at_335 (pcy := 342) (by decide) (pc' := 338) rfl (fun (c64 : ¬ d2 = (0 : Int32)) => ?_) (fun (c64 : ¬ ¬ d2 = (0 : Int32)) => ?_)
      · refine g_iconst W46 at_342 (pc' := 343) rfl (v := (0 : Int32)) (by decide) ?_
        refine g_goto W46 at_343 (pc' := 366) (by decide) ?_
        refine g_istore W46 at_366 (pc' := 368) rfl (ls' := #[.val (.long p0), .second, .val (.int p1), .val (.int p2), .val (.int p3), .val (.int p4), .val (.int m0), .val (.int d1), .val (.int d2), .val (.int d3), .val (.int (m0 + d1)), .val (.int ((m0 + d1) + d2)), .val (.int (((m0 + d1) + d2) + d3)), .val (.int lo), .val (.int hi), .val (.long u0), .second, .val (.long u1), .second, .val (.long u2), .second, .val (.long u3), .second, .val (.int (1 : Int32)), .val (.ref a34), .val (.int (m0 + d1)), .val (.long u1), .second, .val (.int (1 : Int32)), .val (.int (0 : Int32)), .unset]) rfl ?_
        refine g_lload W46 at_368 (pc' := 370) rfl rfl ?_
        refine g_lconst W46 at_370 (pc' := 371) rfl (v := (1 : Int64)) (by decide) ?_
        refine g_lcmp W46 at_371 (pc' := 372) rfl rfl ?_
        refine g_if W46 at_372 (pcy := 406) (by decide) (pc' := 375) rfl (fun (c65 : (XT.cmpL u1 (1 : Int64)) = (0 : Int32)) => ?_) (fun (c65 : ¬ (XT.cmpL u1 (1 : Int64)) = (0 : Int32)) => ?_)
        · refine g_iconst W46 at_406 (pc' := 407) rfl (v := (1 : Int32)) (by decide) ?_
          refine g_goto W46 at_407 (pc' := 411) (by decide) ?_
          refine g_istore W46 at_411 (pc' := 413) rfl (ls' := #[.val (.long p0), .second, .val (.int p1), .val (.int p2), .val (.int p3), .val (.int p4), .val (.int m0), .val (.int d1), .val (.int d2), .val (.int d3), .val (.int (m0 + d1)), .val (.int ((m0 + d1) + d2)), .val (.int (((m0 + d1) + d2) + d3)), .val (.int lo), .val (.int hi), .val (.long u0), .second, .val (.long u1), .second, .val (.long u2), .second, .val (.long u3), .second, .val (.int (1 : Int32)), .val (.ref a34), .val (.int (m0 + d1)), .val (.long u1), .second, .val (.int (1 : Int32)), .val (.int (0 : Int32)), .val (.int (1 : Int32))]) rfl ?_
          refine g_aload W46 at_413 (pc' := 415) rfl rfl rfl ?_
          refine g_iload W46 at_415 (pc' := 417) rfl rfl ?_
          refine g_callV W46 (argsL := [.int (1 : Int32)]) (st := []) (wd_27 hw) (wd_28 hw) (wd_30 hw) (wd_29 hw) (wd_8 hw) (wd_31 hw) (by decide) (a := a34) H49f (i := 0) rfl (c_hold1 l Z a0 hw n0 a34 a35 a40 (((u0 + u1) + u2) + u3) (FP.i2d lo) (FP.i2d hi) (FP.i2d m0) (FP.i2d (m0 + d1)) (FP.i2d ((m0 + d1) + d2)) (FP.i2d (((m0 + d1) + d2) + d3)) u0 u1 u2 u3 (1 : Int32) ((if_pos (Or.inl (cmpL_eq0.mp c65))).symm) _ _ H49f) pd_0 rfl rfl rfl at_417 (pc' := 420) rfl (by decide) (Wn := 0) (Nat.le_of_eq rfl) (by decide) (kc' := 3) (ks' := 13) rfl rfl (by decide) (by decide) ?_
          intro T66 v66 W66 hp66
          obtain ⟨rfl, H66⟩ := hp66
          show Goes p e below _ (T66.setTop (mkF m 420 #[.val (.long p0), .second, .val (.int p1), .val (.int p2), .val (.int p3), .val (.int p4), .val (.int m0), .val (.int d1), .val (.int d2), .val (.int d3), .val (.int (m0 + d1)), .val (.int ((m0 + d1) + d2)), .val (.int (((m0 + d1) + d2) + d3)), .val (.int lo), .val (.int hi), .val (.long u0), .second, .val (.long u1), .second, .val (.long u2), .second, .val (.long u3), .second, .val (.int (1 : Int32)), .val (.ref a34), .val (.int (m0 + d1)), .val (.long u1), .second, .val (.int (1 : Int32)), .val (.int (0 : Int32)), .val (.int (1 : Int32))] [.int (1 : Int32)]))
          refine g_iload W66 at_420 (pc' := 422) rfl rfl ?_
          refine g_icmp W66 at_422 (pcy := 429) (by decide) (pc' := 425) rfl (fun (h : ¬ (1 : Int32) = (1 : Int32)) => absurd h (by decide)) (fun _ => ?_)
          refine g_iconst W66 at_425 (pc' := 426) rfl (v := (1 : Int32)) (by decide) ?_
          refine g_goto W66 at_426 (pc' := 430) (by decide) ?_
          exact g_zreturn W66 (by decide) at_430 rfl (by decide) (by decide)
        · refine g_iload W46 at_375 (pc' := 377) rfl rfl ?_
          refine g_if W46 at_377 (pcy := 406) (by decide) (pc' := 380) rfl (fun _ => ?_) (fun (h : ¬ ¬ (1 : Int32) = (0 : Int32)) => absurd h (by decide))
          refine g_iconst W46 at_406 (pc' := 407) rfl (v := (1 : Int32)) (by decide) ?_
          refine g_goto W46 at_407 (pc' := 411) (by decide) ?_
          refine g_istore W46 at_411 (pc' := 413) rfl (ls' := #[.val (.long p0), .second, .val (.int p1), .val (.int p2), .val (.int p3), .val (.int p4), .val (.int m0), .val (.int d1), .val (.int d2), .val (.int d3), .val (.int (m0 + d1)), .val (.int ((m0 + d1) + d2)), .val (.int (((m0 + d1) + d2) + d3)), .val (.int lo), .val (.int hi), .val (.long u0), .second, .val (.long u1), .second, .val (.long u2), .second, .val (.long u3), .second, .val (.int (1 : Int32)), .val (.ref a34), .val (.int (m0 + d1)), .val (.long u1), .second, .val (.int (1 : Int32)), .val (.int (0 : Int32)), .val (.int (1 : Int32))]) rfl ?_
          refine g_aload W46 at_413 (pc' := 415) rfl rfl rfl ?_
          refine g_iload W46 at_415 (pc' := 417) rfl rfl ?_
          refine g_callV W46 (argsL := [.int (1 : Int32)]) (st := []) (wd_27 hw) (wd_28 hw) (wd_30 hw) (wd_29 hw) (wd_8 hw) (wd_31 hw) (by decide) (a := a34) H49f (i := 0) rfl (c_hold1 l Z a0 hw n0 a34 a35 a40 (((u0 + u1) + u2) + u3) (FP.i2d lo) (FP.i2d hi) (FP.i2d m0) (FP.i2d (m0 + d1)) (FP.i2d ((m0 + d1) + d2)) (FP.i2d (((m0 + d1) + d2) + d3)) u0 u1 u2 u3 (1 : Int32) ((if_pos (Or.inr (Or.inl (own_step.mpr c50)))).symm) _ _ H49f) pd_0 rfl rfl rfl at_417 (pc' := 420) rfl (by decide) (Wn := 0) (Nat.le_of_eq rfl) (by decide) (kc' := 3) (ks' := 13) rfl rfl (by decide) (by decide) ?_
          intro T67 v67 W67 hp67
          obtain ⟨rfl, H67⟩ := hp67
          show Goes p e below _ (T67.setTop (mkF m 420 #[.val (.long p0), .second, .val (.int p1), .val (.int p2), .val (.int p3), .val (.int p4), .val (.int m0), .val (.int d1), .val (.int d2), .val (.int d3), .val (.int (m0 + d1)), .val (.int ((m0 + d1) + d2)), .val (.int (((m0 + d1) + d2) + d3)), .val (.int lo), .val (.int hi), .val (.long u0), .second, .val (.long u1), .second, .val (.long u2), .second, .val (.long u3), .second, .val (.int (1 : Int32)), .val (.ref a34), .val (.int (m0 + d1)), .val (.long u1), .second, .val (.int (1 : Int32)), .val (.int (0 : Int32)), .val (.int (1 : Int32))] [.int (1 : Int32)]))
          refine g_iload W67 at_420 (pc' := 422) rfl rfl ?_
          refine g_icmp W67 at_422 (pcy := 429) (by decide) (pc' := 425) rfl (fun (h : ¬ (1 : Int32) = (1 : Int32)) => absurd h (by decide)) (fun _ => ?_)
          refine g_iconst W67 at_425 (pc' := 426) rfl (v := (1 : Int32)) (by decide) ?_
          refine g_goto W67 at_426 (pc' := 430) (by decide) ?_
          exact g_zreturn W67 (by decide) at_430 rfl (by decide) (by decide)
      · replace c64 := Classical.not_not.mp c64
        refine g_iconst W46 at_338 (pc' := 339) rfl (v := (1 : Int32)) (by decide) ?_
        refine g_goto W46 at_339 (pc' := 366) (by decide) ?_
        refine g_istore W46 at_366 (pc' := 368) rfl (ls' := #[.val (.long p0), .second, .val (.int p1), .val (.int p2), .val (.int p3), .val (.int p4), .val (.int m0), .val (.int d1), .val (.int d2), .val (.int d3), .val (.int (m0 + d1)), .val (.int ((m0 + d1) + d2)), .val (.int (((m0 + d1) + d2) + d3)), .val (.int lo), .val (.int hi), .val (.long u0), .second, .val (.long u1), .second, .val (.long u2), .second, .val (.long u3), .second, .val (.int (1 : Int32)), .val (.ref a34), .val (.int (m0 + d1)), .val (.long u1), .second, .val (.int (1 : Int32)), .val (.int (1 : Int32)), .unset]) rfl ?_
        refine g_lload W46 at_368 (pc' := 370) rfl rfl ?_
        refine g_lconst W46 at_370 (pc' := 371) rfl (v := (1 : Int64)) (by decide) ?_
        refine g_lcmp W46 at_371 (pc' := 372) rfl rfl ?_
        refine g_if W46 at_372 (pcy := 406) (by decide) (pc' := 375) rfl (fun (c68 : (XT.cmpL u1 (1 : Int64)) = (0 : Int32)) => ?_) (fun (c68 : ¬ (XT.cmpL u1 (1 : Int64)) = (0 : Int32)) => ?_)
        · refine g_iconst W46 at_406 (pc' := 407) rfl (v := (1 : Int32)) (by decide) ?_
          refine g_goto W46 at_407 (pc' := 411) (by decide) ?_
          refine g_istore W46 at_411 (pc' := 413) rfl (ls' := #[.val (.long p0), .second, .val (.int p1), .val (.int p2), .val (.int p3), .val (.int p4), .val (.int m0), .val (.int d1), .val (.int d2), .val (.int d3), .val (.int (m0 + d1)), .val (.int ((m0 + d1) + d2)), .val (.int (((m0 + d1) + d2) + d3)), .val (.int lo), .val (.int hi), .val (.long u0), .second, .val (.long u1), .second, .val (.long u2), .second, .val (.long u3), .second, .val (.int (1 : Int32)), .val (.ref a34), .val (.int (m0 + d1)), .val (.long u1), .second, .val (.int (1 : Int32)), .val (.int (1 : Int32)), .val (.int (1 : Int32))]) rfl ?_
          refine g_aload W46 at_413 (pc' := 415) rfl rfl rfl ?_
          refine g_iload W46 at_415 (pc' := 417) rfl rfl ?_
          refine g_callV W46 (argsL := [.int (1 : Int32)]) (st := []) (wd_27 hw) (wd_28 hw) (wd_30 hw) (wd_29 hw) (wd_8 hw) (wd_31 hw) (by decide) (a := a34) H49f (i := 0) rfl (c_hold1 l Z a0 hw n0 a34 a35 a40 (((u0 + u1) + u2) + u3) (FP.i2d lo) (FP.i2d hi) (FP.i2d m0) (FP.i2d (m0 + d1)) (FP.i2d ((m0 + d1) + d2)) (FP.i2d (((m0 + d1) + d2) + d3)) u0 u1 u2 u3 (1 : Int32) ((if_pos (Or.inl (cmpL_eq0.mp c68))).symm) _ _ H49f) pd_0 rfl rfl rfl at_417 (pc' := 420) rfl (by decide) (Wn := 0) (Nat.le_of_eq rfl) (by decide) (kc' := 3) (ks' := 13) rfl rfl (by decide) (by decide) ?_
          intro T69 v69 W69 hp69
          obtain ⟨rfl, H69⟩ := hp69
          show Goes p e below _ (T69.setTop (mkF m 420 #[.val (.long p0), .second, .val (.int p1), .val (.int p2), .val (.int p3), .val (.int p4), .val (.int m0), .val (.int d1), .val (.int d2), .val (.int d3), .val (.int (m0 + d1)), .val (.int ((m0 + d1) + d2)), .val (.int (((m0 + d1) + d2) + d3)), .val (.int lo), .val (.int hi), .val (.long u0), .second, .val (.long u1), .second, .val (.long u2), .second, .val (.long u3), .second, .val (.int (1 : Int32)), .val (.ref a34), .val (.int (m0 + d1)), .val (.long u1), .second, .val (.int (1 : Int32)), .val (.int (1 : Int32)), .val (.int (1 : Int32))] [.int (1 : Int32)]))
          refine g_iload W69 at_420 (pc' := 422) rfl rfl ?_
          refine g_icmp W69 at_422 (pcy := 429) (by decide) (pc' := 425) rfl (fun (h : ¬ (1 : Int32) = (1 : Int32)) => absurd h (by decide)) (fun _ => ?_)
          refine g_iconst W69 at_425 (pc' := 426) rfl (v := (1 : Int32)) (by decide) ?_
          refine g_goto W69 at_426 (pc' := 430) (by decide) ?_
          exact g_zreturn W69 (by decide) at_430 rfl (by decide) (by decide)
        · refine g_iload W46 at_375 (pc' := 377) rfl rfl ?_
          refine g_if W46 at_377 (pcy := 406) (by decide) (pc' := 380) rfl (fun _ => ?_) (fun (h : ¬ ¬ (1 : Int32) = (0 : Int32)) => absurd h (by decide))
          refine g_iconst W46 at_406 (pc' := 407) rfl (v := (1 : Int32)) (by decide) ?_
          refine g_goto W46 at_407 (pc' := 411) (by decide) ?_
          refine g_istore W46 at_411 (pc' := 413) rfl (ls' := #[.val (.long p0), .second, .val (.int p1), .val (.int p2), .val (.int p3), .val (.int p4), .val (.int m0), .val (.int d1), .val (.int d2), .val (.int d3), .val (.int (m0 + d1)), .val (.int ((m0 + d1) + d2)), .val (.int (((m0 + d1) + d2) + d3)), .val (.int lo), .val (.int hi), .val (.long u0), .second, .val (.long u1), .second, .val (.long u2), .second, .val (.long u3), .second, .val (.int (1 : Int32)), .val (.ref a34), .val (.int (m0 + d1)), .val (.long u1), .second, .val (.int (1 : Int32)), .val (.int (1 : Int32)), .val (.int (1 : Int32))]) rfl ?_
          refine g_aload W46 at_413 (pc' := 415) rfl rfl rfl ?_
          refine g_iload W46 at_415 (pc' := 417) rfl rfl ?_
          refine g_callV W46 (argsL := [.int (1 : Int32)]) (st := []) (wd_27 hw) (wd_28 hw) (wd_30 hw) (wd_29 hw) (wd_8 hw) (wd_31 hw) (by decide) (a := a34) H49f (i := 0) rfl (c_hold1 l Z a0 hw n0 a34 a35 a40 (((u0 + u1) + u2) + u3) (FP.i2d lo) (FP.i2d hi) (FP.i2d m0) (FP.i2d (m0 + d1)) (FP.i2d ((m0 + d1) + d2)) (FP.i2d (((m0 + d1) + d2) + d3)) u0 u1 u2 u3 (1 : Int32) ((if_pos (Or.inr (Or.inl (own_step.mpr c50)))).symm) _ _ H49f) pd_0 rfl rfl rfl at_417 (pc' := 420) rfl (by decide) (Wn := 0) (Nat.le_of_eq rfl) (by decide) (kc' := 3) (ks' := 13) rfl rfl (by decide) (by decide) ?_
          intro T70 v70 W70 hp70
          obtain ⟨rfl, H70⟩ := hp70
          show Goes p e below _ (T70.setTop (mkF m 420 #[.val (.long p0), .second, .val (.int p1), .val (.int p2), .val (.int p3), .val (.int p4), .val (.int m0), .val (.int d1), .val (.int d2), .val (.int d3), .val (.int (m0 + d1)), .val (.int ((m0 + d1) + d2)), .val (.int (((m0 + d1) + d2) + d3)), .val (.int lo), .val (.int hi), .val (.long u0), .second, .val (.long u1), .second, .val (.long u2), .second, .val (.long u3), .second, .val (.int (1 : Int32)), .val (.ref a34), .val (.int (m0 + d1)), .val (.long u1), .second, .val (.int (1 : Int32)), .val (.int (1 : Int32)), .val (.int (1 : Int32))] [.int (1 : Int32)]))
          refine g_iload W70 at_420 (pc' := 422) rfl rfl ?_
          refine g_icmp W70 at_422 (pcy := 429) (by decide) (pc' := 425) rfl (fun (h : ¬ (1 : Int32) = (1 : Int32)) => absurd h (by decide)) (fun _ => ?_)
          refine g_iconst W70 at_425 (pc' := 426) rfl (v := (1 : Int32)) (by decide) ?_
          refine g_goto W70 at_426 (pc' := 430) (by decide) ?_
          exact g_zreturn W70 (by decide) at_430 rfl (by decide) (by decide)
  · rw [hn]
    refine g_istore W4 at_99 (pc' := 101) rfl (ls' := #[.val (.long p0), .second, .val (.int p1), .val (.int p2), .val (.int p3), .val (.int p4), .val (.int m0), .val (.int d1), .val (.int d2), .val (.int d3), .val (.int (m0 + d1)), .val (.int ((m0 + d1) + d2)), .val (.int (((m0 + d1) + d2) + d3)), .val (.int lo), .val (.int hi), .val (.long u0), .second, .val (.long u1), .second, .val (.long u2), .second, .val (.long u3), .second, .val (.int (2 : Int32)), .unset, .unset, .unset, .unset, .unset, .unset, .unset]) rfl ?_
    refine g_new W4 (wd_6 hw) (wd_7 hw) (wd_8 hw) (la_Centroids hw) (by decide) H4 at_101 (pc' := 104) rfl (kc' := 1) (ks' := 5) rfl rfl (by decide) (by decide) ?_
    intro T71 a71 W71 H71
    refine g_dup W71 at_104 (pc' := 105) rfl rfl ?_
    refine g_iconst W71 at_105 (pc' := 106) rfl (v := (4 : Int32)) (by decide) ?_
    refine g_newarr (aty := .double) W71 (wd_9 hw) H71 (by decide) (vs := [.double 0, .double 0, .double 0, .double 0]) rfl (cap := 4) (Nat.le_of_eq rfl) (by decide) at_106 (pc' := 108) rfl (kc' := 2) (ks' := 9) rfl rfl (by decide) (by decide) ?_
    intro T72 a72 W72 H72
    replace H72 : Hp Z n0 T72.heap [(a72, ArC Z .double [.double 0, .double 0, .double 0, .double 0]), (a71, ObC Z "com/example/dipper/dipper/Centroids" [("com/example/dipper/dipper/Centroids", "means", "[D", .null), ("com/example/dipper/dipper/Centroids", "weights", "[J", .null), ("com/example/dipper/dipper/Centroids", "count", "J", .long 0), ("com/example/dipper/dipper/Centroids", "min", "D", .double 0), ("com/example/dipper/dipper/Centroids", "max", "D", .double 0)])] := H72
    refine g_dup W72 at_108 (pc' := 109) rfl rfl ?_
    refine g_iconst W72 at_109 (pc' := 110) rfl (v := (0 : Int32)) (by decide) ?_
    refine g_iload W72 at_110 (pc' := 112) rfl rfl ?_
    refine g_i2d W72 at_112 (pc' := 113) rfl rfl ?_
    refine g_dastore W72 H72 (i := 0) rfl (jx := 0) (by decide) (by exact (by decide : 0 < 4)) at_113 (pc' := 114) rfl (L' := [(a72, ArC Z .double [.double (FP.i2d m0), .double 0, .double 0, .double 0]), (a71, ObC Z "com/example/dipper/dipper/Centroids" [("com/example/dipper/dipper/Centroids", "means", "[D", .null), ("com/example/dipper/dipper/Centroids", "weights", "[J", .null), ("com/example/dipper/dipper/Centroids", "count", "J", .long 0), ("com/example/dipper/dipper/Centroids", "min", "D", .double 0), ("com/example/dipper/dipper/Centroids", "max", "D", .double 0)])]) rfl ?_
    intro T73 W73 H73
    refine g_dup W73 at_114 (pc' := 115) rfl rfl ?_
    refine g_iconst W73 at_115 (pc' := 116) rfl (v := (1 : Int32)) (by decide) ?_
    refine g_iload W73 at_116 (pc' := 118) rfl rfl ?_
    refine g_i2d W73 at_118 (pc' := 119) rfl rfl ?_
    refine g_dastore W73 H73 (i := 0) rfl (jx := 1) (by decide) (by exact (by decide : 1 < 4)) at_119 (pc' := 120) rfl (L' := [(a72, ArC Z .double [.double (FP.i2d m0), .double (FP.i2d (m0 + d1)), .double 0, .double 0]), (a71, ObC Z "com/example/dipper/dipper/Centroids" [("com/example/dipper/dipper/Centroids", "means", "[D", .null), ("com/example/dipper/dipper/Centroids", "weights", "[J", .null), ("com/example/dipper/dipper/Centroids", "count", "J", .long 0), ("com/example/dipper/dipper/Centroids", "min", "D", .double 0), ("com/example/dipper/dipper/Centroids", "max", "D", .double 0)])]) rfl ?_
    intro T74 W74 H74
    refine g_dup W74 at_120 (pc' := 121) rfl rfl ?_
    refine g_iconst W74 at_121 (pc' := 122) rfl (v := (2 : Int32)) (by decide) ?_
    refine g_iload W74 at_122 (pc' := 124) rfl rfl ?_
    refine g_i2d W74 at_124 (pc' := 125) rfl rfl ?_
    refine g_dastore W74 H74 (i := 0) rfl (jx := 2) (by decide) (by exact (by decide : 2 < 4)) at_125 (pc' := 126) rfl (L' := [(a72, ArC Z .double [.double (FP.i2d m0), .double (FP.i2d (m0 + d1)), .double (FP.i2d ((m0 + d1) + d2)), .double 0]), (a71, ObC Z "com/example/dipper/dipper/Centroids" [("com/example/dipper/dipper/Centroids", "means", "[D", .null), ("com/example/dipper/dipper/Centroids", "weights", "[J", .null), ("com/example/dipper/dipper/Centroids", "count", "J", .long 0), ("com/example/dipper/dipper/Centroids", "min", "D", .double 0), ("com/example/dipper/dipper/Centroids", "max", "D", .double 0)])]) rfl ?_
    intro T75 W75 H75
    refine g_dup W75 at_126 (pc' := 127) rfl rfl ?_
    refine g_iconst W75 at_127 (pc' := 128) rfl (v := (3 : Int32)) (by decide) ?_
    refine g_iload W75 at_128 (pc' := 130) rfl rfl ?_
    refine g_i2d W75 at_130 (pc' := 131) rfl rfl ?_
    refine g_dastore W75 H75 (i := 0) rfl (jx := 3) (by decide) (by exact (by decide : 3 < 4)) at_131 (pc' := 132) rfl (L' := [(a72, ArC Z .double [.double (FP.i2d m0), .double (FP.i2d (m0 + d1)), .double (FP.i2d ((m0 + d1) + d2)), .double (FP.i2d (((m0 + d1) + d2) + d3))]), (a71, ObC Z "com/example/dipper/dipper/Centroids" [("com/example/dipper/dipper/Centroids", "means", "[D", .null), ("com/example/dipper/dipper/Centroids", "weights", "[J", .null), ("com/example/dipper/dipper/Centroids", "count", "J", .long 0), ("com/example/dipper/dipper/Centroids", "min", "D", .double 0), ("com/example/dipper/dipper/Centroids", "max", "D", .double 0)])]) rfl ?_
    intro T76 W76 H76
    refine g_iconst W76 at_132 (pc' := 133) rfl (v := (4 : Int32)) (by decide) ?_
    refine g_newarr (aty := .long) W76 (wd_10 hw) H76 (by decide) (vs := [.long 0, .long 0, .long 0, .long 0]) rfl (cap := 4) (Nat.le_of_eq rfl) (by decide) at_133 (pc' := 135) rfl (kc' := 3) (ks' := 13) rfl rfl (by decide) (by decide) ?_
    intro T77 a77 W77 H77
    replace H77 : Hp Z n0 T77.heap [(a77, ArC Z .long [.long 0, .long 0, .long 0, .long 0]), (a72, ArC Z .double [.double (FP.i2d m0), .double (FP.i2d (m0 + d1)), .double (FP.i2d ((m0 + d1) + d2)), .double (FP.i2d (((m0 + d1) + d2) + d3))]), (a71, ObC Z "com/example/dipper/dipper/Centroids" [("com/example/dipper/dipper/Centroids", "means", "[D", .null), ("com/example/dipper/dipper/Centroids", "weights", "[J", .null), ("com/example/dipper/dipper/Centroids", "count", "J", .long 0), ("com/example/dipper/dipper/Centroids", "min", "D", .double 0), ("com/example/dipper/dipper/Centroids", "max", "D", .double 0)])] := H77
    refine g_dup W77 at_135 (pc' := 136) rfl rfl ?_
    refine g_iconst W77 at_136 (pc' := 137) rfl (v := (0 : Int32)) (by decide) ?_
    refine g_lload W77 at_137 (pc' := 139) rfl rfl ?_
    refine g_lastore W77 H77 (i := 0) rfl (jx := 0) (by decide) (by exact (by decide : 0 < 4)) at_139 (pc' := 140) rfl (L' := [(a77, ArC Z .long [.long u0, .long 0, .long 0, .long 0]), (a72, ArC Z .double [.double (FP.i2d m0), .double (FP.i2d (m0 + d1)), .double (FP.i2d ((m0 + d1) + d2)), .double (FP.i2d (((m0 + d1) + d2) + d3))]), (a71, ObC Z "com/example/dipper/dipper/Centroids" [("com/example/dipper/dipper/Centroids", "means", "[D", .null), ("com/example/dipper/dipper/Centroids", "weights", "[J", .null), ("com/example/dipper/dipper/Centroids", "count", "J", .long 0), ("com/example/dipper/dipper/Centroids", "min", "D", .double 0), ("com/example/dipper/dipper/Centroids", "max", "D", .double 0)])]) rfl ?_
    intro T78 W78 H78
    refine g_dup W78 at_140 (pc' := 141) rfl rfl ?_
    refine g_iconst W78 at_141 (pc' := 142) rfl (v := (1 : Int32)) (by decide) ?_
    refine g_lload W78 at_142 (pc' := 144) rfl rfl ?_
    refine g_lastore W78 H78 (i := 0) rfl (jx := 1) (by decide) (by exact (by decide : 1 < 4)) at_144 (pc' := 145) rfl (L' := [(a77, ArC Z .long [.long u0, .long u1, .long 0, .long 0]), (a72, ArC Z .double [.double (FP.i2d m0), .double (FP.i2d (m0 + d1)), .double (FP.i2d ((m0 + d1) + d2)), .double (FP.i2d (((m0 + d1) + d2) + d3))]), (a71, ObC Z "com/example/dipper/dipper/Centroids" [("com/example/dipper/dipper/Centroids", "means", "[D", .null), ("com/example/dipper/dipper/Centroids", "weights", "[J", .null), ("com/example/dipper/dipper/Centroids", "count", "J", .long 0), ("com/example/dipper/dipper/Centroids", "min", "D", .double 0), ("com/example/dipper/dipper/Centroids", "max", "D", .double 0)])]) rfl ?_
    intro T79 W79 H79
    refine g_dup W79 at_145 (pc' := 146) rfl rfl ?_
    refine g_iconst W79 at_146 (pc' := 147) rfl (v := (2 : Int32)) (by decide) ?_
    refine g_lload W79 at_147 (pc' := 149) rfl rfl ?_
    refine g_lastore W79 H79 (i := 0) rfl (jx := 2) (by decide) (by exact (by decide : 2 < 4)) at_149 (pc' := 150) rfl (L' := [(a77, ArC Z .long [.long u0, .long u1, .long u2, .long 0]), (a72, ArC Z .double [.double (FP.i2d m0), .double (FP.i2d (m0 + d1)), .double (FP.i2d ((m0 + d1) + d2)), .double (FP.i2d (((m0 + d1) + d2) + d3))]), (a71, ObC Z "com/example/dipper/dipper/Centroids" [("com/example/dipper/dipper/Centroids", "means", "[D", .null), ("com/example/dipper/dipper/Centroids", "weights", "[J", .null), ("com/example/dipper/dipper/Centroids", "count", "J", .long 0), ("com/example/dipper/dipper/Centroids", "min", "D", .double 0), ("com/example/dipper/dipper/Centroids", "max", "D", .double 0)])]) rfl ?_
    intro T80 W80 H80
    refine g_dup W80 at_150 (pc' := 151) rfl rfl ?_
    refine g_iconst W80 at_151 (pc' := 152) rfl (v := (3 : Int32)) (by decide) ?_
    refine g_lload W80 at_152 (pc' := 154) rfl rfl ?_
    refine g_lastore W80 H80 (i := 0) rfl (jx := 3) (by decide) (by exact (by decide : 3 < 4)) at_154 (pc' := 155) rfl (L' := [(a77, ArC Z .long [.long u0, .long u1, .long u2, .long u3]), (a72, ArC Z .double [.double (FP.i2d m0), .double (FP.i2d (m0 + d1)), .double (FP.i2d ((m0 + d1) + d2)), .double (FP.i2d (((m0 + d1) + d2) + d3))]), (a71, ObC Z "com/example/dipper/dipper/Centroids" [("com/example/dipper/dipper/Centroids", "means", "[D", .null), ("com/example/dipper/dipper/Centroids", "weights", "[J", .null), ("com/example/dipper/dipper/Centroids", "count", "J", .long 0), ("com/example/dipper/dipper/Centroids", "min", "D", .double 0), ("com/example/dipper/dipper/Centroids", "max", "D", .double 0)])]) rfl ?_
    intro T81 W81 H81
    refine g_lload W81 at_155 (pc' := 157) rfl rfl ?_
    refine g_lload W81 at_157 (pc' := 159) rfl rfl ?_
    refine g_ladd W81 at_159 (pc' := 160) rfl rfl ?_
    refine g_lload W81 at_160 (pc' := 162) rfl rfl ?_
    refine g_ladd W81 at_162 (pc' := 163) rfl rfl ?_
    refine g_lload W81 at_163 (pc' := 165) rfl rfl ?_
    refine g_ladd W81 at_165 (pc' := 166) rfl rfl ?_
    refine g_iload W81 at_166 (pc' := 168) rfl rfl ?_
    refine g_i2d W81 at_168 (pc' := 169) rfl rfl ?_
    refine g_iload W81 at_169 (pc' := 171) rfl rfl ?_
    refine g_i2d W81 at_171 (pc' := 172) rfl rfl ?_
    have H82f : Hp Z n0 T81.heap [(a71, ObC Z "com/example/dipper/dipper/Centroids" [("com/example/dipper/dipper/Centroids", "means", "[D", .null), ("com/example/dipper/dipper/Centroids", "weights", "[J", .null), ("com/example/dipper/dipper/Centroids", "count", "J", .long 0), ("com/example/dipper/dipper/Centroids", "min", "D", .double 0), ("com/example/dipper/dipper/Centroids", "max", "D", .double 0)]), (a77, ArC Z .long [.long u0, .long u1, .long u2, .long u3]), (a72, ArC Z .double [.double (FP.i2d m0), .double (FP.i2d (m0 + d1)), .double (FP.i2d ((m0 + d1) + d2)), .double (FP.i2d (((m0 + d1) + d2) + d3))])] := H81.front (i := 2) rfl rfl
    refine g_callI W81 (argsL := [.ref a72, .ref a77, .long (((u0 + u1) + u2) + u3), .double (FP.i2d lo), .double (FP.i2d hi)]) (st := [.ref a71]) rfl (wd_11 hw) (wd_12 hw) (wd_8 hw) (wd_13 hw) (by decide) (a := a71) (c_init l Z a0 hw n0 a71 a72 a77 (((u0 + u1) + u2) + u3) (FP.i2d lo) (FP.i2d hi) _ _ H82f) pd_2 rfl rfl rfl at_172 (pc' := 175) rfl (by decide) (Wn := 1) (Nat.le_of_eq rfl) (by decide) (kc' := 3) (ks' := 13) rfl rfl (by decide) (by decide) ?_
    intro T83 v83 W83 hp83
    obtain ⟨rfl, H83⟩ := hp83
    show Goes p e below _ (T83.setTop (mkF m 175 #[.val (.long p0), .second, .val (.int p1), .val (.int p2), .val (.int p3), .val (.int p4), .val (.int m0), .val (.int d1), .val (.int d2), .val (.int d3), .val (.int (m0 + d1)), .val (.int ((m0 + d1) + d2)), .val (.int (((m0 + d1) + d2) + d3)), .val (.int lo), .val (.int hi), .val (.long u0), .second, .val (.long u1), .second, .val (.long u2), .second, .val (.long u3), .second, .val (.int (2 : Int32)), .unset, .unset, .unset, .unset, .unset, .unset, .unset] [.ref a71]))
    have H84f : Hp Z n0 T83.heap [(a77, ArC Z .long [.long u0, .long u1, .long u2, .long u3]), (a71, ObC Z "com/example/dipper/dipper/Centroids" [("com/example/dipper/dipper/Centroids", "means", "[D", .ref a72), ("com/example/dipper/dipper/Centroids", "weights", "[J", .ref a77), ("com/example/dipper/dipper/Centroids", "count", "J", .long (((u0 + u1) + u2) + u3)), ("com/example/dipper/dipper/Centroids", "min", "D", .double (FP.i2d lo)), ("com/example/dipper/dipper/Centroids", "max", "D", .double (FP.i2d hi))]), (a72, ArC Z .double [.double (FP.i2d m0), .double (FP.i2d (m0 + d1)), .double (FP.i2d ((m0 + d1) + d2)), .double (FP.i2d (((m0 + d1) + d2) + d3))])] := H83.front (i := 1) rfl rfl
    have H85f : Hp Z n0 T83.heap [(a72, ArC Z .double [.double (FP.i2d m0), .double (FP.i2d (m0 + d1)), .double (FP.i2d ((m0 + d1) + d2)), .double (FP.i2d (((m0 + d1) + d2) + d3))]), (a77, ArC Z .long [.long u0, .long u1, .long u2, .long u3]), (a71, ObC Z "com/example/dipper/dipper/Centroids" [("com/example/dipper/dipper/Centroids", "means", "[D", .ref a72), ("com/example/dipper/dipper/Centroids", "weights", "[J", .ref a77), ("com/example/dipper/dipper/Centroids", "count", "J", .long (((u0 + u1) + u2) + u3)), ("com/example/dipper/dipper/Centroids", "min", "D", .double (FP.i2d lo)), ("com/example/dipper/dipper/Centroids", "max", "D", .double (FP.i2d hi))])] := H84f.front (i := 2) rfl rfl
    have H86f : Hp Z n0 T83.heap [(a71, ObC Z "com/example/dipper/dipper/Centroids" [("com/example/dipper/dipper/Centroids", "means", "[D", .ref a72), ("com/example/dipper/dipper/Centroids", "weights", "[J", .ref a77), ("com/example/dipper/dipper/Centroids", "count", "J", .long (((u0 + u1) + u2) + u3)), ("com/example/dipper/dipper/Centroids", "min", "D", .double (FP.i2d lo)), ("com/example/dipper/dipper/Centroids", "max", "D", .double (FP.i2d hi))]), (a72, ArC Z .double [.double (FP.i2d m0), .double (FP.i2d (m0 + d1)), .double (FP.i2d ((m0 + d1) + d2)), .double (FP.i2d (((m0 + d1) + d2) + d3))]), (a77, ArC Z .long [.long u0, .long u1, .long u2, .long u3])] := H85f.front (i := 2) rfl rfl
    refine g_astore W83 at_175 (pc' := 177) rfl rfl (ls' := #[.val (.long p0), .second, .val (.int p1), .val (.int p2), .val (.int p3), .val (.int p4), .val (.int m0), .val (.int d1), .val (.int d2), .val (.int d3), .val (.int (m0 + d1)), .val (.int ((m0 + d1) + d2)), .val (.int (((m0 + d1) + d2) + d3)), .val (.int lo), .val (.int hi), .val (.long u0), .second, .val (.long u1), .second, .val (.long u2), .second, .val (.long u3), .second, .val (.int (2 : Int32)), .val (.ref a71), .unset, .unset, .unset, .unset, .unset, .unset]) rfl ?_
    refine g_iload W83 at_177 (pc' := 179) rfl rfl ?_
    refine g_if W83 at_179 (pcy := 187) (by decide) (pc' := 182) rfl (fun _ => ?_) (fun (h : ¬ ¬ (2 : Int32) = (0 : Int32)) => absurd h (by decide))
    refine g_iload W83 at_187 (pc' := 189) rfl rfl ?_
    refine g_iconst W83 at_189 (pc' := 190) rfl (v := (1 : Int32)) (by decide) ?_
    refine g_icmp W83 at_190 (pcy := 198) (by decide) (pc' := 193) rfl (fun _ => ?_) (fun (h : ¬ ¬ (2 : Int32) = (1 : Int32)) => absurd h (by decide))
    refine g_iload W83 at_198 (pc' := 200) rfl rfl ?_
    refine g_iconst W83 at_200 (pc' := 201) rfl (v := (2 : Int32)) (by decide) ?_
    refine g_icmp W83 at_201 (pcy := 209) (by decide) (pc' := 204) rfl (fun (h : ¬ (2 : Int32) = (2 : Int32)) => absurd h (by decide)) (fun _ => ?_)
    refine g_iload W83 at_204 (pc' := 206) rfl rfl ?_
    refine g_goto W83 at_206 (pc' := 211) (by decide) ?_
    refine g_istore W83 at_211 (pc' := 213) rfl (ls' := #[.val (.long p0), .second, .val (.int p1), .val (.int p2), .val (.int p3), .val (.int p4), .val (.int m0), .val (.int d1), .val (.int d2), .val (.int d3), .val (.int (m0 + d1)), .val (.int ((m0 + d1) + d2)), .val (.int (((m0 + d1) + d2) + d3)), .val (.int lo), .val (.int hi), .val (.long u0), .second, .val (.long u1), .second, .val (.long u2), .second, .val (.long u3), .second, .val (.int (2 : Int32)), .val (.ref a71), .val (.int ((m0 + d1) + d2)), .unset, .unset, .unset, .unset, .unset]) rfl ?_
    refine g_iload W83 at_213 (pc' := 215) rfl rfl ?_
    refine g_if W83 at_215 (pcy := 223) (by decide) (pc' := 218) rfl (fun _ => ?_) (fun (h : ¬ ¬ (2 : Int32) = (0 : Int32)) => absurd h (by decide))
    refine g_iload W83 at_223 (pc' := 225) rfl rfl ?_
    refine g_iconst W83 at_225 (pc' := 226) rfl (v := (1 : Int32)) (by decide) ?_
    refine g_icmp W83 at_226 (pcy := 234) (by decide) (pc' := 229) rfl (fun _ => ?_) (fun (h : ¬ ¬ (2 : Int32) = (1 : Int32)) => absurd h (by decide))
    refine g_iload W83 at_234 (pc' := 236) rfl rfl ?_
    refine g_iconst W83 at_236 (pc' := 237) rfl (v := (2 : Int32)) (by decide) ?_
    refine g_icmp W83 at_237 (pcy := 245) (by decide) (pc' := 240) rfl (fun (h : ¬ (2 : Int32) = (2 : Int32)) => absurd h (by decide)) (fun _ => ?_)
    refine g_lload W83 at_240 (pc' := 242) rfl rfl ?_
    refine g_goto W83 at_242 (pc' := 247) (by decide) ?_
    refine g_lstore W83 at_247 (pc' := 249) rfl (ls' := #[.val (.long p0), .second, .val (.int p1), .val (.int p2), .val (.int p3), .val (.int p4), .val (.int m0), .val (.int d1), .val (.int d2), .val (.int d3), .val (.int (m0 + d1)), .val (.int ((m0 + d1) + d2)), .val (.int (((m0 + d1) + d2) + d3)), .val (.int lo), .val (.int hi), .val (.long u0), .second, .val (.long u1), .second, .val (.long u2), .second, .val (.long u3), .second, .val (.int (2 : Int32)), .val (.ref a71), .val (.int ((m0 + d1) + d2)), .val (.long u2), .second, .unset, .unset, .unset]) rfl ?_
    refine g_iload W83 at_249 (pc' := 251) rfl rfl ?_
    refine g_iconst W83 at_251 (pc' := 252) rfl (v := (1 : Int32)) (by decide) ?_
    refine g_icmp W83 at_252 (pcy := 268) (by decide) (pc' := 255) rfl (fun _ => ?_) (fun (h : ¬ ¬ (2 : Int32) = (1 : Int32)) => absurd h (by decide))
    refine g_iload W83 at_268 (pc' := 270) rfl rfl ?_
    refine g_iconst W83 at_270 (pc' := 271) rfl (v := (2 : Int32)) (by decide) ?_
    refine g_icmp W83 at_271 (pcy := 287) (by decide) (pc' := 274) rfl (fun (h : ¬ (2 : Int32) = (2 : Int32)) => absurd h (by decide)) (fun _ => ?_)
    refine g_iload W83 at_274 (pc' := 276) rfl rfl ?_
    refine g_if W83 at_276 (pcy := 283) (by decide) (pc' := 279) rfl (fun (c87 : ¬ d2 = (0 : Int32)) => ?_) (fun (c87 : ¬ ¬ d2 = (0 : Int32)) => ?_)
    · refine g_iconst W83 at_283 (pc' := 284) rfl (v := (0 : Int32)) (by decide) ?_
      refine g_goto W83 at_284 (pc' := 307) (by decide) ?_
      refine g_istore W83 at_307 (pc' := 309) rfl (ls' := #[.val (.long p0), .second, .val (.int p1), .val (.int p2), .val (.int p3), .val (.int p4), .val (.int m0), .val (.int d1), .val (.int d2), .val (.int d3), .val (.int (m0 + d1)), .val (.int ((m0 + d1) + d2)), .val (.int (((m0 + d1) + d2) + d3)), .val (.int lo), .val (.int hi), .val (.long u0), .second, .val (.long u1), .second, .val (.long u2), .second, .val (.long u3), .second, .val (.int (2 : Int32)), .val (.ref a71), .val (.int ((m0 + d1) + d2)), .val (.long u2), .second, .val (.int (0 : Int32)), .unset, .unset]) rfl ?_
      refine g_iload W83 at_309 (pc' := 311) rfl rfl ?_
      refine g_if W83 at_311 (pcy := 327) (by decide) (pc' := 314) rfl (fun _ => ?_) (fun (h : ¬ ¬ (2 : Int32) = (0 : Int32)) => absurd h (by decide))
      refine g_iload W83 at_327 (pc' := 329) rfl rfl ?_
      refine g_iconst W83 at_329 (pc' := 330) rfl (v := (1 : Int32)) (by decide) ?_
      refine g_icmp W83 at_330 (pcy := 346) (by decide) (pc' := 333) rfl (fun _ => ?_) (fun (h : ¬ ¬ (2 : Int32) = (1 : Int32)) => absurd h (by decide))
      refine g_iload W83 at_346 (pc' := 348) rfl rfl ?_
      refine g_iconst W83 at_348 (pc' := 349) rfl (v := (2 : Int32)) (by decide) ?_
      refine g_icmp W83 at_349 (pcy := 365) (by decide) (pc' := 352) rfl (fun (h : ¬ (2 : Int32) = (2 : Int32)) => absurd h (by decide)) (fun _ => ?_)
      refine g_iload W83 at_352 (pc' := 354) rfl rfl ?_
      refine g_if W83 at_354 (pcy := 361) (by decide) (pc' := 357) rfl (fun (c88 : ¬ d3 = (0 : Int32)) => ?_) (fun (c88 : ¬ ¬ d3 = (0 : Int32)) => ?_)
      · refine g_iconst W83 at_361 (pc' := 362) rfl (v := (0 : Int32)) (by decide) ?_
        refine g_goto W83 at_362 (pc' := 366) (by decide) ?_
        refine g_istore W83 at_366 (pc' := 368) rfl (ls' := #[.val (.long p0), .second, .val (.int p1), .val (.int p2), .val (.int p3), .val (.int p4), .val (.int m0), .val (.int d1), .val (.int d2), .val (.int d3), .val (.int (m0 + d1)), .val (.int ((m0 + d1) + d2)), .val (.int (((m0 + d1) + d2) + d3)), .val (.int lo), .val (.int hi), .val (.long u0), .second, .val (.long u1), .second, .val (.long u2), .second, .val (.long u3), .second, .val (.int (2 : Int32)), .val (.ref a71), .val (.int ((m0 + d1) + d2)), .val (.long u2), .second, .val (.int (0 : Int32)), .val (.int (0 : Int32)), .unset]) rfl ?_
        refine g_lload W83 at_368 (pc' := 370) rfl rfl ?_
        refine g_lconst W83 at_370 (pc' := 371) rfl (v := (1 : Int64)) (by decide) ?_
        refine g_lcmp W83 at_371 (pc' := 372) rfl rfl ?_
        refine g_if W83 at_372 (pcy := 406) (by decide) (pc' := 375) rfl (fun (c89 : (XT.cmpL u2 (1 : Int64)) = (0 : Int32)) => ?_) (fun (c89 : ¬ (XT.cmpL u2 (1 : Int64)) = (0 : Int32)) => ?_)
        · refine g_iconst W83 at_406 (pc' := 407) rfl (v := (1 : Int32)) (by decide) ?_
          refine g_goto W83 at_407 (pc' := 411) (by decide) ?_
          refine g_istore W83 at_411 (pc' := 413) rfl (ls' := #[.val (.long p0), .second, .val (.int p1), .val (.int p2), .val (.int p3), .val (.int p4), .val (.int m0), .val (.int d1), .val (.int d2), .val (.int d3), .val (.int (m0 + d1)), .val (.int ((m0 + d1) + d2)), .val (.int (((m0 + d1) + d2) + d3)), .val (.int lo), .val (.int hi), .val (.long u0), .second, .val (.long u1), .second, .val (.long u2), .second, .val (.long u3), .second, .val (.int (2 : Int32)), .val (.ref a71), .val (.int ((m0 + d1) + d2)), .val (.long u2), .second, .val (.int (0 : Int32)), .val (.int (0 : Int32)), .val (.int (1 : Int32))]) rfl ?_
          refine g_aload W83 at_413 (pc' := 415) rfl rfl rfl ?_
          refine g_iload W83 at_415 (pc' := 417) rfl rfl ?_
          refine g_callV W83 (argsL := [.int (2 : Int32)]) (st := []) (wd_27 hw) (wd_28 hw) (wd_30 hw) (wd_29 hw) (wd_8 hw) (wd_31 hw) (by decide) (a := a71) H86f (i := 0) rfl (c_hold2 l Z a0 hw n0 a71 a72 a77 (((u0 + u1) + u2) + u3) (FP.i2d lo) (FP.i2d hi) (FP.i2d m0) (FP.i2d (m0 + d1)) (FP.i2d ((m0 + d1) + d2)) (FP.i2d (((m0 + d1) + d2) + d3)) u0 u1 u2 u3 (1 : Int32) ((if_pos (Or.inl (cmpL_eq0.mp c89))).symm) _ _ H86f) pd_0 rfl rfl rfl at_417 (pc' := 420) rfl (by decide) (Wn := 0) (Nat.le_of_eq rfl) (by decide) (kc' := 3) (ks' := 13) rfl rfl (by decide) (by decide) ?_
          intro T90 v90 W90 hp90
          obtain ⟨rfl, H90⟩ := hp90
          show Goes p e below _ (T90.setTop (mkF m 420 #[.val (.long p0), .second, .val (.int p1), .val (.int p2), .val (.int p3), .val (.int p4), .val (.int m0), .val (.int d1), .val (.int d2), .val (.int d3), .val (.int (m0 + d1)), .val (.int ((m0 + d1) + d2)), .val (.int (((m0 + d1) + d2) + d3)), .val (.int lo), .val (.int hi), .val (.long u0), .second, .val (.long u1), .second, .val (.long u2), .second, .val (.long u3), .second, .val (.int (2 : Int32)), .val (.ref a71), .val (.int ((m0 + d1) + d2)), .val (.long u2), .second, .val (.int (0 : Int32)), .val (.int (0 : Int32)), .val (.int (1 : Int32))] [.int (1 : Int32)]))
          refine g_iload W90 at_420 (pc' := 422) rfl rfl ?_
          refine g_icmp W90 at_422 (pcy := 429) (by decide) (pc' := 425) rfl (fun (h : ¬ (1 : Int32) = (1 : Int32)) => absurd h (by decide)) (fun _ => ?_)
          refine g_iconst W90 at_425 (pc' := 426) rfl (v := (1 : Int32)) (by decide) ?_
          refine g_goto W90 at_426 (pc' := 430) (by decide) ?_
          exact g_zreturn W90 (by decide) at_430 rfl (by decide) (by decide)
        · refine g_iload W83 at_375 (pc' := 377) rfl rfl ?_
          refine g_if W83 at_377 (pcy := 406) (by decide) (pc' := 380) rfl (fun (h : ¬ (0 : Int32) = (0 : Int32)) => absurd h (by decide)) (fun _ => ?_)
          refine g_iload W83 at_380 (pc' := 382) rfl rfl ?_
          refine g_if W83 at_382 (pcy := 406) (by decide) (pc' := 385) rfl (fun (h : ¬ (0 : Int32) = (0 : Int32)) => absurd h (by decide)) (fun _ => ?_)
          refine g_lload W83 at_385 (pc' := 387) rfl rfl ?_
          refine g_lconst W83 at_387 (pc' := 388) rfl (v := (1 : Int64)) (by decide) ?_
          refine g_lcmp W83 at_388 (pc' := 389) rfl rfl ?_
          refine g_if W83 at_389 (pcy := 410) (by decide) (pc' := 392) rfl (fun (c91 : ¬ (0 : Int32) < (XT.cmpL u2 (1 : Int64))) => ?_) (fun (c91 : ¬ ¬ (0 : Int32) < (XT.cmpL u2 (1 : Int64))) => ?_)
          · refine g_iconst W83 at_410 (pc' := 411) rfl (v := (0 : Int32)) (by decide) ?_
            refine g_istore W83 at_411 (pc' := 413) rfl (ls' := #[.val (.long p0), .second, .val (.int p1), .val (.int p2), .val (.int p3), .val (.int p4), .val (.int m0), .val (.int d1), .val (.int d2), .val (.int d3), .val (.int (m0 + d1)), .val (.int ((m0 + d1) + d2)), .val (.int (((m0 + d1) + d2) + d3)), .val (.int lo), .val (.int hi), .val (.long u0), .second, .val (.long u1), .second, .val (.long u2), .second, .val (.long u3), .second, .val (.int (2 : Int32)), .val (.ref a71), .val (.int ((m0 + d1) + d2)), .val (.long u2), .second, .val (.int (0 : Int32)), .val (.int (0 : Int32)), .val (.int (0 : Int32))]) rfl ?_
            refine g_aload W83 at_413 (pc' := 415) rfl rfl rfl ?_
            refine g_iload W83 at_415 (pc' := 417) rfl rfl ?_
            refine g_callV W83 (argsL := [.int (2 : Int32)]) (st := []) (wd_27 hw) (wd_28 hw) (wd_30 hw) (wd_29 hw) (wd_8 hw) (wd_31 hw) (by decide) (a := a71) H86f (i := 0) rfl (c_hold2 l Z a0 hw n0 a71 a72 a77 (((u0 + u1) + u2) + u3) (FP.i2d lo) (FP.i2d hi) (FP.i2d m0) (FP.i2d (m0 + d1)) (FP.i2d ((m0 + d1) + d2)) (FP.i2d (((m0 + d1) + d2) + d3)) u0 u1 u2 u3 (0 : Int32) ((if_neg (fun q => q.elim (fun q => c89 (cmpL_eq0.mpr q)) (fun q => q.elim (fun q => c87 (own_step.mp q)) (fun q => q.elim (fun q => c88 (own_step'.mp q)) (fun q => c91 (cmpL_gt0.mpr q.1)))))).symm) _ _ H86f) pd_0 rfl rfl rfl at_417 (pc' := 420) rfl (by decide) (Wn := 0) (Nat.le_of_eq rfl) (by decide) (kc' := 3) (ks' := 13) rfl rfl (by decide) (by decide) ?_
            intro T92 v92 W92 hp92
            obtain ⟨rfl, H92⟩ := hp92
            show Goes p e below _ (T92.setTop (mkF m 420 #[.val (.long p0), .second, .val (.int p1), .val (.int p2), .val (.int p3), .val (.int p4), .val (.int m0), .val (.int d1), .val (.int d2), .val (.int d3), .val (.int (m0 + d1)), .val (.int ((m0 + d1) + d2)), .val (.int (((m0 + d1) + d2) + d3)), .val (.int lo), .val (.int hi), .val (.long u0), .second, .val (.long u1), .second, .val (.long u2), .second, .val (.long u3), .second, .val (.int (2 : Int32)), .val (.ref a71), .val (.int ((m0 + d1) + d2)), .val (.long u2), .second, .val (.int (0 : Int32)), .val (.int (0 : Int32)), .val (.int (0 : Int32))] [.int (0 : Int32)]))
            refine g_iload W92 at_420 (pc' := 422) rfl rfl ?_
            refine g_icmp W92 at_422 (pcy := 429) (by decide) (pc' := 425) rfl (fun (h : ¬ (0 : Int32) = (0 : Int32)) => absurd h (by decide)) (fun _ => ?_)
            refine g_iconst W92 at_425 (pc' := 426) rfl (v := (1 : Int32)) (by decide) ?_
            refine g_goto W92 at_426 (pc' := 430) (by decide) ?_
            exact g_zreturn W92 (by decide) at_430 rfl (by decide) (by decide)
          · replace c91 := Classical.not_not.mp c91
            refine g_iload W83 at_392 (pc' := 394) rfl rfl ?_
            refine g_iload W83 at_394 (pc' := 396) rfl rfl ?_
            refine g_icmp W83 at_396 (pcy := 406) (by decide) (pc' := 399) rfl (fun (c93 : ((m0 + d1) + d2) = lo) => ?_) (fun (c93 : ¬ ((m0 + d1) + d2) = lo) => ?_)
            · refine g_iconst W83 at_406 (pc' := 407) rfl (v := (1 : Int32)) (by decide) ?_
              refine g_goto W83 at_407 (pc' := 411) (by decide) ?_
              refine g_istore W83 at_411 (pc' := 413) rfl (ls' := #[.val (.long p0), .second, .val (.int p1), .val (.int p2), .val (.int p3), .val (.int p4), .val (.int m0), .val (.int d1), .val (.int d2), .val (.int d3), .val (.int (m0 + d1)), .val (.int ((m0 + d1) + d2)), .val (.int (((m0 + d1) + d2) + d3)), .val (.int lo), .val (.int hi), .val (.long u0), .second, .val (.long u1), .second, .val (.long u2), .second, .val (.long u3), .second, .val (.int (2 : Int32)), .val (.ref a71), .val (.int ((m0 + d1) + d2)), .val (.long u2), .second, .val (.int (0 : Int32)), .val (.int (0 : Int32)), .val (.int (1 : Int32))]) rfl ?_
              refine g_aload W83 at_413 (pc' := 415) rfl rfl rfl ?_
              refine g_iload W83 at_415 (pc' := 417) rfl rfl ?_
              refine g_callV W83 (argsL := [.int (2 : Int32)]) (st := []) (wd_27 hw) (wd_28 hw) (wd_30 hw) (wd_29 hw) (wd_8 hw) (wd_31 hw) (by decide) (a := a71) H86f (i := 0) rfl (c_hold2 l Z a0 hw n0 a71 a72 a77 (((u0 + u1) + u2) + u3) (FP.i2d lo) (FP.i2d hi) (FP.i2d m0) (FP.i2d (m0 + d1)) (FP.i2d ((m0 + d1) + d2)) (FP.i2d (((m0 + d1) + d2) + d3)) u0 u1 u2 u3 (1 : Int32) ((if_pos (Or.inr (Or.inr (Or.inr ⟨cmpL_gt0.mp c91, Or.inl (own_i2d_eq.mpr c93)⟩)))).symm) _ _ H86f) pd_0 rfl rfl rfl at_417 (pc' := 420) rfl (by decide) (Wn := 0) (Nat.le_of_eq rfl) (by decide) (kc' := 3) (ks' := 13) rfl rfl (by decide) (by decide) ?_
              intro T94 v94 W94 hp94
              obtain ⟨rfl, H94⟩ := hp94
              show Goes p e below _ (T94.setTop (mkF m 420 #[.val (.long p0), .second, .val (.int p1), .val (.int p2), .val (.int p3), .val (.int p4), .val (.int m0), .val (.int d1), .val (.int d2), .val (.int d3), .val (.int (m0 + d1)), .val (.int ((m0 + d1) + d2)), .val (.int (((m0 + d1) + d2) + d3)), .val (.int lo), .val (.int hi), .val (.long u0), .second, .val (.long u1), .second, .val (.long u2), .second, .val (.long u3), .second, .val (.int (2 : Int32)), .val (.ref a71), .val (.int ((m0 + d1) + d2)), .val (.long u2), .second, .val (.int (0 : Int32)), .val (.int (0 : Int32)), .val (.int (1 : Int32))] [.int (1 : Int32)]))
              refine g_iload W94 at_420 (pc' := 422) rfl rfl ?_
              refine g_icmp W94 at_422 (pcy := 429) (by decide) (pc' := 425) rfl (fun (h : ¬ (1 : Int32) = (1 : Int32)) => absurd h (by decide)) (fun _ => ?_)
              refine g_iconst W94 at_425 (pc' := 426) rfl (v := (1 : Int32)) (by decide) ?_
              refine g_goto W94 at_426 (pc' := 430) (by decide) ?_
              exact g_zreturn W94 (by decide) at_430 rfl (by decide) (by decide)
            · refine g_iload W83 at_399 (pc' := 401) rfl rfl ?_
              refine g_iload W83 at_401 (pc' := 403) rfl rfl ?_
              refine g_icmp W83 at_403 (pcy := 410) (by decide) (pc' := 406) rfl (fun (c95 : ¬ ((m0 + d1) + d2) = hi) => ?_) (fun (c95 : ¬ ¬ ((m0 + d1) + d2) = hi) => ?_)
              · refine g_iconst W83 at_410 (pc' := 411) rfl (v := (0 : Int32)) (by decide) ?_
                refine g_istore W83 at_411 (pc' := 413) rfl (ls' := #[.val (.long p0), .second, .val (.int p1), .val (.int p2), .val (.int p3), .val (.int p4), .val (.int m0), .val (.int d1), .val (.int d2), .val (.int d3), .val (.int (m0 + d1)), .val (.int ((m0 + d1) + d2)), .val (.int (((m0 + d1) + d2) + d3)), .val (.int lo), .val (.int hi), .val (.long u0), .second, .val (.long u1), .second, .val (.long u2), .second, .val (.long u3), .second, .val (.int (2 : Int32)), .val (.ref a71), .val (.int ((m0 + d1) + d2)), .val (.long u2), .second, .val (.int (0 : Int32)), .val (.int (0 : Int32)), .val (.int (0 : Int32))]) rfl ?_
                refine g_aload W83 at_413 (pc' := 415) rfl rfl rfl ?_
                refine g_iload W83 at_415 (pc' := 417) rfl rfl ?_
                refine g_callV W83 (argsL := [.int (2 : Int32)]) (st := []) (wd_27 hw) (wd_28 hw) (wd_30 hw) (wd_29 hw) (wd_8 hw) (wd_31 hw) (by decide) (a := a71) H86f (i := 0) rfl (c_hold2 l Z a0 hw n0 a71 a72 a77 (((u0 + u1) + u2) + u3) (FP.i2d lo) (FP.i2d hi) (FP.i2d m0) (FP.i2d (m0 + d1)) (FP.i2d ((m0 + d1) + d2)) (FP.i2d (((m0 + d1) + d2) + d3)) u0 u1 u2 u3 (0 : Int32) ((if_neg (fun q => q.elim (fun q => c89 (cmpL_eq0.mpr q)) (fun q => q.elim (fun q => c87 (own_step.mp q)) (fun q => q.elim (fun q => c88 (own_step'.mp q)) (fun q => q.2.elim (fun q => c93 (own_i2d_eq.mp q)) (fun q => c95 (own_i2d_eq.mp q))))))).symm) _ _ H86f) pd_0 rfl rfl rfl at_417 (pc' := 420) rfl (by decide) (Wn := 0) (Nat.le_of_eq rfl) (by decide) (kc' := 3) (ks' := 13) rfl rfl (by decide) (by decide) ?_
                intro T96 v96 W96 hp96
                obtain ⟨rfl, H96⟩ := hp96
                show Goes p e below _ (T96.setTop (mkF m 420 #[.val (.long p0), .second, .val (.int p1), .val (.int p2), .val (.int p3), .val (.int p4), .val (.int m0), .val (.int d1), .val (.int d2), .val (.int d3), .val (.int (m0 + d1)), .val (.int ((m0 + d1) + d2)), .val (.int (((m0 + d1) + d2) + d3)), .val (.int lo), .val (.int hi), .val (.long u0), .second, .val (.long u1), .second, .val (.long u2), .second, .val (.long u3), .second, .val (.int (2 : Int32)), .val (.ref a71), .val (.int ((m0 + d1) + d2)), .val (.long u2), .second, .val (.int (0 : Int32)), .val (.int (0 : Int32)), .val (.int (0 : Int32))] [.int (0 : Int32)]))
                refine g_iload W96 at_420 (pc' := 422) rfl rfl ?_
                refine g_icmp W96 at_422 (pcy := 429) (by decide) (pc' := 425) rfl (fun (h : ¬ (0 : Int32) = (0 : Int32)) => absurd h (by decide)) (fun _ => ?_)
                refine g_iconst W96 at_425 (pc' := 426) rfl (v := (1 : Int32)) (by decide) ?_
                refine g_goto W96 at_426 (pc' := 430) (by decide) ?_
                exact g_zreturn W96 (by decide) at_430 rfl (by decide) (by decide)
              · replace c95 := Classical.not_not.mp c95
                refine g_iconst W83 at_406 (pc' := 407) rfl (v := (1 : Int32)) (by decide) ?_
                refine g_goto W83 at_407 (pc' := 411) (by decide) ?_
                refine g_istore W83 at_411 (pc' := 413) rfl (ls' := #[.val (.long p0), .second, .val (.int p1), .val (.int p2), .val (.int p3), .val (.int p4), .val (.int m0), .val (.int d1), .val (.int d2), .val (.int d3), .val (.int (m0 + d1)), .val (.int ((m0 + d1) + d2)), .val (.int (((m0 + d1) + d2) + d3)), .val (.int lo), .val (.int hi), .val (.long u0), .second, .val (.long u1), .second, .val (.long u2), .second, .val (.long u3), .second, .val (.int (2 : Int32)), .val (.ref a71), .val (.int ((m0 + d1) + d2)), .val (.long u2), .second, .val (.int (0 : Int32)), .val (.int (0 : Int32)), .val (.int (1 : Int32))]) rfl ?_
                refine g_aload W83 at_413 (pc' := 415) rfl rfl rfl ?_
                refine g_iload W83 at_415 (pc' := 417) rfl rfl ?_
                refine g_callV W83 (argsL := [.int (2 : Int32)]) (st := []) (wd_27 hw) (wd_28 hw) (wd_30 hw) (wd_29 hw) (wd_8 hw) (wd_31 hw) (by decide) (a := a71) H86f (i := 0) rfl (c_hold2 l Z a0 hw n0 a71 a72 a77 (((u0 + u1) + u2) + u3) (FP.i2d lo) (FP.i2d hi) (FP.i2d m0) (FP.i2d (m0 + d1)) (FP.i2d ((m0 + d1) + d2)) (FP.i2d (((m0 + d1) + d2) + d3)) u0 u1 u2 u3 (1 : Int32) ((if_pos (Or.inr (Or.inr (Or.inr ⟨cmpL_gt0.mp c91, Or.inr (own_i2d_eq.mpr c95)⟩)))).symm) _ _ H86f) pd_0 rfl rfl rfl at_417 (pc' := 420) rfl (by decide) (Wn := 0) (Nat.le_of_eq rfl) (by decide) (kc' := 3) (ks' := 13) rfl rfl (by decide) (by decide) ?_
                intro T97 v97 W97 hp97
                obtain ⟨rfl, H97⟩ := hp97
                show Goes p e below _ (T97.setTop (mkF m 420 #[.val (.long p0), .second, .val (.int p1), .val (.int p2), .val (.int p3), .val (.int p4), .val (.int m0), .val (.int d1), .val (.int d2), .val (.int d3), .val (.int (m0 + d1)), .val (.int ((m0 + d1) + d2)), .val (.int (((m0 + d1) + d2) + d3)), .val (.int lo), .val (.int hi), .val (.long u0), .second, .val (.long u1), .second, .val (.long u2), .second, .val (.long u3), .second, .val (.int (2 : Int32)), .val (.ref a71), .val (.int ((m0 + d1) + d2)), .val (.long u2), .second, .val (.int (0 : Int32)), .val (.int (0 : Int32)), .val (.int (1 : Int32))] [.int (1 : Int32)]))
                refine g_iload W97 at_420 (pc' := 422) rfl rfl ?_
                refine g_icmp W97 at_422 (pcy := 429) (by decide) (pc' := 425) rfl (fun (h : ¬ (1 : Int32) = (1 : Int32)) => absurd h (by decide)) (fun _ => ?_)
                refine g_iconst W97 at_425 (pc' := 426) rfl (v := (1 : Int32)) (by decide) ?_
                refine g_goto W97 at_426 (pc' := 430) (by decide) ?_
                exact g_zreturn W97 (by decide) at_430 rfl (by decide) (by decide)
      · replace c88 := Classical.not_not.mp c88
        refine g_iconst W83 at_357 (pc' := 358) rfl (v := (1 : Int32)) (by decide) ?_
        refine g_goto W83 at_358 (pc' := 366) (by decide) ?_
        refine g_istore W83 at_366 (pc' := 368) rfl (ls' := #[.val (.long p0), .second, .val (.int p1), .val (.int p2), .val (.int p3), .val (.int p4), .val (.int m0), .val (.int d1), .val (.int d2), .val (.int d3), .val (.int (m0 + d1)), .val (.int ((m0 + d1) + d2)), .val (.int (((m0 + d1) + d2) + d3)), .val (.int lo), .val (.int hi), .val (.long u0), .second, .val (.long u1), .second, .val (.long u2), .second, .val (.long u3), .second, .val (.int (2 : Int32)), .val (.ref a71), .val (.int ((m0 + d1) + d2)), .val (.long u2), .second, .val (.int (0 : Int32)), .val (.int (1 : Int32)), .unset]) rfl ?_
        refine g_lload W83 at_368 (pc' := 370) rfl rfl ?_
        refine g_lconst W83 at_370 (pc' := 371) rfl (v := (1 : Int64)) (by decide) ?_
        refine g_lcmp W83 at_371 (pc' := 372) rfl rfl ?_
        refine g_if W83 at_372 (pcy := 406) (by decide) (pc' := 375) rfl (fun (c98 : (XT.cmpL u2 (1 : Int64)) = (0 : Int32)) => ?_) (fun (c98 : ¬ (XT.cmpL u2 (1 : Int64)) = (0 : Int32)) => ?_)
        · refine g_iconst W83 at_406 (pc' := 407) rfl (v := (1 : Int32)) (by decide) ?_
          refine g_goto W83 at_407 (pc' := 411) (by decide) ?_
          refine g_istore W83 at_411 (pc' := 413) rfl (ls' := #[.val (.long p0), .second, .val (.int p1), .val (.int p2), .val (.int p3), .val (.int p4), .val (.int m0), .val (.int d1), .val (.int d2), .val (.int d3), .val (.int (m0 + d1)), .val (.int ((m0 + d1) + d2)), .val (.int (((m0 + d1) + d2) + d3)), .val (.int lo), .val (.int hi), .val (.long u0), .second, .val (.long u1), .second, .val (.long u2), .second, .val (.long u3), .second, .val (.int (2 : Int32)), .val (.ref a71), .val (.int ((m0 + d1) + d2)), .val (.long u2), .second, .val (.int (0 : Int32)), .val (.int (1 : Int32)), .val (.int (1 : Int32))]) rfl ?_
          refine g_aload W83 at_413 (pc' := 415) rfl rfl rfl ?_
          refine g_iload W83 at_415 (pc' := 417) rfl rfl ?_
          refine g_callV W83 (argsL := [.int (2 : Int32)]) (st := []) (wd_27 hw) (wd_28 hw) (wd_30 hw) (wd_29 hw) (wd_8 hw) (wd_31 hw) (by decide) (a := a71) H86f (i := 0) rfl (c_hold2 l Z a0 hw n0 a71 a72 a77 (((u0 + u1) + u2) + u3) (FP.i2d lo) (FP.i2d hi) (FP.i2d m0) (FP.i2d (m0 + d1)) (FP.i2d ((m0 + d1) + d2)) (FP.i2d (((m0 + d1) + d2) + d3)) u0 u1 u2 u3 (1 : Int32) ((if_pos (Or.inl (cmpL_eq0.mp c98))).symm) _ _ H86f) pd_0 rfl rfl rfl at_417 (pc' := 420) rfl (by decide) (Wn := 0) (Nat.le_of_eq rfl) (by decide) (kc' := 3) (ks' := 13) rfl rfl (by decide) (by decide) ?_
          intro T99 v99 W99 hp99
          obtain ⟨rfl, H99⟩ := hp99
          show Goes p e below _ (T99.setTop (mkF m 420 #[.val (.long p0), .second, .val (.int p1), .val (.int p2), .val (.int p3), .val (.int p4), .val (.int m0), .val (.int d1), .val (.int d2), .val (.int d3), .val (.int (m0 + d1)), .val (.int ((m0 + d1) + d2)), .val (.int (((m0 + d1) + d2) + d3)), .val (.int lo), .val (.int hi), .val (.long u0), .second, .val (.long u1), .second, .val (.long u2), .second, .val (.long u3), .second, .val (.int (2 : Int32)), .val (.ref a71), .val (.int ((m0 + d1) + d2)), .val (.long u2), .second, .val (.int (0 : Int32)), .val (.int (1 : Int32)), .val (.int (1 : Int32))] [.int (1 : Int32)]))
          refine g_iload W99 at_420 (pc' := 422) rfl rfl ?_
          refine g_icmp W99 at_422 (pcy := 429) (by decide) (pc' := 425) rfl (fun (h : ¬ (1 : Int32) = (1 : Int32)) => absurd h (by decide)) (fun _ => ?_)
          refine g_iconst W99 at_425 (pc' := 426) rfl (v := (1 : Int32)) (by decide) ?_
          refine g_goto W99 at_426 (pc' := 430) (by decide) ?_
          exact g_zreturn W99 (by decide) at_430 rfl (by decide) (by decide)
        · refine g_iload W83 at_375 (pc' := 377) rfl rfl ?_
          refine g_if W83 at_377 (pcy := 406) (by decide) (pc' := 380) rfl (fun (h : ¬ (0 : Int32) = (0 : Int32)) => absurd h (by decide)) (fun _ => ?_)
          refine g_iload W83 at_380 (pc' := 382) rfl rfl ?_
          refine g_if W83 at_382 (pcy := 406) (by decide) (pc' := 385) rfl (fun _ => ?_) (fun (h : ¬ ¬ (1 : Int32) = (0 : Int32)) => absurd h (by decide))
          refine g_iconst W83 at_406 (pc' := 407) rfl (v := (1 : Int32)) (by decide) ?_
          refine g_goto W83 at_407 (pc' := 411) (by decide) ?_
          refine g_istore W83 at_411 (pc' := 413) rfl (ls' := #[.val (.long p0), .second, .val (.int p1), .val (.int p2), .val (.int p3), .val (.int p4), .val (.int m0), .val (.int d1), .val (.int d2), .val (.int d3), .val (.int (m0 + d1)), .val (.int ((m0 + d1) + d2)), .val (.int (((m0 + d1) + d2) + d3)), .val (.int lo), .val (.int hi), .val (.long u0), .second, .val (.long u1), .second, .val (.long u2), .second, .val (.long u3), .second, .val (.int (2 : Int32)), .val (.ref a71), .val (.int ((m0 + d1) + d2)), .val (.long u2), .second, .val (.int (0 : Int32)), .val (.int (1 : Int32)), .val (.int (1 : Int32))]) rfl ?_
          refine g_aload W83 at_413 (pc' := 415) rfl rfl rfl ?_
          refine g_iload W83 at_415 (pc' := 417) rfl rfl ?_
          refine g_callV W83 (argsL := [.int (2 : Int32)]) (st := []) (wd_27 hw) (wd_28 hw) (wd_30 hw) (wd_29 hw) (wd_8 hw) (wd_31 hw) (by decide) (a := a71) H86f (i := 0) rfl (c_hold2 l Z a0 hw n0 a71 a72 a77 (((u0 + u1) + u2) + u3) (FP.i2d lo) (FP.i2d hi) (FP.i2d m0) (FP.i2d (m0 + d1)) (FP.i2d ((m0 + d1) + d2)) (FP.i2d (((m0 + d1) + d2) + d3)) u0 u1 u2 u3 (1 : Int32) ((if_pos (Or.inr (Or.inr (Or.inl (own_step'.mpr c88))))).symm) _ _ H86f) pd_0 rfl rfl rfl at_417 (pc' := 420) rfl (by decide) (Wn := 0) (Nat.le_of_eq rfl) (by decide) (kc' := 3) (ks' := 13) rfl rfl (by decide) (by decide) ?_
          intro T100 v100 W100 hp100
          obtain ⟨rfl, H100⟩ := hp100
          show Goes p e below _ (T100.setTop (mkF m 420 #[.val (.long p0), .second, .val (.int p1), .val (.int p2), .val (.int p3), .val (.int p4), .val (.int m0), .val (.int d1), .val (.int d2), .val (.int d3), .val (.int (m0 + d1)), .val (.int ((m0 + d1) + d2)), .val (.int (((m0 + d1) + d2) + d3)), .val (.int lo), .val (.int hi), .val (.long u0), .second, .val (.long u1), .second, .val (.long u2), .second, .val (.long u3), .second, .val (.int (2 : Int32)), .val (.ref a71), .val (.int ((m0 + d1) + d2)), .val (.long u2), .second, .val (.int (0 : Int32)), .val (.int (1 : Int32)), .val (.int (1 : Int32))] [.int (1 : Int32)]))
          refine g_iload W100 at_420 (pc' := 422) rfl rfl ?_
          refine g_icmp W100 at_422 (pcy := 429) (by decide) (pc' := 425) rfl (fun (h : ¬ (1 : Int32) = (1 : Int32)) => absurd h (by decide)) (fun _ => ?_)
          refine g_iconst W100 at_425 (pc' := 426) rfl (v := (1 : Int32)) (by decide) ?_
          refine g_goto W100 at_426 (pc' := 430) (by decide) ?_
          exact g_zreturn W100 (by decide) at_430 rfl (by decide) (by decide)
    · replace c87 := Classical.not_not.mp c87
      refine g_iconst W83 at_279 (pc' := 280) rfl (v := (1 : Int32)) (by decide) ?_
      refine g_goto W83 at_280 (pc' := 307) (by decide) ?_
      refine g_istore W83 at_307 (pc' := 309) rfl (ls' := #[.val (.long p0), .second, .val (.int p1), .val (.int p2), .val (.int p3), .val (.int p4), .val (.int m0), .val (.int d1), .val (.int d2), .val (.int d3), .val (.int (m0 + d1)), .val (.int ((m0 + d1) + d2)), .val (.int (((m0 + d1) + d2) + d3)), .val (.int lo), .val (.int hi), .val (.long u0), .second, .val (.long u1), .second, .val (.long u2), .second, .val (.long u3), .second, .val (.int (2 : Int32)), .val (.ref a71), .val (.int ((m0 + d1) + d2)), .val (.long u2), .second, .val (.int (1 : Int32)), .unset, .unset]) rfl ?_
      refine g_iload W83 at_309 (pc' := 311) rfl rfl ?_
      refine g_if W83 at_311 (pcy := 327) (by decide) (pc' := 314) rfl (fun _ => ?_) (fun (h : ¬ ¬ (2 : Int32) = (0 : Int32)) => absurd h (by decide))
      refine g_iload W83 at_327 (pc' := 329) rfl rfl ?_
      refine g_iconst W83 at_329 (pc' := 330) rfl (v := (1 : Int32)) (by decide) ?_
      refine g_icmp W83 at_330 (pcy := 346) (by decide) (pc' := 333) rfl (fun _ => ?_) (fun (h : ¬ ¬ (2 : Int32) = (1 : Int32)) => absurd h (by decide))
      refine g_iload W83 at_346 (pc' := 348) rfl rfl ?_
      refine g_iconst W83 at_348 (pc' := 349) rfl (v := (2 : Int32)) (by decide) ?_
      refine g_icmp W83 at_349 (pcy := 365) (by decide) (pc' := 352) rfl (fun (h : ¬ (2 : Int32) = (2 : Int32)) => absurd h (by decide)) (fun _ => ?_)
      refine g_iload W83 at_352 (pc' := 354) rfl rfl ?_
      refine g_if W83 at_354 (pcy := 361) (by decide) (pc' := 357) rfl (fun (c101 : ¬ d3 = (0 : Int32)) => ?_) (fun (c101 : ¬ ¬ d3 = (0 : Int32)) => ?_)
      · refine g_iconst W83 at_361 (pc' := 362) rfl (v := (0 : Int32)) (by decide) ?_
        refine g_goto W83 at_362 (pc' := 366) (by decide) ?_
        refine g_istore W83 at_366 (pc' := 368) rfl (ls' := #[.val (.long p0), .second, .val (.int p1), .val (.int p2), .val (.int p3), .val (.int p4), .val (.int m0), .val (.int d1), .val (.int d2), .val (.int d3), .val (.int (m0 + d1)), .val (.int ((m0 + d1) + d2)), .val (.int (((m0 + d1) + d2) + d3)), .val (.int lo), .val (.int hi), .val (.long u0), .second, .val (.long u1), .second, .val (.long u2), .second, .val (.long u3), .second, .val (.int (2 : Int32)), .val (.ref a71), .val (.int ((m0 + d1) + d2)), .val (.long u2), .second, .val (.int (1 : Int32)), .val (.int (0 : Int32)), .unset]) rfl ?_
        refine g_lload W83 at_368 (pc' := 370) rfl rfl ?_
        refine g_lconst W83 at_370 (pc' := 371) rfl (v := (1 : Int64)) (by decide) ?_
        refine g_lcmp W83 at_371 (pc' := 372) rfl rfl ?_
        refine g_if W83 at_372 (pcy := 406) (by decide) (pc' := 375) rfl (fun (c102 : (XT.cmpL u2 (1 : Int64)) = (0 : Int32)) => ?_) (fun (c102 : ¬ (XT.cmpL u2 (1 : Int64)) = (0 : Int32)) => ?_)
        · refine g_iconst W83 at_406 (pc' := 407) rfl (v := (1 : Int32)) (by decide) ?_
          refine g_goto W83 at_407 (pc' := 411) (by decide) ?_
          refine g_istore W83 at_411 (pc' := 413) rfl (ls' := #[.val (.long p0), .second, .val (.int p1), .val (.int p2), .val (.int p3), .val (.int p4), .val (.int m0), .val (.int d1), .val (.int d2), .val (.int d3), .val (.int (m0 + d1)), .val (.int ((m0 + d1) + d2)), .val (.int (((m0 + d1) + d2) + d3)), .val (.int lo), .val (.int hi), .val (.long u0), .second, .val (.long u1), .second, .val (.long u2), .second, .val (.long u3), .second, .val (.int (2 : Int32)), .val (.ref a71), .val (.int ((m0 + d1) + d2)), .val (.long u2), .second, .val (.int (1 : Int32)), .val (.int (0 : Int32)), .val (.int (1 : Int32))]) rfl ?_
          refine g_aload W83 at_413 (pc' := 415) rfl rfl rfl ?_
          refine g_iload W83 at_415 (pc' := 417) rfl rfl ?_
          refine g_callV W83 (argsL := [.int (2 : Int32)]) (st := []) (wd_27 hw) (wd_28 hw) (wd_30 hw) (wd_29 hw) (wd_8 hw) (wd_31 hw) (by decide) (a := a71) H86f (i := 0) rfl (c_hold2 l Z a0 hw n0 a71 a72 a77 (((u0 + u1) + u2) + u3) (FP.i2d lo) (FP.i2d hi) (FP.i2d m0) (FP.i2d (m0 + d1)) (FP.i2d ((m0 + d1) + d2)) (FP.i2d (((m0 + d1) + d2) + d3)) u0 u1 u2 u3 (1 : Int32) ((if_pos (Or.inl (cmpL_eq0.mp c102))).symm) _ _ H86f) pd_0 rfl rfl rfl at_417 (pc' := 420) rfl (by decide) (Wn := 0) (Nat.le_of_eq rfl) (by decide) (kc' := 3) (ks' := 13) rfl rfl (by decide) (by decide) ?_
          intro T103 v103 W103 hp103
          obtain ⟨rfl, H103⟩ := hp103
          show Goes p e below _ (T103.setTop (mkF m 420 #[.val (.long p0), .second, .val (.int p1), .val (.int p2), .val (.int p3), .val (.int p4), .val (.int m0), .val (.int d1), .val (.int d2), .val (.int d3), .val (.int (m0 + d1)), .val (.int ((m0 + d1) + d2)), .val (.int (((m0 + d1) + d2) + d3)), .val (.int lo), .val (.int hi), .val (.long u0), .second, .val (.long u1), .second, .val (.long u2), .second, .val (.long u3), .second, .val (.int (2 : Int32)), .val (.ref a71), .val (.int ((m0 + d1) + d2)), .val (.long u2), .second, .val (.int (1 : Int32)), .val (.int (0 : Int32)), .val (.int (1 : Int32))] [.int (1 : Int32)]))
          refine g_iload W103 at_420 (pc' := 422) rfl rfl ?_
          refine g_icmp W103 at_422 (pcy := 429) (by decide) (pc' := 425) rfl (fun (h : ¬ (1 : Int32) = (1 : Int32)) => absurd h (by decide)) (fun _ => ?_)
          refine g_iconst W103 at_425 (pc' := 426) rfl (v := (1 : Int32)) (by decide) ?_
          refine g_goto W103 at_426 (pc' := 430) (by decide) ?_
          exact g_zreturn W103 (by decide) at_430 rfl (by decide) (by decide)
        · refine g_iload W83 at_375 (pc' := 377) rfl rfl ?_
          refine g_if W83 at_377 (pcy := 406) (by decide) (pc' := 380) rfl (fun _ => ?_) (fun (h : ¬ ¬ (1 : Int32) = (0 : Int32)) => absurd h (by decide))
          refine g_iconst W83 at_406 (pc' := 407) rfl (v := (1 : Int32)) (by decide) ?_
          refine g_goto W83 at_407 (pc' := 411) (by decide) ?_
          refine g_istore W83 at_411 (pc' := 413) rfl (ls' := #[.val (.long p0), .second, .val (.int p1), .val (.int p2), .val (.int p3), .val (.int p4), .val (.int m0), .val (.int d1), .val (.int d2), .val (.int d3), .val (.int (m0 + d1)), .val (.int ((m0 + d1) + d2)), .val (.int (((m0 + d1) + d2) + d3)), .val (.int lo), .val (.int hi), .val (.long u0), .second, .val (.long u1), .second, .val (.long u2), .second, .val (.long u3), .second, .val (.int (2 : Int32)), .val (.ref a71), .val (.int ((m0 + d1) + d2)), .val (.long u2), .second, .val (.int (1 : Int32)), .val (.int (0 : Int32)), .val (.int (1 : Int32))]) rfl ?_
          refine g_aload W83 at_413 (pc' := 415) rfl rfl rfl ?_
          refine g_iload W83 at_415 (pc' := 417) rfl rfl ?_
          refine g_callV W83 (argsL := [.int (2 : Int32)]) (st := []) (wd_27 hw) (wd_28 hw) (wd_30 hw) (wd_29 hw) (wd_8 hw) (wd_31 hw) (by decide) (a := a71) H86f (i := 0) rfl (c_hold2 l Z a0 hw n0 a71 a72 a77 (((u0 + u1) + u2) + u3) (FP.i2d lo) (FP.i2d hi) (FP.i2d m0) (FP.i2d (m0 + d1)) (FP.i2d ((m0 + d1) + d2)) (FP.i2d (((m0 + d1) + d2) + d3)) u0 u1 u2 u3 (1 : Int32) ((if_pos (Or.inr (Or.inl (own_step.mpr c87)))).symm) _ _ H86f) pd_0 rfl rfl rfl at_417 (pc' := 420) rfl (by decide) (Wn := 0) (Nat.le_of_eq rfl) (by decide) (kc' := 3) (ks' := 13) rfl rfl (by decide) (by decide) ?_
          intro T104 v104 W104 hp104
          obtain ⟨rfl, H104⟩ := hp104
          show Goes p e below _ (T104.setTop (mkF m 420 #[.val (.long p0), .second, .val (.int p1), .val (.int p2), .val (.int p3), .val (.int p4), .val (.int m0), .val (.int d1), .val (.int d2), .val (.int d3), .val (.int (m0 + d1)), .val (.int ((m0 + d1) + d2)), .val (.int (((m0 + d1) + d2) + d3)), .val (.int lo), .val (.int hi), .val (.long u0), .second, .val (.long u1), .second, .val (.long u2), .second, .val (.long u3), .second, .val (.int (2 : Int32)), .val (.ref a71), .val (.int ((m0 + d1) + d2)), .val (.long u2), .second, .val (.int (1 : Int32)), .val (.int (0 : Int32)), .val (.int (1 : Int32))] [.int (1 : Int32)]))
          refine g_iload W104 at_420 (pc' := 422) rfl rfl ?_
          refine g_icmp W104 at_422 (pcy := 429) (by decide) (pc' := 425) rfl (fun (h : ¬ (1 : Int32) = (1 : Int32)) => absurd h (by decide)) (fun _ => ?_)
          refine g_iconst W104 at_425 (pc' := 426) rfl (v := (1 : Int32)) (by decide) ?_
          refine g_goto W104 at_426 (pc' := 430) (by decide) ?_
          exact g_zreturn W104 (by decide) at_430 rfl (by decide) (by decide)
      · replace c101 := Classical.not_not.mp c101
        refine g_iconst W83 at_357 (pc' := 358) rfl (v := (1 : Int32)) (by decide) ?_
        refine g_goto W83 at_358 (pc' := 366) (by decide) ?_
        refine g_istore W83 at_366 (pc' := 368) rfl (ls' := #[.val (.long p0), .second, .val (.int p1), .val (.int p2), .val (.int p3), .val (.int p4), .val (.int m0), .val (.int d1), .val (.int d2), .val (.int d3), .val (.int (m0 + d1)), .val (.int ((m0 + d1) + d2)), .val (.int (((m0 + d1) + d2) + d3)), .val (.int lo), .val (.int hi), .val (.long u0), .second, .val (.long u1), .second, .val (.long u2), .second, .val (.long u3), .second, .val (.int (2 : Int32)), .val (.ref a71), .val (.int ((m0 + d1) + d2)), .val (.long u2), .second, .val (.int (1 : Int32)), .val (.int (1 : Int32)), .unset]) rfl ?_
        refine g_lload W83 at_368 (pc' := 370) rfl rfl ?_
        refine g_lconst W83 at_370 (pc' := 371) rfl (v := (1 : Int64)) (by decide) ?_
        refine g_lcmp W83 at_371 (pc' := 372) rfl rfl ?_
        refine g_if W83 at_372 (pcy := 406) (by decide) (pc' := 375) rfl (fun (c105 : (XT.cmpL u2 (1 : Int64)) = (0 : Int32)) => ?_) (fun (c105 : ¬ (XT.cmpL u2 (1 : Int64)) = (0 : Int32)) => ?_)
        · refine g_iconst W83 at_406 (pc' := 407) rfl (v := (1 : Int32)) (by decide) ?_
          refine g_goto W83 at_407 (pc' := 411) (by decide) ?_
          refine g_istore W83 at_411 (pc' := 413) rfl (ls' := #[.val (.long p0), .second, .val (.int p1), .val (.int p2), .val (.int p3), .val (.int p4), .val (.int m0), .val (.int d1), .val (.int d2), .val (.int d3), .val (.int (m0 + d1)), .val (.int ((m0 + d1) + d2)), .val (.int (((m0 + d1) + d2) + d3)), .val (.int lo), .val (.int hi), .val (.long u0), .second, .val (.long u1), .second, .val (.long u2), .second, .val (.long u3), .second, .val (.int (2 : Int32)), .val (.ref a71), .val (.int ((m0 + d1) + d2)), .val (.long u2), .second, .val (.int (1 : Int32)), .val (.int (1 : Int32)), .val (.int (1 : Int32))]) rfl ?_
          refine g_aload W83 at_413 (pc' := 415) rfl rfl rfl ?_
          refine g_iload W83 at_415 (pc' := 417) rfl rfl ?_
          refine g_callV W83 (argsL := [.int (2 : Int32)]) (st := []) (wd_27 hw) (wd_28 hw) (wd_30 hw) (wd_29 hw) (wd_8 hw) (wd_31 hw) (by decide) (a := a71) H86f (i := 0) rfl (c_hold2 l Z a0 hw n0 a71 a72 a77 (((u0 + u1) + u2) + u3) (FP.i2d lo) (FP.i2d hi) (FP.i2d m0) (FP.i2d (m0 + d1)) (FP.i2d ((m0 + d1) + d2)) (FP.i2d (((m0 + d1) + d2) + d3)) u0 u1 u2 u3 (1 : Int32) ((if_pos (Or.inl (cmpL_eq0.mp c105))).symm) _ _ H86f) pd_0 rfl rfl rfl at_417 (pc' := 420) rfl (by decide) (Wn := 0) (Nat.le_of_eq rfl) (by decide) (kc' := 3) (ks' := 13) rfl rfl (by decide) (by decide) ?_
          intro T106 v106 W106 hp106
          obtain ⟨rfl, H106⟩ := hp106
          show Goes p e below _ (T106.setTop (mkF m 420 #[.val (.long p0), .second, .val (.int p1), .val (.int p2), .val (.int p3), .val (.int p4), .val (.int m0), .val (.int d1), .val (.int d2), .val (.int d3), .val (.int (m0 + d1)), .val (.int ((m0 + d1) + d2)), .val (.int (((m0 + d1) + d2) + d3)), .val (.int lo), .val (.int hi), .val (.long u0), .second, .val (.long u1), .second, .val (.long u2), .second, .val (.long u3), .second, .val (.int (2 : Int32)), .val (.ref a71), .val (.int ((m0 + d1) + d2)), .val (.long u2), .second, .val (.int (1 : Int32)), .val (.int (1 : Int32)), .val (.int (1 : Int32))] [.int (1 : Int32)]))
          refine g_iload W106 at_420 (pc' := 422) rfl rfl ?_
          refine g_icmp W106 at_422 (pcy := 429) (by decide) (pc' := 425) rfl (fun (h : ¬ (1 : Int32) = (1 : Int32)) => absurd h (by decide)) (fun _ => ?_)
          refine g_iconst W106 at_425 (pc' := 426) rfl (v := (1 : Int32)) (by decide) ?_
          refine g_goto W106 at_426 (pc' := 430) (by decide) ?_
          exact g_zreturn W106 (by decide) at_430 rfl (by decide) (by decide)
        · refine g_iload W83 at_375 (pc' := 377) rfl rfl ?_
          refine g_if W83 at_377 (pcy := 406) (by decide) (pc' := 380) rfl (fun _ => ?_) (fun (h : ¬ ¬ (1 : Int32) = (0 : Int32)) => absurd h (by decide))
          refine g_iconst W83 at_406 (pc' := 407) rfl (v := (1 : Int32)) (by decide) ?_
          refine g_goto W83 at_407 (pc' := 411) (by decide) ?_
          refine g_istore W83 at_411 (pc' := 413) rfl (ls' := #[.val (.long p0), .second, .val (.int p1), .val (.int p2), .val (.int p3), .val (.int p4), .val (.int m0), .val (.int d1), .val (.int d2), .val (.int d3), .val (.int (m0 + d1)), .val (.int ((m0 + d1) + d2)), .val (.int (((m0 + d1) + d2) + d3)), .val (.int lo), .val (.int hi), .val (.long u0), .second, .val (.long u1), .second, .val (.long u2), .second, .val (.long u3), .second, .val (.int (2 : Int32)), .val (.ref a71), .val (.int ((m0 + d1) + d2)), .val (.long u2), .second, .val (.int (1 : Int32)), .val (.int (1 : Int32)), .val (.int (1 : Int32))]) rfl ?_
          refine g_aload W83 at_413 (pc' := 415) rfl rfl rfl ?_
          refine g_iload W83 at_415 (pc' := 417) rfl rfl ?_
          refine g_callV W83 (argsL := [.int (2 : Int32)]) (st := []) (wd_27 hw) (wd_28 hw) (wd_30 hw) (wd_29 hw) (wd_8 hw) (wd_31 hw) (by decide) (a := a71) H86f (i := 0) rfl (c_hold2 l Z a0 hw n0 a71 a72 a77 (((u0 + u1) + u2) + u3) (FP.i2d lo) (FP.i2d hi) (FP.i2d m0) (FP.i2d (m0 + d1)) (FP.i2d ((m0 + d1) + d2)) (FP.i2d (((m0 + d1) + d2) + d3)) u0 u1 u2 u3 (1 : Int32) ((if_pos (Or.inr (Or.inl (own_step.mpr c87)))).symm) _ _ H86f) pd_0 rfl rfl rfl at_417 (pc' := 420) rfl (by decide) (Wn := 0) (Nat.le_of_eq rfl) (by decide) (kc' := 3) (ks' := 13) rfl rfl (by decide) (by decide) ?_
          intro T107 v107 W107 hp107
          obtain ⟨rfl, H107⟩ := hp107
          show Goes p e below _ (T107.setTop (mkF m 420 #[.val (.long p0), .second, .val (.int p1), .val (.int p2), .val (.int p3), .val (.int p4), .val (.int m0), .val (.int d1), .val (.int d2), .val (.int d3), .val (.int (m0 + d1)), .val (.int ((m0 + d1) + d2)), .val (.int (((m0 + d1) + d2) + d3)), .val (.int lo), .val (.int hi), .val (.long u0), .second, .val (.long u1), .second, .val (.long u2), .second, .val (.long u3), .second, .val (.int (2 : Int32)), .val (.ref a71), .val (.int ((m0 + d1) + d2)), .val (.long u2), .second, .val (.int (1 : Int32)), .val (.int (1 : Int32)), .val (.int (1 : Int32))] [.int (1 : Int32)]))
          refine g_iload W107 at_420 (pc' := 422) rfl rfl ?_
          refine g_icmp W107 at_422 (pcy := 429) (by decide) (pc' := 425) rfl (fun (h : ¬ (1 : Int32) = (1 : Int32)) => absurd h (by decide)) (fun _ => ?_)
          refine g_iconst W107 at_425 (pc' := 426) rfl (v := (1 : Int32)) (by decide) ?_
          refine g_goto W107 at_426 (pc' := 430) (by decide) ?_
          exact g_zreturn W107 (by decide) at_430 rfl (by decide) (by decide)
  · rw [hn]
    refine g_istore W4 at_99 (pc' := 101) rfl (ls' := #[.val (.long p0), .second, .val (.int p1), .val (.int p2), .val (.int p3), .val (.int p4), .val (.int m0), .val (.int d1), .val (.int d2), .val (.int d3), .val (.int (m0 + d1)), .val (.int ((m0 + d1) + d2)), .val (.int (((m0 + d1) + d2) + d3)), .val (.int lo), .val (.int hi), .val (.long u0), .second, .val (.long u1), .second, .val (.long u2), .second, .val (.long u3), .second, .val (.int (3 : Int32)), .unset, .unset, .unset, .unset, .unset, .unset, .unset]) rfl ?_
    refine g_new W4 (wd_6 hw) (wd_7 hw) (wd_8 hw) (la_Centroids hw) (by decide) H4 at_101 (pc' := 104) rfl (kc' := 1) (ks' := 5) rfl rfl (by decide) (by decide) ?_
    intro T108 a108 W108 H108
    refine g_dup W108 at_104 (pc' := 105) rfl rfl ?_
    refine g_iconst W108 at_105 (pc' := 106) rfl (v := (4 : Int32)) (by decide) ?_
    refine g_newarr (aty := .double) W108 (wd_9 hw) H108 (by decide) (vs := [.double 0, .double 0, .double 0, .double 0]) rfl (cap := 4) (Nat.le_of_eq rfl) (by decide) at_106 (pc' := 108) rfl (kc' := 2) (ks' := 9) rfl rfl (by decide) (by decide) ?_
    intro T109 a109 W109 H109
    replace H109 : Hp Z n0 T109.heap [(a109, ArC Z .double [.double 0, .double 0, .double 0, .double 0]), (a108, ObC Z "com/example/dipper/dipper/Centroids" [("com/example/dipper/dipper/Centroids", "means", "[D", .null), ("com/example/dipper/dipper/Centroids", "weights", "[J", .null), ("com/example/dipper/dipper/Centroids", "count", "J", .long 0), ("com/example/dipper/dipper/Centroids", "min", "D", .double 0), ("com/example/dipper/dipper/Centroids", "max", "D", .double 0)])] := H109
    refine g_dup W109 at_108 (pc' := 109) rfl rfl ?_
    refine g_iconst W109 at_109 (pc' := 110) rfl (v := (0 : Int32)) (by decide) ?_
    refine g_iload W109 at_110 (pc' := 112) rfl rfl ?_
    refine g_i2d W109 at_112 (pc' := 113) rfl rfl ?_
    refine g_dastore W109 H109 (i := 0) rfl (jx := 0) (by decide) (by exact (by decide : 0 < 4)) at_113 (pc' := 114) rfl (L' := [(a109, ArC Z .double [.double (FP.i2d m0), .double 0, .double 0, .double 0]), (a108, ObC Z "com/example/dipper/dipper/Centroids" [("com/example/dipper/dipper/Centroids", "means", "[D", .null), ("com/example/dipper/dipper/Centroids", "weights", "[J", .null), ("com/example/dipper/dipper/Centroids", "count", "J", .long 0), ("com/example/dipper/dipper/Centroids", "min", "D", .double 0), ("com/example/dipper/dipper/Centroids", "max", "D", .double 0)])]) rfl ?_
    intro T110 W110 H110
    refine g_dup W110 at_114 (pc' := 115) rfl rfl ?_
    refine g_iconst W110 at_115 (pc' := 116) rfl (v := (1 : Int32)) (by decide) ?_
    refine g_iload W110 at_116 (pc' := 118) rfl rfl ?_
    refine g_i2d W110 at_118 (pc' := 119) rfl rfl ?_
    refine g_dastore W110 H110 (i := 0) rfl (jx := 1) (by decide) (by exact (by decide : 1 < 4)) at_119 (pc' := 120) rfl (L' := [(a109, ArC Z .double [.double (FP.i2d m0), .double (FP.i2d (m0 + d1)), .double 0, .double 0]), (a108, ObC Z "com/example/dipper/dipper/Centroids" [("com/example/dipper/dipper/Centroids", "means", "[D", .null), ("com/example/dipper/dipper/Centroids", "weights", "[J", .null), ("com/example/dipper/dipper/Centroids", "count", "J", .long 0), ("com/example/dipper/dipper/Centroids", "min", "D", .double 0), ("com/example/dipper/dipper/Centroids", "max", "D", .double 0)])]) rfl ?_
    intro T111 W111 H111
    refine g_dup W111 at_120 (pc' := 121) rfl rfl ?_
    refine g_iconst W111 at_121 (pc' := 122) rfl (v := (2 : Int32)) (by decide) ?_
    refine g_iload W111 at_122 (pc' := 124) rfl rfl ?_
    refine g_i2d W111 at_124 (pc' := 125) rfl rfl ?_
    refine g_dastore W111 H111 (i := 0) rfl (jx := 2) (by decide) (by exact (by decide : 2 < 4)) at_125 (pc' := 126) rfl (L' := [(a109, ArC Z .double [.double (FP.i2d m0), .double (FP.i2d (m0 + d1)), .double (FP.i2d ((m0 + d1) + d2)), .double 0]), (a108, ObC Z "com/example/dipper/dipper/Centroids" [("com/example/dipper/dipper/Centroids", "means", "[D", .null), ("com/example/dipper/dipper/Centroids", "weights", "[J", .null), ("com/example/dipper/dipper/Centroids", "count", "J", .long 0), ("com/example/dipper/dipper/Centroids", "min", "D", .double 0), ("com/example/dipper/dipper/Centroids", "max", "D", .double 0)])]) rfl ?_
    intro T112 W112 H112
    refine g_dup W112 at_126 (pc' := 127) rfl rfl ?_
    refine g_iconst W112 at_127 (pc' := 128) rfl (v := (3 : Int32)) (by decide) ?_
    refine g_iload W112 at_128 (pc' := 130) rfl rfl ?_
    refine g_i2d W112 at_130 (pc' := 131) rfl rfl ?_
    refine g_dastore W112 H112 (i := 0) rfl (jx := 3) (by decide) (by exact (by decide : 3 < 4)) at_131 (pc' := 132) rfl (L' := [(a109, ArC Z .double [.double (FP.i2d m0), .double (FP.i2d (m0 + d1)), .double (FP.i2d ((m0 + d1) + d2)), .double (FP.i2d (((m0 + d1) + d2) + d3))]), (a108, ObC Z "com/example/dipper/dipper/Centroids" [("com/example/dipper/dipper/Centroids", "means", "[D", .null), ("com/example/dipper/dipper/Centroids", "weights", "[J", .null), ("com/example/dipper/dipper/Centroids", "count", "J", .long 0), ("com/example/dipper/dipper/Centroids", "min", "D", .double 0), ("com/example/dipper/dipper/Centroids", "max", "D", .double 0)])]) rfl ?_
    intro T113 W113 H113
    refine g_iconst W113 at_132 (pc' := 133) rfl (v := (4 : Int32)) (by decide) ?_
    refine g_newarr (aty := .long) W113 (wd_10 hw) H113 (by decide) (vs := [.long 0, .long 0, .long 0, .long 0]) rfl (cap := 4) (Nat.le_of_eq rfl) (by decide) at_133 (pc' := 135) rfl (kc' := 3) (ks' := 13) rfl rfl (by decide) (by decide) ?_
    intro T114 a114 W114 H114
    replace H114 : Hp Z n0 T114.heap [(a114, ArC Z .long [.long 0, .long 0, .long 0, .long 0]), (a109, ArC Z .double [.double (FP.i2d m0), .double (FP.i2d (m0 + d1)), .double (FP.i2d ((m0 + d1) + d2)), .double (FP.i2d (((m0 + d1) + d2) + d3))]), (a108, ObC Z "com/example/dipper/dipper/Centroids" [("com/example/dipper/dipper/Centroids", "means", "[D", .null), ("com/example/dipper/dipper/Centroids", "weights", "[J", .null), ("com/example/dipper/dipper/Centroids", "count", "J", .long 0), ("com/example/dipper/dipper/Centroids", "min", "D", .double 0), ("com/example/dipper/dipper/Centroids", "max", "D", .double 0)])] := H114
    refine g_dup W114 at_135 (pc' := 136) rfl rfl ?_
    refine g_iconst W114 at_136 (pc' := 137) rfl (v := (0 : Int32)) (by decide) ?_
    refine g_lload W114 at_137 (pc' := 139) rfl rfl ?_
    refine g_lastore W114 H114 (i := 0) rfl (jx := 0) (by decide) (by exact (by decide : 0 < 4)) at_139 (pc' := 140) rfl (L' := [(a114, ArC Z .long [.long u0, .long 0, .long 0, .long 0]), (a109, ArC Z .double [.double (FP.i2d m0), .double (FP.i2d (m0 + d1)), .double (FP.i2d ((m0 + d1) + d2)), .double (FP.i2d (((m0 + d1) + d2) + d3))]), (a108, ObC Z "com/example/dipper/dipper/Centroids" [("com/example/dipper/dipper/Centroids", "means", "[D", .null), ("com/example/dipper/dipper/Centroids", "weights", "[J", .null), ("com/example/dipper/dipper/Centroids", "count", "J", .long 0), ("com/example/dipper/dipper/Centroids", "min", "D", .double 0), ("com/example/dipper/dipper/Centroids", "max", "D", .double 0)])]) rfl ?_
    intro T115 W115 H115
    refine g_dup W115 at_140 (pc' := 141) rfl rfl ?_
    refine g_iconst W115 at_141 (pc' := 142) rfl (v := (1 : Int32)) (by decide) ?_
    refine g_lload W115 at_142 (pc' := 144) rfl rfl ?_
    refine g_lastore W115 H115 (i := 0) rfl (jx := 1) (by decide) (by exact (by decide : 1 < 4)) at_144 (pc' := 145) rfl (L' := [(a114, ArC Z .long [.long u0, .long u1, .long 0, .long 0]), (a109, ArC Z .double [.double (FP.i2d m0), .double (FP.i2d (m0 + d1)), .double (FP.i2d ((m0 + d1) + d2)), .double (FP.i2d (((m0 + d1) + d2) + d3))]), (a108, ObC Z "com/example/dipper/dipper/Centroids" [("com/example/dipper/dipper/Centroids", "means", "[D", .null), ("com/example/dipper/dipper/Centroids", "weights", "[J", .null), ("com/example/dipper/dipper/Centroids", "count", "J", .long 0), ("com/example/dipper/dipper/Centroids", "min", "D", .double 0), ("com/example/dipper/dipper/Centroids", "max", "D", .double 0)])]) rfl ?_
    intro T116 W116 H116
    refine g_dup W116 at_145 (pc' := 146) rfl rfl ?_
    refine g_iconst W116 at_146 (pc' := 147) rfl (v := (2 : Int32)) (by decide) ?_
    refine g_lload W116 at_147 (pc' := 149) rfl rfl ?_
    refine g_lastore W116 H116 (i := 0) rfl (jx := 2) (by decide) (by exact (by decide : 2 < 4)) at_149 (pc' := 150) rfl (L' := [(a114, ArC Z .long [.long u0, .long u1, .long u2, .long 0]), (a109, ArC Z .double [.double (FP.i2d m0), .double (FP.i2d (m0 + d1)), .double (FP.i2d ((m0 + d1) + d2)), .double (FP.i2d (((m0 + d1) + d2) + d3))]), (a108, ObC Z "com/example/dipper/dipper/Centroids" [("com/example/dipper/dipper/Centroids", "means", "[D", .null), ("com/example/dipper/dipper/Centroids", "weights", "[J", .null), ("com/example/dipper/dipper/Centroids", "count", "J", .long 0), ("com/example/dipper/dipper/Centroids", "min", "D", .double 0), ("com/example/dipper/dipper/Centroids", "max", "D", .double 0)])]) rfl ?_
    intro T117 W117 H117
    refine g_dup W117 at_150 (pc' := 151) rfl rfl ?_
    refine g_iconst W117 at_151 (pc' := 152) rfl (v := (3 : Int32)) (by decide) ?_
    refine g_lload W117 at_152 (pc' := 154) rfl rfl ?_
    refine g_lastore W117 H117 (i := 0) rfl (jx := 3) (by decide) (by exact (by decide : 3 < 4)) at_154 (pc' := 155) rfl (L' := [(a114, ArC Z .long [.long u0, .long u1, .long u2, .long u3]), (a109, ArC Z .double [.double (FP.i2d m0), .double (FP.i2d (m0 + d1)), .double (FP.i2d ((m0 + d1) + d2)), .double (FP.i2d (((m0 + d1) + d2) + d3))]), (a108, ObC Z "com/example/dipper/dipper/Centroids" [("com/example/dipper/dipper/Centroids", "means", "[D", .null), ("com/example/dipper/dipper/Centroids", "weights", "[J", .null), ("com/example/dipper/dipper/Centroids", "count", "J", .long 0), ("com/example/dipper/dipper/Centroids", "min", "D", .double 0), ("com/example/dipper/dipper/Centroids", "max", "D", .double 0)])]) rfl ?_
    intro T118 W118 H118
    refine g_lload W118 at_155 (pc' := 157) rfl rfl ?_
    refine g_lload W118 at_157 (pc' := 159) rfl rfl ?_
    refine g_ladd W118 at_159 (pc' := 160) rfl rfl ?_
    refine g_lload W118 at_160 (pc' := 162) rfl rfl ?_
    refine g_ladd W118 at_162 (pc' := 163) rfl rfl ?_
    refine g_lload W118 at_163 (pc' := 165) rfl rfl ?_
    refine g_ladd W118 at_165 (pc' := 166) rfl rfl ?_
    refine g_iload W118 at_166 (pc' := 168) rfl rfl ?_
    refine g_i2d W118 at_168 (pc' := 169) rfl rfl ?_
    refine g_iload W118 at_169 (pc' := 171) rfl rfl ?_
    refine g_i2d W118 at_171 (pc' := 172) rfl rfl ?_
    have H119f : Hp Z n0 T118.heap [(a108, ObC Z "com/example/dipper/dipper/Centroids" [("com/example/dipper/dipper/Centroids", "means", "[D", .null), ("com/example/dipper/dipper/Centroids", "weights", "[J", .null), ("com/example/dipper/dipper/Centroids", "count", "J", .long 0), ("com/example/dipper/dipper/Centroids", "min", "D", .double 0), ("com/example/dipper/dipper/Centroids", "max", "D", .double 0)]), (a114, ArC Z .long [.long u0, .long u1, .long u2, .long u3]), (a109, ArC Z .double [.double (FP.i2d m0), .double (FP.i2d (m0 + d1)), .double (FP.i2d ((m0 + d1) + d2)), .double (FP.i2d (((m0 + d1) + d2) + d3))])] := H118.front (i := 2) rfl rfl
    refine g_callI W118 (argsL := [.ref a109, .ref a114, .long (((u0 + u1) + u2) + u3), .double (FP.i2d lo), .double (FP.i2d hi)]) (st := [.ref a108]) rfl (wd_11 hw) (wd_12 hw) (wd_8 hw) (wd_13 hw) (by decide) (a := a108) (c_init l Z a0 hw n0 a108 a109 a114 (((u0 + u1) + u2) + u3) (FP.i2d lo) (FP.i2d hi) _ _ H119f) pd_2 rfl rfl rfl at_172 (pc' := 175) rfl (by decide) (Wn := 1) (Nat.le_of_eq rfl) (by decide) (kc' := 3) (ks' := 13) rfl rfl (by decide) (by decide) ?_
    intro T120 v120 W120 hp120
    obtain ⟨rfl, H120⟩ := hp120
    show Goes p e below _ (T120.setTop (mkF m 175 #[.val (.long p0), .second, .val (.int p1), .val (.int p2), .val (.int p3), .val (.int p4), .val (.int m0), .val (.int d1), .val (.int d2), .val (.int d3), .val (.int (m0 + d1)), .val (.int ((m0 + d1) + d2)), .val (.int (((m0 + d1) + d2) + d3)), .val (.int lo), .val (.int hi), .val (.long u0), .second, .val (.long u1), .second, .val (.long u2), .second, .val (.long u3), .second, .val (.int (3 : Int32)), .unset, .unset, .unset, .unset, .unset, .unset, .unset] [.ref a108]))
    have H121f : Hp Z n0 T120.heap [(a114, ArC Z .long [.long u0, .long u1, .long u2, .long u3]), (a108, ObC Z "com/example/dipper/dipper/Centroids" [("com/example/dipper/dipper/Centroids", "means", "[D", .ref a109), ("com/example/dipper/dipper/Centroids", "weights", "[J", .ref a114), ("com/example/dipper/dipper/Centroids", "count", "J", .long (((u0 + u1) + u2) + u3)), ("com/example/dipper/dipper/Centroids", "min", "D", .double (FP.i2d lo)), ("com/example/dipper/dipper/Centroids", "max", "D", .double (FP.i2d hi))]), (a109, ArC Z .double [.double (FP.i2d m0), .double (FP.i2d (m0 + d1)), .double (FP.i2d ((m0 + d1) + d2)), .double (FP.i2d (((m0 + d1) + d2) + d3))])] := H120.front (i := 1) rfl rfl
    have H122f : Hp Z n0 T120.heap [(a109, ArC Z .double [.double (FP.i2d m0), .double (FP.i2d (m0 + d1)), .double (FP.i2d ((m0 + d1) + d2)), .double (FP.i2d (((m0 + d1) + d2) + d3))]), (a114, ArC Z .long [.long u0, .long u1, .long u2, .long u3]), (a108, ObC Z "com/example/dipper/dipper/Centroids" [("com/example/dipper/dipper/Centroids", "means", "[D", .ref a109), ("com/example/dipper/dipper/Centroids", "weights", "[J", .ref a114), ("com/example/dipper/dipper/Centroids", "count", "J", .long (((u0 + u1) + u2) + u3)), ("com/example/dipper/dipper/Centroids", "min", "D", .double (FP.i2d lo)), ("com/example/dipper/dipper/Centroids", "max", "D", .double (FP.i2d hi))])] := H121f.front (i := 2) rfl rfl
    have H123f : Hp Z n0 T120.heap [(a108, ObC Z "com/example/dipper/dipper/Centroids" [("com/example/dipper/dipper/Centroids", "means", "[D", .ref a109), ("com/example/dipper/dipper/Centroids", "weights", "[J", .ref a114), ("com/example/dipper/dipper/Centroids", "count", "J", .long (((u0 + u1) + u2) + u3)), ("com/example/dipper/dipper/Centroids", "min", "D", .double (FP.i2d lo)), ("com/example/dipper/dipper/Centroids", "max", "D", .double (FP.i2d hi))]), (a109, ArC Z .double [.double (FP.i2d m0), .double (FP.i2d (m0 + d1)), .double (FP.i2d ((m0 + d1) + d2)), .double (FP.i2d (((m0 + d1) + d2) + d3))]), (a114, ArC Z .long [.long u0, .long u1, .long u2, .long u3])] := H122f.front (i := 2) rfl rfl
    refine g_astore W120 at_175 (pc' := 177) rfl rfl (ls' := #[.val (.long p0), .second, .val (.int p1), .val (.int p2), .val (.int p3), .val (.int p4), .val (.int m0), .val (.int d1), .val (.int d2), .val (.int d3), .val (.int (m0 + d1)), .val (.int ((m0 + d1) + d2)), .val (.int (((m0 + d1) + d2) + d3)), .val (.int lo), .val (.int hi), .val (.long u0), .second, .val (.long u1), .second, .val (.long u2), .second, .val (.long u3), .second, .val (.int (3 : Int32)), .val (.ref a108), .unset, .unset, .unset, .unset, .unset, .unset]) rfl ?_
    refine g_iload W120 at_177 (pc' := 179) rfl rfl ?_
    refine g_if W120 at_179 (pcy := 187) (by decide) (pc' := 182) rfl (fun _ => ?_) (fun (h : ¬ ¬ (3 : Int32) = (0 : Int32)) => absurd h (by decide))
    refine g_iload W120 at_187 (pc' := 189) rfl rfl ?_
    refine g_iconst W120 at_189 (pc' := 190) rfl (v := (1 : Int32)) (by decide) ?_
    refine g_icmp W120 at_190 (pcy := 198) (by decide) (pc' := 193) rfl (fun _ => ?_) (fun (h : ¬ ¬ (3 : Int32) = (1 : Int32)) => absurd h (by decide))
    refine g_iload W120 at_198 (pc' := 200) rfl rfl ?_
    refine g_iconst W120 at_200 (pc' := 201) rfl (v := (2 : Int32)) (by decide) ?_
    refine g_icmp W120 at_201 (pcy := 209) (by decide) (pc' := 204) rfl (fun _ => ?_) (fun (h : ¬ ¬ (3 : Int32) = (2 : Int32)) => absurd h (by decide))
    refine g_iload W120 at_209 (pc' := 211) rfl rfl ?_
    refine g_istore W120 at_211 (pc' := 213) rfl (ls' := #[.val (.long p0), .second, .val (.int p1), .val (.int p2), .val (.int p3), .val (.int p4), .val (.int m0), .val (.int d1), .val (.int d2), .val (.int d3), .val (.int (m0 + d1)), .val (.int ((m0 + d1) + d2)), .val (.int (((m0 + d1) + d2) + d3)), .val (.int lo), .val (.int hi), .val (.long u0), .second, .val (.long u1), .second, .val (.long u2), .second, .val (.long u3), .second, .val (.int (3 : Int32)), .val (.ref a108), .val (.int (((m0 + d1) + d2) + d3)), .unset, .unset, .unset, .unset, .unset]) rfl ?_
    refine g_iload W120 at_213 (pc' := 215) rfl rfl ?_
    refine g_if W120 at_215 (pcy := 223) (by decide) (pc' := 218) rfl (fun _ => ?_) (fun (h : ¬ ¬ (3 : Int32) = (0 : Int32)) => absurd h (by decide))
    refine g_iload W120 at_223 (pc' := 225) rfl rfl ?_
    refine g_iconst W120 at_225 (pc' := 226) rfl (v := (1 : Int32)) (by decide) ?_
    refine g_icmp W120 at_226 (pcy := 234) (by decide) (pc' := 229) rfl (fun _ => ?_) (fun (h : ¬ ¬ (3 : Int32) = (1 : Int32)) => absurd h (by decide))
    refine g_iload W120 at_234 (pc' := 236) rfl rfl ?_
    refine g_iconst W120 at_236 (pc' := 237) rfl (v := (2 : Int32)) (by decide) ?_
    refine g_icmp W120 at_237 (pcy := 245) (by decide) (pc' := 240) rfl (fun _ => ?_) (fun (h : ¬ ¬ (3 : Int32) = (2 : Int32)) => absurd h (by decide))
    refine g_lload W120 at_245 (pc' := 247) rfl rfl ?_
    refine g_lstore W120 at_247 (pc' := 249) rfl (ls' := #[.val (.long p0), .second, .val (.int p1), .val (.int p2), .val (.int p3), .val (.int p4), .val (.int m0), .val (.int d1), .val (.int d2), .val (.int d3), .val (.int (m0 + d1)), .val (.int ((m0 + d1) + d2)), .val (.int (((m0 + d1) + d2) + d3)), .val (.int lo), .val (.int hi), .val (.long u0), .second, .val (.long u1), .second, .val (.long u2), .second, .val (.long u3), .second, .val (.int (3 : Int32)), .val (.ref a108), .val (.int (((m0 + d1) + d2) + d3)), .val (.long u3), .second, .unset, .unset, .unset]) rfl ?_
    refine g_iload W120 at_249 (pc' := 251) rfl rfl ?_
    refine g_iconst W120 at_251 (pc' := 252) rfl (v := (1 : Int32)) (by decide) ?_
    refine g_icmp W120 at_252 (pcy := 268) (by decide) (pc' := 255) rfl (fun _ => ?_) (fun (h : ¬ ¬ (3 : Int32) = (1 : Int32)) => absurd h (by decide))
    refine g_iload W120 at_268 (pc' := 270) rfl rfl ?_
    refine g_iconst W120 at_270 (pc' := 271) rfl (v := (2 : Int32)) (by decide) ?_
    refine g_icmp W120 at_271 (pcy := 287) (by decide) (pc' := 274) rfl (fun _ => ?_) (fun (h : ¬ ¬ (3 : Int32) = (2 : Int32)) => absurd h (by decide))
    refine g_iload W120 at_287 (pc' := 289) rfl rfl ?_
    refine g_iconst W120 at_289 (pc' := 290) rfl (v := (3 : Int32)) (by decide) ?_
    refine g_icmp W120 at_290 (pcy := 306) (by decide) (pc' := 293) rfl (fun (h : ¬ (3 : Int32) = (3 : Int32)) => absurd h (by decide)) (fun _ => ?_)
    refine g_iload W120 at_293 (pc' := 295) rfl rfl ?_
    refine g_if W120 at_295 (pcy := 302) (by decide) (pc' := 298) rfl (fun (c124 : ¬ d3 = (0 : Int32)) => ?_) (fun (c124 : ¬ ¬ d3 = (0 : Int32)) => ?_)
    · refine g_iconst W120 at_302 (pc' := 303) rfl (v := (0 : Int32)) (by decide) ?_
      refine g_goto W120 at_303 (pc' := 307) (by decide) ?_
      refine g_istore W120 at_307 (pc' := 309) rfl (ls' := #[.val (.long p0), .second, .val (.int p1), .val (.int p2), .val (.int p3), .val (.int p4), .val (.int m0), .val (.int d1), .val (.int d2), .val (.int d3), .val (.int (m0 + d1)), .val (.int ((m0 + d1) + d2)), .val (.int (((m0 + d1) + d2) + d3)), .val (.int lo), .val (.int hi), .val (.long u0), .second, .val (.long u1), .second, .val (.long u2), .second, .val (.long u3), .second, .val (.int (3 : Int32)), .val (.ref a108), .val (.int (((m0 + d1) + d2) + d3)), .val (.long u3), .second, .val (.int (0 : Int32)), .unset, .unset]) rfl ?_
      refine g_iload W120 at_309 (pc' := 311) rfl rfl ?_
      refine g_if W120 at_311 (pcy := 327) (by decide) (pc' := 314) rfl (fun _ => ?_) (fun (h : ¬ ¬ (3 : Int32) = (0 : Int32)) => absurd h (by decide))
      refine g_iload W120 at_327 (pc' := 329) rfl rfl ?_
      refine g_iconst W120 at_329 (pc' := 330) rfl (v := (1 : Int32)) (by decide) ?_
      refine g_icmp W120 at_330 (pcy := 346) (by decide) (pc' := 333) rfl (fun _ => ?_) (fun (h : ¬ ¬ (3 : Int32) = (1 : Int32)) => absurd h (by decide))
      refine g_iload W120 at_346 (pc' := 348) rfl rfl ?_
      refine g_iconst W120 at_348 (pc' := 349) rfl (v := (2 : Int32)) (by decide) ?_
      refine g_icmp W120 at_349 (pcy := 365) (by decide) (pc' := 352) rfl (fun _ => ?_) (fun (h : ¬ ¬ (3 : Int32) = (2 : Int32)) => absurd h (by decide))
      refine g_iconst W120 at_365 (pc' := 366) rfl (v := (0 : Int32)) (by decide) ?_
      refine g_istore W120 at_366 (pc' := 368) rfl (ls' := #[.val (.long p0), .second, .val (.int p1), .val (.int p2), .val (.int p3), .val (.int p4), .val (.int m0), .val (.int d1), .val (.int d2), .val (.int d3), .val (.int (m0 + d1)), .val (.int ((m0 + d1) + d2)), .val (.int (((m0 + d1) + d2) + d3)), .val (.int lo), .val (.int hi), .val (.long u0), .second, .val (.long u1), .second, .val (.long u2), .second, .val (.long u3), .second, .val (.int (3 : Int32)), .val (.ref a108), .val (.int (((m0 + d1) + d2) + d3)), .val (.long u3), .second, .val (.int (0 : Int32)), .val (.int (0 : Int32)), .unset]) rfl ?_
      refine g_lload W120 at_368 (pc' := 370) rfl rfl ?_
      refine g_lconst W120 at_370 (pc' := 371) rfl (v := (1 : Int64)) (by decide) ?_
      refine g_lcmp W120 at_371 (pc' := 372) rfl rfl ?_
      refine g_if W120 at_372 (pcy := 406) (by decide) (pc' := 375) rfl (fun (c125 : (XT.cmpL u3 (1 : Int64)) = (0 : Int32)) => ?_) (fun (c125 : ¬ (XT.cmpL u3 (1 : Int64)) = (0 : Int32)) => ?_)
      · refine g_iconst W120 at_406 (pc' := 407) rfl (v := (1 : Int32)) (by decide) ?_
        refine g_goto W120 at_407 (pc' := 411) (by decide) ?_
        refine g_istore W120 at_411 (pc' := 413) rfl (ls' := #[.val (.long p0), .second, .val (.int p1), .val (.int p2), .val (.int p3), .val (.int p4), .val (.int m0), .val (.int d1), .val (.int d2), .val (.int d3), .val (.int (m0 + d1)), .val (.int ((m0 + d1) + d2)), .val (.int (((m0 + d1) + d2) + d3)), .val (.int lo), .val (.int hi), .val (.long u0), .second, .val (.long u1), .second, .val (.long u2), .second, .val (.long u3), .second, .val (.int (3 : Int32)), .val (.ref a108), .val (.int (((m0 + d1) + d2) + d3)), .val (.long u3), .second, .val (.int (0 : Int32)), .val (.int (0 : Int32)), .val (.int (1 : Int32))]) rfl ?_
        refine g_aload W120 at_413 (pc' := 415) rfl rfl rfl ?_
        refine g_iload W120 at_415 (pc' := 417) rfl rfl ?_
        refine g_callV W120 (argsL := [.int (3 : Int32)]) (st := []) (wd_27 hw) (wd_28 hw) (wd_30 hw) (wd_29 hw) (wd_8 hw) (wd_31 hw) (by decide) (a := a108) H123f (i := 0) rfl (c_hold3 l Z a0 hw n0 a108 a109 a114 (((u0 + u1) + u2) + u3) (FP.i2d lo) (FP.i2d hi) (FP.i2d m0) (FP.i2d (m0 + d1)) (FP.i2d ((m0 + d1) + d2)) (FP.i2d (((m0 + d1) + d2) + d3)) u0 u1 u2 u3 (1 : Int32) ((if_pos (Or.inl (cmpL_eq0.mp c125))).symm) _ _ H123f) pd_0 rfl rfl rfl at_417 (pc' := 420) rfl (by decide) (Wn := 0) (Nat.le_of_eq rfl) (by decide) (kc' := 3) (ks' := 13) rfl rfl (by decide) (by decide) ?_
        intro T126 v126 W126 hp126
        obtain ⟨rfl, H126⟩ := hp126
        show Goes p e below _ (T126.setTop (mkF m 420 #[.val (.long p0), .second, .val (.int p1), .val (.int p2), .val (.int p3), .val (.int p4), .val (.int m0), .val (.int d1), .val (.int d2), .val (.int d3), .val (.int (m0 + d1)), .val (.int ((m0 + d1) + d2)), .val (.int (((m0 + d1) + d2) + d3)), .val (.int lo), .val (.int hi), .val (.long u0), .second, .val (.long u1), .second, .val (.long u2), .second, .val (.long u3), .second, .val (.int (3 : Int32)), .val (.ref a108), .val (.int (((m0 + d1) + d2) + d3)), .val (.long u3), .second, .val (.int (0 : Int32)), .val (.int (0 : Int32)), .val (.int (1 : Int32))] [.int (1 : Int32)]))
        refine g_iload W126 at_420 (pc' := 422) rfl rfl ?_
        refine g_icmp W126 at_422 (pcy := 429) (by decide) (pc' := 425) rfl (fun (h : ¬ (1 : Int32) = (1 : Int32)) => absurd h (by decide)) (fun _ => ?_)
        refine g_iconst W126 at_425 (pc' := 426) rfl (v := (1 : Int32)) (by decide) ?_
        refine g_goto W126 at_426 (pc' := 430) (by decide) ?_
        exact g_zreturn W126 (by decide) at_430 rfl (by decide) (by decide)
      · refine g_iload W120 at_375 (pc' := 377) rfl rfl ?_
        refine g_if W120 at_377 (pcy := 406) (by decide) (pc' := 380) rfl (fun (h : ¬ (0 : Int32) = (0 : Int32)) => absurd h (by decide)) (fun _ => ?_)
        refine g_iload W120 at_380 (pc' := 382) rfl rfl ?_
        refine g_if W120 at_382 (pcy := 406) (by decide) (pc' := 385) rfl (fun (h : ¬ (0 : Int32) = (0 : Int32)) => absurd h (by decide)) (fun _ => ?_)
        refine g_lload W120 at_385 (pc' := 387) rfl rfl ?_
        refine g_lconst W120 at_387 (pc' := 388) rfl (v := (1 : Int64)) (by decide) ?_
        refine g_lcmp W120 at_388 (pc' := 389) rfl rfl ?_
        refine g_if W120 at_389 (pcy := 410) (by decide) (pc' := 392) rfl (fun (c127 : ¬ (0 : Int32) < (XT.cmpL u3 (1 : Int64))) => ?_) (fun (c127 : ¬ ¬ (0 : Int32) < (XT.cmpL u3 (1 : Int64))) => ?_)
        · refine g_iconst W120 at_410 (pc' := 411) rfl (v := (0 : Int32)) (by decide) ?_
          refine g_istore W120 at_411 (pc' := 413) rfl (ls' := #[.val (.long p0), .second, .val (.int p1), .val (.int p2), .val (.int p3), .val (.int p4), .val (.int m0), .val (.int d1), .val (.int d2), .val (.int d3), .val (.int (m0 + d1)), .val (.int ((m0 + d1) + d2)), .val (.int (((m0 + d1) + d2) + d3)), .val (.int lo), .val (.int hi), .val (.long u0), .second, .val (.long u1), .second, .val (.long u2), .second, .val (.long u3), .second, .val (.int (3 : Int32)), .val (.ref a108), .val (.int (((m0 + d1) + d2) + d3)), .val (.long u3), .second, .val (.int (0 : Int32)), .val (.int (0 : Int32)), .val (.int (0 : Int32))]) rfl ?_
          refine g_aload W120 at_413 (pc' := 415) rfl rfl rfl ?_
          refine g_iload W120 at_415 (pc' := 417) rfl rfl ?_
          refine g_callV W120 (argsL := [.int (3 : Int32)]) (st := []) (wd_27 hw) (wd_28 hw) (wd_30 hw) (wd_29 hw) (wd_8 hw) (wd_31 hw) (by decide) (a := a108) H123f (i := 0) rfl (c_hold3 l Z a0 hw n0 a108 a109 a114 (((u0 + u1) + u2) + u3) (FP.i2d lo) (FP.i2d hi) (FP.i2d m0) (FP.i2d (m0 + d1)) (FP.i2d ((m0 + d1) + d2)) (FP.i2d (((m0 + d1) + d2) + d3)) u0 u1 u2 u3 (0 : Int32) ((if_neg (fun q => q.elim (fun q => c125 (cmpL_eq0.mpr q)) (fun q => q.elim (fun q => c124 (own_step.mp q)) (fun q => q.elim id (fun q => c127 (cmpL_gt0.mpr q.1)))))).symm) _ _ H123f) pd_0 rfl rfl rfl at_417 (pc' := 420) rfl (by decide) (Wn := 0) (Nat.le_of_eq rfl) (by decide) (kc' := 3) (ks' := 13) rfl rfl (by decide) (by decide) ?_
          intro T128 v128 W128 hp128
          obtain ⟨rfl, H128⟩ := hp128
          show Goes p e below _ (T128.setTop (mkF m 420 #[.val (.long p0), .second, .val (.int p1), .val (.int p2), .val (.int p3), .val (.int p4), .val (.int m0), .val (.int d1), .val (.int d2), .val (.int d3), .val (.int (m0 + d1)), .val (.int ((m0 + d1) + d2)), .val (.int (((m0 + d1) + d2) + d3)), .val (.int lo), .val (.int hi), .val (.long u0), .second, .val (.long u1), .second, .val (.long u2), .second, .val (.long u3), .second, .val (.int (3 : Int32)), .val (.ref a108), .val (.int (((m0 + d1) + d2) + d3)), .val (.long u3), .second, .val (.int (0 : Int32)), .val (.int (0 : Int32)), .val (.int (0 : Int32))] [.int (0 : Int32)]))
          refine g_iload W128 at_420 (pc' := 422) rfl rfl ?_
          refine g_icmp W128 at_422 (pcy := 429) (by decide) (pc' := 425) rfl (fun (h : ¬ (0 : Int32) = (0 : Int32)) => absurd h (by decide)) (fun _ => ?_)
          refine g_iconst W128 at_425 (pc' := 426) rfl (v := (1 : Int32)) (by decide) ?_
          refine g_goto W128 at_426 (pc' := 430) (by decide) ?_
          exact g_zreturn W128 (by decide) at_430 rfl (by decide) (by decide)
        · replace c127 := Classical.not_not.mp c127
          refine g_iload W120 at_392 (pc' := 394) rfl rfl ?_
          refine g_iload W120 at_394 (pc' := 396) rfl rfl ?_
          refine g_icmp W120 at_396 (pcy := 406) (by decide) (pc' := 399) rfl (fun (c129 : (((m0 + d1) + d2) + d3) = lo) => ?_) (fun (c129 : ¬ (((m0 + d1) + d2) + d3) = lo) => ?_)
          · refine g_iconst W120 at_406 (pc' := 407) rfl (v := (1 : Int32)) (by decide) ?_
            refine g_goto W120 at_407 (pc' := 411) (by decide) ?_
            refine g_istore W120 at_411 (pc' := 413) rfl (ls' := #[.val (.long p0), .second, .val (.int p1), .val (.int p2), .val (.int p3), .val (.int p4), .val (.int m0), .val (.int d1), .val (.int d2), .val (.int d3), .val (.int (m0 + d1)), .val (.int ((m0 + d1) + d2)), .val (.int (((m0 + d1) + d2) + d3)), .val (.int lo), .val (.int hi), .val (.long u0), .second, .val (.long u1), .second, .val (.long u2), .second, .val (.long u3), .second, .val (.int (3 : Int32)), .val (.ref a108), .val (.int (((m0 + d1) + d2) + d3)), .val (.long u3), .second, .val (.int (0 : Int32)), .val (.int (0 : Int32)), .val (.int (1 : Int32))]) rfl ?_
            refine g_aload W120 at_413 (pc' := 415) rfl rfl rfl ?_
            refine g_iload W120 at_415 (pc' := 417) rfl rfl ?_
            refine g_callV W120 (argsL := [.int (3 : Int32)]) (st := []) (wd_27 hw) (wd_28 hw) (wd_30 hw) (wd_29 hw) (wd_8 hw) (wd_31 hw) (by decide) (a := a108) H123f (i := 0) rfl (c_hold3 l Z a0 hw n0 a108 a109 a114 (((u0 + u1) + u2) + u3) (FP.i2d lo) (FP.i2d hi) (FP.i2d m0) (FP.i2d (m0 + d1)) (FP.i2d ((m0 + d1) + d2)) (FP.i2d (((m0 + d1) + d2) + d3)) u0 u1 u2 u3 (1 : Int32) ((if_pos (Or.inr (Or.inr (Or.inr ⟨cmpL_gt0.mp c127, Or.inl (own_i2d_eq.mpr c129)⟩)))).symm) _ _ H123f) pd_0 rfl rfl rfl at_417 (pc' := 420) rfl (by decide) (Wn := 0) (Nat.le_of_eq rfl) (by decide) (kc' := 3) (ks' := 13) rfl rfl (by decide) (by decide) ?_
            intro T130 v130 W130 hp130
            obtain ⟨rfl, H130⟩ := hp130
            show Goes p e below _ (T130.setTop (mkF m 420 #[.val (.long p0), .second, .val (.int p1), .val (.int p2), .val (.int p3), .val (.int p4), .val (.int m0), .val (.int d1), .val (.int d2), .val (.int d3), .val (.int (m0 + d1)), .val (.int ((m0 + d1) + d2)), .val (.int (((m0 + d1) + d2) + d3)), .val (.int lo), .val (.int hi), .val (.long u0), .second, .val (.long u1), .second, .val (.long u2), .second, .val (.long u3), .second, .val (.int (3 : Int32)), .val (.ref a108), .val (.int (((m0 + d1) + d2) + d3)), .val (.long u3), .second, .val (.int (0 : Int32)), .val (.int (0 : Int32)), .val (.int (1 : Int32))] [.int (1 : Int32)]))
            refine g_iload W130 at_420 (pc' := 422) rfl rfl ?_
            refine g_icmp W130 at_422 (pcy := 429) (by decide) (pc' := 425) rfl (fun (h : ¬ (1 : Int32) = (1 : Int32)) => absurd h (by decide)) (fun _ => ?_)
            refine g_iconst W130 at_425 (pc' := 426) rfl (v := (1 : Int32)) (by decide) ?_
            refine g_goto W130 at_426 (pc' := 430) (by decide) ?_
            exact g_zreturn W130 (by decide) at_430 rfl (by decide) (by decide)
          · refine g_iload W120 at_399 (pc' := 401) rfl rfl ?_
            refine g_iload W120 at_401 (pc' := 403) rfl rfl ?_
            refine g_icmp W120 at_403 (pcy := 410) (by decide) (pc' := 406) rfl (fun (c131 : ¬ (((m0 + d1) + d2) + d3) = hi) => ?_) (fun (c131 : ¬ ¬ (((m0 + d1) + d2) + d3) = hi) => ?_)
            · refine g_iconst W120 at_410 (pc' := 411) rfl (v := (0 : Int32)) (by decide) ?_
              refine g_istore W120 at_411 (pc' := 413) rfl (ls' := #[.val (.long p0), .second, .val (.int p1), .val (.int p2), .val (.int p3), .val (.int p4), .val (.int m0), .val (.int d1), .val (.int d2), .val (.int d3), .val (.int (m0 + d1)), .val (.int ((m0 + d1) + d2)), .val (.int (((m0 + d1) + d2) + d3)), .val (.int lo), .val (.int hi), .val (.long u0), .second, .val (.long u1), .second, .val (.long u2), .second, .val (.long u3), .second, .val (.int (3 : Int32)), .val (.ref a108), .val (.int (((m0 + d1) + d2) + d3)), .val (.long u3), .second, .val (.int (0 : Int32)), .val (.int (0 : Int32)), .val (.int (0 : Int32))]) rfl ?_
              refine g_aload W120 at_413 (pc' := 415) rfl rfl rfl ?_
              refine g_iload W120 at_415 (pc' := 417) rfl rfl ?_
              refine g_callV W120 (argsL := [.int (3 : Int32)]) (st := []) (wd_27 hw) (wd_28 hw) (wd_30 hw) (wd_29 hw) (wd_8 hw) (wd_31 hw) (by decide) (a := a108) H123f (i := 0) rfl (c_hold3 l Z a0 hw n0 a108 a109 a114 (((u0 + u1) + u2) + u3) (FP.i2d lo) (FP.i2d hi) (FP.i2d m0) (FP.i2d (m0 + d1)) (FP.i2d ((m0 + d1) + d2)) (FP.i2d (((m0 + d1) + d2) + d3)) u0 u1 u2 u3 (0 : Int32) ((if_neg (fun q => q.elim (fun q => c125 (cmpL_eq0.mpr q)) (fun q => q.elim (fun q => c124 (own_step.mp q)) (fun q => q.elim id (fun q => q.2.elim (fun q => c129 (own_i2d_eq.mp q)) (fun q => c131 (own_i2d_eq.mp q))))))).symm) _ _ H123f) pd_0 rfl rfl rfl at_417 (pc' := 420) rfl (by decide) (Wn := 0) (Nat.le_of_eq rfl) (by decide) (kc' := 3) (ks' := 13) rfl rfl (by decide) (by decide) ?_
              intro T132 v132 W132 hp132
              obtain ⟨rfl, H132⟩ := hp132
              show Goes p e below _ (T132.setTop (mkF m 420 #[.val (.long p0), .second, .val (.int p1), .val (.int p2), .val (.int p3), .val (.int p4), .val (.int m0), .val (.int d1), .val (.int d2), .val (.int d3), .val (.int (m0 + d1)), .val (.int ((m0 + d1) + d2)), .val (.int (((m0 + d1) + d2) + d3)), .val (.int lo), .val (.int hi), .val (.long u0), .second, .val (.long u1), .second, .val (.long u2), .second, .val (.long u3), .second, .val (.int (3 : Int32)), .val (.ref a108), .val (.int (((m0 + d1) + d2) + d3)), .val (.long u3), .second, .val (.int (0 : Int32)), .val (.int (0 : Int32)), .val (.int (0 : Int32))] [.int (0 : Int32)]))
              refine g_iload W132 at_420 (pc' := 422) rfl rfl ?_
              refine g_icmp W132 at_422 (pcy := 429) (by decide) (pc' := 425) rfl (fun (h : ¬ (0 : Int32) = (0 : Int32)) => absurd h (by decide)) (fun _ => ?_)
              refine g_iconst W132 at_425 (pc' := 426) rfl (v := (1 : Int32)) (by decide) ?_
              refine g_goto W132 at_426 (pc' := 430) (by decide) ?_
              exact g_zreturn W132 (by decide) at_430 rfl (by decide) (by decide)
            · replace c131 := Classical.not_not.mp c131
              refine g_iconst W120 at_406 (pc' := 407) rfl (v := (1 : Int32)) (by decide) ?_
              refine g_goto W120 at_407 (pc' := 411) (by decide) ?_
              refine g_istore W120 at_411 (pc' := 413) rfl (ls' := #[.val (.long p0), .second, .val (.int p1), .val (.int p2), .val (.int p3), .val (.int p4), .val (.int m0), .val (.int d1), .val (.int d2), .val (.int d3), .val (.int (m0 + d1)), .val (.int ((m0 + d1) + d2)), .val (.int (((m0 + d1) + d2) + d3)), .val (.int lo), .val (.int hi), .val (.long u0), .second, .val (.long u1), .second, .val (.long u2), .second, .val (.long u3), .second, .val (.int (3 : Int32)), .val (.ref a108), .val (.int (((m0 + d1) + d2) + d3)), .val (.long u3), .second, .val (.int (0 : Int32)), .val (.int (0 : Int32)), .val (.int (1 : Int32))]) rfl ?_
              refine g_aload W120 at_413 (pc' := 415) rfl rfl rfl ?_
              refine g_iload W120 at_415 (pc' := 417) rfl rfl ?_
              refine g_callV W120 (argsL := [.int (3 : Int32)]) (st := []) (wd_27 hw) (wd_28 hw) (wd_30 hw) (wd_29 hw) (wd_8 hw) (wd_31 hw) (by decide) (a := a108) H123f (i := 0) rfl (c_hold3 l Z a0 hw n0 a108 a109 a114 (((u0 + u1) + u2) + u3) (FP.i2d lo) (FP.i2d hi) (FP.i2d m0) (FP.i2d (m0 + d1)) (FP.i2d ((m0 + d1) + d2)) (FP.i2d (((m0 + d1) + d2) + d3)) u0 u1 u2 u3 (1 : Int32) ((if_pos (Or.inr (Or.inr (Or.inr ⟨cmpL_gt0.mp c127, Or.inr (own_i2d_eq.mpr c131)⟩)))).symm) _ _ H123f) pd_0 rfl rfl rfl at_417 (pc' := 420) rfl (by decide) (Wn := 0) (Nat.le_of_eq rfl) (by decide) (kc' := 3) (ks' := 13) rfl rfl (by decide) (by decide) ?_
              intro T133 v133 W133 hp133
              obtain ⟨rfl, H133⟩ := hp133
              show Goes p e below _ (T133.setTop (mkF m 420 #[.val (.long p0), .second, .val (.int p1), .val (.int p2), .val (.int p3), .val (.int p4), .val (.int m0), .val (.int d1), .val (.int d2), .val (.int d3), .val (.int (m0 + d1)), .val (.int ((m0 + d1) + d2)), .val (.int (((m0 + d1) + d2) + d3)), .val (.int lo), .val (.int hi), .val (.long u0), .second, .val (.long u1), .second, .val (.long u2), .second, .val (.long u3), .second, .val (.int (3 : Int32)), .val (.ref a108), .val (.int (((m0 + d1) + d2) + d3)), .val (.long u3), .second, .val (.int (0 : Int32)), .val (.int (0 : Int32)), .val (.int (1 : Int32))] [.int (1 : Int32)]))
              refine g_iload W133 at_420 (pc' := 422) rfl rfl ?_
              refine g_icmp W133 at_422 (pcy := 429) (by decide) (pc' := 425) rfl (fun (h : ¬ (1 : Int32) = (1 : Int32)) => absurd h (by decide)) (fun _ => ?_)
              refine g_iconst W133 at_425 (pc' := 426) rfl (v := (1 : Int32)) (by decide) ?_
              refine g_goto W133 at_426 (pc' := 430) (by decide) ?_
              exact g_zreturn W133 (by decide) at_430 rfl (by decide) (by decide)
    · replace c124 := Classical.not_not.mp c124
      refine g_iconst W120 at_298 (pc' := 299) rfl (v := (1 : Int32)) (by decide) ?_
      refine g_goto W120 at_299 (pc' := 307) (by decide) ?_
      refine g_istore W120 at_307 (pc' := 309) rfl (ls' := #[.val (.long p0), .second, .val (.int p1), .val (.int p2), .val (.int p3), .val (.int p4), .val (.int m0), .val (.int d1), .val (.int d2), .val (.int d3), .val (.int (m0 + d1)), .val (.int ((m0 + d1) + d2)), .val (.int (((m0 + d1) + d2) + d3)), .val (.int lo), .val (.int hi), .val (.long u0), .second, .val (.long u1), .second, .val (.long u2), .second, .val (.long u3), .second, .val (.int (3 : Int32)), .val (.ref a108), .val (.int (((m0 + d1) + d2) + d3)), .val (.long u3), .second, .val (.int (1 : Int32)), .unset, .unset]) rfl ?_
      refine g_iload W120 at_309 (pc' := 311) rfl rfl ?_
      refine g_if W120 at_311 (pcy := 327) (by decide) (pc' := 314) rfl (fun _ => ?_) (fun (h : ¬ ¬ (3 : Int32) = (0 : Int32)) => absurd h (by decide))
      refine g_iload W120 at_327 (pc' := 329) rfl rfl ?_
      refine g_iconst W120 at_329 (pc' := 330) rfl (v := (1 : Int32)) (by decide) ?_
      refine g_icmp W120 at_330 (pcy := 346) (by decide) (pc' := 333) rfl (fun _ => ?_) (fun (h : ¬ ¬ (3 : Int32) = (1 : Int32)) => absurd h (by decide))
      refine g_iload W120 at_346 (pc' := 348) rfl rfl ?_
      refine g_iconst W120 at_348 (pc' := 349) rfl (v := (2 : Int32)) (by decide) ?_
      refine g_icmp W120 at_349 (pcy := 365) (by decide) (pc' := 352) rfl (fun _ => ?_) (fun (h : ¬ ¬ (3 : Int32) = (2 : Int32)) => absurd h (by decide))
      refine g_iconst W120 at_365 (pc' := 366) rfl (v := (0 : Int32)) (by decide) ?_
      refine g_istore W120 at_366 (pc' := 368) rfl (ls' := #[.val (.long p0), .second, .val (.int p1), .val (.int p2), .val (.int p3), .val (.int p4), .val (.int m0), .val (.int d1), .val (.int d2), .val (.int d3), .val (.int (m0 + d1)), .val (.int ((m0 + d1) + d2)), .val (.int (((m0 + d1) + d2) + d3)), .val (.int lo), .val (.int hi), .val (.long u0), .second, .val (.long u1), .second, .val (.long u2), .second, .val (.long u3), .second, .val (.int (3 : Int32)), .val (.ref a108), .val (.int (((m0 + d1) + d2) + d3)), .val (.long u3), .second, .val (.int (1 : Int32)), .val (.int (0 : Int32)), .unset]) rfl ?_
      refine g_lload W120 at_368 (pc' := 370) rfl rfl ?_
      refine g_lconst W120 at_370 (pc' := 371) rfl (v := (1 : Int64)) (by decide) ?_
      refine g_lcmp W120 at_371 (pc' := 372) rfl rfl ?_
      refine g_if W120 at_372 (pcy := 406) (by decide) (pc' := 375) rfl (fun (c134 : (XT.cmpL u3 (1 : Int64)) = (0 : Int32)) => ?_) (fun (c134 : ¬ (XT.cmpL u3 (1 : Int64)) = (0 : Int32)) => ?_)
      · refine g_iconst W120 at_406 (pc' := 407) rfl (v := (1 : Int32)) (by decide) ?_
        refine g_goto W120 at_407 (pc' := 411) (by decide) ?_
        refine g_istore W120 at_411 (pc' := 413) rfl (ls' := #[.val (.long p0), .second, .val (.int p1), .val (.int p2), .val (.int p3), .val (.int p4), .val (.int m0), .val (.int d1), .val (.int d2), .val (.int d3), .val (.int (m0 + d1)), .val (.int ((m0 + d1) + d2)), .val (.int (((m0 + d1) + d2) + d3)), .val (.int lo), .val (.int hi), .val (.long u0), .second, .val (.long u1), .second, .val (.long u2), .second, .val (.long u3), .second, .val (.int (3 : Int32)), .val (.ref a108), .val (.int (((m0 + d1) + d2) + d3)), .val (.long u3), .second, .val (.int (1 : Int32)), .val (.int (0 : Int32)), .val (.int (1 : Int32))]) rfl ?_
        refine g_aload W120 at_413 (pc' := 415) rfl rfl rfl ?_
        refine g_iload W120 at_415 (pc' := 417) rfl rfl ?_
        refine g_callV W120 (argsL := [.int (3 : Int32)]) (st := []) (wd_27 hw) (wd_28 hw) (wd_30 hw) (wd_29 hw) (wd_8 hw) (wd_31 hw) (by decide) (a := a108) H123f (i := 0) rfl (c_hold3 l Z a0 hw n0 a108 a109 a114 (((u0 + u1) + u2) + u3) (FP.i2d lo) (FP.i2d hi) (FP.i2d m0) (FP.i2d (m0 + d1)) (FP.i2d ((m0 + d1) + d2)) (FP.i2d (((m0 + d1) + d2) + d3)) u0 u1 u2 u3 (1 : Int32) ((if_pos (Or.inl (cmpL_eq0.mp c134))).symm) _ _ H123f) pd_0 rfl rfl rfl at_417 (pc' := 420) rfl (by decide) (Wn := 0) (Nat.le_of_eq rfl) (by decide) (kc' := 3) (ks' := 13) rfl rfl (by decide) (by decide) ?_
        intro T135 v135 W135 hp135
        obtain ⟨rfl, H135⟩ := hp135
        show Goes p e below _ (T135.setTop (mkF m 420 #[.val (.long p0), .second, .val (.int p1), .val (.int p2), .val (.int p3), .val (.int p4), .val (.int m0), .val (.int d1), .val (.int d2), .val (.int d3), .val (.int (m0 + d1)), .val (.int ((m0 + d1) + d2)), .val (.int (((m0 + d1) + d2) + d3)), .val (.int lo), .val (.int hi), .val (.long u0), .second, .val (.long u1), .second, .val (.long u2), .second, .val (.long u3), .second, .val (.int (3 : Int32)), .val (.ref a108), .val (.int (((m0 + d1) + d2) + d3)), .val (.long u3), .second, .val (.int (1 : Int32)), .val (.int (0 : Int32)), .val (.int (1 : Int32))] [.int (1 : Int32)]))
        refine g_iload W135 at_420 (pc' := 422) rfl rfl ?_
        refine g_icmp W135 at_422 (pcy := 429) (by decide) (pc' := 425) rfl (fun (h : ¬ (1 : Int32) = (1 : Int32)) => absurd h (by decide)) (fun _ => ?_)
        refine g_iconst W135 at_425 (pc' := 426) rfl (v := (1 : Int32)) (by decide) ?_
        refine g_goto W135 at_426 (pc' := 430) (by decide) ?_
        exact g_zreturn W135 (by decide) at_430 rfl (by decide) (by decide)
      · refine g_iload W120 at_375 (pc' := 377) rfl rfl ?_
        refine g_if W120 at_377 (pcy := 406) (by decide) (pc' := 380) rfl (fun _ => ?_) (fun (h : ¬ ¬ (1 : Int32) = (0 : Int32)) => absurd h (by decide))
        refine g_iconst W120 at_406 (pc' := 407) rfl (v := (1 : Int32)) (by decide) ?_
        refine g_goto W120 at_407 (pc' := 411) (by decide) ?_
        refine g_istore W120 at_411 (pc' := 413) rfl (ls' := #[.val (.long p0), .second, .val (.int p1), .val (.int p2), .val (.int p3), .val (.int p4), .val (.int m0), .val (.int d1), .val (.int d2), .val (.int d3), .val (.int (m0 + d1)), .val (.int ((m0 + d1) + d2)), .val (.int (((m0 + d1) + d2) + d3)), .val (.int lo), .val (.int hi), .val (.long u0), .second, .val (.long u1), .second, .val (.long u2), .second, .val (.long u3), .second, .val (.int (3 : Int32)), .val (.ref a108), .val (.int (((m0 + d1) + d2) + d3)), .val (.long u3), .second, .val (.int (1 : Int32)), .val (.int (0 : Int32)), .val (.int (1 : Int32))]) rfl ?_
        refine g_aload W120 at_413 (pc' := 415) rfl rfl rfl ?_
        refine g_iload W120 at_415 (pc' := 417) rfl rfl ?_
        refine g_callV W120 (argsL := [.int (3 : Int32)]) (st := []) (wd_27 hw) (wd_28 hw) (wd_30 hw) (wd_29 hw) (wd_8 hw) (wd_31 hw) (by decide) (a := a108) H123f (i := 0) rfl (c_hold3 l Z a0 hw n0 a108 a109 a114 (((u0 + u1) + u2) + u3) (FP.i2d lo) (FP.i2d hi) (FP.i2d m0) (FP.i2d (m0 + d1)) (FP.i2d ((m0 + d1) + d2)) (FP.i2d (((m0 + d1) + d2) + d3)) u0 u1 u2 u3 (1 : Int32) ((if_pos (Or.inr (Or.inl (own_step.mpr c124)))).symm) _ _ H123f) pd_0 rfl rfl rfl at_417 (pc' := 420) rfl (by decide) (Wn := 0) (Nat.le_of_eq rfl) (by decide) (kc' := 3) (ks' := 13) rfl rfl (by decide) (by decide) ?_
        intro T136 v136 W136 hp136
        obtain ⟨rfl, H136⟩ := hp136
        show Goes p e below _ (T136.setTop (mkF m 420 #[.val (.long p0), .second, .val (.int p1), .val (.int p2), .val (.int p3), .val (.int p4), .val (.int m0), .val (.int d1), .val (.int d2), .val (.int d3), .val (.int (m0 + d1)), .val (.int ((m0 + d1) + d2)), .val (.int (((m0 + d1) + d2) + d3)), .val (.int lo), .val (.int hi), .val (.long u0), .second, .val (.long u1), .second, .val (.long u2), .second, .val (.long u3), .second, .val (.int (3 : Int32)), .val (.ref a108), .val (.int (((m0 + d1) + d2) + d3)), .val (.long u3), .second, .val (.int (1 : Int32)), .val (.int (0 : Int32)), .val (.int (1 : Int32))] [.int (1 : Int32)]))
        refine g_iload W136 at_420 (pc' := 422) rfl rfl ?_
        refine g_icmp W136 at_422 (pcy := 429) (by decide) (pc' := 425) rfl (fun (h : ¬ (1 : Int32) = (1 : Int32)) => absurd h (by decide)) (fun _ => ?_)
        refine g_iconst W136 at_425 (pc' := 426) rfl (v := (1 : Int32)) (by decide) ?_
        refine g_goto W136 at_426 (pc' := 430) (by decide) ?_
        exact g_zreturn W136 (by decide) at_430 rfl (by decide) (by decide)
set_option maxRecDepth 65536 in
set_option maxHeartbeats 40000000 in
theorem comes_1 {Post : Tables → Env → Array Value → State → Outcome → State → Prop} (hpost : ∀ tb e args s v u, (limb_1_1.after args s (.returned v) u = true ∧ limb_1_2.after args s (.returned v) u = true ∧ True) → FrameEnd s (.returned v) u (Jvm.fieldLocs frame_1_writes args s ++ Jvm.arrayLocs frame_1_arrays args s ++ Jvm.staticLocs frame_1_statics s) 16 128 → Post tb e args s (.returned v) u) :
    ArmFor flags0 classFile x code maxLocals ret World_1 tables_1 room_1 Calls_1 rest_1 Pre_1 Post := by
  intro l hfl _ _ p e ha hc hk s m args below hf hA hF happ hP
  obtain ⟨hcalls, hrest, hpre⟩ := hP
  obtain ⟨-, -, -, hnamed, -, -, -, hat⟩ := (Spec.applies_iff hf).mp happ
  obtain ⟨hg, hn⟩ := and_e (Cond.before_iff.mp (show (Jvm.Cond.and given_1 narrow_1).before args s = true from hpre))
  obtain ⟨hcount, hg0⟩ := and_e hg
  obtain ⟨ha0, hg1⟩ := and_e hg0
  obtain ⟨ha1, hg2⟩ := and_e hg1
  obtain ⟨ha2, hg3⟩ := and_e hg2
  obtain ⟨ha3, hg4⟩ := and_e hg3
  obtain ⟨w0, w1, w2, w3, w4, rfl⟩ : ∃ w0 w1 w2 w3 w4 : Value, args = #[w0, w1, w2, w3, w4] := by
    have hs : args.size = 5 := by simpa [Cond.value, given_1] using hcount
    obtain ⟨L⟩ := args
    match L, hs with
    | [w0, w1, w2, w3, w4], _ => exact ⟨w0, w1, w2, w3, w4, rfl⟩
  have hw := fun d (hd : d ∈ tables_1) => atoms_spec (ws := Jvm.Cond.code x code maxLocals ret :: tables_1) hat d (List.mem_cons_of_mem _ hd)
  obtain ⟨p0, e0⟩ := isL_v ha0
  obtain rfl : w0 = (.long p0) := Option.some.inj e0
  obtain ⟨p1, e1⟩ := is_v ha1
  obtain rfl : w1 = (.int p1) := Option.some.inj e1
  obtain ⟨p2, e2⟩ := is_v ha2
  obtain rfl : w2 = (.int p2) := Option.some.inj e2
  obtain ⟨p3, e3⟩ := is_v ha3
  obtain rfl : w3 = (.int p3) := Option.some.inj e3
  obtain ⟨p4, e4⟩ := is_v hg4
  obtain rfl : w4 = (.int p4) := Option.some.inj e4
  obtain ⟨n, o, h1, h2, h3, _, L, rfl, ⟨N, rfl⟩, hq⟩ := law_con l s _ hw s.heap.size p0 p1 p2 p3 p4 s.heap (Hp.nil Bs.start) p e ha hc hk s m _ below hf ((Spec.applies_iff_loose hf).mp happ).1 ⟨rfl, State.Warmed39.refl s, rfl⟩ trivial
  refine ⟨n, _, h1, h2, h3, hpost _ _ _ _ _ _ ⟨Cond.after_iff.mpr rfl, Cond.after_iff.mpr (eq_i res_at (Term.int_eval (1)) rfl), trivial⟩ ⟨hq.1, hq.2.1, (hq.2.2.sift fun y hy => Or.inr (N y hy)).mono (by decide) (by decide)⟩⟩
theorem main_1_1 : Claimed_1_1 := comes_1 fun _ _ _ _ _ _ h hF => ⟨h.1, hF⟩
theorem main_1_2 : Claimed_1_2 := comes_1 fun _ _ _ _ _ _ h hF => ⟨h.2.1, hF⟩
end Jvm.Pilot.@@N@@
namespace Jvm.Pilot.@@N@@
open Jvm Jvm.ClassFile Sem Op Lib Jvm.Free Jvm.Stand Jvm.Pilot.@@N@@.Jvm.D
/-! MADE BY PROGRAM (witnessworld.py) out of the Statement's table words and the real class files: 13 classes; the members and pool entries that the words name. The judged class is class 1, her method 2. -/
namespace start1
open Jvm.ClassFile
def u (s : String) : CpInfo := .utf8 (stringToUtf16 s)
/-- a pool by its gaps: so many unusable entries, then the entry; so many at the end -/
def gap : Nat → List CpInfo → List CpInfo
  | 0, r => r
  | n + 1, r => .unusable :: gap n r
def poolList (es : List (Nat × CpInfo)) (last : Nat) : List CpInfo := es.foldr (fun e r => gap e.1 (e.2 :: r)) (gap last [])
def pool (es : List (Nat × CpInfo)) (last : Nat) : Array CpInfo := ⟨poolList es last⟩
def fileOf (pool : Array CpInfo) (this : Nat) (attrs : Array Attribute := #[]) (ms : Array MethodInfo := #[]) (fl : Nat := 33) (sup : Nat := 0) (ifs : Array Nat := #[]) (fds : Array FieldInfo := #[]) : ClassFile where
  minorVersion := 0
  majorVersion := 65
  constantPool := pool
  accessFlags := fl
  thisClass := this
  superClass := sup
  interfaces := ifs
  fields := fds
  methods := ms
  attributes := attrs
def plain (name : String) (sup : Option ClassId) : Class where
  name := name
  kind := .ordinary
  loader := none
  accessFlags := 33
  super := sup
  interfaces := #[]
  cf := none
  fields := #[]
  methods := #[]
  instanceTypes := #[]
  staticTypes := #[]
  resolved := #[]
  callSites := []
  init := .initialized
  statics := none
  mirror := none

def pool0 : Array CpInfo := pool [(5, u "<init>"), (0, u "()V"), (1, .class_ 10), (1, u "java/lang/Object")] 113

def k0c0 : Code := { maxStack := 0, maxLocals := 1, code := object_method_1_code, exceptionTable := #[], attributes := #[] }
def k0m0 : Method := { name := "<init>", desc := "()V", sig := { parameters := [], returnType := none }, accessFlags := 1, code := some k0c0 }
/-- java/lang/Object -/
def k0 : Class := { plain "java/lang/Object" none with
  accessFlags := 33
  interfaces := #[]
  cf := some (fileOf pool0 8 #[] #[{ accessFlags := 1, nameIndex := 5, descriptorIndex := 6, attributes := #[] }] 33 0 #[] #[])
  fields := #[]
  methods := #[k0m0]
  instanceTypes := #[]
  staticTypes := #[]
  resolved := Array.replicate 124 none
  statics := none }

def pool1 : Array CpInfo := pool [(2, .class_ 4), (1, u "java/lang/Object"), (0, u "<init>"), (0, u "()V"), (0, .long 65535), (1, .long 2), (1, .methodref 12 13), (0, .class_ 14), (0, .nameAndType 15 16), (0, u "com/example/dipper/dipper/CentroidsHoldsOneValuePinLaw"), (0, u "weightOf"), (0, u "(JI)J"), (0, .class_ 18), (0, u "com/example/dipper/dipper/Centroids"), (0, .methodref 17 20), (0, .nameAndType 5 21), (0, u "([D[JJDD)V"), (0, .methodref 17 23), (0, .nameAndType 24 25), (0, u "holdsOneValue"), (0, u "(I)Z"), (3, u "law"), (0, u "(JIIII)Z")] 2

def k1m0 : Method := { name := "<init>", desc := "()V", sig := { parameters := [], returnType := none }, accessFlags := 1, code := none }
def k1c1 : Code := { maxStack := 4, maxLocals := 4, code := method_2_code, exceptionTable := #[], attributes := #[] }
def k1m1 : Method := { name := "weightOf", desc := "(JI)J", sig := { parameters := [.long, .int], returnType := some .long }, accessFlags := 10, code := some k1c1 }
def k1c2 : Code := { maxStack := 10, maxLocals := 31, code := code, exceptionTable := #[], attributes := #[] }
def k1m2 : Method := { name := "law", desc := "(JIIII)Z", sig := { parameters := [.long, .int, .int, .int, .int], returnType := some .boolean }, accessFlags := 9, code := some k1c2 }
/-- com/example/dipper/dipper/CentroidsHoldsOneValuePinLaw -/
def k1 : Class := { plain "com/example/dipper/dipper/CentroidsHoldsOneValuePinLaw" (some 0) with
  accessFlags := 49
  interfaces := #[]
  cf := some (fileOf pool1 12 #[] #[{ accessFlags := 1, nameIndex := 5, descriptorIndex := 6, attributes := #[] }, { accessFlags := 10, nameIndex := 15, descriptorIndex := 16, attributes := #[] }, { accessFlags := 9, nameIndex := 29, descriptorIndex := 30, attributes := #[] }] 49 2 #[] #[])
  fields := #[]
  methods := #[k1m0, k1m1, k1m2]
  instanceTypes := #[]
  staticTypes := #[]
  resolved := Array.replicate 33 none
  statics := none }

def pool2 : Array CpInfo := pool [(1, .class_ 2), (0, u "com/example/dipper/dipper/Centroids"), (0, .methodref 4 5), (0, .class_ 6), (0, .nameAndType 7 8), (0, u "java/lang/Object"), (0, u "<init>"), (0, u "()V"), (0, .fieldref 1 10), (0, .nameAndType 11 12), (0, u "means"), (0, u "[D"), (0, .fieldref 1 14), (0, .nameAndType 15 16), (0, u "weights"), (0, u "[J"), (0, .fieldref 1 18), (0, .nameAndType 19 20), (0, u "count"), (0, u "J"), (0, .fieldref 1 22), (0, .nameAndType 23 24), (0, u "min"), (0, u "D"), (0, .fieldref 1 26), (0, .nameAndType 27 24), (0, u "max"), (25, .methodref 1 54), (0, .nameAndType 55 56), (0, u "repeats"), (0, u "(I)Z"), (8, u "holdsOneValue"), (4, .class_ 72), (1, u "com/example/dipper/dipper/Centroids$TwoValues"), (59, u "HUG_REACH"), (0, u "I"), (2, u "HUG"), (0, u "SHAPE_REACH"), (1, u "([D[JJDD)V")] 18

def k2c0 : Code := { maxStack := 3, maxLocals := 9, code := prog_4_method_1_code, exceptionTable := #[], attributes := #[] }
def k2m0 : Method := { name := "<init>", desc := "([D[JJDD)V", sig := { parameters := [(.array .double), (.array .long), .long, .double, .double], returnType := none }, accessFlags := 0, code := some k2c0 }
def k2c1 : Code := { maxStack := 4, maxLocals := 2, code := prog_4_method_8_code, exceptionTable := #[], attributes := #[] }
def k2m1 : Method := { name := "holdsOneValue", desc := "(I)Z", sig := { parameters := [.int], returnType := some .boolean }, accessFlags := 0, code := some k2c1 }
def k2c2 : Code := { maxStack := 4, maxLocals := 2, code := prog_4_method_14_code, exceptionTable := #[], attributes := #[] }
def k2m2 : Method := { name := "repeats", desc := "(I)Z", sig := { parameters := [.int], returnType := some .boolean }, accessFlags := 2, code := some k2c2 }
/-- com/example/dipper/dipper/Centroids -/
def k2 : Class := { plain "com/example/dipper/dipper/Centroids" (some 0) with
  accessFlags := 48
  interfaces := #[]
  cf := some (fileOf pool2 1 #[.nestMembers #[70]] #[{ accessFlags := 0, nameIndex := 7, descriptorIndex := 139, attributes := #[] }, { accessFlags := 0, nameIndex := 65, descriptorIndex := 56, attributes := #[] }, { accessFlags := 2, nameIndex := 55, descriptorIndex := 56, attributes := #[] }] 48 4 #[] #[{ accessFlags := 26, nameIndex := 132, descriptorIndex := 133, attributes := #[] }, { accessFlags := 26, nameIndex := 136, descriptorIndex := 24, attributes := #[] }, { accessFlags := 26, nameIndex := 137, descriptorIndex := 133, attributes := #[] }, { accessFlags := 18, nameIndex := 11, descriptorIndex := 12, attributes := #[] }, { accessFlags := 18, nameIndex := 15, descriptorIndex := 16, attributes := #[] }, { accessFlags := 18, nameIndex := 19, descriptorIndex := 20, attributes := #[] }, { accessFlags := 18, nameIndex := 23, descriptorIndex := 24, attributes := #[] }, { accessFlags := 18, nameIndex := 27, descriptorIndex := 24, attributes := #[] }])
  fields := #[{ name := "HUG_REACH", type := .int, accessFlags := 26, slot := 0, constantValue := 0 }, { name := "HUG", type := .double, accessFlags := 26, slot := 1, constantValue := 0 }, { name := "SHAPE_REACH", type := .int, accessFlags := 26, slot := 2, constantValue := 0 }, { name := "means", type := (.array .double), accessFlags := 18, slot := 0, constantValue := 0 }, { name := "weights", type := (.array .long), accessFlags := 18, slot := 1, constantValue := 0 }, { name := "count", type := .long, accessFlags := 18, slot := 2, constantValue := 0 }, { name := "min", type := .double, accessFlags := 18, slot := 3, constantValue := 0 }, { name := "max", type := .double, accessFlags := 18, slot := 4, constantValue := 0 }]
  methods := #[k2m0, k2m1, k2m2]
  instanceTypes := #[(.array .double), (.array .long), .long, .double, .double]
  staticTypes := #[.int, .double, .int]
  resolved := Array.replicate 158 none
  statics := none }

def pool3 : Array CpInfo := pool [(1, u "java/lang/Cloneable"), (0, .class_ 1), (0, u "java/lang/Object"), (0, .class_ 3)] 3

/-- java/lang/Cloneable -/
def k3 : Class := { plain "java/lang/Cloneable" (some 0) with
  accessFlags := 1537
  interfaces := #[]
  cf := some (fileOf pool3 2 #[] #[] 1537 4 #[] #[])
  fields := #[]
  methods := #[]
  instanceTypes := #[]
  staticTypes := #[]
  resolved := Array.replicate 8 none
  statics := none }

def pool4 : Array CpInfo := pool [(1, u "java/io/Serializable"), (0, .class_ 1), (0, u "java/lang/Object"), (0, .class_ 3)] 3

/-- java/io/Serializable -/
def k4 : Class := { plain "java/io/Serializable" (some 0) with
  accessFlags := 1537
  interfaces := #[]
  cf := some (fileOf pool4 2 #[] #[] 1537 4 #[] #[])
  fields := #[]
  methods := #[]
  instanceTypes := #[]
  staticTypes := #[]
  resolved := Array.replicate 8 none
  statics := none }

/-- the primitive byte -/
def k5 : Class := { plain "byte" none with kind := .primitive 'B', accessFlags := 0x411 }
/-- [B -/
def k6 : Class := { plain "[B" (some 0) with kind := .array 5 .byte, interfaces := #[3, 4], accessFlags := 1041 }

/-- the primitive double -/
def k7 : Class := { plain "double" none with kind := .primitive 'D', accessFlags := 0x411 }
/-- [D -/
def k8 : Class := { plain "[D" (some 0) with kind := .array 7 .double, interfaces := #[3, 4], accessFlags := 1041 }

/-- the primitive int -/
def k9 : Class := { plain "int" none with kind := .primitive 'I', accessFlags := 0x411 }
/-- [I -/
def k10 : Class := { plain "[I" (some 0) with kind := .array 9 .int, interfaces := #[3, 4], accessFlags := 1041 }

/-- the primitive long -/
def k11 : Class := { plain "long" none with kind := .primitive 'J', accessFlags := 0x411 }
/-- [J -/
def k12 : Class := { plain "[J" (some 0) with kind := .array 11 .long, interfaces := #[3, 4], accessFlags := 1041 }

def heap : Heap := #[]
def classes : Array Class := #[k0, k1, k2, k3, k4, k5, k6, k7, k8, k9, k10, k11, k12]
def interned : List (Array UInt16 × Addr) := []
def slotsUsed : Nat := 0
def theMethod : MethodId := ⟨1, 2⟩
def args0 : Array Value := #[.long 5, .int 1, .int 2, .int 3, .int 0]
def aboutOver (below : List Frame) : State where
  vm := { classes := classes, interned := interned.toArray }
  heap := heap
  slotsUsed := slotsUsed
  threads := #[{ frames := .invoking theMethod args0 :: below }]
def below0 : List Frame := [.native { method := ⟨0, 0⟩, args := #[] }]
def about1 : State := aboutOver below0
def p0 : Program := .bare "" "" ""
def e0 : Env := launch0.env 0 0 0
theorem w_frames : about1.frames = Frame.invoking theMethod args0 :: below0 := rfl
set_option maxRecDepth 65536 in
theorem w_args : argsFit about1.vm theMethod args0 = true := by decide +kernel
set_option maxRecDepth 65536 in
theorem w_heap : heapFits about1 = true := by decide +kernel
set_option maxRecDepth 65536 in
theorem w_runnable : about1.curStatus? = some .runnable := by decide +kernel
set_option maxRecDepth 65536 in
theorem w_alone : about1.alone = true := by decide +kernel
set_option maxRecDepth 65536 in
theorem w_named : about1.methodNamed? x = some theMethod := by decide +kernel
set_option maxRecDepth 65536 in
theorem w_hears : about1.hears theMethod below0 = true := by decide +kernel
set_option maxRecDepth 65536 in
theorem w_ripe : about1.ripe theMethod args0 below0 = true := by decide +kernel
theorem w_running : about1.status = .running := rfl
set_option maxRecDepth 65536 in
theorem w_room : about1.hasRoom e0.platform room_1 = true :=
  launch0.hasRoom_least _ room_1 (by decide +kernel) (by decide +kernel) (by decide +kernel) (by decide +kernel) (by decide +kernel) (by decide +kernel)
theorem allAtoms_all (ts : List Jvm.Cond) (a : Array Jvm.Value) (st : Jvm.State) : (allAtoms ts).before a st = ts.all (fun c => c.before a st) := by
  induction ts with
  | nil => rfl
  | cons c t ih =>
    show (Jvm.Cond.and c (allAtoms t)).before a st = _
    rw [Jvm.Cond.before_and, ih, List.all_cons]
def words1 : List Jvm.Cond := Jvm.Cond.code x code maxLocals ret :: tables_1
/-- a 'code' word, met by the world's own term for the bytes: nothing is compared byte by byte -/
theorem code_word {y : MethodName} {bytes : ByteArray} {mx : Nat} {rt : Option FieldType} {a : Array Value} {s : State} {m : MethodId} {meth : Method} {c : Code} (h1 : s.methodNamed? y = some m) (h2 : s.vm.method? m = some meth) (h3 : meth.code = some c) (h4 : c.code = bytes)
    (h5 : (c.maxLocals == mx && c.exceptionTable.isEmpty && decide (c.maxStack ≤ mostOperands) && decide (meth.sig.returnType = rt) && !meth.locks && decide (parseMethodDescriptor y.desc = some meth.sig)) = true) : (Jvm.Cond.code y bytes mx rt).before a s = true := by
  simp only [Bool.and_eq_true, beq_iff_eq, Bool.not_eq_true', decide_eq_true_eq] at h5
  obtain ⟨⟨⟨⟨⟨g1, g2⟩, g3⟩, g4⟩, g5⟩, g6⟩ := h5
  simp [Cond.before, Cond.holds, Cond.value, h1, h2, h3, h4, g1, g2, g3, g4, g5, g6]
def isCode : Jvm.Cond → Bool
  | .code _ _ _ _ => true
  | _ => false
theorem all_split {L : List Jvm.Cond} {P : Jvm.Cond → Bool} (h1 : L.all (fun c => isCode c || P c) = true) (h2 : ∀ c ∈ L.filter isCode, P c = true) : L.all P = true := by
  refine List.all_eq_true.mpr fun c hc => ?_
  have h := List.all_eq_true.mp h1 c hc
  rcases Bool.eq_false_or_eq_true (isCode c) with hi | hi
  · exact h2 c (List.mem_filter.mpr ⟨hc, hi⟩)
  · simpa [hi] using h
set_option maxRecDepth 65536 in
theorem w_c0 : (Jvm.Cond.code x code maxLocals ret).before args0 about1 = true := code_word (m := ⟨1, 2⟩) (meth := k1m2) (c := k1c2) (by decide +kernel) rfl rfl rfl (by decide +kernel)
set_option maxRecDepth 65536 in
theorem w_c1 : (Jvm.Cond.code ({ cls := "com/example/dipper/dipper/CentroidsHoldsOneValuePinLaw", name := "weightOf", desc := "(JI)J" } : Jvm.MethodName) method_2_code (4 : Nat) (Option.some Jvm.ClassFile.FieldType.long)).before args0 about1 = true := code_word (m := ⟨1, 1⟩) (meth := k1m1) (c := k1c1) (by decide +kernel) rfl rfl rfl (by decide +kernel)
set_option maxRecDepth 65536 in
theorem w_c2 : (Jvm.Cond.code ({ cls := "com/example/dipper/dipper/Centroids", name := "<init>", desc := "([D[JJDD)V" } : Jvm.MethodName) prog_4_method_1_code (9 : Nat) (Option.none : Option Jvm.ClassFile.FieldType)).before args0 about1 = true := code_word (m := ⟨2, 0⟩) (meth := k2m0) (c := k2c0) (by decide +kernel) rfl rfl rfl (by decide +kernel)
set_option maxRecDepth 65536 in
theorem w_c3 : (Jvm.Cond.code ({ cls := "java/lang/Object", name := "<init>", desc := "()V" } : Jvm.MethodName) object_method_1_code (1 : Nat) (Option.none : Option Jvm.ClassFile.FieldType)).before args0 about1 = true := code_word (m := ⟨0, 0⟩) (meth := k0m0) (c := k0c0) (by decide +kernel) rfl rfl rfl (by decide +kernel)
set_option maxRecDepth 65536 in
theorem w_c4 : (Jvm.Cond.code ({ cls := "com/example/dipper/dipper/Centroids", name := "holdsOneValue", desc := "(I)Z" } : Jvm.MethodName) prog_4_method_8_code (2 : Nat) (Option.some Jvm.ClassFile.FieldType.boolean)).before args0 about1 = true := code_word (m := ⟨2, 1⟩) (meth := k2m1) (c := k2c1) (by decide +kernel) rfl rfl rfl (by decide +kernel)
set_option maxRecDepth 65536 in
theorem w_c5 : (Jvm.Cond.code ({ cls := "com/example/dipper/dipper/Centroids", name := "repeats", desc := "(I)Z" } : Jvm.MethodName) prog_4_method_14_code (2 : Nat) (Option.some Jvm.ClassFile.FieldType.boolean)).before args0 about1 = true := code_word (m := ⟨2, 2⟩) (meth := k2m2) (c := k2c2) (by decide +kernel) rfl rfl rfl (by decide +kernel)
def codes1 : List Jvm.Cond := [Jvm.Cond.code x code maxLocals ret, Jvm.Cond.code ({ cls := "com/example/dipper/dipper/CentroidsHoldsOneValuePinLaw", name := "weightOf", desc := "(JI)J" } : Jvm.MethodName) method_2_code (4 : Nat) (Option.some Jvm.ClassFile.FieldType.long), Jvm.Cond.code ({ cls := "com/example/dipper/dipper/Centroids", name := "<init>", desc := "([D[JJDD)V" } : Jvm.MethodName) prog_4_method_1_code (9 : Nat) (Option.none : Option Jvm.ClassFile.FieldType), Jvm.Cond.code ({ cls := "java/lang/Object", name := "<init>", desc := "()V" } : Jvm.MethodName) object_method_1_code (1 : Nat) (Option.none : Option Jvm.ClassFile.FieldType), Jvm.Cond.code ({ cls := "com/example/dipper/dipper/Centroids", name := "holdsOneValue", desc := "(I)Z" } : Jvm.MethodName) prog_4_method_8_code (2 : Nat) (Option.some Jvm.ClassFile.FieldType.boolean), Jvm.Cond.code ({ cls := "com/example/dipper/dipper/Centroids", name := "repeats", desc := "(I)Z" } : Jvm.MethodName) prog_4_method_14_code (2 : Nat) (Option.some Jvm.ClassFile.FieldType.boolean)]
set_option maxRecDepth 65536 in
theorem codes_eq : words1.filter isCode = codes1 := rfl
theorem w_codes : ∀ c ∈ words1.filter isCode, c.before args0 about1 = true := by
  rw [codes_eq]
  intro c hc
  simp only [codes1, List.mem_cons, List.not_mem_nil, or_false] at hc
  rcases hc with rfl | rfl | rfl | rfl | rfl | rfl
  · exact w_c0
  · exact w_c1
  · exact w_c2
  · exact w_c3
  · exact w_c4
  · exact w_c5
set_option maxRecDepth 65536 in
theorem w_t1 : (words1.take 24).all (fun c => isCode c || c.before args0 about1) = true := by decide +kernel
set_option maxRecDepth 65536 in
theorem w_t2 : (words1.drop 24).all (fun c => isCode c || c.before args0 about1) = true := by decide +kernel
theorem w_tables : (allAtoms (Jvm.Cond.code x code maxLocals ret :: tables_1)).before args0 about1 = true := by
  rw [allAtoms_all]
  show words1.all (fun c => c.before args0 about1) = true
  refine all_split ?_ w_codes
  rw [← List.take_append_drop 24 words1, List.all_append, w_t1, w_t2]
  rfl
set_option maxRecDepth 65536 in
theorem w_case : (Jvm.Cond.and given_1 narrow_1).before args0 about1 = true := by decide +kernel
theorem w_applies : (headSpec (Jvm.Cond.code x code maxLocals ret :: tables_1) room_1).applies x e0.platform about1 = true :=
  (Spec.applies_iff w_frames).mpr ⟨w_running, w_runnable, w_alone, w_named, w_hears, w_ripe, w_room, w_tables⟩
theorem atStart : AtStart classFile x code maxLocals ret World_1 tables_1 room_1 Calls_1 rest_1 Pre_1 launch0 p0 e0 about1 theMethod args0 below0 :=
  ⟨lists_1, trivial, launch0.admits_env _ _ _, launch0.least_env, fairChoices_fair.cas, fairChoices_fair.clock, w_frames, w_args, w_heap, w_applies, trivial, trivial, w_case⟩
end start1
theorem witness_1 : WitnessClaimed_1 := ⟨start1.p0, start1.e0, start1.about1, start1.theMethod, start1.args0, start1.below0, start1.atStart⟩
end Jvm.Pilot.@@N@@
