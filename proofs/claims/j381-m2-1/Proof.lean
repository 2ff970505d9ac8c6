import JvmDerived
import JvmDerived.Pilot.@@N@@Statement
import JvmDerived.Pilot.@@N@@Code
set_option linter.unusedVariables false
set_option linter.unusedSimpArgs false

namespace Jvm.OwnKit
open Sem ClassFile Op Lib Jvm.Stand Jvm.Free Jvm.LawKit Jvm.RoadKit Jvm.Free.Fl
/-- what is left to show of a run: from U it ends and returns, with E of the value, the end and the places written -/
def Goes (p : Program) (e : Env) (below : List Frame) (E : Option Value → State → List Loc → Prop) (U : State) : Prop :=
  ∃ s₂ v L, Steps p.tables e below U s₂ ∧ s₂.status = .running ∧ Ended s₂ below (.returned v) ∧ E v s₂ L
/-- the common end: nothing below n0 is written, Q holds of the value and the heap, the frame is k cells and j slots -/
def En (s : State) (n0 k j : Nat) (Q : Option Value → Heap → Prop) (v : Option Value) (s₂ : State) (L : List Loc) : Prop := (Fr n0 L ∧ Q v s₂.heap) ∧ FrameEnd s (.returned v) s₂ L k j
/-- where a walk of the body y stands -/
def Wk (Z : State) (y : MethodName) (bytes : ByteArray) (ml : Nat) (ret : Option FieldType) (n0 : Nat) (p : Program) (l : Launch) (e : Env) (R : Room) (s : State) (m : MethodId) (args : Array Value) (below : List Frame) (meth : Method) (c : Code) (T : State) (kc ks : Nat) : Prop :=
  (p.tables.exec = Jvm.exec ∧ Z.Warmed39 s.vm ∧ s.vm.findClass y.cls = some m.cls ∧ c.code = bytes ∧ c.maxLocals = ml ∧ meth.sig.returnType = ret ∧ meth.locks = false ∧ meth.name = y.name) ∧ ∃ locs, Stand p l e R s m args below meth c T locs kc ks ∧ Fr n0 locs
/-- a body's contract: called with the values as over the heap h0 it returns with Post -/
def Con (l : Launch) (Z : State) (n0 : Nat) (y : MethodName) (ws : List Cond) (bytes : ByteArray) (ml : Nat) (ret : Option FieldType) (rm : Room) (as : Array Value) (h0 : Heap) (Post : Option Value → Heap → Prop) : Prop :=
  MetFree l y (head1 (Cond.code y bytes ml ret :: ws) rm) (fun a U => a = as ∧ Z.Warmed39 U.vm ∧ U.heap = h0) (fun _ _ _ _ _ => True) (fun _ U o U' => ∃ v L, o = .returned v ∧ (Fr n0 L ∧ Post v U'.heap) ∧ FrameEnd U o U' L rm.cells rm.slots)
section Laws
variable {Z : State} {y : MethodName} {bytes : ByteArray} {ml : Nat} {ret : Option FieldType} {n0 : Nat} {p : Program} {l : Launch} {e : Env} {R : Room} {s : State} {m : MethodId} {args : Array Value} {below : List Frame} {meth : Method} {c : Code} {T : State} {kc ks k j : Nat} {Q : Option Value → Heap → Prop} {E : Option Value → State → List Loc → Prop} {pc pc' : Nat} {ls : Array Slot} {st : List Value} {a0 : Array Value}
theorem Goes.back {U U' : State} (g : Goes p e below E U') (h : ∀ t, Steps p.tables e below U' t → Steps p.tables e below U t) : Goes p e below E U := by
  obtain ⟨s₂, v, L, h1, h2⟩ := g; exact ⟨s₂, v, L, h _ h1, h2⟩
theorem Goes.mono {U : State} {E' : Option Value → State → List Loc → Prop} (g : Goes p e below E U) (h : ∀ v t L, E v t L → E' v t L) : Goes p e below E' U := by
  obtain ⟨s₂, v, L, h1, h2, h3, h4⟩ := g; exact ⟨s₂, v, L, h1, h2, h3, h _ _ _ h4⟩
theorem Con.mono {ws : List Cond} {rm : Room} {as : Array Value} {h0 : Heap} {Post Post' : Option Value → Heap → Prop} (C : Con l Z n0 y ws bytes ml ret rm as h0 Post) (h : ∀ v h, Post v h → Post' v h) : Con l Z n0 y ws bytes ml ret rm as h0 Post' := by
  intro p e ha hc hk s m args below hf happ hP hK
  obtain ⟨a, b, h1, h2, h3, v, L, h4, ⟨h5, h6⟩, h7⟩ := C p e ha hc hk s m args below hf happ hP hK
  exact ⟨a, b, h1, h2, h3, v, L, h4, ⟨h5, h _ _ h6⟩, h7⟩

theorem Wk.hx (W : Wk Z y bytes ml ret n0 p l e R s m args below meth c T kc ks) : p.tables.exec = Jvm.exec := W.1.1
theorem Wk.hZ (W : Wk Z y bytes ml ret n0 p l e R s m args below meth c T kc ks) : Z.Warmed39 s.vm := W.1.2.1
theorem Wk.hown (W : Wk Z y bytes ml ret n0 p l e R s m args below meth c T kc ks) : s.vm.findClass y.cls = some m.cls := W.1.2.2.1
theorem Wk.hby (W : Wk Z y bytes ml ret n0 p l e R s m args below meth c T kc ks) : c.code = bytes := W.1.2.2.2.1
theorem Wk.hml (W : Wk Z y bytes ml ret n0 p l e R s m args below meth c T kc ks) : c.maxLocals = ml := W.1.2.2.2.2.1
theorem Wk.hret (W : Wk Z y bytes ml ret n0 p l e R s m args below meth c T kc ks) : meth.sig.returnType = ret := W.1.2.2.2.2.2.1
theorem Wk.hlk (W : Wk Z y bytes ml ret n0 p l e R s m args below meth c T kc ks) : meth.locks = false := W.1.2.2.2.2.2.2.1
theorem Wk.hnm (W : Wk Z y bytes ml ret n0 p l e R s m args below meth c T kc ks) : meth.name = y.name := W.1.2.2.2.2.2.2.2
theorem Wk.here (W : Wk Z y bytes ml ret n0 p l e R s m args below meth c T kc ks) : At T m c below := by obtain ⟨_, _, X, _⟩ := W; exact X.here
theorem g_iloadN (W : Wk Z y bytes ml ret n0 p l e R s m args below meth c T kc ks) {i : Fin 4} {v : Int32} (hd : decode bytes pc = .ok (.iload_n i, 1)) (hpc : pc + 1 = pc') (hl : ls[i.val]? = some (.val (.int v))) (K : Goes p e below E (T.setTop (mkF m pc' ls (.int v :: st)))) : Goes p e below E (T.setTop (mkF m pc ls st)) := by
  subst hpc; exact K.back fun _ r => XS.iloadN W.here W.hx rfl (hb W.hby hd) hl r
theorem g_iload (W : Wk Z y bytes ml ret n0 p l e R s m args below meth c T kc ks) {i : Nat} {v : Int32} (hd : decode bytes pc = .ok (.iload i, 2)) (hpc : pc + 2 = pc') (hl : ls[i]? = some (.val (.int v))) (K : Goes p e below E (T.setTop (mkF m pc' ls (.int v :: st)))) : Goes p e below E (T.setTop (mkF m pc ls st)) := by
  subst hpc; exact K.back fun _ r => XS.iload W.here W.hx rfl (hb W.hby hd) hl r
theorem g_dloadN (W : Wk Z y bytes ml ret n0 p l e R s m args below meth c T kc ks) {i : Fin 4} {v : UInt64} (hd : decode bytes pc = .ok (.dload_n i, 1)) (hpc : pc + 1 = pc') (hl : ls[i.val]? = some (.val (.double v))) (K : Goes p e below E (T.setTop (mkF m pc' ls (.double v :: st)))) : Goes p e below E (T.setTop (mkF m pc ls st)) := by
  subst hpc; exact K.back fun _ r => XS.dloadN W.here W.hx rfl (hb W.hby hd) hl r
theorem g_dload (W : Wk Z y bytes ml ret n0 p l e R s m args below meth c T kc ks) {i : Nat} {v : UInt64} (hd : decode bytes pc = .ok (.dload i, 2)) (hpc : pc + 2 = pc') (hl : ls[i]? = some (.val (.double v))) (K : Goes p e below E (T.setTop (mkF m pc' ls (.double v :: st)))) : Goes p e below E (T.setTop (mkF m pc ls st)) := by
  subst hpc; exact K.back fun _ r => XS.dload W.here W.hx rfl (hb W.hby hd) hl r
theorem g_aloadN (W : Wk Z y bytes ml ret n0 p l e R s m args below meth c T kc ks) {i : Fin 4} {v : Value} (hd : decode bytes pc = .ok (.aload_n i, 1)) (hpc : pc + 1 = pc') (hl : ls[i.val]? = some (.val v)) (hv : v.isRef = true) (K : Goes p e below E (T.setTop (mkF m pc' ls (v :: st)))) : Goes p e below E (T.setTop (mkF m pc ls st)) := by
  subst hpc; exact K.back fun _ r => XS.aloadN W.here W.hx rfl (hb W.hby hd) hl hv r
theorem g_aload (W : Wk Z y bytes ml ret n0 p l e R s m args below meth c T kc ks) {i : Nat} {v : Value} (hd : decode bytes pc = .ok (.aload i, 2)) (hpc : pc + 2 = pc') (hl : ls[i]? = some (.val v)) (hv : v.isRef = true) (K : Goes p e below E (T.setTop (mkF m pc' ls (v :: st)))) : Goes p e below E (T.setTop (mkF m pc ls st)) := by
  subst hpc; exact K.back fun _ r => XS.aload W.here W.hx rfl (hb W.hby hd) hl hv r
theorem g_istoreN (W : Wk Z y bytes ml ret n0 p l e R s m args below meth c T kc ks) {i : Fin 4} {v : Int32} {ls' : Array Slot} (hd : decode bytes pc = .ok (.istore_n i, 1)) (hpc : pc + 1 = pc') (hl : storeLocals ls i.val (.int v) = some ls') (K : Goes p e below E (T.setTop (mkF m pc' ls' st))) : Goes p e below E (T.setTop (mkF m pc ls (.int v :: st))) := by
  subst hpc; exact K.back fun _ r => XS.istoreN W.here W.hx rfl (hb W.hby hd) rfl hl r
theorem g_istore (W : Wk Z y bytes ml ret n0 p l e R s m args below meth c T kc ks) {i : Nat} {v : Int32} {ls' : Array Slot} (hd : decode bytes pc = .ok (.istore i, 2)) (hpc : pc + 2 = pc') (hl : storeLocals ls i (.int v) = some ls') (K : Goes p e below E (T.setTop (mkF m pc' ls' st))) : Goes p e below E (T.setTop (mkF m pc ls (.int v :: st))) := by
  subst hpc; exact K.back fun _ r => XS.istore W.here W.hx rfl (hb W.hby hd) rfl hl r
theorem g_dstoreN (W : Wk Z y bytes ml ret n0 p l e R s m args below meth c T kc ks) {i : Fin 4} {v : UInt64} {ls' : Array Slot} (hd : decode bytes pc = .ok (.dstore_n i, 1)) (hpc : pc + 1 = pc') (hl : storeLocals ls i.val (.double v) = some ls') (K : Goes p e below E (T.setTop (mkF m pc' ls' st))) : Goes p e below E (T.setTop (mkF m pc ls (.double v :: st))) := by
  subst hpc; exact K.back fun _ r => XS.dstoreN W.here W.hx rfl (hb W.hby hd) rfl hl r
theorem g_dstore (W : Wk Z y bytes ml ret n0 p l e R s m args below meth c T kc ks) {i : Nat} {v : UInt64} {ls' : Array Slot} (hd : decode bytes pc = .ok (.dstore i, 2)) (hpc : pc + 2 = pc') (hl : storeLocals ls i (.double v) = some ls') (K : Goes p e below E (T.setTop (mkF m pc' ls' st))) : Goes p e below E (T.setTop (mkF m pc ls (.double v :: st))) := by
  subst hpc; exact K.back fun _ r => XS.dstore W.here W.hx rfl (hb W.hby hd) rfl hl r
theorem g_astoreN (W : Wk Z y bytes ml ret n0 p l e R s m args below meth c T kc ks) {i : Fin 4} {v : Value} {ls' : Array Slot} (hd : decode bytes pc = .ok (.astore_n i, 1)) (hpc : pc + 1 = pc') (hv : v.isRef = true) (hl : storeLocals ls i.val v = some ls') (K : Goes p e below E (T.setTop (mkF m pc' ls' st))) : Goes p e below E (T.setTop (mkF m pc ls (v :: st))) := by
  subst hpc; exact K.back fun _ r => XS.astoreN W.here W.hx rfl (hb W.hby hd) rfl hv hl r
theorem g_astore (W : Wk Z y bytes ml ret n0 p l e R s m args below meth c T kc ks) {i : Nat} {v : Value} {ls' : Array Slot} (hd : decode bytes pc = .ok (.astore i, 2)) (hpc : pc + 2 = pc') (hv : v.isRef = true) (hl : storeLocals ls i v = some ls') (K : Goes p e below E (T.setTop (mkF m pc' ls' st))) : Goes p e below E (T.setTop (mkF m pc ls (v :: st))) := by
  subst hpc; exact K.back fun _ r => XS.astore W.here W.hx rfl (hb W.hby hd) rfl hv hl r
theorem g_iconst (W : Wk Z y bytes ml ret n0 p l e R s m args below meth c T kc ks) {i : Int} {v : Int32} (hd : decode bytes pc = .ok (.iconst i, 1)) (hpc : pc + 1 = pc') (hv : Int32.ofInt i = v) (K : Goes p e below E (T.setTop (mkF m pc' ls (.int v :: st)))) : Goes p e below E (T.setTop (mkF m pc ls st)) := by
  subst hpc; exact K.back fun _ r => XS.iconst W.here W.hx rfl (hb W.hby hd) (by rw [hv]; exact r)
theorem g_bipush (W : Wk Z y bytes ml ret n0 p l e R s m args below meth c T kc ks) {i : Int} {v : Int32} (hd : decode bytes pc = .ok (.bipush i, 2)) (hpc : pc + 2 = pc') (hv : (Int8.ofInt i).toInt32 = v) (K : Goes p e below E (T.setTop (mkF m pc' ls (.int v :: st)))) : Goes p e below E (T.setTop (mkF m pc ls st)) := by
  subst hpc; exact K.back fun _ r => XS.bipush W.here W.hx rfl (hb W.hby hd) (by rw [hv]; exact r)
theorem g_sipush (W : Wk Z y bytes ml ret n0 p l e R s m args below meth c T kc ks) {i : Int} {v : Int32} (hd : decode bytes pc = .ok (.sipush i, 3)) (hpc : pc + 3 = pc') (hv : (Int16.ofInt i).toInt32 = v) (K : Goes p e below E (T.setTop (mkF m pc' ls (.int v :: st)))) : Goes p e below E (T.setTop (mkF m pc ls st)) := by
  subst hpc; exact K.back fun _ r => XS.sipush W.here W.hx rfl (hb W.hby hd) (by rw [hv]; exact r)
theorem g_dconst0 (W : Wk Z y bytes ml ret n0 p l e R s m args below meth c T kc ks)  (hd : decode bytes pc = .ok (.dconst 0, 1)) (hpc : pc + 1 = pc')  (K : Goes p e below E (T.setTop (mkF m pc' ls (.double 0 :: st)))) : Goes p e below E (T.setTop (mkF m pc ls st)) := by
  subst hpc; exact K.back fun _ r => XS.dconst0 W.here W.hx rfl (hb W.hby hd) rfl r
theorem g_dconst1 (W : Wk Z y bytes ml ret n0 p l e R s m args below meth c T kc ks)  (hd : decode bytes pc = .ok (.dconst 1, 1)) (hpc : pc + 1 = pc')  (K : Goes p e below E (T.setTop (mkF m pc' ls (.double 4607182418800017408 :: st)))) : Goes p e below E (T.setTop (mkF m pc ls st)) := by
  subst hpc; exact K.back fun _ r => XS.dconst1 W.here W.hx rfl (hb W.hby hd) rfl r
theorem g_aconst_null (W : Wk Z y bytes ml ret n0 p l e R s m args below meth c T kc ks)  (hd : decode bytes pc = .ok (.aconst_null, 1)) (hpc : pc + 1 = pc')  (K : Goes p e below E (T.setTop (mkF m pc' ls (.null :: st)))) : Goes p e below E (T.setTop (mkF m pc ls st)) := by
  subst hpc; exact K.back fun _ r => XS.aconstNull W.here W.hx rfl (hb W.hby hd) r
theorem g_iadd (W : Wk Z y bytes ml ret n0 p l e R s m args below meth c T kc ks) {x y0 v : Int32} (hd : decode bytes pc = .ok (.iadd, 1)) (hpc : pc + 1 = pc') (hv : x + y0 = v) (K : Goes p e below E (T.setTop (mkF m pc' ls (.int v :: st)))) : Goes p e below E (T.setTop (mkF m pc ls (.int y0 :: .int x :: st))) := by
  subst hpc; exact K.back fun _ r => XS.iadd W.here W.hx rfl (hb W.hby hd) rfl (by rw [hv]; exact r)
theorem g_isub (W : Wk Z y bytes ml ret n0 p l e R s m args below meth c T kc ks) {x y0 v : Int32} (hd : decode bytes pc = .ok (.isub, 1)) (hpc : pc + 1 = pc') (hv : x - y0 = v) (K : Goes p e below E (T.setTop (mkF m pc' ls (.int v :: st)))) : Goes p e below E (T.setTop (mkF m pc ls (.int y0 :: .int x :: st))) := by
  subst hpc; exact K.back fun _ r => XS.isub W.here W.hx rfl (hb W.hby hd) rfl (by rw [hv]; exact r)
theorem g_iand (W : Wk Z y bytes ml ret n0 p l e R s m args below meth c T kc ks) {x y0 v : Int32} (hd : decode bytes pc = .ok (.iand, 1)) (hpc : pc + 1 = pc') (hv : x &&& y0 = v) (K : Goes p e below E (T.setTop (mkF m pc' ls (.int v :: st)))) : Goes p e below E (T.setTop (mkF m pc ls (.int y0 :: .int x :: st))) := by
  subst hpc; exact K.back fun _ r => XS.iand W.here W.hx rfl (hb W.hby hd) rfl (by rw [hv]; exact r)
theorem g_ixor (W : Wk Z y bytes ml ret n0 p l e R s m args below meth c T kc ks) {x y0 v : Int32} (hd : decode bytes pc = .ok (.ixor, 1)) (hpc : pc + 1 = pc') (hv : x ^^^ y0 = v) (K : Goes p e below E (T.setTop (mkF m pc' ls (.int v :: st)))) : Goes p e below E (T.setTop (mkF m pc ls (.int y0 :: .int x :: st))) := by
  subst hpc; exact K.back fun _ r => XT.ixor W.here W.hx rfl (hb W.hby hd) rfl (by rw [hv]; exact r)
theorem g_iushr (W : Wk Z y bytes ml ret n0 p l e R s m args below meth c T kc ks) {x y0 v : Int32} (hd : decode bytes pc = .ok (.iushr, 1)) (hpc : pc + 1 = pc') (hv : XT.ushr x y0 = v) (K : Goes p e below E (T.setTop (mkF m pc' ls (.int v :: st)))) : Goes p e below E (T.setTop (mkF m pc ls (.int y0 :: .int x :: st))) := by
  subst hpc; exact K.back fun _ r => XT.iushr W.here W.hx rfl (hb W.hby hd) rfl (by rw [hv]; exact r)
theorem g_i2d (W : Wk Z y bytes ml ret n0 p l e R s m args below meth c T kc ks) {x : Int32} {v : UInt64} (hd : decode bytes pc = .ok (.i2d, 1)) (hpc : pc + 1 = pc') (hv : FP.i2d x = v) (K : Goes p e below E (T.setTop (mkF m pc' ls (.double v :: st)))) : Goes p e below E (T.setTop (mkF m pc ls (.int x :: st))) := by
  subst hpc; exact K.back fun _ r => XS.i2dS W.here W.hx rfl (hb W.hby hd) rfl hv r
theorem g_dcmp (W : Wk Z y bytes ml ret n0 p l e R s m args below meth c T kc ks) {o : CmpOp} {x y0 : UInt64} {v : Int32} (hd : decode bytes pc = .ok (.dcmp o, 1)) (hpc : pc + 1 = pc') (hv : cmpValue (FP.dcmp x y0) o = v) (K : Goes p e below E (T.setTop (mkF m pc' ls (.int v :: st)))) : Goes p e below E (T.setTop (mkF m pc ls (.double y0 :: .double x :: st))) := by
  subst hpc; exact K.back fun _ r => XS.dcmpS W.here W.hx rfl (hb W.hby hd) rfl hv r
theorem g_dadd (W : Wk Z y bytes ml ret n0 p l e R s m args below meth c T kc ks) {x y0 v : UInt64} (hd : decode bytes pc = .ok (.dadd, 1)) (hpc : pc + 1 = pc') (hv : FP.dadd x y0 = v) (hn : NoNaN64 v) (K : Goes p e below E (T.setTop (mkF m pc' ls (.double v :: st)))) : Goes p e below E (T.setTop (mkF m pc ls (.double y0 :: .double x :: st))) := by
  subst hpc; exact K.back fun _ r => XS.daddS W.here W.hx rfl (hb W.hby hd) rfl (by rw [hv]; exact hn) hv r
theorem g_ddiv (W : Wk Z y bytes ml ret n0 p l e R s m args below meth c T kc ks) {x y0 v : UInt64} (hd : decode bytes pc = .ok (.ddiv, 1)) (hpc : pc + 1 = pc') (hv : FP.ddiv x y0 = v) (hn : NoNaN64 v) (K : Goes p e below E (T.setTop (mkF m pc' ls (.double v :: st)))) : Goes p e below E (T.setTop (mkF m pc ls (.double y0 :: .double x :: st))) := by
  subst hpc; exact K.back fun _ r => XS.ddivS W.here W.hx rfl (hb W.hby hd) rfl (by rw [hv]; exact hn) hv r
theorem g_dup (W : Wk Z y bytes ml ret n0 p l e R s m args below meth c T kc ks) {v : Value} (hd : decode bytes pc = .ok (.dup, 1)) (hpc : pc + 1 = pc') (hc : v.category = 1) (K : Goes p e below E (T.setTop (mkF m pc' ls (v :: v :: st)))) : Goes p e below E (T.setTop (mkF m pc ls (v :: st))) := by
  subst hpc; exact K.back fun _ r => XS.dup W.here W.hx rfl (hb W.hby hd) rfl hc r
theorem g_pop (W : Wk Z y bytes ml ret n0 p l e R s m args below meth c T kc ks) {v : Value} (hd : decode bytes pc = .ok (.pop, 1)) (hpc : pc + 1 = pc') (hc : v.category = 1) (K : Goes p e below E (T.setTop (mkF m pc' ls st))) : Goes p e below E (T.setTop (mkF m pc ls (v :: st))) := by
  subst hpc; exact K.back fun _ r => XT.pop W.here W.hx rfl (hb W.hby hd) rfl hc r
theorem g_dup_x1 (W : Wk Z y bytes ml ret n0 p l e R s m args below meth c T kc ks) {v w : Value} (hd : decode bytes pc = .ok (.dup_x1, 1)) (hpc : pc + 1 = pc') (hc : v.category = 1) (hc2 : w.category = 1) (K : Goes p e below E (T.setTop (mkF m pc' ls (v :: w :: v :: st)))) : Goes p e below E (T.setTop (mkF m pc ls (v :: w :: st))) := by
  subst hpc; exact K.back fun _ r => XT.dupX1 W.here W.hx rfl (hb W.hby hd) rfl hc hc2 r
theorem g_iinc (W : Wk Z y bytes ml ret n0 p l e R s m args below meth c T kc ks) {i : Nat} {d : Int} {x v : Int32} {ls' : Array Slot} (hd : decode bytes pc = .ok (.iinc i d, 3)) (hpc : pc + 3 = pc') (h1 : ls[i]? = some (.val (.int x))) (hv : x + Int32.ofInt d = v) (hl : storeLocals ls i (.int v) = some ls') (K : Goes p e below E (T.setTop (mkF m pc' ls' st))) : Goes p e below E (T.setTop (mkF m pc ls st)) := by
  subst hpc; exact K.back fun _ r => XS.iinc W.here W.hx rfl (hb W.hby hd) h1 (by rw [hv]; exact hl) r
def cP : ClassFile.Cond → Int32 → Int32 → Prop
  | .eq, x, y => x = y
  | .ne, x, y => ¬ x = y
  | .lt, x, y => x < y
  | .ge, x, y => ¬ x < y
  | .gt, x, y => y < x
  | .le, x, y => ¬ y < x
theorem cP_yes {cd : ClassFile.Cond} {x y : Int32} (h : cP cd x y) : if_icmp.holds cd x y = true := by
  cases cd
  · exact (teq h).1
  · exact (feq h).2
  · exact (tlt h).1
  · exact (flt h).2.1
  · exact (tlt h).2.2.1
  · exact (flt h).2.2.2
theorem cP_no {cd : ClassFile.Cond} {x y : Int32} (h : ¬ cP cd x y) : if_icmp.holds cd x y = false := by
  cases cd
  · exact (feq h).1
  · exact (teq (Classical.not_not.mp h)).2
  · exact (flt h).1
  · exact (tlt (Classical.not_not.mp h)).2.1
  · exact (flt h).2.2.1
  · exact (tlt (Classical.not_not.mp h)).2.2.2
theorem g_goto (W : Wk Z y bytes ml ret n0 p l e R s m args below meth c T kc ks) {o : Int} (hd : decode bytes pc = .ok (.goto o, 3)) (hpc : (pc : Int) + o = (pc' : Nat)) (K : Goes p e below E (T.setTop (mkF m pc' ls st))) : Goes p e below E (T.setTop (mkF m pc ls st)) :=
  K.back fun _ r => XS.goto W.here W.hx rfl (pc0 := pc) (pc' := pc') rfl (hb W.hby hd) (by omega) (by omega) r
theorem g_if (W : Wk Z y bytes ml ret n0 p l e R s m args below meth c T kc ks) {cd : ClassFile.Cond} {x : Int32} {o : Int} {pcy : Nat} (hd : decode bytes pc = .ok (.ifCond cd o, 3)) (hy : (pc : Int) + o = (pcy : Nat)) (hpc : pc + 3 = pc') (KY : cP cd x 0 → Goes p e below E (T.setTop (mkF m pcy ls st))) (KN : ¬ cP cd x 0 → Goes p e below E (T.setTop (mkF m pc' ls st))) : Goes p e below E (T.setTop (mkF m pc ls (.int x :: st))) := by
  subst hpc
  by_cases q : cP cd x 0
  · exact (KY q).back fun _ r => XS.ifYes W.here W.hx rfl (pc0 := pc) (pc' := pcy) rfl (hb W.hby hd) rfl ((if0 _ _).trans (cP_yes q)) (by omega) (by omega) r
  · exact (KN q).back fun _ r => XS.ifNo W.here W.hx rfl (hb W.hby hd) rfl ((if0 _ _).trans (cP_no q)) r
theorem g_icmp (W : Wk Z y bytes ml ret n0 p l e R s m args below meth c T kc ks) {cd : ClassFile.Cond} {x y0 : Int32} {o : Int} {pcy : Nat} (hd : decode bytes pc = .ok (.if_icmp cd o, 3)) (hy : (pc : Int) + o = (pcy : Nat)) (hpc : pc + 3 = pc') (KY : cP cd x y0 → Goes p e below E (T.setTop (mkF m pcy ls st))) (KN : ¬ cP cd x y0 → Goes p e below E (T.setTop (mkF m pc' ls st))) : Goes p e below E (T.setTop (mkF m pc ls (.int y0 :: .int x :: st))) := by
  subst hpc
  by_cases q : cP cd x y0
  · exact (KY q).back fun _ r => XS.icmpYes W.here W.hx rfl (pc0 := pc) (pc' := pcy) rfl (hb W.hby hd) rfl (cP_yes q) (by omega) (by omega) r
  · exact (KN q).back fun _ r => XS.icmpNo W.here W.hx rfl (hb W.hby hd) rfl (cP_no q) r

theorem Wk.more (W : Wk Z y bytes ml ret n0 p l e R s m args below meth c T kc ks) {kc' ks' : Nat} (h1 : kc ≤ kc') (h2 : ks ≤ ks') : Wk Z y bytes ml ret n0 p l e R s m args below meth c T kc' ks' := by
  obtain ⟨A, locs, X, N⟩ := W
  exact ⟨A, locs, X.more h1 h2, N⟩
/-! ### the ends -/
theorem g_leave (W : Wk Z y bytes ml ret n0 p l e R s m args below meth c T kc ks) {v : Option Value} {U : State} (hv : ret = none → v = none) (hQ : Q v T.heap) (hk : kc ≤ k) (hj : ks ≤ j)
    (st : ∀ fs, (∀ (f : JFrame) (acts : List Action), f.method = m → f.locked = none → f.entered = [] → (doReturn e (T.setTop f) acts v).1 = T.setFrames fs) → Steps p.tables e below U (T.setFrames fs)) : Goes p e below (En s n0 k j Q) U := by
  have hlk := W.hlk
  have hret := W.hret
  obtain ⟨_, locs, X, N⟩ := W
  obtain ⟨fs, hr, hrun, hended, hW, hsame⟩ := X.leave (v := v) (fun q => hv (hret ▸ q)) hlk
  exact ⟨_, v, locs, st fs hr, hrun, hended, ⟨N, hQ⟩, ⟨_, rfl⟩, hW, hsame.mono hk hj⟩
theorem g_return (W : Wk Z y bytes ml none n0 p l e R s m args below meth c T kc ks) (hd : decode bytes pc = .ok (.return_, 1)) (hQ : Q none T.heap) (hk : kc ≤ k) (hj : ks ≤ j) : Goes p e below (En s n0 k j Q) (T.setTop (mkF m pc ls [])) :=
  g_leave W (fun _ => rfl) hQ hk hj fun fs hr => by
    have hret := W.hret
    have hx := W.hx
    have hby := W.hby
    obtain ⟨_, locs, X, N⟩ := W
    exact X.returnOut hx hret (hb hby hd) hr
theorem g_ret {t : FieldType} (W : Wk Z y bytes ml (some t) n0 p l e R s m args below meth c T kc ks) {w : Value} {i : Instr} (hn : narrow t w = w)
    (hi : (i = .ireturn ∧ (t = .int ∨ t = .boolean ∨ t = .byte ∨ t = .char ∨ t = .short) ∧ ∃ z, w = .int z) ∨ (i = .lreturn ∧ t = .long ∧ ∃ z, w = .long z) ∨ (i = .dreturn ∧ t = .double ∧ ∃ z, w = .double z) ∨ (i = .freturn ∧ t = .float ∧ ∃ z, w = .float z) ∨ (i = .areturn ∧ t.isReference = true ∧ w.isRef = true))
    (hd : decode bytes pc = .ok (i, 1)) (hQ : Q (some w) T.heap) (hk : kc ≤ k) (hj : ks ≤ j) : Goes p e below (En s n0 k j Q) (T.setTop (mkF m pc ls (w :: st))) :=
  g_leave W (fun q => nomatch q) hQ hk hj fun fs hr => by
    have hret := W.hret
    have hx := W.hx
    have hby := W.hby
    obtain ⟨_, locs, X, N⟩ := W
    exact retOut X hx hret hn hi (hb hby hd) hr
theorem g_ireturn (W : Wk Z y bytes ml (some .int) n0 p l e R s m args below meth c T kc ks) {x : Int32} (hd : decode bytes pc = .ok (.ireturn, 1)) (hQ : Q (some (.int x)) T.heap) (hk : kc ≤ k) (hj : ks ≤ j) : Goes p e below (En s n0 k j Q) (T.setTop (mkF m pc ls (.int x :: st))) :=
  g_ret W rfl (Or.inl ⟨rfl, Or.inl rfl, _, rfl⟩) hd hQ hk hj
theorem g_zreturn (W : Wk Z y bytes ml (some .boolean) n0 p l e R s m args below meth c T kc ks) {x : Int32} (h01 : x &&& 1 = x) (hd : decode bytes pc = .ok (.ireturn, 1)) (hQ : Q (some (.int x)) T.heap) (hk : kc ≤ k) (hj : ks ≤ j) : Goes p e below (En s n0 k j Q) (T.setTop (mkF m pc ls (.int x :: st))) :=
  g_ret W (by show Value.int (x &&& 1) = _; rw [h01]) (Or.inl ⟨rfl, Or.inr (Or.inl rfl), _, rfl⟩) hd hQ hk hj
theorem g_areturn {t : FieldType} (W : Wk Z y bytes ml (some t) n0 p l e R s m args below meth c T kc ks) {v : Value} (ht : t.isReference = true) (hr : v.isRef = true) (hd : decode bytes pc = .ok (.areturn, 1)) (hQ : Q (some v) T.heap) (hk : kc ≤ k) (hj : ks ≤ j) : Goes p e below (En s n0 k j Q) (T.setTop (mkF m pc ls (v :: st))) :=
  g_ret W (by cases t <;> first | (cases ht; done) | rfl) (Or.inr (Or.inr (Or.inr (Or.inr ⟨rfl, ht, hr⟩)))) hd hQ hk hj
theorem g_dreturn (W : Wk Z y bytes ml (some .double) n0 p l e R s m args below meth c T kc ks) {x : UInt64} (hd : decode bytes pc = .ok (.dreturn, 1)) (hQ : Q (some (.double x)) T.heap) (hk : kc ≤ k) (hj : ks ≤ j) : Goes p e below (En s n0 k j Q) (T.setTop (mkF m pc ls (.double x :: st))) :=
  g_ret W rfl (Or.inr (Or.inr (Or.inl ⟨rfl, rfl, _, rfl⟩))) hd hQ hk hj
/-! ### the head of a body -/
theorem con_of {ws : List Cond} {rm : Room} {as : Array Value} {h0 : Heap} {Post : Option Value → Heap → Prop} (hpn : plainFor y = true)
    (body : ∀ (p : Program) (e : Env) (s : State) (m : MethodId) (below : List Frame) (meth : Method) (c : Code) (T : State), Wk Z y bytes ml ret n0 p l e rm s m as below meth c T 0 0 → T.heap = h0 → Goes p e below (En s n0 rm.cells rm.slots Post) (T.setTop (entryFrame m as ml))) :
    Con l Z n0 y ws bytes ml ret rm as h0 Post := by
  refine MetFree.of_bodySF hpn hisR ?_
  intro p e s m args below meth c s₁ Bd hml0 hP hK
  obtain ⟨rfl, hZ, hh⟩ := hP
  obtain ⟨s₂, v, L, g1, g2, g3, g4, g5⟩ := body p e s m below meth c s₁ ⟨⟨Bd.exec, hZ, findClass_of_methodNamed Bd.named, Bd.bytes, hml0, Bd.returns, Bd.notSynchronized, (name_of_methodNamed Bd.named Bd.method).1⟩, [], Stand.of_body Bd, Fr.nil n0⟩ (by rw [← hh, Bd.state]; rfl)
  exact ⟨s₂, _, g1, g2, g3, v, L, rfl, g4, g5⟩
theorem g_cast {g g' : JFrame} (q : g = g') (K : Goes p e below E (T.setTop g')) : Goes p e below E (T.setTop g) := q ▸ K
/-! ### constants of the pool -/
theorem g_ldc2Double (W : Wk Z y bytes ml ret n0 p l e R s m args below meth c T kc ks) {ix : Nat} {v : UInt64} (w : (Cond.constantDouble y.cls ix v).before a0 Z = true) (hd : decode bytes pc = .ok (.ldc2_w ix, 3)) (hpc : pc + 3 = pc') (K : Goes p e below E (T.setTop (mkF m pc' ls (.double v :: st)))) : Goes p e below E (T.setTop (mkF m pc ls st)) := by
  subst hpc
  have hx := W.hx; have hby := W.hby; have hown := W.hown; have hZ := W.hZ
  obtain ⟨_, locs, X, N⟩ := W
  exact K.back fun _ r => X.ldc2DoubleC hx hown (mvT hZ w) (g := mkF m pc ls st) rfl (hb hby hd) _ r
theorem g_ldcFloat (W : Wk Z y bytes ml ret n0 p l e R s m args below meth c T kc ks) {ix : Nat} {v : UInt32} (w : (Cond.constantFloat y.cls ix v).before a0 Z = true) (hd : decode bytes pc = .ok (.ldc ix, 2)) (hpc : pc + 2 = pc') (K : Goes p e below E (T.setTop (mkF m pc' ls (.float v :: st)))) : Goes p e below E (T.setTop (mkF m pc ls st)) := by
  subst hpc
  have hx := W.hx; have hby := W.hby; have hown := W.hown; have hZ := W.hZ
  obtain ⟨_, locs, X, N⟩ := W
  exact K.back fun _ r => X.ldcFloatC hx hown (mvT hZ w) (g := mkF m pc ls st) rfl (hb hby hd) _ r
/-! ### the heap: a list of places, each with what its cell is -/
abbrev HRow := Addr × (Cell → Prop)
/-- what was there at the start Z is as it was -/
def Bs (Z : State) (n0 : Nat) (h : Heap) : Prop := n0 ≤ h.size ∧ Z.heap.size ≤ n0 ∧ Ext Z.heap h
def Hp (Z : State) (n0 : Nat) (h : Heap) (L : List HRow) : Prop := Bs Z n0 h ∧ (L.map (·.1)).Nodup ∧ ∀ r ∈ L, n0 ≤ r.1 ∧ ∃ c : Cell, h[r.1]? = some c ∧ r.2 c
abbrev FR := String × String × String × Value
def FldC (Z : State) (f : FR) (c : Cell) : Prop := ∃ (cf : ClassId) (k : Class) (i : Nat) (fd : Field), Z.fieldFound? f.1 f.2.1 f.2.2.1 = some (cf, k, i, fd) ∧ fd.isStatic = false ∧ Z.vm.assignable c.cls cf = true ∧ c.slots[fd.slot]? = some f.2.2.2
def ObC (Z : State) (C : String) (fs : List FR) (c : Cell) : Prop :=
  (∃ k : Class, Z.vm.findClass C = some c.cls ∧ Z.vm.classes[c.cls]? = some k ∧ (k.kind = .ordinary → c.slots.size = k.instanceTypes.size)) ∧ c.vm ≠ .unknown ∧ c.vm.isStatics = false ∧ (∀ f ∈ fs, FldC Z f c) ∧ (fs.map fun f => RoadKit.slotOf Z f.1 f.2.1 f.2.2.1).Nodup
def ArC (Z : State) (ty : FieldType) (vs : List Value) (c : Cell) : Prop := Z.isArrayOf c ty ∧ c.vm ≠ .unknown ∧ c.slots = vs.toArray ∧ vs.length < 2 ^ 31
section Heap
variable {h h' : Heap} {L : List HRow} {a : Addr} {P P' : Cell → Prop} {cell : Cell} {i jx : Nat} {C O n d R0 : String} {fs : List FR} {v w : Value} {vs : List Value} {ty : FieldType}
theorem Bs.start : Bs Z Z.heap.size Z.heap := ⟨Nat.le_refl _, Nat.le_refl _, Nat.le_refl _, fun _ _ q => q⟩
theorem Bs.ext (q : Bs Z n0 h) (E : Ext h h') : Bs Z n0 h' := ⟨Nat.le_trans q.1 E.1, q.2.1, Nat.le_trans q.2.2.1 E.1, fun a c r => E.2 a c (q.2.2.2 a c r)⟩
theorem Bs.put (q : Bs Z n0 h) (ha : n0 ≤ a) (c' : Cell) : Bs Z n0 (h.setIfInBounds a c') := by
  refine ⟨by simpa using q.1, q.2.1, by simpa using q.2.2.1, fun x c r => ?_⟩
  have hx := (Array.getElem?_eq_some_iff.mp r).1
  have := q.2.1
  rw [Array.getElem?_setIfInBounds_ne (by omega)]; exact q.2.2.2 x c r
theorem Hp.nil (q : Bs Z n0 h) : Hp Z n0 h [] := ⟨q, List.nodup_nil, fun _ r => nomatch r⟩
theorem Hp.get (H : Hp Z n0 h L) (hi : L[i]? = some (a, P)) : n0 ≤ a ∧ ∃ c : Cell, h[a]? = some c ∧ P c := H.2.2 (a, P) (List.mem_of_getElem? hi)
theorem map_set_same {α β : Type} (f : α → β) : ∀ (L : List α) (i : Nat) (x x' : α), L[i]? = some x → f x' = f x → (L.set i x').map f = L.map f
  | [], _, _, _, h, _ => by simp at h
  | z :: L, 0, x, x', h, e => by simp at h; subst h; simp [e]
  | z :: L, i + 1, x, x', h, e => by simp at h; simp [map_set_same f L i x x' h e]
theorem nodup_inj {α : Type} {l : List α} (h : l.Nodup) {i j : Nat} {x : α} (hi : l[i]? = some x) (hj : l[j]? = some x) : i = j := (List.getElem?_inj (List.getElem?_eq_some_iff.mp hi).1 h).mp (hi.trans hj.symm)
theorem erase_perm {α : Type} : ∀ (L : List α) (i : Nat) (x : α), L[i]? = some x → L.Perm (x :: L.eraseIdx i)
  | [], _, _, h => by simp at h
  | z :: L, 0, x, h => by simp at h; subst h; exact List.Perm.refl _
  | z :: L, i + 1, x, h => by
    simp at h
    exact ((erase_perm L i x h).cons z).trans (List.Perm.swap x z _)
theorem Hp.put (H : Hp Z n0 h L) (hi : L[i]? = some (a, P)) {c' : Cell} (hP : P' c') : Hp Z n0 (h.setIfInBounds a c') (L.set i (a, P')) := by
  obtain ⟨h1, h2, h3⟩ := H
  obtain ⟨q1, c0, q2, -⟩ := Hp.get ⟨h1, h2, h3⟩ hi
  have hlt := (Array.getElem?_eq_some_iff.mp q2).1
  refine ⟨h1.put q1 c', by rw [map_set_same (·.1) L i (a, P) (a, P') hi rfl]; exact h2, fun r hr => ?_⟩
  obtain ⟨jj, hj, hjr⟩ := List.mem_iff_getElem.mp hr
  have hjL : jj < L.length := by simpa using hj
  by_cases e : jj = i
  · subst e
    rw [List.getElem_set_self] at hjr
    subst hjr
    exact ⟨q1, c', by simp [hlt], hP⟩
  · rw [List.getElem_set_ne (Ne.symm e)] at hjr
    have hm : r ∈ L := hjr ▸ List.getElem_mem hjL
    obtain ⟨g1, c1, g2, g3⟩ := h3 r hm
    refine ⟨g1, c1, ?_, g3⟩
    have hne : a ≠ r.1 := fun q => by
      have e1 : (L.map (·.1))[i]? = some a := by rw [List.getElem?_map, hi]; rfl
      have e2 : (L.map (·.1))[jj]? = some a := by rw [List.getElem?_map, List.getElem?_eq_getElem hjL, hjr, q]; rfl
      exact e (nodup_inj h2 e2 e1)
    rw [Array.getElem?_setIfInBounds_ne hne]; exact g2
theorem Hp.push (H : Hp Z n0 h L) (E : Ext h h') {c : Cell} (hc : h'[h.size]? = some c) (hP : P c) : Hp Z n0 h' ((h.size, P) :: L) := by
  refine ⟨H.1.ext E, ?_, fun r hr => ?_⟩
  · rw [List.map_cons, List.nodup_cons]
    refine ⟨fun q => ?_, H.2.1⟩
    obtain ⟨r, hr, e⟩ := List.mem_map.mp q
    obtain ⟨-, c1, g2, -⟩ := H.2.2 r hr
    have := (Array.getElem?_eq_some_iff.mp g2).1
    have e' : r.1 = h.size := e
    rw [e'] at this; exact Nat.lt_irrefl _ this
  · rcases List.mem_cons.mp hr with rfl | hr
    · exact ⟨H.1.1, c, hc, hP⟩
    · obtain ⟨g1, c1, g2, g3⟩ := H.2.2 r hr
      exact ⟨g1, c1, E.2 _ _ g2, g3⟩
theorem Hp.perm {L' : List HRow} (H : Hp Z n0 h L) (q : L.Perm L') : Hp Z n0 h L' := ⟨H.1, (q.map _).nodup_iff.mp H.2.1, fun r hr => H.2.2 r (q.mem_iff.mpr hr)⟩
theorem Hp.front {r : HRow} (H : Hp Z n0 h L) (hi : L[i]? = some r) {L' : List HRow} (hL : r :: L.eraseIdx i = L') : Hp Z n0 h L' := by
  subst hL
  exact H.perm (erase_perm L i r hi)
theorem Hp.imp (H : Hp Z n0 h L) (hi : L[i]? = some (a, P)) (q : ∀ c, P c → P' c) : Hp Z n0 h (L.set i (a, P')) := by
  obtain ⟨q1, c0, q2, q3⟩ := H.get hi
  have := H.put hi (q c0 q3)
  have e : h.setIfInBounds a c0 = h := by
    apply Array.ext_getElem?; intro x
    by_cases z : a = x
    · subst z; simp [(Array.getElem?_eq_some_iff.mp q2).1, ← q2]
    · rw [Array.getElem?_setIfInBounds_ne z]
  rw [e] at this; exact this
theorem Hp.ne (H : Hp Z n0 h L) {b : Addr} (hi : L[i]? = some (a, P)) (hj : L[jx]? = some (b, P')) (hne : i ≠ jx) : a ≠ b := fun q => by
  have e1 : (L.map (·.1))[i]? = some a := by rw [List.getElem?_map, hi]; rfl
  have e2 : (L.map (·.1))[jx]? = some a := by rw [List.getElem?_map, hj, q]; rfl
  exact hne (nodup_inj H.2.1 e1 e2)
theorem FldC.fld {f : FR} (F : FldC Z f cell) (hc : h[a]? = some cell) (hu : cell.vm ≠ .unknown) (hst : cell.vm.isStatics = false) : Fld Z h a f.1 f.2.1 f.2.2.1 f.2.2.2 := by
  obtain ⟨cf, k, i, fd, h1, h2, h3, h4⟩ := F
  exact ⟨cell, cf, k, i, fd, hc, h1, h2, hu, hst, h3, h4⟩
theorem ObC.exa (F : ObC Z C fs cell) (hc : h[a]? = some cell) : Exa Z h a C := by
  obtain ⟨⟨k, h1, h2, h3⟩, h4, h5, -⟩ := F
  exact ⟨cell, k, hc, h1, h2, h5, h3⟩
theorem ObC.put (F : ObC Z C fs cell) (hj : fs[jx]? = some (O, n, d, v)) : ObC Z C (fs.set jx (O, n, d, w)) (cell.setSlot (RoadKit.slotOf Z O n d) w) := by
  obtain ⟨⟨k, h1, h2, h3⟩, h4, h5, h6, h7⟩ := F
  refine ⟨⟨k, h1, h2, fun q => by rw [sz_set]; exact h3 q⟩, h4, h5, fun f hf => ?_, by rw [map_set_same (fun f : FR => RoadKit.slotOf Z f.1 f.2.1 f.2.2.1) fs jx (O, n, d, v) (O, n, d, w) hj rfl]; exact h7⟩
  obtain ⟨hjL, hjE⟩ := List.getElem?_eq_some_iff.mp hj
  obtain ⟨ii, hi, hie⟩ := List.mem_iff_getElem.mp hf
  have hiL : ii < fs.length := by simpa using hi
  by_cases e : ii = jx
  · subst e
    rw [List.getElem_set_self] at hie
    subst hie
    obtain ⟨cf, kf, i, fd, g1, g2, g3, g4⟩ := h6 _ (hjE ▸ List.getElem_mem hjL)
    refine ⟨cf, kf, i, fd, g1, g2, g3, ?_⟩
    have es : RoadKit.slotOf Z O n d = fd.slot := by simp only [RoadKit.slotOf]; rw [show Z.fieldFound? O n d = _ from g1]; rfl
    have hlt := (Array.getElem?_eq_some_iff.mp g4).1
    simp [Cell.setSlot, es, hlt]
  · rw [List.getElem_set_ne (Ne.symm e)] at hie
    have hm : f ∈ fs := hie ▸ List.getElem_mem hiL
    obtain ⟨cf, kf, i, fd, g1, g2, g3, g4⟩ := h6 f hm
    refine ⟨cf, kf, i, fd, g1, g2, g3, ?_⟩
    have es : RoadKit.slotOf Z f.1 f.2.1 f.2.2.1 = fd.slot := by simp only [RoadKit.slotOf]; rw [g1]; rfl
    have hne : RoadKit.slotOf Z O n d ≠ fd.slot := fun q => by
      have e1 : (fs.map fun f => RoadKit.slotOf Z f.1 f.2.1 f.2.2.1)[jx]? = some fd.slot := by rw [List.getElem?_map, hj, ← q]; rfl
      have e2 : (fs.map fun f => RoadKit.slotOf Z f.1 f.2.1 f.2.2.1)[ii]? = some fd.slot := by rw [List.getElem?_map, List.getElem?_eq_getElem hiL, hie, ← es]; rfl
      exact e (nodup_inj h7 e2 e1)
    show (cell.slots.setIfInBounds _ w)[fd.slot]? = _
    rw [Array.getElem?_setIfInBounds_ne hne]; exact g4
/-- what a class's layout words give: each field laid, its first value, the names apart -/
def LaidAll (Z : State) (a0 : Array Value) (C : String) (fs : List FR) : Prop := ∀ f ∈ fs, Laid Z a0 C f.1 f.2.1 f.2.2.1 ∧ ∃ t, parseFieldDescriptor f.2.2.1 = some t ∧ f.2.2.2 = defaultValue t
theorem LaidAll.nil : LaidAll Z a0 C [] := fun _ q => nomatch q
theorem LaidAll.cons {t : FieldType} (q : Laid Z a0 C O n d) (ht : parseFieldDescriptor d = some t) (hv : v = defaultValue t) (r : LaidAll Z a0 C fs) : LaidAll Z a0 C ((O, n, d, v) :: fs) := fun f hf => by
  rcases List.mem_cons.mp hf with rfl | hf
  · exact ⟨q, t, ht, hv⟩
  · exact r f hf
theorem LaidAll.slots (H : LaidAll Z a0 C fs) (q : (fs.map (·.2.1)).Nodup) : (fs.map fun f => RoadKit.slotOf Z f.1 f.2.1 f.2.2.1).Nodup := by
  induction fs with
  | nil => exact List.nodup_nil
  | cons f fs ih =>
    rw [List.map_cons, List.nodup_cons] at q ⊢
    refine ⟨fun z => ?_, ih (fun x hx => H x (List.mem_cons_of_mem _ hx)) q.2⟩
    obtain ⟨g, hg, e⟩ := List.mem_map.mp z
    obtain ⟨L1, t1, p1, -⟩ := H f (List.mem_cons_self ..)
    obtain ⟨L2, t2, p2, -⟩ := H g (List.mem_cons_of_mem _ hg)
    exact slot_ne L2 L1 (fun u => q.1 (List.mem_map.mpr ⟨g, hg, u⟩)) p2 p1 e
/-! ### the steps that read or write it -/
theorem g_getf (W : Wk Z y bytes ml ret n0 p l e R s m args below meth c T kc ks) {ix : Nat} (w : (Cond.fieldLink y.cls ix R0 n d).before a0 Z = true) (via : Via Z R0 O n d) (H : Hp Z n0 T.heap L) (hi : L[i]? = some (a, ObC Z C fs)) (hj : fs[jx]? = some (O, n, d, v)) (hd : decode bytes pc = .ok (.getfield ix, 3)) (hpc : pc + 3 = pc')
    (K : ∀ T', Wk Z y bytes ml ret n0 p l e R s m args below meth c T' kc ks → Hp Z n0 T'.heap L → Goes p e below E (T'.setTop (mkF m pc' ls (v :: st)))) : Goes p e below E (T.setTop (mkF m pc ls (.ref a :: st))) := by
  subst hpc
  have hx := W.hx; have hby := W.hby; have hown := W.hown; have hZ := W.hZ
  obtain ⟨A, locs, X, N⟩ := W
  obtain ⟨-, cl, q1, q2⟩ := H.get hi
  have F := (q2.2.2.2.1 _ (List.mem_of_getElem? hj)).fld q1 q2.2.1 q2.2.2.1
  obtain ⟨T', X', e', st'⟩ := getF X hx hZ hown (host := "") (Or.inl w) via rfl F (g := mkF m pc ls (.ref a :: st)) rfl rfl (hb hby hd)
  exact (K T' ⟨A, locs, X', N⟩ (e' ▸ H)).back st'
theorem g_putf (W : Wk Z y bytes ml ret n0 p l e R s m args below meth c T kc ks) {ix kk : Nat} (wd : (Cond.fieldLink y.cls ix R0 n d).before a0 Z = true) (via : Via Z R0 O n d) (wl : (Cond.lays C O n d).before a0 Z = true ∨ ((Cond.laysFinal C O n d).before a0 Z = true ∧ y.cls = O ∧ y.name = "<init>")) (wi : (Cond.instantiable C kk).before a0 Z = true) (hty : parseFieldDescriptor d = some ty) (hn : narrow ty w = w) (hf : fits ty w = true)
    (H : Hp Z n0 T.heap L) (hi : L[i]? = some (a, ObC Z C fs)) (hj : fs[jx]? = some (O, n, d, v)) (hd : decode bytes pc = .ok (.putfield ix, 3)) (hpc : pc + 3 = pc') {L' : List HRow} (hL : L.set i (a, ObC Z C (fs.set jx (O, n, d, w))) = L')
    (K : ∀ T', Wk Z y bytes ml ret n0 p l e R s m args below meth c T' kc ks → Hp Z n0 T'.heap L' → Goes p e below E (T'.setTop (mkF m pc' ls st))) : Goes p e below E (T.setTop (mkF m pc ls (w :: .ref a :: st))) := by
  subst hpc hL
  have hx := W.hx; have hby := W.hby; have hown := W.hown; have hZ := W.hZ; have hnm := W.hnm
  obtain ⟨A, locs, X, N⟩ := W
  obtain ⟨hn0, cl, q1, q2⟩ := H.get hi
  have F := (q2.2.2.2.1 _ (List.mem_of_getElem? hj)).fld q1 q2.2.1 q2.2.2.1
  obtain ⟨T', h', X', e', Wr', st'⟩ := putF X hx hZ hown (host := "") (Or.inl wd) via rfl F (q2.exa q1) (wl.imp id fun q => ⟨q.1, q.2.1, hnm.trans q.2.2⟩) wi hty hn hf (g := mkF m pc ls (w :: .ref a :: st)) rfl rfl (hb hby hd)
  obtain ⟨cl', g1, -, -, rfl⟩ := Wr'
  cases q1.symm.trans g1
  exact (K T' ⟨A, _, X', Fr.snoc X' N hn0⟩ (by rw [e']; exact H.put hi (q2.put hj))).back st'
theorem g_new (W : Wk Z y bytes ml ret n0 p l e R s m args below meth c T kc ks) {ix nn : Nat} (w : (Cond.classLink y.cls ix C).before a0 Z = true) (wi : (Cond.instantiable C nn).before a0 Z = true) (wz : (Cond.initialized C).before a0 Z = true) (la : LaidAll Z a0 C fs) (nd : (fs.map (·.2.1)).Nodup) (H : Hp Z n0 T.heap L) (hd : decode bytes pc = .ok (.new ix, 3)) (hpc : pc + 3 = pc')
    {kc' ks' : Nat} (hkc : kc + 1 = kc') (hks : ks + nn = ks') (hc : kc' ≤ R.cells) (hl : ks' ≤ R.slots)
    (K : ∀ T' a, Wk Z y bytes ml ret n0 p l e R s m args below meth c T' kc' ks' → Hp Z n0 T'.heap ((a, ObC Z C fs) :: L) → Goes p e below E (T'.setTop (mkF m pc' ls (.ref a :: st)))) : Goes p e below E (T.setTop (mkF m pc ls st)) := by
  subst hpc hkc hks
  have hx := W.hx; have hby := W.hby; have hown := W.hown; have hZ := W.hZ
  obtain ⟨A, locs, X, N⟩ := W
  obtain ⟨T', h', X', e', E', X1, D, ⟨cell, hcell, hvm, -⟩, st'⟩ := newO X hx hZ hown w wi wz rfl (g := mkF m pc ls st) rfl (hb hby hd) hc hl
  have hob : ObC Z C fs cell := by
    obtain ⟨cell', k', g1, g2, g3, g4, g5⟩ := X1
    cases hcell.symm.trans g1
    refine ⟨⟨k', g2, g3, g5⟩, by rw [hvm]; simp, g4, fun f hf => ?_, la.slots nd⟩
    obtain ⟨Lf, t, ht, hv⟩ := la f hf
    obtain ⟨c2, cf, kf, ii, fd, r1, r2, r3, -, -, r6, r7⟩ := D Lf ht
    cases hcell.symm.trans r1
    exact ⟨cf, kf, ii, fd, r2, r3, r6, by rw [hv]; exact r7⟩
  exact (K T' T.heap.size ⟨A, locs, X', N⟩ (by rw [e']; exact H.push E' hcell hob)).back st'
theorem g_initO (W : Wk Z y bytes ml ret n0 p l e R s m args below meth c T kc ks) {ix : Nat} (w1 : (Cond.methodLink y.cls ix Lib.objectInit).before a0 Z = true) (w2 : (Cond.instanceMethod Lib.objectInit).before a0 Z = true) (w3 : (Cond.code Lib.objectInit ⟨#[0xb1]⟩ 1 none).before a0 Z = true) (H : Hp Z n0 T.heap L) (hls : ls.size = ml) (hd : decode bytes pc = .ok (.invokespecial ix, 3)) (hpc : pc + 3 = pc')
    (hf : 1 ≤ R.frames) {Wn : Nat} (hW : (st.map fun v => v.category).sum ≤ Wn) (hl : Wn + 12 ≤ R.locals)
    (K : ∀ T', Wk Z y bytes ml ret n0 p l e R s m args below meth c T' kc ks → Hp Z n0 T'.heap L → Goes p e below E (T'.setTop (mkF m pc' ls st))) : Goes p e below E (T.setTop (mkF m pc ls (.ref a :: st))) := by
  subst hpc
  have hx := W.hx; have hby := W.hby; have hown := W.hown; have hZ := W.hZ; have hml := W.hml
  obtain ⟨A, locs, X, N⟩ := W
  obtain ⟨T', X', e', st'⟩ := initO X hx hZ hown w1 w2 w3 rfl (g := mkF m pc ls (.ref a :: st)) rfl (by rw [hml]; exact hls) rfl (hb hby hd) hf (W := Wn) (by show 2 * 0 + _ ≤ _; omega) hl
  exact (K T' ⟨A, locs, X', N⟩ (e' ▸ H)).back st'
/-! ### arrays -/
theorem ArC.arr (F : ArC Z ty vs cell) (hc : h[a]? = some cell) : Arr Z h a cell ty := ⟨hc, F.1, F.2.1⟩
theorem idx_ok {x : Int32} (hx : x.toInt = (jx : Int)) (F : ArC Z ty vs cell) (hj : jx < vs.length) : ¬ (x < 0 ∨ cell.slots.size ≤ x.toNatClampNeg) := by
  rw [F.2.2.1]
  have e0 : (0 : Int32).toInt = 0 := rfl
  simp only [Int32.lt_iff_toInt_lt, Int32.toNatClampNeg, List.size_toArray, e0, hx]; omega
theorem idx_nat {x : Int32} (hx : x.toInt = (jx : Int)) : x.toNatClampNeg = jx := by simp only [Int32.toNatClampNeg, hx]; omega
theorem g_newarr (W : Wk Z y bytes ml ret n0 p l e R s m args below meth c T kc ks) {aty : ArrayType} (w : (Cond.arrayClass (newarray.typeOf aty)).before a0 Z = true) (H : Hp Z n0 T.heap L) {x : Int32} (hx0 : ¬ x < 0) (hvs : List.replicate x.toNatClampNeg (defaultValue (newarray.typeOf aty)) = vs) {cap : Nat} (hcap : vs.length ≤ cap) (hcb : cap * 8 ≤ 536870912) (hd : decode bytes pc = .ok (.newarray aty, 2)) (hpc : pc + 2 = pc')
    {kc' ks' : Nat} (hkc : kc + 1 = kc') (hks : ks + cap = ks') (hc : kc' ≤ R.cells) (hl : ks' ≤ R.slots)
    (K : ∀ T' a, Wk Z y bytes ml ret n0 p l e R s m args below meth c T' kc' ks' → Hp Z n0 T'.heap ((a, ArC Z (newarray.typeOf aty) vs) :: L) → Goes p e below E (T'.setTop (mkF m pc' ls (.ref a :: st)))) : Goes p e below E (T.setTop (mkF m pc ls (.int x :: st))) := by
  subst hpc hkc hks hvs
  have hx := W.hx; have hby := W.hby; have hZ := W.hZ
  obtain ⟨A, locs, X, N⟩ := W
  rw [List.length_replicate] at hcap
  obtain ⟨T', h', cA, X', e', E', A1, st'⟩ := newP X hx hZ w rfl (g := mkF m pc ls (.int x :: st)) rfl (hb hby hd) rfl hx0 hcap hcb hc hl
  have hl31 : (List.replicate x.toNatClampNeg (defaultValue (newarray.typeOf aty))).length < 2 ^ 31 := by rw [List.length_replicate]; omega
  exact (K T' T.heap.size ⟨A, locs, X', N⟩ (by rw [e']; exact H.push E' A1.1 ⟨A1.2.1, A1.2.2, by simp [newA], hl31⟩)).back st'
theorem g_arrlen (W : Wk Z y bytes ml ret n0 p l e R s m args below meth c T kc ks) (H : Hp Z n0 T.heap L) (hi : L[i]? = some (a, ArC Z ty vs)) {x : Int32} (hx : vs.length.toInt32 = x) (hd : decode bytes pc = .ok (.arraylength, 1)) (hpc : pc + 1 = pc') (K : Goes p e below E (T.setTop (mkF m pc' ls (.int x :: st)))) : Goes p e below E (T.setTop (mkF m pc ls (.ref a :: st))) := by
  subst hpc hx
  have hx := W.hx; have hby := W.hby; have hZ := W.hZ
  obtain ⟨A, locs, X, N⟩ := W
  obtain ⟨-, cl, q1, q2⟩ := H.get hi
  refine K.back fun t r => X.arraylength hx q1 (State.isArrayOf_alike hZ.alike q2.1) (g := mkF m pc ls (.ref a :: st)) rfl rfl (hb hby hd) t ?_
  have e : cl.slots.size = vs.length := by rw [q2.2.2.1]; simp
  rw [e]; exact r
end Heap
/-! ### calls by contract -/
section Calls
variable {y' : MethodName} {bytes' : ByteArray} {ml' : Nat} {ret' : Option FieldType} {rm : Room} {Post : Option Value → Heap → Prop} {argsL stk : List Value} {ix : Nat} {Wn kc' ks' : Nat} {ps : List FieldType} {rt : Option FieldType}
theorem g_callS (W : Wk Z y bytes ml ret n0 p l e R s m args below meth c T kc ks) (w1 : (Cond.methodLink y.cls ix y').before a0 Z = true) (w2 : (Cond.static y').before a0 Z = true) (w3 : (Cond.initialized y'.cls).before a0 Z = true) (w4 : (Cond.code y' bytes' ml' ret').before a0 Z = true) (hy : y'.cls ≠ "java/lang/invoke/MethodHandle" ∧ y'.cls ≠ "java/lang/invoke/VarHandle")
    (con : Con l Z n0 y' [] bytes' ml' ret' rm argsL.toArray T.heap Post) (hpd : parseMethodDescriptor y'.desc = some ⟨ps, rt⟩) (hlen : argsL.length = ps.length) (hstk : stk = argsL.reverse ++ st) (hls : ls.size = ml) (hd : decode bytes pc = .ok (.invokestatic ix, 3)) (hpc : pc + 3 = pc')
    (hf : rm.frames + 1 ≤ R.frames) (hW : (st.map fun v => v.category).sum ≤ Wn) (hl : Wn + (ml' + 11) + rm.locals ≤ R.locals) (hkc : kc + rm.cells = kc') (hks : ks + rm.slots = ks') (hc : kc' ≤ R.cells) (hs : ks' ≤ R.slots)
    (K : ∀ T' v, Wk Z y bytes ml ret n0 p l e R s m args below meth c T' kc' ks' → Post v T'.heap → Goes p e below E (T'.setTop (mkF m pc' ls (v.toList ++ st)))) : Goes p e below E (T.setTop (mkF m pc ls stk)) := by
  subst hpc hkc hks hstk
  have hx := W.hx; have hby := W.hby; have hown := W.hown; have hZ := W.hZ; have hml := W.hml
  obtain ⟨A, locs, X, N⟩ := W
  obtain ⟨v, vm1, ⟨T', L', kk, jj⟩, -, X', ⟨Lc, ⟨hN, hQ⟩, l1, l2, l3⟩, st'⟩ := Jvm.LawKit.callS X hx hown (mvT hZ w1) (mvT hZ w2) (mvT hZ w3) (mvT hZ w4) hy (backOf (Q := fun v h L => Fr n0 L ∧ Post v h) (W := Wn) con hZ w4 w3 hf hl) (g := mkF m pc ls (argsL.reverse ++ st)) rfl (by rw [hml]; exact hls) (argsL := argsL) (rest := st) (lenOf hpd hlen) rfl (by show 2 * 0 + _ ≤ _; omega) (hb hby hd) (fun _ _ => ⟨rfl, rfl, hc, hs⟩)
  dsimp only [Pt.U, Pt.locs, Pt.cells, Pt.slots] at X' l1 l2 l3 hQ st'
  subst l1 l2 l3
  exact (K T' v ⟨A, _, X', N.app hN⟩ hQ).back st'
theorem g_callI (W : Wk Z y bytes ml ret n0 p l e R s m args below meth c T kc ks) (hin : y'.name = "<init>") (w1 : (Cond.methodLink y.cls ix y').before a0 Z = true) (w2 : (Cond.instanceMethod y').before a0 Z = true) (w3 : (Cond.initialized y'.cls).before a0 Z = true) (w4 : (Cond.code y' bytes' ml' none).before a0 Z = true) (hy : y'.cls ≠ "java/lang/invoke/MethodHandle" ∧ y'.cls ≠ "java/lang/invoke/VarHandle")
    {a : Addr} (con : Con l Z n0 y' [] bytes' ml' none rm (.ref a :: argsL).toArray T.heap Post) (hpd : parseMethodDescriptor y'.desc = some ⟨ps, rt⟩) (hlen : argsL.length = ps.length) (hstk : stk = argsL.reverse ++ .ref a :: st) (hls : ls.size = ml) (hd : decode bytes pc = .ok (.invokespecial ix, 3)) (hpc : pc + 3 = pc')
    (hf : rm.frames + 1 ≤ R.frames) (hW : (st.map fun v => v.category).sum ≤ Wn) (hl : Wn + (ml' + 11) + rm.locals ≤ R.locals) (hkc : kc + rm.cells = kc') (hks : ks + rm.slots = ks') (hc : kc' ≤ R.cells) (hs : ks' ≤ R.slots)
    (K : ∀ T' v, Wk Z y bytes ml ret n0 p l e R s m args below meth c T' kc' ks' → Post v T'.heap → Goes p e below E (T'.setTop (mkF m pc' ls (v.toList ++ st)))) : Goes p e below E (T.setTop (mkF m pc ls stk)) := by
  subst hpc hkc hks hstk
  have hx := W.hx; have hby := W.hby; have hown := W.hown; have hZ := W.hZ; have hml := W.hml
  obtain ⟨A, locs, X, N⟩ := W
  obtain ⟨v, vm1, ⟨T', L', kk, jj⟩, -, X', ⟨Lc, ⟨hN, hQ⟩, l1, l2, l3⟩, st'⟩ := X.specialBack hx (y := y') hin hown (mvT hZ w1) (mvT hZ w2) (mvT hZ w4) hy (backOf (Q := fun v h L => Fr n0 L ∧ Post v h) (W := Wn) con hZ w4 w3 hf hl) (g := mkF m pc ls (argsL.reverse ++ .ref a :: st)) rfl (by rw [hml]; exact hls) (Steps.refl _) (a := a) (argsL := argsL) (rest := st) (lenOf hpd hlen) rfl (by show 2 * 0 + _ ≤ _; omega) (hb hby hd) (fun _ _ => ⟨rfl, rfl, hc, hs⟩)
  dsimp only [Pt.U, Pt.locs, Pt.cells, Pt.slots] at X' l1 l2 l3 hQ st'
  subst l1 l2 l3
  exact (K T' v ⟨A, _, X', N.app hN⟩ hQ).back fun t r => st'.trans r
theorem g_callV (W : Wk Z y bytes ml ret n0 p l e R s m args below meth c T kc ks) {C : String} {fs : List FR} {L : List HRow} {i : Nat} (w1 : (Cond.methodLink y.cls ix y').before a0 Z = true) (w2 : (Cond.declares y').before a0 Z = true) (w3 : (Cond.selects C y' y').before a0 Z = true) (w4 : (Cond.instanceMethod y').before a0 Z = true) (w5 : (Cond.initialized y'.cls).before a0 Z = true) (w6 : (Cond.code y' bytes' ml' ret').before a0 Z = true) (hy : y'.cls ≠ "java/lang/invoke/MethodHandle" ∧ y'.cls ≠ "java/lang/invoke/VarHandle")
    {a : Addr} (H : Hp Z n0 T.heap L) (hi : L[i]? = some (a, ObC Z C fs)) (con : Con l Z n0 y' [] bytes' ml' ret' rm (.ref a :: argsL).toArray T.heap Post) (hpd : parseMethodDescriptor y'.desc = some ⟨ps, rt⟩) (hlen : argsL.length = ps.length) (hstk : stk = argsL.reverse ++ .ref a :: st) (hls : ls.size = ml) (hd : decode bytes pc = .ok (.invokevirtual ix, 3)) (hpc : pc + 3 = pc')
    (hf : rm.frames + 1 ≤ R.frames) (hW : (st.map fun v => v.category).sum ≤ Wn) (hl : Wn + (ml' + 11) + rm.locals ≤ R.locals) (hkc : kc + rm.cells = kc') (hks : ks + rm.slots = ks') (hc : kc' ≤ R.cells) (hs : ks' ≤ R.slots)
    (K : ∀ T' v, Wk Z y bytes ml ret n0 p l e R s m args below meth c T' kc' ks' → Post v T'.heap → Goes p e below E (T'.setTop (mkF m pc' ls (v.toList ++ st)))) : Goes p e below E (T.setTop (mkF m pc ls stk)) := by
  subst hpc hkc hks hstk
  have hx := W.hx; have hby := W.hby; have hown := W.hown; have hZ := W.hZ; have hml := W.hml
  obtain ⟨A, locs, X, N⟩ := W
  obtain ⟨-, cl, q1, q2⟩ := H.get hi
  obtain ⟨cB, kB, b1, b2, b3⟩ := isOf hZ rfl (q2.exa q1)
  obtain ⟨v, vm1, ⟨T', L', kk, jj⟩, -, X', ⟨Lc, ⟨hN, hQ⟩, l1, l2, l3⟩, st'⟩ := X.virtualBack hx (y := y') hown (mvT hZ w1) (mvT hZ w2) (notFace_of_selects (args := #[]) (mvT hZ w3)) (mvT hZ w3) (mvT hZ w4) hy (backOf (Q := fun v h L => Fr n0 L ∧ Post v h) (W := Wn) con hZ w6 w5 hf hl) b1 b3 (g := mkF m pc ls (argsL.reverse ++ .ref a :: st)) rfl (by rw [hml]; exact hls) (Steps.refl _) (argsL := argsL) (rest := st) (lenOf hpd hlen) rfl (by show 2 * 0 + _ ≤ _; omega) (hb hby hd) (fun _ _ => ⟨rfl, rfl, hc, hs⟩)
  dsimp only [Pt.U, Pt.locs, Pt.cells, Pt.slots] at X' l1 l2 l3 hQ st'
  subst l1 l2 l3
  exact (K T' v ⟨A, _, X', N.app hN⟩ hQ).back fun t r => st'.trans r
theorem g_callP (W : Wk Z y bytes ml ret n0 p l e R s m args below meth c T kc ks) {C : String} {fs : List FR} {L : List HRow} {i nn : Nat} (w1 : (Cond.methodLink y.cls ix y').before a0 Z = true) (w2 : (Cond.instanceMethod y').before a0 Z = true) (w3 : (Cond.privateMethod y').before a0 Z = true) (w4 : (Cond.instantiable y'.cls nn).before a0 Z = true) (w5 : (Cond.initialized y'.cls).before a0 Z = true) (w6 : (Cond.code y' bytes' ml' ret').before a0 Z = true) (hy : y'.cls ≠ "java/lang/invoke/MethodHandle" ∧ y'.cls ≠ "java/lang/invoke/VarHandle")
    {a : Addr} (H : Hp Z n0 T.heap L) (hi : L[i]? = some (a, ObC Z C fs)) (con : Con l Z n0 y' [] bytes' ml' ret' rm (.ref a :: argsL).toArray T.heap Post) (hpd : parseMethodDescriptor y'.desc = some ⟨ps, rt⟩) (hlen : argsL.length = ps.length) (hstk : stk = argsL.reverse ++ .ref a :: st) (hls : ls.size = ml) (hd : decode bytes pc = .ok (.invokevirtual ix, 3)) (hpc : pc + 3 = pc')
    (hf : rm.frames + 1 ≤ R.frames) (hW : (st.map fun v => v.category).sum ≤ Wn) (hl : Wn + (ml' + 11) + rm.locals ≤ R.locals) (hkc : kc + rm.cells = kc') (hks : ks + rm.slots = ks') (hc : kc' ≤ R.cells) (hs : ks' ≤ R.slots)
    (K : ∀ T' v, Wk Z y bytes ml ret n0 p l e R s m args below meth c T' kc' ks' → Post v T'.heap → Goes p e below E (T'.setTop (mkF m pc' ls (v.toList ++ st)))) : Goes p e below E (T.setTop (mkF m pc ls stk)) := by
  subst hpc hkc hks hstk
  have hx := W.hx; have hby := W.hby; have hown := W.hown; have hZ := W.hZ; have hml := W.hml
  obtain ⟨A, locs, X, N⟩ := W
  obtain ⟨-, cl, q1, q2⟩ := H.get hi
  have hst : ∀ q, cl.vm ≠ .statics q := fun q hq => by have := q2.2.2.1; rw [hq] at this; cases this
  obtain ⟨mk, methM, hnamed, hmethM, hstM, habM⟩ := Cond.instanceMethod_spec (args := #[]) (mvT hZ w2)
  obtain ⟨methM', cM, hmethM', -, -, -, -, -, -, hsigM⟩ := Cond.code_spec (args := #[]) hnamed (mvT hZ w6)
  cases hmethM.symm.trans hmethM'
  obtain ⟨cP0, kP, hf1, hkP, -, hkPi, -⟩ := Cond.instantiable_spec (mvT hZ w4 (args := #[]))
  cases (findClass_of_methodNamed hnamed).symm.trans hf1
  have hkPi' : kP.isInterface = false := (Bool.or_eq_false_iff.mp hkPi).1
  have hselP : selectMethod e.platform s.vm cl.cls mk = .method mk := selectMethod_private hmethM (Cond.privateMethod_at (mvP hZ w3 (args := #[])) mk methM hnamed hmethM)
  obtain ⟨vm1, X1, hstep1⟩ := X.invokevirtual hx hown (mvT hZ w1) hnamed hmethM hstM hkP hkPi' hy (a := a) (cell := cl) q1 hst hselP hmethM habM hkP hkPi' (g := mkF m pc ls (argsL.reverse ++ .ref a :: st)) rfl (argsL := argsL) (rest := st) (lenOf hpd hlen _ hsigM) rfl (hb hby hd)
  obtain ⟨v, ⟨T', L', kk, jj⟩, X', ⟨Lc, ⟨hN, hQ⟩, l1, l2, l3⟩, st'⟩ := (backOf (Q := fun v h L => Fr n0 L ∧ Post v h) (W := Wn) (len := 3) (p := p) (e := e) (below := below) (args := args) con hZ w6 w5 hf hl) m meth c ⟨T.setVm vm1, locs, kc, ks⟩ (mkF m pc ls st) (.invokevirtual ix) mk (.ref a :: argsL).toArray X1 rfl (by rw [hml]; exact hls) (hb hby hd) (by show 2 * 0 + (st.map fun v => v.category).sum ≤ Wn; omega) (X1.named hnamed) ⟨rfl, rfl, hc, hs⟩
  dsimp only [Pt.U, Pt.locs, Pt.cells, Pt.slots] at X' l1 l2 l3 hQ st'
  subst l1 l2 l3
  exact (K T' v ⟨A, _, X', N.app hN⟩ hQ).back fun t r => ((hstep1 _ fun acts => by rw [doInvoke_state]; exact Steps.refl _).trans st').trans r
end Calls
end Laws
end Jvm.OwnKit


@@BLOCK:NumsL.lean.txt@@
namespace Jvm.OwnKit
open Jvm.Free
/-! ### ints -/
theorem i32_lit {x y : Int32} {k : Int} (h : x.toInt = k) (hy : y.toInt = k) : x = y := Int32.toInt_inj.mp (h.trans hy.symm)
theorem and3 (x : Int32) : x &&& 3 = 0 ∨ x &&& 3 = 1 ∨ x &&& 3 = 2 ∨ x &&& 3 = 3 := by
  have h := Kit.i32_mask x 3 (k := 2) (by decide) (by decide)
  have q : (x &&& 3).toInt = 0 ∨ (x &&& 3).toInt = 1 ∨ (x &&& 3).toInt = 2 ∨ (x &&& 3).toInt = 3 := by omega
  rcases q with q | q | q | q
  · exact Or.inl (i32_lit q (by decide))
  · exact Or.inr (Or.inl (i32_lit q (by decide)))
  · exact Or.inr (Or.inr (Or.inl (i32_lit q (by decide))))
  · exact Or.inr (Or.inr (Or.inr (i32_lit q (by decide))))
end Jvm.OwnKit

namespace Jvm.OwnKit
open Sem ClassFile Op Lib Jvm.Stand Jvm.Free Jvm.LawKit Jvm.RoadKit Jvm.Free.Fl
section Refs
variable {Z : State} {y : MethodName} {bytes : ByteArray} {ml : Nat} {ret : Option FieldType} {n0 : Nat} {p : Program} {l : Launch} {e : Env} {R : Room} {s : State} {m : MethodId} {args : Array Value} {below : List Frame} {meth : Method} {c : Code} {T : State} {kc ks k j : Nat} {Q : Option Value → Heap → Prop} {E : Option Value → State → List Loc → Prop} {pc pc' : Nat} {ls : Array Slot} {st : List Value} {a0 : Array Value}
variable {h h' : Heap} {L : List HRow} {a : Addr} {P P' : Cell → Prop} {cell : Cell} {i jx : Nat} {C O n d R0 K0 : String} {fs : List FR} {v w : Value} {vs : List Value} {ty : FieldType}
/-- an array of references to C -/
def RaC (Z : State) (C : String) (vs : List Value) (c : Cell) : Prop := ArC Z (.object C) vs c ∧ Ovr Z c.cls C
theorem Hp.old (H : Hp Z n0 h L) : Ext Z.heap h := H.1.2.2
theorem Hp.exa (H : Hp Z n0 h L) (hi : L[i]? = some (a, ObC Z C fs)) : Exa Z h a C := by
  obtain ⟨-, cl, q1, q2⟩ := H.get hi
  exact q2.exa q1
theorem Hp.fld (H : Hp Z n0 h L) (hi : L[i]? = some (a, ObC Z C fs)) (hj : fs[jx]? = some (O, n, d, v)) : Fld Z h a O n d v := by
  obtain ⟨-, cl, q1, q2⟩ := H.get hi
  exact (q2.2.2.2.1 _ (List.mem_of_getElem? hj)).fld q1 q2.2.1 q2.2.2.1
theorem Hp.exam (H : Hp Z n0 h L) (hi : (a, ObC Z C fs) ∈ L) : Exa Z h a C := by
  obtain ⟨-, cl, q1, q2⟩ := H.2.2 _ hi
  exact q2.exa q1
theorem Hp.fldm (H : Hp Z n0 h L) (hi : (a, ObC Z C fs) ∈ L) (hj : fs[jx]? = some (O, n, d, v)) : Fld Z h a O n d v := by
  obtain ⟨-, cl, q1, q2⟩ := H.2.2 _ hi
  exact (q2.2.2.2.1 _ (List.mem_of_getElem? hj)).fld q1 q2.2.1 q2.2.2.1
theorem Hp.sink {G R1 F : List HRow} (H : Hp Z n0 h (G ++ (R1 ++ F))) : Hp Z n0 h (R1 ++ (G ++ F)) := H.perm (List.perm_append_comm_assoc G R1 F)
/-- an Integer of the value x: an old one, or one of the rows F -/
def IntF (Z : State) (n0 : Nat) (F : List HRow) (a : Addr) (x : Int32) : Prop := ∀ (h : Heap) (L : List HRow), Hp Z n0 h L → (∀ r ∈ F, r ∈ L) → Exa Z h a "java/lang/Integer" ∧ Fld Z h a "java/lang/Integer" "value" "I" (.int x)
theorem IntF.mono {F F' : List HRow} {x : Int32} (q : IntF Z n0 F a x) (s : ∀ r ∈ F, r ∈ F') : IntF Z n0 F' a x := fun h L H z => q h L H fun r hr => z r (s r hr)
/-! ### branches on references -/
theorem g_ifnullY (W : Wk Z y bytes ml ret n0 p l e R s m args below meth c T kc ks) {o : Int} {pcy : Nat} (hd : decode bytes pc = .ok (.ifnull o, 3)) (hy : (pc : Int) + o = (pcy : Nat)) (K : Goes p e below E (T.setTop (mkF m pcy ls st))) : Goes p e below E (T.setTop (mkF m pc ls (.null :: st))) :=
  K.back fun _ r => XS.ifnullYes W.here W.hx rfl (pc0 := pc) (pc' := pcy) rfl (hb W.hby hd) rfl (by omega) (by omega) r
theorem g_ifnullN (W : Wk Z y bytes ml ret n0 p l e R s m args below meth c T kc ks) {o : Int} (hd : decode bytes pc = .ok (.ifnull o, 3)) (hpc : pc + 3 = pc') (K : Goes p e below E (T.setTop (mkF m pc' ls st))) : Goes p e below E (T.setTop (mkF m pc ls (.ref a :: st))) := by
  subst hpc; exact K.back fun _ r => XS.ifnullNo W.here W.hx rfl (hb W.hby hd) rfl r
theorem g_ifnonnullY (W : Wk Z y bytes ml ret n0 p l e R s m args below meth c T kc ks) {o : Int} {pcy : Nat} (hd : decode bytes pc = .ok (.ifnonnull o, 3)) (hy : (pc : Int) + o = (pcy : Nat)) (K : Goes p e below E (T.setTop (mkF m pcy ls st))) : Goes p e below E (T.setTop (mkF m pc ls (.ref a :: st))) :=
  K.back fun _ r => XT.ifnonnullYes W.here W.hx rfl (pc0 := pc) (pc' := pcy) rfl (hb W.hby hd) rfl (by omega) (by omega) r
theorem g_ifnonnullN (W : Wk Z y bytes ml ret n0 p l e R s m args below meth c T kc ks) {o : Int} (hd : decode bytes pc = .ok (.ifnonnull o, 3)) (hpc : pc + 3 = pc') (K : Goes p e below E (T.setTop (mkF m pc' ls st))) : Goes p e below E (T.setTop (mkF m pc ls (.null :: st))) := by
  subst hpc; exact K.back fun _ r => XT.ifnonnullNo W.here W.hx rfl (hb W.hby hd) rfl r
theorem g_acmpY (W : Wk Z y bytes ml ret n0 p l e R s m args below meth c T kc ks) {cd : ClassFile.ACond} {o : Int} {pcy : Nat} (hv : v.isRef = true) (hw : w.isRef = true) (hc : XT.acmp cd v w = true) (hd : decode bytes pc = .ok (.if_acmp cd o, 3)) (hy : (pc : Int) + o = (pcy : Nat)) (K : Goes p e below E (T.setTop (mkF m pcy ls st))) : Goes p e below E (T.setTop (mkF m pc ls (w :: v :: st))) :=
  K.back fun _ r => XT.acmpYes W.here W.hx rfl (pc0 := pc) (pc' := pcy) rfl (hb W.hby hd) rfl hv hw hc (by omega) (by omega) r
theorem acmp_same (a : Addr) : XT.acmp .eq (.ref a) (.ref a) = true := by simp [XT.acmp]
/-! ### casts, statics -/
theorem g_cast1 (W : Wk Z y bytes ml ret n0 p l e R s m args below meth c T kc ks) {ix : Nat} (w : (Cond.classLink y.cls ix K0).before a0 Z = true) (F : Ins Z T.heap a K0 true) (H : Hp Z n0 T.heap L) (hd : decode bytes pc = .ok (.checkcast ix, 3)) (hpc : pc + 3 = pc')
    (K : ∀ T', Wk Z y bytes ml ret n0 p l e R s m args below meth c T' kc ks → T'.heap = T.heap → Hp Z n0 T'.heap L → Goes p e below E (T'.setTop (mkF m pc' ls (.ref a :: st)))) : Goes p e below E (T.setTop (mkF m pc ls (.ref a :: st))) := by
  subst hpc
  have hx := W.hx; have hby := W.hby; have hown := W.hown; have hZ := W.hZ
  obtain ⟨A, locs, X, N⟩ := W
  obtain ⟨T', X', e', st'⟩ := castY X hx hZ hown w rfl F (g := mkF m pc ls (.ref a :: st)) rfl rfl (hb hby hd)
  exact (K T' ⟨A, locs, X', N⟩ e' (e' ▸ H)).back st'
theorem g_getS (W : Wk Z y bytes ml ret n0 p l e R s m args below meth c T kc ks) {ix : Nat} (w : (Cond.fieldLink y.cls ix R0 n d).before a0 Z = true) (via : Via Z R0 O n d) (F : Sta Z Z.heap O n d v) (H : Hp Z n0 T.heap L) (hd : decode bytes pc = .ok (.getstatic ix, 3)) (hpc : pc + 3 = pc')
    (K : ∀ T', Wk Z y bytes ml ret n0 p l e R s m args below meth c T' kc ks → T'.heap = T.heap → Hp Z n0 T'.heap L → Goes p e below E (T'.setTop (mkF m pc' ls (v :: st)))) : Goes p e below E (T.setTop (mkF m pc ls st)) := by
  subst hpc
  have hx := W.hx; have hby := W.hby; have hown := W.hown; have hZ := W.hZ
  obtain ⟨A, locs, X, N⟩ := W
  obtain ⟨T', X', e', st'⟩ := getS X hx hZ hown (host := "") w via rfl (F.ext H.old) (g := mkF m pc ls st) rfl (hb hby hd)
  exact (K T' ⟨A, locs, X', N⟩ e' (e' ▸ H)).back st'
/-- a field read by the fact alone (an object that stands in no row) -/
theorem g_getfF (W : Wk Z y bytes ml ret n0 p l e R s m args below meth c T kc ks) {ix : Nat} (w : (Cond.fieldLink y.cls ix R0 n d).before a0 Z = true) (via : Via Z R0 O n d) (H : Hp Z n0 T.heap L) (F : Fld Z T.heap a O n d v) (hd : decode bytes pc = .ok (.getfield ix, 3)) (hpc : pc + 3 = pc')
    (K : ∀ T', Wk Z y bytes ml ret n0 p l e R s m args below meth c T' kc ks → T'.heap = T.heap → Hp Z n0 T'.heap L → Goes p e below E (T'.setTop (mkF m pc' ls (v :: st)))) : Goes p e below E (T.setTop (mkF m pc ls (.ref a :: st))) := by
  subst hpc
  have hx := W.hx; have hby := W.hby; have hown := W.hown; have hZ := W.hZ
  obtain ⟨A, locs, X, N⟩ := W
  obtain ⟨T', X', e', st'⟩ := getF X hx hZ hown (host := "") (Or.inl w) via rfl F (g := mkF m pc ls (.ref a :: st)) rfl rfl (hb hby hd)
  exact (K T' ⟨A, locs, X', N⟩ e' (e' ▸ H)).back st'
/-! ### arrays of references, bytes -/
theorem g_anewarr (W : Wk Z y bytes ml ret n0 p l e R s m args below meth c T kc ks) {ix : Nat} (w1 : (Cond.classLink y.cls ix C).before a0 Z = true) (w2 : (Cond.arrayOver (.object C)).before a0 Z = true) (H : Hp Z n0 T.heap L) {x : Int32} (hx0 : ¬ x < 0) (hvs : List.replicate x.toNatClampNeg .null = vs) {cap : Nat} (hcap : vs.length ≤ cap) (hcb : cap * 8 ≤ 536870912) (hd : decode bytes pc = .ok (.anewarray ix, 3)) (hpc : pc + 3 = pc')
    {kc' ks' : Nat} (hkc : kc + 1 = kc') (hks : ks + cap = ks') (hc : kc' ≤ R.cells) (hl : ks' ≤ R.slots)
    (K : ∀ T' a, Wk Z y bytes ml ret n0 p l e R s m args below meth c T' kc' ks' → Hp Z n0 T'.heap ((a, RaC Z C vs) :: L) → Goes p e below E (T'.setTop (mkF m pc' ls (.ref a :: st)))) : Goes p e below E (T.setTop (mkF m pc ls (.int x :: st))) := by
  subst hpc hkc hks hvs
  have hx := W.hx; have hby := W.hby; have hZ := W.hZ; have hown := W.hown
  obtain ⟨A, locs, X, N⟩ := W
  rw [List.length_replicate] at hcap
  obtain ⟨T', h', cA, X', e', E', A1, O1, st'⟩ := newR X hx hZ hown w1 w2 rfl (g := mkF m pc ls (.int x :: st)) rfl (hb hby hd) rfl hx0 hcap hcb hc hl
  have hl31 : (List.replicate x.toNatClampNeg Value.null).length < 2 ^ 31 := by rw [List.length_replicate]; omega
  exact (K T' T.heap.size ⟨A, locs, X', N⟩ (by rw [e']; exact H.push E' A1.1 ⟨⟨A1.2.1, A1.2.2, by simp [newA, defaultValue], hl31⟩, O1⟩)).back st'
theorem g_arrlenR (W : Wk Z y bytes ml ret n0 p l e R s m args below meth c T kc ks) (H : Hp Z n0 T.heap L) (hi : L[i]? = some (a, RaC Z C vs)) {x : Int32} (hx : vs.length.toInt32 = x) (hd : decode bytes pc = .ok (.arraylength, 1)) (hpc : pc + 1 = pc') (K : Goes p e below E (T.setTop (mkF m pc' ls (.int x :: st)))) : Goes p e below E (T.setTop (mkF m pc ls (.ref a :: st))) := by
  subst hpc hx
  have hx := W.hx; have hby := W.hby; have hZ := W.hZ
  obtain ⟨A, locs, X, N⟩ := W
  obtain ⟨-, cl, q1, q2, -⟩ := H.get hi
  refine K.back fun t r => X.arraylength hx q1 (State.isArrayOf_alike hZ.alike q2.1) (g := mkF m pc ls (.ref a :: st)) rfl rfl (hb hby hd) t ?_
  have e : cl.slots.size = vs.length := by rw [q2.2.2.1]; simp
  rw [e]; exact r
/-- the length of an array by the fact alone -/
theorem g_arrlenF (W : Wk Z y bytes ml ret n0 p l e R s m args below meth c T kc ks) {cl : Cell} (F : Arr Z T.heap a cl ty) {x : Int32} (hx : cl.slots.size.toInt32 = x) (hd : decode bytes pc = .ok (.arraylength, 1)) (hpc : pc + 1 = pc') (K : Goes p e below E (T.setTop (mkF m pc' ls (.int x :: st)))) : Goes p e below E (T.setTop (mkF m pc ls (.ref a :: st))) := by
  subst hpc hx
  have hx := W.hx; have hby := W.hby; have hZ := W.hZ
  obtain ⟨A, locs, X, N⟩ := W
  exact K.back fun t r => X.arraylength hx F.1 (State.isArrayOf_alike hZ.alike F.2.1) (g := mkF m pc ls (.ref a :: st)) rfl rfl (hb hby hd) t r
theorem g_aaload (W : Wk Z y bytes ml ret n0 p l e R s m args below meth c T kc ks) (H : Hp Z n0 T.heap L) (hi : L[i]? = some (a, RaC Z C vs)) {x : Int32} (hx : x.toInt = (jx : Int)) (hv : vs[jx]? = some v) (hd : decode bytes pc = .ok (.aaload, 1)) (hpc : pc + 1 = pc') (K : Goes p e below E (T.setTop (mkF m pc' ls (v :: st)))) : Goes p e below E (T.setTop (mkF m pc ls (.int x :: .ref a :: st))) := by
  subst hpc
  have hxx := W.hx; have hby := W.hby; have hZ := W.hZ
  obtain ⟨A, locs, X, N⟩ := W
  obtain ⟨-, cl, q1, q2, -⟩ := H.get hi
  exact K.back fun t r => X.aaload hxx q1 (State.isArrayOf_alike hZ.alike q2.1) rfl q2.2.1 (idx_ok hx q2 (List.getElem?_eq_some_iff.mp hv).1) (by rw [idx_nat hx, q2.2.2.1]; simpa using hv) (g := mkF m pc ls (.int x :: .ref a :: st)) rfl rfl (hb hby hd) t r
/-- a load by the fact alone -/
theorem g_aaloadF (W : Wk Z y bytes ml ret n0 p l e R s m args below meth c T kc ks) {cl : Cell} (F : Arr Z T.heap a cl ty) (hty : ty.isReference = true) {x : Int32} (hin : ¬ (x < 0 ∨ cl.slots.size ≤ x.toNatClampNeg)) (hv : cl.slots[x.toNatClampNeg]? = some v) (hd : decode bytes pc = .ok (.aaload, 1)) (hpc : pc + 1 = pc') (K : Goes p e below E (T.setTop (mkF m pc' ls (v :: st)))) : Goes p e below E (T.setTop (mkF m pc ls (.int x :: .ref a :: st))) := by
  subst hpc
  have hxx := W.hx; have hby := W.hby; have hZ := W.hZ
  obtain ⟨A, locs, X, N⟩ := W
  exact K.back fun t r => X.aaload hxx F.1 (State.isArrayOf_alike hZ.alike F.2.1) hty F.2.2 hin hv (g := mkF m pc ls (.int x :: .ref a :: st)) rfl rfl (hb hby hd) t r
theorem g_aastore (W : Wk Z y bytes ml ret n0 p l e R s m args below meth c T kc ks) (H : Hp Z n0 T.heap L) (hi : L[i]? = some (a, RaC Z C vs)) {x : Int32} {b : Addr} (F : Ins Z T.heap b C true) (hx : x.toInt = (jx : Int)) (hj : jx < vs.length) (hd : decode bytes pc = .ok (.aastore, 1)) (hpc : pc + 1 = pc') {L' : List HRow} (hL : L.set i (a, RaC Z C (vs.set jx (.ref b))) = L')
    (K : ∀ T', Wk Z y bytes ml ret n0 p l e R s m args below meth c T' kc ks → Hp Z n0 T'.heap L' → Goes p e below E (T'.setTop (mkF m pc' ls st))) : Goes p e below E (T.setTop (mkF m pc ls (.ref b :: .int x :: .ref a :: st))) := by
  subst hpc hL
  have hxx := W.hx; have hby := W.hby; have hZ := W.hZ
  obtain ⟨A, locs, X, N⟩ := W
  obtain ⟨hn0, cl, q1, q2, q3⟩ := H.get hi
  obtain ⟨T', h', X', e', Wr', st'⟩ := stR X hxx hZ rfl (q2.arr q1) (idx_ok hx q2 hj) rfl (Sto.of (q2.arr q1) q3 F) (g := mkF m pc ls (.ref b :: .int x :: .ref a :: st)) rfl rfl (hb hby hd)
  obtain ⟨cl', g1, -, -, rfl⟩ := Wr'
  cases q1.symm.trans g1
  have hsl : (cl.setSlot x.toNatClampNeg (.ref b)).slots = (vs.set jx (.ref b)).toArray := by rw [idx_nat hx]; show cl.slots.setIfInBounds jx _ = _; rw [q2.2.2.1]; simp
  exact (K T' ⟨A, _, X', Fr.snoc X' N hn0⟩ (by rw [e']; exact H.put hi ⟨⟨q2.1, q2.2.1, hsl, by rw [List.length_set]; exact q2.2.2.2⟩, q3⟩)).back st'
theorem g_bastore (W : Wk Z y bytes ml ret n0 p l e R s m args below meth c T kc ks) (H : Hp Z n0 T.heap L) (hi : L[i]? = some (a, ArC Z .byte vs)) {x : Int32} {u u' : Int32} (hu : nar .byte u = u') (hx : x.toInt = (jx : Int)) (hj : jx < vs.length) (hd : decode bytes pc = .ok (.bastore, 1)) (hpc : pc + 1 = pc') {L' : List HRow} (hL : L.set i (a, ArC Z .byte (vs.set jx (.int u'))) = L')
    (K : ∀ T', Wk Z y bytes ml ret n0 p l e R s m args below meth c T' kc ks → Hp Z n0 T'.heap L' → Goes p e below E (T'.setTop (mkF m pc' ls st))) : Goes p e below E (T.setTop (mkF m pc ls (.int u :: .int x :: .ref a :: st))) := by
  subst hpc hL hu
  have hxx := W.hx; have hby := W.hby; have hZ := W.hZ
  obtain ⟨A, locs, X, N⟩ := W
  obtain ⟨hn0, cl, q1, q2⟩ := H.get hi
  obtain ⟨T', h', X', e', Wr', st'⟩ := stB X hxx hZ rfl (q2.arr q1) (idx_ok hx q2 hj) (g := mkF m pc ls (.int u :: .int x :: .ref a :: st)) rfl rfl (hb hby hd)
  obtain ⟨cl', g1, -, -, rfl⟩ := Wr'
  cases q1.symm.trans g1
  have hsl : (cl.setSlot x.toNatClampNeg (.int (nar .byte u))).slots = (vs.set jx (.int (nar .byte u))).toArray := by rw [idx_nat hx]; show cl.slots.setIfInBounds jx _ = _; rw [q2.2.2.1]; simp
  exact (K T' ⟨A, _, X', Fr.snoc X' N hn0⟩ (by rw [e']; exact H.put hi ⟨q2.1, q2.2.1, hsl, by rw [List.length_set]; exact q2.2.2.2⟩)).back st'
theorem g_baload (W : Wk Z y bytes ml ret n0 p l e R s m args below meth c T kc ks) (H : Hp Z n0 T.heap L) (hi : L[i]? = some (a, ArC Z .byte vs)) {x : Int32} (hx : x.toInt = (jx : Int)) (hv : vs[jx]? = some v) (hd : decode bytes pc = .ok (.baload, 1)) (hpc : pc + 1 = pc') (K : Goes p e below E (T.setTop (mkF m pc' ls (v :: st)))) : Goes p e below E (T.setTop (mkF m pc ls (.int x :: .ref a :: st))) := by
  subst hpc
  have hxx := W.hx; have hby := W.hby; have hZ := W.hZ
  obtain ⟨A, locs, X, N⟩ := W
  obtain ⟨-, cl, q1, q2⟩ := H.get hi
  exact K.back fun t r => X.baloadBytes hxx q1 (State.isArrayOf_alike hZ.alike q2.1) q2.2.1 (idx_ok hx q2 (List.getElem?_eq_some_iff.mp hv).1) (by rw [idx_nat hx, q2.2.2.1]; simpa using hv) (g := mkF m pc ls (.int x :: .ref a :: st)) rfl rfl (hb hby hd) t r
theorem g_i2b (W : Wk Z y bytes ml ret n0 p l e R s m args below meth c T kc ks) {x v : Int32} (hv : x.toInt8.toInt32 = v) (hd : decode bytes pc = .ok (.i2b, 1)) (hpc : pc + 1 = pc') (K : Goes p e below E (T.setTop (mkF m pc' ls (.int v :: st)))) : Goes p e below E (T.setTop (mkF m pc ls (.int x :: st))) := by
  subst hpc; exact K.back fun _ r => XT.i2b W.here W.hx rfl (hb W.hby hd) rfl (by rw [hv]; exact r)
theorem g_lswitch (W : Wk Z y bytes ml ret n0 p l e R s m args below meth c T kc ks) {x : Int32} {df off q : Int} {prs : Array (Int × Int)} {len pcy : Nat} (hso : (prs.toList.zip (prs.toList.drop 1)).all (fun (a, next) => a.1 < next.1) = true) (hfi : prs.find? (·.1 == x.toInt) = some (q, off)) (hd : decode bytes pc = .ok (.lookupswitch df prs, len)) (hy : (pc : Int) + off = (pcy : Nat)) (K : Goes p e below E (T.setTop (mkF m pcy ls st))) : Goes p e below E (T.setTop (mkF m pc ls (.int x :: st))) := by
  have hx := W.hx; have hby := W.hby
  obtain ⟨A, locs, X, N⟩ := W
  refine K.back fun t r => X.lookupswitchHit hx (g := mkF m pc ls (.int x :: st)) rfl rfl (hb hby hd) hso hfi (by show 0 ≤ (pc : Int) + off; omega) t ?_
  show Steps p.tables e below (T.setTop (mkF m ((pc : Int) + off).toNat ls st)) t
  rw [hy]; exact r
end Refs
/-! ### interface calls by contract -/
section Calls2
variable {Z : State} {y : MethodName} {bytes : ByteArray} {ml : Nat} {ret : Option FieldType} {n0 : Nat} {p : Program} {l : Launch} {e : Env} {R : Room} {s : State} {m : MethodId} {args : Array Value} {below : List Frame} {meth : Method} {c : Code} {T : State} {kc ks k j : Nat} {Q : Option Value → Heap → Prop} {E : Option Value → State → List Loc → Prop} {pc pc' : Nat} {ls : Array Slot} {st : List Value} {a0 : Array Value}
variable {y' : MethodName} {bytes' : ByteArray} {ml' : Nat} {ret' : Option FieldType} {rm : Room} {Post : Option Value → Heap → Prop} {argsL stk : List Value} {ix cnt : Nat} {Wn kc' ks' : Nat} {ps : List FieldType} {rt : Option FieldType}
theorem g_callF (W : Wk Z y bytes ml ret n0 p l e R s m args below meth c T kc ks) {C : String} {z : MethodName} (w1 : (Cond.methodLink y.cls ix y').before a0 Z = true) (w2 : (Cond.declares y').before a0 Z = true) (w3 : ∀ (args : Array Value) (s : State), Z.Warmed39 s.vm → (Cond.interfaceMethod y'.cls y'.cls y'.name y'.desc).before args s = true) (w4 : (Cond.selects C y' z).before a0 Z = true) (w5 : (Cond.instanceMethod z).before a0 Z = true) (w6 : (Cond.publicMethod z).before a0 Z = true) (w7 : (Cond.unhidden C y'.name y'.desc).before a0 Z = true) (w8 : (Cond.castable C y'.cls).before a0 Z = true) (w9 : (Cond.initialized z.cls).before a0 Z = true) (w10 : (Cond.code z bytes' ml' ret').before a0 Z = true) (hy : y'.cls ≠ "java/lang/invoke/MethodHandle" ∧ y'.cls ≠ "java/lang/invoke/VarHandle")
    {a : Addr} (Ex : Exa Z T.heap a C) (con : Con l Z n0 z [] bytes' ml' ret' rm (.ref a :: argsL).toArray T.heap Post) (hpd : parseMethodDescriptor y'.desc = some ⟨ps, rt⟩) (hlen : argsL.length = ps.length) (hstk : stk = argsL.reverse ++ .ref a :: st) (hls : ls.size = ml) (hd : decode bytes pc = .ok (.invokeinterface ix cnt, 5)) (hpc : pc + 5 = pc')
    (hf : rm.frames + 1 ≤ R.frames) (hW : (st.map fun v => v.category).sum ≤ Wn) (hl : Wn + (ml' + 11) + rm.locals ≤ R.locals) (hkc : kc + rm.cells = kc') (hks : ks + rm.slots = ks') (hc : kc' ≤ R.cells) (hs : ks' ≤ R.slots)
    (K : ∀ T' v, Wk Z y bytes ml ret n0 p l e R s m args below meth c T' kc' ks' → Post v T'.heap → Goes p e below E (T'.setTop (mkF m pc' ls (v.toList ++ st)))) : Goes p e below E (T.setTop (mkF m pc ls stk)) := by
  subst hpc hkc hks hstk
  have hx := W.hx; have hby := W.hby; have hown := W.hown; have hZ := W.hZ; have hml := W.hml
  obtain ⟨A, locs, X, N⟩ := W
  obtain ⟨cB, kB, b1, b2, b3⟩ := isOf hZ rfl Ex
  obtain ⟨v, vm1, ⟨T', L', kk, jj⟩, -, X', ⟨Lc, ⟨hN, hQ⟩, l1, l2, l3⟩, st'⟩ := X.interfaceBack hx (xi := y') (y := z) hown (mvT hZ w1) (mvT hZ w2) (w3 _ _ hZ) (mvT hZ w4) (mvT hZ w5) (mvT hZ w6) (mvT hZ w7) (mvT hZ w8) hy (backOf (Q := fun v h L => Fr n0 L ∧ Post v h) (W := Wn) con hZ w10 w9 hf hl) b1 b2 b3 (g := mkF m pc ls (argsL.reverse ++ .ref a :: st)) rfl (by rw [hml]; exact hls) (Steps.refl _) (argsL := argsL) (rest := st) (lenOf hpd hlen) rfl (by show 2 * 0 + _ ≤ _; omega) (hb hby hd) (fun _ _ => ⟨rfl, rfl, hc, hs⟩)
  dsimp only [Pt.U, Pt.locs, Pt.cells, Pt.slots] at X' l1 l2 l3 hQ st'
  subst l1 l2 l3
  exact (K T' v ⟨A, _, X', N.app hN⟩ hQ).back fun t r => st'.trans r
theorem nf_via {C : String} {x z y : MethodName} {args : Array Value} {s : State} (hsel : (Cond.selects C x z).before args s = true) (hc : z.cls = y.cls) : NotFace s y := fun r0 h0 => by
  obtain ⟨c2, r2, m2, q1, q2, q3, q4, kP, hkP, hkPi⟩ := Cond.selects_spec hsel
  have e1 := findClass_of_methodNamed q3
  have e2 := findClass_of_methodNamed h0
  rw [hc] at e1
  have e3 : m2.cls = r0.cls := Option.some.inj (e1.symm.trans e2)
  exact ⟨kP, e3 ▸ hkP, hkPi⟩
theorem g_callVE (W : Wk Z y bytes ml ret n0 p l e R s m args below meth c T kc ks) {C : String} {z : MethodName} (w1 : (Cond.methodLink y.cls ix y').before a0 Z = true) (w2 : (Cond.declares y').before a0 Z = true) (w3 : (Cond.selects C y' z).before a0 Z = true) (w4 : (Cond.instanceMethod z).before a0 Z = true) (w5 : (Cond.initialized z.cls).before a0 Z = true) (w6 : (Cond.code z bytes' ml' ret').before a0 Z = true) (nf : ∀ (s : State), Z.Warmed39 s.vm → NotFace s y') (hy : y'.cls ≠ "java/lang/invoke/MethodHandle" ∧ y'.cls ≠ "java/lang/invoke/VarHandle")
    {a : Addr} (Ex : Exa Z T.heap a C) (con : Con l Z n0 z [] bytes' ml' ret' rm (.ref a :: argsL).toArray T.heap Post) (hpd : parseMethodDescriptor y'.desc = some ⟨ps, rt⟩) (hlen : argsL.length = ps.length) (hstk : stk = argsL.reverse ++ .ref a :: st) (hls : ls.size = ml) (hd : decode bytes pc = .ok (.invokevirtual ix, 3)) (hpc : pc + 3 = pc')
    (hf : rm.frames + 1 ≤ R.frames) (hW : (st.map fun v => v.category).sum ≤ Wn) (hl : Wn + (ml' + 11) + rm.locals ≤ R.locals) (hkc : kc + rm.cells = kc') (hks : ks + rm.slots = ks') (hc : kc' ≤ R.cells) (hs : ks' ≤ R.slots)
    (K : ∀ T' v, Wk Z y bytes ml ret n0 p l e R s m args below meth c T' kc' ks' → Post v T'.heap → Goes p e below E (T'.setTop (mkF m pc' ls (v.toList ++ st)))) : Goes p e below E (T.setTop (mkF m pc ls stk)) := by
  subst hpc hkc hks hstk
  have hx := W.hx; have hby := W.hby; have hown := W.hown; have hZ := W.hZ; have hml := W.hml
  obtain ⟨A, locs, X, N⟩ := W
  obtain ⟨cB, kB, b1, b2, b3⟩ := isOf hZ rfl Ex
  obtain ⟨v, vm1, ⟨T', L', kk, jj⟩, -, X', ⟨Lc, ⟨hN, hQ⟩, l1, l2, l3⟩, st'⟩ := X.virtualBack hx (y := y') (z := z) hown (mvT hZ w1) (mvT hZ w2) (nf _ hZ) (mvT hZ w3) (mvT hZ w4) hy (backOf (Q := fun v h L => Fr n0 L ∧ Post v h) (W := Wn) con hZ w6 w5 hf hl) b1 b3 (g := mkF m pc ls (argsL.reverse ++ .ref a :: st)) rfl (by rw [hml]; exact hls) (Steps.refl _) (argsL := argsL) (rest := st) (lenOf hpd hlen) rfl (by show 2 * 0 + _ ≤ _; omega) (hb hby hd) (fun _ _ => ⟨rfl, rfl, hc, hs⟩)
  dsimp only [Pt.U, Pt.locs, Pt.cells, Pt.slots] at X' l1 l2 l3 hQ st'
  subst l1 l2 l3
  exact (K T' v ⟨A, _, X', N.app hN⟩ hQ).back fun t r => st'.trans r
theorem g_callVU (W : Wk Z y bytes ml ret n0 p l e R s m args below meth c T kc ks) {C owner : String} {z : MethodName} (w1 : (Cond.methodLink y.cls ix y').before a0 Z = true) (wS : (Cond.sameMethod y'.cls owner y'.name y'.desc).before a0 Z = true) (w2 : (Cond.declares ⟨owner, y'.name, y'.desc⟩).before a0 Z = true) (w3 : (Cond.selects C y' z).before a0 Z = true) (w4 : (Cond.instanceMethod z).before a0 Z = true) (w5 : (Cond.initialized z.cls).before a0 Z = true) (w6 : (Cond.code z bytes' ml' ret').before a0 Z = true) (hy : owner ≠ "java/lang/invoke/MethodHandle" ∧ owner ≠ "java/lang/invoke/VarHandle")
    {a : Addr} (Ex : Exa Z T.heap a C) (con : Con l Z n0 z [] bytes' ml' ret' rm (.ref a :: argsL).toArray T.heap Post) (hpd : parseMethodDescriptor y'.desc = some ⟨ps, rt⟩) (hlen : argsL.length = ps.length) (hstk : stk = argsL.reverse ++ .ref a :: st) (hls : ls.size = ml) (hd : decode bytes pc = .ok (.invokevirtual ix, 3)) (hpc : pc + 3 = pc')
    (hf : rm.frames + 1 ≤ R.frames) (hW : (st.map fun v => v.category).sum ≤ Wn) (hl : Wn + (ml' + 11) + rm.locals ≤ R.locals) (hkc : kc + rm.cells = kc') (hks : ks + rm.slots = ks') (hc : kc' ≤ R.cells) (hs : ks' ≤ R.slots)
    (K : ∀ T' v, Wk Z y bytes ml ret n0 p l e R s m args below meth c T' kc' ks' → Post v T'.heap → Goes p e below E (T'.setTop (mkF m pc' ls (v.toList ++ st)))) : Goes p e below E (T.setTop (mkF m pc ls stk)) := by
  subst hpc hkc hks hstk
  have hx := W.hx; have hby := W.hby; have hown := W.hown; have hZ := W.hZ; have hml := W.hml
  obtain ⟨A, locs, X, N⟩ := W
  obtain ⟨cB, kB, b1, b2, b3⟩ := isOf hZ rfl Ex
  obtain ⟨v, vm1, ⟨T', L', kk, jj⟩, -, X', ⟨Lc, ⟨hN, hQ⟩, l1, l2, l3⟩, st'⟩ := X.virtualBackUp hx (x := y') (y := z) hown (mvT hZ w1) (mvT hZ wS) (mvT hZ w2) hy (mvT hZ w3) (mvT hZ w4) (backOf (Q := fun v h L => Fr n0 L ∧ Post v h) (W := Wn) con hZ w6 w5 hf hl) b1 b3 (g := mkF m pc ls (argsL.reverse ++ .ref a :: st)) rfl (by rw [hml]; exact hls) (Steps.refl _) (argsL := argsL) (rest := st) (lenOf hpd hlen) rfl (by show 2 * 0 + _ ≤ _; omega) (hb hby hd) (fun _ _ => ⟨rfl, rfl, hc, hs⟩)
  dsimp only [Pt.U, Pt.locs, Pt.cells, Pt.slots] at X' l1 l2 l3 hQ st'
  subst l1 l2 l3
  exact (K T' v ⟨A, _, X', N.app hN⟩ hQ).back fun t r => st'.trans r
end Calls2
end Jvm.OwnKit
namespace Jvm.OwnKit
open Sem ClassFile Op Lib Jvm.Stand Jvm.Free Jvm.LawKit Jvm.RoadKit Jvm.Free.Fl
section IArr
variable {Z : State} {y : MethodName} {bytes : ByteArray} {ml : Nat} {ret : Option FieldType} {n0 : Nat} {p : Program} {l : Launch} {e : Env} {R : Room} {s : State} {m : MethodId} {args : Array Value} {below : List Frame} {meth : Method} {c : Code} {T : State} {kc ks k j : Nat} {Q : Option Value → Heap → Prop} {E : Option Value → State → List Loc → Prop} {pc pc' : Nat} {ls : Array Slot} {st : List Value} {a0 : Array Value}
variable {h h' : Heap} {L : List HRow} {a b : Addr} {cell : Cell} {i jx : Nat} {xs : List Int32}
/-- an int[], its class known by its name -/
def IaC (Z : State) (xs : List Int32) (c : Cell) : Prop := ArC Z .int (xs.map Value.int) c ∧ Z.vm.findClass "[I" = some c.cls
theorem IaC.exa (F : IaC Z xs cell) (hc : h[a]? = some cell) : Exa Z h a "[I" := by
  obtain ⟨⟨⟨o, k, hk, comp, hkind⟩, -⟩, hf⟩ := F
  refine ⟨cell, k, hc, hf, hk, ?_, fun q => by rw [hkind] at q; cases q⟩
  cases q : cell.vm <;> first | rfl | exact absurd q (o _)
theorem IaC.fit (F : IaC Z xs cell) : FitC Z cell := fun i v hv => by
  obtain ⟨⟨⟨o, k, hk, comp, hkind⟩, -, hs, -⟩, -⟩ := F
  rw [hs] at hv
  have hm : v ∈ xs.map Value.int := List.mem_of_getElem? (by simpa using hv)
  obtain ⟨x, -, rfl⟩ := List.mem_map.mp hm
  simp [State.fitsSlot, State.slotType?, hk, hkind, fits]
theorem g_newarrI (W : Wk Z y bytes ml ret n0 p l e R s m args below meth c T kc ks) (w : (Cond.arrayClass .int).before a0 Z = true) (H : Hp Z n0 T.heap L) {x : Int32} (hx0 : ¬ x < 0) {n cap : Nat} (hn : x.toNatClampNeg = n) (hcap : n ≤ cap) (hcb : cap * 8 ≤ 536870912) (hd : decode bytes pc = .ok (.newarray .int, 2)) (hpc : pc + 2 = pc')
    {kc' ks' : Nat} (hkc : kc + 1 = kc') (hks : ks + cap = ks') (hc : kc' ≤ R.cells) (hl : ks' ≤ R.slots)
    (K : ∀ T' a, Wk Z y bytes ml ret n0 p l e R s m args below meth c T' kc' ks' → Hp Z n0 T'.heap ((a, IaC Z (List.replicate n 0)) :: L) → Goes p e below E (T'.setTop (mkF m pc' ls (.ref a :: st)))) : Goes p e below E (T.setTop (mkF m pc ls (.int x :: st))) := by
  subst hpc hkc hks hn
  have hx := W.hx; have hby := W.hby; have hZ := W.hZ
  obtain ⟨A, locs, X, N⟩ := W
  obtain ⟨T', h', cA, X', e', E', A1, ⟨c2, k2, q1, q2, -⟩, st'⟩ := newPE X hx hZ (aty := .int) w rfl (g := mkF m pc ls (.int x :: st)) rfl (hb hby hd) rfl hx0 hcap hcb hc hl (ad := "[I") rfl
  cases A1.1.symm.trans q1
  have h1 : (newA cA (newarray.typeOf .int) x).slots = ((List.replicate x.toNatClampNeg (0 : Int32)).map Value.int).toArray := by
    show (Array.replicate x.toNatClampNeg (Value.int 0)) = _
    simp
  have h2 : ((List.replicate x.toNatClampNeg (0 : Int32)).map Value.int).length < 2 ^ 31 := by simp; omega
  exact (K T' T.heap.size ⟨A, locs, X', N⟩ (by rw [e']; exact H.push E' A1.1 ⟨⟨A1.2.1, A1.2.2, h1, h2⟩, q2⟩)).back st'
theorem g_arrlenI (W : Wk Z y bytes ml ret n0 p l e R s m args below meth c T kc ks) (H : Hp Z n0 T.heap L) (hi : L[i]? = some (a, IaC Z xs)) {x : Int32} (hx : xs.length.toInt32 = x) (hd : decode bytes pc = .ok (.arraylength, 1)) (hpc : pc + 1 = pc') (K : Goes p e below E (T.setTop (mkF m pc' ls (.int x :: st)))) : Goes p e below E (T.setTop (mkF m pc ls (.ref a :: st))) := by
  subst hpc hx
  have hx := W.hx; have hby := W.hby; have hZ := W.hZ
  obtain ⟨A, locs, X, N⟩ := W
  obtain ⟨-, cl, q1, q2, -⟩ := H.get hi
  refine K.back fun t r => X.arraylength hx q1 (State.isArrayOf_alike hZ.alike q2.1) (g := mkF m pc ls (.ref a :: st)) rfl rfl (hb hby hd) t ?_
  have e : cl.slots.size = xs.length := by rw [q2.2.2.1]; simp
  rw [e]; exact r
theorem g_ialoadI (W : Wk Z y bytes ml ret n0 p l e R s m args below meth c T kc ks) (H : Hp Z n0 T.heap L) (hi : L[i]? = some (a, IaC Z xs)) {x u : Int32} (hx : x.toInt = (jx : Int)) (hv : xs[jx]? = some u) (hd : decode bytes pc = .ok (.iaload, 1)) (hpc : pc + 1 = pc') (K : Goes p e below E (T.setTop (mkF m pc' ls (.int u :: st)))) : Goes p e below E (T.setTop (mkF m pc ls (.int x :: .ref a :: st))) := by
  subst hpc
  have hxx := W.hx; have hby := W.hby; have hZ := W.hZ
  obtain ⟨A, locs, X, N⟩ := W
  obtain ⟨-, cl, q1, q2, -⟩ := H.get hi
  have hv' : (xs.map Value.int)[jx]? = some (.int u) := by rw [List.getElem?_map, hv]; rfl
  exact K.back fun t r => X.iaload hxx q1 (State.isArrayOf_alike hZ.alike q2.1) q2.2.1 (idx_ok hx q2 (List.getElem?_eq_some_iff.mp hv').1) (by rw [idx_nat hx, q2.2.2.1]; simpa using hv) (g := mkF m pc ls (.int x :: .ref a :: st)) rfl rfl (hb hby hd) t r
theorem g_iastoreI (W : Wk Z y bytes ml ret n0 p l e R s m args below meth c T kc ks) (H : Hp Z n0 T.heap L) (hi : L[i]? = some (a, IaC Z xs)) {x : Int32} {u : Int32} (hx : x.toInt = (jx : Int)) (hj : jx < xs.length) (hd : decode bytes pc = .ok (.iastore, 1)) (hpc : pc + 1 = pc') {L' : List HRow} (hL : L.set i (a, IaC Z (xs.set jx u)) = L')
    (K : ∀ T', Wk Z y bytes ml ret n0 p l e R s m args below meth c T' kc ks → Hp Z n0 T'.heap L' → Goes p e below E (T'.setTop (mkF m pc' ls st))) : Goes p e below E (T.setTop (mkF m pc ls (.int u :: .int x :: .ref a :: st))) := by
  subst hpc hL
  have hxx := W.hx; have hby := W.hby; have hZ := W.hZ
  obtain ⟨A, locs, X, N⟩ := W
  obtain ⟨hn0, cl, q1, q2, q3⟩ := H.get hi
  obtain ⟨T', h', X', e', Wr', st'⟩ := stI X hxx hZ rfl (q2.arr q1) (idx_ok hx q2 (by simpa using hj)) (g := mkF m pc ls (.int u :: .int x :: .ref a :: st)) rfl rfl (hb hby hd)
  obtain ⟨cl', g1, -, -, rfl⟩ := Wr'
  cases q1.symm.trans g1
  have hsl : (cl.setSlot x.toNatClampNeg (.int u)).slots = ((xs.set jx u).map Value.int).toArray := by rw [idx_nat hx]; show cl.slots.setIfInBounds jx _ = _; rw [q2.2.2.1]; simp [List.map_set]
  exact (K T' ⟨A, _, X', Fr.snoc X' N hn0⟩ (by rw [e']; exact H.put hi ⟨⟨q2.1, q2.2.1, hsl, by have := q2.2.2.2; simpa using this⟩, q3⟩)).back st'
theorem g_cloneI (W : Wk Z y bytes ml ret n0 p l e R s m args below meth c T kc ks) {ix : Nat} (w1 : (Cond.methodLink y.cls ix ⟨"[I", "clone", "()Ljava/lang/Object;"⟩).before a0 Z = true) (w2 : (Cond.sameMethod "[I" "java/lang/Object" "clone" "()Ljava/lang/Object;").before a0 Z = true) (w3 : (Cond.native ⟨"java/lang/Object", "clone", "()Ljava/lang/Object;"⟩).before a0 Z = true)
    (w4 : (Cond.instanceMethod ⟨"java/lang/Object", "clone", "()Ljava/lang/Object;"⟩).before a0 Z = true) (w5 : (Cond.selects "[I" ⟨"[I", "clone", "()Ljava/lang/Object;"⟩ ⟨"java/lang/Object", "clone", "()Ljava/lang/Object;"⟩).before a0 Z = true) (w6 : (Cond.castable "[I" "java/lang/Cloneable").before a0 Z = true)
    (H : Hp Z n0 T.heap L) (hi : L[i]? = some (a, IaC Z xs)) (hls : ls.size = ml) (hd : decode bytes pc = .ok (.invokevirtual ix, 3)) (hpc : pc + 3 = pc') (hf : 1 ≤ R.frames) {Wn cap : Nat} (hW : (st.map fun v => v.category).sum ≤ Wn) (hl : Wn + 14 ≤ R.locals) (hcap : xs.length ≤ cap)
    {kc' ks' : Nat} (hkc : kc + 1 = kc') (hks : ks + cap = ks') (hc : kc' ≤ R.cells) (hsl : ks' ≤ R.slots)
    (K : ∀ T' b, Wk Z y bytes ml ret n0 p l e R s m args below meth c T' kc' ks' → Hp Z n0 T'.heap ((b, IaC Z xs) :: L) → Goes p e below E (T'.setTop (mkF m pc' ls (.ref b :: st)))) : Goes p e below E (T.setTop (mkF m pc ls (.ref a :: st))) := by
  subst hpc hkc hks
  have hx := W.hx; have hby := W.hby; have hZ := W.hZ; have hown := W.hown; have hml := W.hml
  obtain ⟨A, locs, X, N⟩ := W
  obtain ⟨-, cl, q1, q2⟩ := H.get hi
  have sz : cl.slots.size = xs.length := by rw [q2.1.2.2.1]; simp
  obtain ⟨T', h', X', e', E', A1, ⟨c2, k2, z1, z2, -⟩, st'⟩ := cloneA X hx hZ hown w1 w2 w3 w4 w5 w6 rfl (q2.1.arr q1) (q2.exa q1) q2.fit (g := mkF m pc ls (.ref a :: st)) rfl (by rw [hml]; exact hls) rfl (hb hby hd) hf (W := Wn) (by show 2 * 0 + _ ≤ _; omega) hl (cap := cap) (by omega) hc hsl
  cases A1.1.symm.trans z1
  exact (K T' T.heap.size ⟨A, locs, X', N⟩ (by rw [e']; exact H.push E' A1.1 ⟨⟨A1.2.1, A1.2.2, q2.1.2.2.1, q2.1.2.2.2⟩, z2⟩)).back st'
theorem all_ints : ∀ (L : List Value), (∀ v ∈ L, ∃ x, v = .int x) → ∃ ws : List Int32, L = ws.map Value.int
  | [], _ => ⟨[], rfl⟩
  | v :: L, h => by
    obtain ⟨x, rfl⟩ := h v (List.mem_cons_self ..)
    obtain ⟨ws, rfl⟩ := all_ints L fun v hv => h v (List.mem_cons_of_mem _ hv)
    exact ⟨x :: ws, rfl⟩
theorem g_acopyI (W : Wk Z y bytes ml ret n0 p l e R s m args below meth c T kc ks) {ix ib k0 : Nat} {ws : List Int32} {nn : Int32} (w1 : (Cond.methodLink y.cls ix Jvm.Stand.acN).before a0 Z = true) (w2 : (Cond.native Jvm.Stand.acN).before a0 Z = true) (w3 : (Cond.static Jvm.Stand.acN).before a0 Z = true) (w4 : (Cond.initialized "java/lang/System").before a0 Z = true)
    (H : Hp Z n0 T.heap L) (hi : L[i]? = some (a, IaC Z xs)) (hib : L[ib]? = some (b, IaC Z ws)) (hnn : nn.toInt = (k0 : Int)) (h1 : k0 ≤ xs.length) (h2 : k0 ≤ ws.length) (hls : ls.size = ml) (hd : decode bytes pc = .ok (.invokestatic ix, 3)) (hpc : pc + 3 = pc') (hf : 1 ≤ R.frames) {Wn : Nat} (hW : (st.map fun v => v.category).sum ≤ Wn) (hl : Wn + (nativeFrameWords "java/lang/System" "arraycopy" 5 + 11) ≤ R.locals)
    (K : ∀ T' ws', Wk Z y bytes ml ret n0 p l e R s m args below meth c T' kc ks → ws'.length = ws.length → Hp Z n0 T'.heap (L.set ib (b, IaC Z ws')) → Goes p e below E (T'.setTop (mkF m pc' ls st))) : Goes p e below E (T.setTop (mkF m pc ls (.int nn :: .int 0 :: .ref b :: .int 0 :: .ref a :: st))) := by
  subst hpc
  have hx := W.hx; have hby := W.hby; have hZ := W.hZ; have hown := W.hown; have hml := W.hml
  obtain ⟨A, locs, X, N⟩ := W
  obtain ⟨-, cs, q1, q2⟩ := H.get hi
  obtain ⟨hn0, cd, r1, r2⟩ := H.get hib
  obtain ⟨os, ks1, hks, sc, hsk⟩ := State.isArrayOf_alike (T := s) hZ.alike q2.1.1
  obtain ⟨od, kd1, hkd, dc, hdk⟩ := State.isArrayOf_alike (T := s) hZ.alike r2.1.1
  have ss : cs.slots.size = xs.length := by rw [q2.1.2.2.1]; simp
  have sd : cd.slots.size = ws.length := by rw [r2.1.2.2.1]; simp
  have z0 : (0 : Int32).toInt = 0 := rfl
  have zn : (0 : Int32).toNatClampNeg = 0 := rfl
  have hk0 : nn.toNatClampNeg = k0 := by simp only [Int32.toNatClampNeg, hnn]; omega
  have gi : ∀ t, t < k0 → ∃ x, cs.slots.getD (0 + t) .null = .int x := fun t ht => by
    have ht' : t < xs.length := by omega
    refine ⟨xs[t], ?_⟩
    rw [q2.1.2.2.1, Nat.zero_add]; simp [Array.getD_eq_getD_getElem?, ht']
  obtain ⟨vm1, -, X', st'⟩ := X.arraycopyK hx hown (mvT hZ w1) (mvT hZ w2) (mvT hZ w3) (mvT hZ w4) (srcPos := 0) (destPos := 0) (n := nn) q1 r1 os od q2.1.2.1 r2.1.2.1 hks hkd hsk hdk (by decide) (by decide) (by decide) (by rw [Int32.lt_iff_toInt_lt, z0]; omega) (by rw [z0]; omega) (by rw [z0]; omega)
    (fun vm1 _ t ht => by
      rw [hk0] at ht; rw [zn]
      obtain ⟨x, hxx⟩ := gi t ht
      rw [hxx]; exact ⟨rfl, trivial⟩) (g := mkF m pc ls (.int nn :: .int 0 :: .ref b :: .int 0 :: .ref a :: st)) rfl (by rw [hml]; exact hls) rfl (hb hby hd) hf (by show 2 * 0 + _ + _ ≤ _; omega)
  have cf := cd.storeRun_facts (0 : Int32).toNatClampNeg (cs.stretch (0 : Int32).toNatClampNeg nn.toNatClampNeg)
  obtain ⟨ws', hws⟩ := all_ints (copied cs cd 0 0 nn).slots.toList (fun v hv => by
    obtain ⟨t, ht, hvt⟩ := List.mem_iff_getElem.mp hv
    have hg : (copied cs cd 0 0 nn).slots[t]? = some v := by rw [← hvt]; simp at ht ⊢
    rw [show (copied cs cd 0 0 nn).slots[t]? = _ from Cell.storeRun_get _ _ _ _ (by rw [zn, Cell.stretch, List.length_map, List.length_range, hk0, sd]; omega)] at hg
    split at hg
    · rw [Cell.stretch, List.getElem?_map] at hg
      obtain ⟨t', ht', e'⟩ := Option.map_eq_some_iff.mp hg
      have : t' < nn.toNatClampNeg := List.mem_range.mp (List.mem_of_getElem? ht')
      rw [hk0] at this
      obtain ⟨x, hxx⟩ := gi t' this
      exact ⟨x, by rw [← e', zn]; exact hxx⟩
    · rw [r2.1.2.2.1] at hg
      have : v ∈ ws.map Value.int := List.mem_of_getElem? (by simpa using hg)
      obtain ⟨x, -, rfl⟩ := List.mem_map.mp this
      exact ⟨x, rfl⟩)
  have hlen : ws'.length = ws.length := by
    have := congrArg List.length hws
    rw [List.length_map, Array.length_toList, cf.2.2.1, sd] at this; exact this.symm
  refine (K _ ws' ⟨A, _, X', N.app fun y hy => ?_⟩ hlen ?_).back st'
  · obtain ⟨t, -, rfl⟩ := List.mem_map.mp hy; exact hn0
  · show Hp Z n0 (T.heap.setIfInBounds b _) _
    refine H.put hib ⟨⟨?_, by rw [cf.2.1]; exact r2.1.2.1, by rw [← hws], by have := r2.1.2.2.2; simpa [hlen] using this⟩, by rw [cf.1]; exact r2.2⟩
    obtain ⟨o, k1, hk1, comp, hki⟩ := r2.1.1
    exact ⟨fun q => by rw [cf.2.1]; exact o q, k1, by rw [cf.1]; exact hk1, comp, hki⟩
end IArr
end Jvm.OwnKit

namespace Jvm.OwnKit
section Rows
variable {Z : State} {n0 : Nat} {h : Heap}
theorem Hp.cast {L L' : List HRow} (H : Hp Z n0 h L) (e : L = L') : Hp Z n0 h L' := e ▸ H
theorem Hp.fr1 {r0 x : HRow} {L : List HRow} (H : Hp Z n0 h (r0 :: x :: L)) : Hp Z n0 h (x :: r0 :: L) := H.front (i := 1) rfl rfl
theorem mc1 {x r0 : HRow} {L : List HRow} (hx : x ∈ L) : x ∈ r0 :: L := (List.mem_cons_of_mem _ hx)
theorem Hp.fr2 {r0 r1 x : HRow} {L : List HRow} (H : Hp Z n0 h (r0 :: r1 :: x :: L)) : Hp Z n0 h (x :: r0 :: r1 :: L) := H.front (i := 2) rfl rfl
theorem mc2 {x r0 r1 : HRow} {L : List HRow} (hx : x ∈ L) : x ∈ r0 :: r1 :: L := (List.mem_cons_of_mem _ (List.mem_cons_of_mem _ hx))
theorem Hp.fr3 {r0 r1 r2 x : HRow} {L : List HRow} (H : Hp Z n0 h (r0 :: r1 :: r2 :: x :: L)) : Hp Z n0 h (x :: r0 :: r1 :: r2 :: L) := H.front (i := 3) rfl rfl
theorem mc3 {x r0 r1 r2 : HRow} {L : List HRow} (hx : x ∈ L) : x ∈ r0 :: r1 :: r2 :: L := (List.mem_cons_of_mem _ (List.mem_cons_of_mem _ (List.mem_cons_of_mem _ hx)))
theorem Hp.fr4 {r0 r1 r2 r3 x : HRow} {L : List HRow} (H : Hp Z n0 h (r0 :: r1 :: r2 :: r3 :: x :: L)) : Hp Z n0 h (x :: r0 :: r1 :: r2 :: r3 :: L) := H.front (i := 4) rfl rfl
theorem mc4 {x r0 r1 r2 r3 : HRow} {L : List HRow} (hx : x ∈ L) : x ∈ r0 :: r1 :: r2 :: r3 :: L := (List.mem_cons_of_mem _ (List.mem_cons_of_mem _ (List.mem_cons_of_mem _ (List.mem_cons_of_mem _ hx))))
theorem Hp.fr5 {r0 r1 r2 r3 r4 x : HRow} {L : List HRow} (H : Hp Z n0 h (r0 :: r1 :: r2 :: r3 :: r4 :: x :: L)) : Hp Z n0 h (x :: r0 :: r1 :: r2 :: r3 :: r4 :: L) := H.front (i := 5) rfl rfl
theorem Hp.sk5 {r0 r1 r2 r3 r4 : HRow} {G F : List HRow} (H : Hp Z n0 h (G ++ (r0 :: r1 :: r2 :: r3 :: r4 :: F))) : Hp Z n0 h (r0 :: r1 :: r2 :: r3 :: r4 :: (G ++ F)) := Hp.sink (G := G) (R1 := [r0, r1, r2, r3, r4]) H
theorem mc5 {x r0 r1 r2 r3 r4 : HRow} {L : List HRow} (hx : x ∈ L) : x ∈ r0 :: r1 :: r2 :: r3 :: r4 :: L := (List.mem_cons_of_mem _ (List.mem_cons_of_mem _ (List.mem_cons_of_mem _ (List.mem_cons_of_mem _ (List.mem_cons_of_mem _ hx)))))
theorem Hp.fr6 {r0 r1 r2 r3 r4 r5 x : HRow} {L : List HRow} (H : Hp Z n0 h (r0 :: r1 :: r2 :: r3 :: r4 :: r5 :: x :: L)) : Hp Z n0 h (x :: r0 :: r1 :: r2 :: r3 :: r4 :: r5 :: L) := H.front (i := 6) rfl rfl
theorem mc6 {x r0 r1 r2 r3 r4 r5 : HRow} {L : List HRow} (hx : x ∈ L) : x ∈ r0 :: r1 :: r2 :: r3 :: r4 :: r5 :: L := (List.mem_cons_of_mem _ (List.mem_cons_of_mem _ (List.mem_cons_of_mem _ (List.mem_cons_of_mem _ (List.mem_cons_of_mem _ (List.mem_cons_of_mem _ hx))))))
theorem Hp.fr7 {r0 r1 r2 r3 r4 r5 r6 x : HRow} {L : List HRow} (H : Hp Z n0 h (r0 :: r1 :: r2 :: r3 :: r4 :: r5 :: r6 :: x :: L)) : Hp Z n0 h (x :: r0 :: r1 :: r2 :: r3 :: r4 :: r5 :: r6 :: L) := H.front (i := 7) rfl rfl
theorem mc7 {x r0 r1 r2 r3 r4 r5 r6 : HRow} {L : List HRow} (hx : x ∈ L) : x ∈ r0 :: r1 :: r2 :: r3 :: r4 :: r5 :: r6 :: L := (List.mem_cons_of_mem _ (List.mem_cons_of_mem _ (List.mem_cons_of_mem _ (List.mem_cons_of_mem _ (List.mem_cons_of_mem _ (List.mem_cons_of_mem _ (List.mem_cons_of_mem _ hx)))))))
theorem Hp.fr8 {r0 r1 r2 r3 r4 r5 r6 r7 x : HRow} {L : List HRow} (H : Hp Z n0 h (r0 :: r1 :: r2 :: r3 :: r4 :: r5 :: r6 :: r7 :: x :: L)) : Hp Z n0 h (x :: r0 :: r1 :: r2 :: r3 :: r4 :: r5 :: r6 :: r7 :: L) := H.front (i := 8) rfl rfl
theorem Hp.sk8 {r0 r1 r2 r3 r4 r5 r6 r7 : HRow} {G F : List HRow} (H : Hp Z n0 h (G ++ (r0 :: r1 :: r2 :: r3 :: r4 :: r5 :: r6 :: r7 :: F))) : Hp Z n0 h (r0 :: r1 :: r2 :: r3 :: r4 :: r5 :: r6 :: r7 :: (G ++ F)) := Hp.sink (G := G) (R1 := [r0, r1, r2, r3, r4, r5, r6, r7]) H
theorem mc8 {x r0 r1 r2 r3 r4 r5 r6 r7 : HRow} {L : List HRow} (hx : x ∈ L) : x ∈ r0 :: r1 :: r2 :: r3 :: r4 :: r5 :: r6 :: r7 :: L := (List.mem_cons_of_mem _ (List.mem_cons_of_mem _ (List.mem_cons_of_mem _ (List.mem_cons_of_mem _ (List.mem_cons_of_mem _ (List.mem_cons_of_mem _ (List.mem_cons_of_mem _ (List.mem_cons_of_mem _ hx))))))))
theorem Hp.fr9 {r0 r1 r2 r3 r4 r5 r6 r7 r8 x : HRow} {L : List HRow} (H : Hp Z n0 h (r0 :: r1 :: r2 :: r3 :: r4 :: r5 :: r6 :: r7 :: r8 :: x :: L)) : Hp Z n0 h (x :: r0 :: r1 :: r2 :: r3 :: r4 :: r5 :: r6 :: r7 :: r8 :: L) := H.front (i := 9) rfl rfl
theorem Hp.sk9 {r0 r1 r2 r3 r4 r5 r6 r7 r8 : HRow} {G F : List HRow} (H : Hp Z n0 h (G ++ (r0 :: r1 :: r2 :: r3 :: r4 :: r5 :: r6 :: r7 :: r8 :: F))) : Hp Z n0 h (r0 :: r1 :: r2 :: r3 :: r4 :: r5 :: r6 :: r7 :: r8 :: (G ++ F)) := Hp.sink (G := G) (R1 := [r0, r1, r2, r3, r4, r5, r6, r7, r8]) H
theorem Hp.fr10 {r0 r1 r2 r3 r4 r5 r6 r7 r8 r9 x : HRow} {L : List HRow} (H : Hp Z n0 h (r0 :: r1 :: r2 :: r3 :: r4 :: r5 :: r6 :: r7 :: r8 :: r9 :: x :: L)) : Hp Z n0 h (x :: r0 :: r1 :: r2 :: r3 :: r4 :: r5 :: r6 :: r7 :: r8 :: r9 :: L) := H.front (i := 10) rfl rfl
theorem Hp.sk10 {r0 r1 r2 r3 r4 r5 r6 r7 r8 r9 : HRow} {G F : List HRow} (H : Hp Z n0 h (G ++ (r0 :: r1 :: r2 :: r3 :: r4 :: r5 :: r6 :: r7 :: r8 :: r9 :: F))) : Hp Z n0 h (r0 :: r1 :: r2 :: r3 :: r4 :: r5 :: r6 :: r7 :: r8 :: r9 :: (G ++ F)) := Hp.sink (G := G) (R1 := [r0, r1, r2, r3, r4, r5, r6, r7, r8, r9]) H
theorem Hp.fr11 {r0 r1 r2 r3 r4 r5 r6 r7 r8 r9 r10 x : HRow} {L : List HRow} (H : Hp Z n0 h (r0 :: r1 :: r2 :: r3 :: r4 :: r5 :: r6 :: r7 :: r8 :: r9 :: r10 :: x :: L)) : Hp Z n0 h (x :: r0 :: r1 :: r2 :: r3 :: r4 :: r5 :: r6 :: r7 :: r8 :: r9 :: r10 :: L) := H.front (i := 11) rfl rfl
theorem Hp.fr12 {r0 r1 r2 r3 r4 r5 r6 r7 r8 r9 r10 r11 x : HRow} {L : List HRow} (H : Hp Z n0 h (r0 :: r1 :: r2 :: r3 :: r4 :: r5 :: r6 :: r7 :: r8 :: r9 :: r10 :: r11 :: x :: L)) : Hp Z n0 h (x :: r0 :: r1 :: r2 :: r3 :: r4 :: r5 :: r6 :: r7 :: r8 :: r9 :: r10 :: r11 :: L) := H.front (i := 12) rfl rfl
theorem Hp.fr13 {r0 r1 r2 r3 r4 r5 r6 r7 r8 r9 r10 r11 r12 x : HRow} {L : List HRow} (H : Hp Z n0 h (r0 :: r1 :: r2 :: r3 :: r4 :: r5 :: r6 :: r7 :: r8 :: r9 :: r10 :: r11 :: r12 :: x :: L)) : Hp Z n0 h (x :: r0 :: r1 :: r2 :: r3 :: r4 :: r5 :: r6 :: r7 :: r8 :: r9 :: r10 :: r11 :: r12 :: L) := H.front (i := 13) rfl rfl
theorem Hp.fr14 {r0 r1 r2 r3 r4 r5 r6 r7 r8 r9 r10 r11 r12 r13 x : HRow} {L : List HRow} (H : Hp Z n0 h (r0 :: r1 :: r2 :: r3 :: r4 :: r5 :: r6 :: r7 :: r8 :: r9 :: r10 :: r11 :: r12 :: r13 :: x :: L)) : Hp Z n0 h (x :: r0 :: r1 :: r2 :: r3 :: r4 :: r5 :: r6 :: r7 :: r8 :: r9 :: r10 :: r11 :: r12 :: r13 :: L) := H.front (i := 14) rfl rfl
end Rows
end Jvm.OwnKit

namespace Jvm.Pilot.@@N@@
open Jvm Jvm.ClassFile Sem Op Lib Jvm.Free Jvm.Stand Jvm.LawKit Jvm.RoadKit Jvm.OwnKit Jvm.Free.Fl Bundle Jvm.Pilot.@@N@@.Jvm.D
abbrev HW (Z : State) (a0 : Array Value) : Prop := ∀ d ∈ tables_1, d.before a0 Z = true
theorem wk_ {Z : State} {a0 : Array Value} (hw : HW Z a0) (i : Nat) {d : Jvm.Cond} (e : tables_1[i]? = some d) : d.before a0 Z = true := hw d (List.mem_of_getElem? e)
abbrev M0 : MethodName := ⟨"java/lang/String", "valueOf", "(C)Ljava/lang/String;"⟩
abbrev M1 : MethodName := ⟨"java/lang/StringLatin1", "canEncode", "(C)Z"⟩
abbrev M2 : MethodName := ⟨"java/lang/StringLatin1", "toBytes", "(C)[B"⟩
abbrev M3 : MethodName := ⟨"java/lang/String", "<init>", "([BB)V"⟩
abbrev M4 : MethodName := ⟨"java/lang/Object", "<init>", "()V"⟩
abbrev M5 : MethodName := ⟨"java/util/HashMap", "<init>", "()V"⟩
abbrev M6 : MethodName := ⟨"java/util/AbstractMap", "<init>", "()V"⟩
abbrev M7 : MethodName := ⟨"java/util/ArrayList", "<init>", "()V"⟩
abbrev M8 : MethodName := ⟨"java/util/AbstractList", "<init>", "()V"⟩
abbrev M9 : MethodName := ⟨"java/util/AbstractCollection", "<init>", "()V"⟩
abbrev M10 : MethodName := ⟨"com/example/inq2/inq2/JudgedRanking", "<init>", "(Ljava/util/List;Ljava/util/Map;)V"⟩
abbrev M11 : MethodName := ⟨"java/util/List", "size", "()I"⟩
abbrev M12 : MethodName := ⟨"java/util/ArrayList", "size", "()I"⟩
abbrev M13 : MethodName := ⟨"java/util/Map", "size", "()I"⟩
abbrev M14 : MethodName := ⟨"java/util/HashMap", "size", "()I"⟩
abbrev M15 : MethodName := ⟨"java/util/Map", "values", "()Ljava/util/Collection;"⟩
abbrev M16 : MethodName := ⟨"java/util/HashMap", "values", "()Ljava/util/Collection;"⟩
abbrev M17 : MethodName := ⟨"java/util/HashMap$Values", "<init>", "(Ljava/util/HashMap;)V"⟩
abbrev M18 : MethodName := ⟨"java/util/Collection", "iterator", "()Ljava/util/Iterator;"⟩
abbrev M19 : MethodName := ⟨"java/util/HashMap$Values", "iterator", "()Ljava/util/Iterator;"⟩
abbrev M20 : MethodName := ⟨"java/util/HashMap$ValueIterator", "<init>", "(Ljava/util/HashMap;)V"⟩
abbrev M21 : MethodName := ⟨"java/util/HashMap$HashIterator", "<init>", "(Ljava/util/HashMap;)V"⟩
abbrev M22 : MethodName := ⟨"java/util/Iterator", "hasNext", "()Z"⟩
abbrev M23 : MethodName := ⟨"java/util/HashMap$HashIterator", "hasNext", "()Z"⟩
abbrev M24 : MethodName := ⟨"java/util/Arrays", "copyOf", "([II)[I"⟩
abbrev M25 : MethodName := ⟨"[I", "clone", "()Ljava/lang/Object;"⟩
abbrev M26 : MethodName := ⟨"java/lang/Object", "clone", "()Ljava/lang/Object;"⟩
abbrev M27 : MethodName := ⟨"java/util/Arrays", "sort", "([I)V"⟩
abbrev M28 : MethodName := ⟨"java/util/DualPivotQuicksort", "sort", "([IIII)V"⟩
abbrev M29 : MethodName := ⟨"java/util/DualPivotQuicksort", "sort", "(Ljava/util/DualPivotQuicksort$Sorter;[IIII)V"⟩
abbrev M30 : MethodName := ⟨"java/util/DualPivotQuicksort", "insertionSort", "([III)V"⟩
abbrev M31 : MethodName := ⟨"com/example/inq2/inq2/JudgedRanking", "reverse", "([I)V"⟩
abbrev M32 : MethodName := ⟨"com/example/inq2/inq2/JudgedRanking", "averagePrecision", "()D"⟩
abbrev M33 : MethodName := ⟨"com/example/inq2/inq2/JudgedRanking", "relevant", "()I"⟩
abbrev M34 : MethodName := ⟨"java/lang/Integer", "valueOf", "(I)Ljava/lang/Integer;"⟩
abbrev M35 : MethodName := ⟨"java/util/HashMap", "put", "(Ljava/lang/Object;Ljava/lang/Object;)Ljava/lang/Object;"⟩
abbrev M36 : MethodName := ⟨"java/util/HashMap", "hash", "(Ljava/lang/Object;)I"⟩
abbrev M37 : MethodName := ⟨"java/lang/Object", "hashCode", "()I"⟩
abbrev M38 : MethodName := ⟨"java/lang/String", "hashCode", "()I"⟩
abbrev M39 : MethodName := ⟨"java/lang/String", "isLatin1", "()Z"⟩
abbrev M40 : MethodName := ⟨"java/lang/StringLatin1", "hashCode", "([B)I"⟩
abbrev M41 : MethodName := ⟨"java/util/HashMap", "putVal", "(ILjava/lang/Object;Ljava/lang/Object;ZZ)Ljava/lang/Object;"⟩
abbrev M42 : MethodName := ⟨"java/util/HashMap", "resize", "()[Ljava/util/HashMap$Node;"⟩
abbrev M43 : MethodName := ⟨"java/util/HashMap", "newNode", "(ILjava/lang/Object;Ljava/lang/Object;Ljava/util/HashMap$Node;)Ljava/util/HashMap$Node;"⟩
abbrev M44 : MethodName := ⟨"java/util/HashMap$Node", "<init>", "(ILjava/lang/Object;Ljava/lang/Object;Ljava/util/HashMap$Node;)V"⟩
abbrev M45 : MethodName := ⟨"java/util/HashMap", "afterNodeInsertion", "(Z)V"⟩
abbrev M46 : MethodName := ⟨"com/example/inq2/inq2/ScoredDocument", "<init>", "(Ljava/lang/String;D)V"⟩
abbrev M47 : MethodName := ⟨"java/util/ArrayList", "add", "(Ljava/lang/Object;)Z"⟩
abbrev M48 : MethodName := ⟨"java/util/ArrayList", "add", "(Ljava/lang/Object;[Ljava/lang/Object;I)V"⟩
abbrev M49 : MethodName := ⟨"java/util/ArrayList", "grow", "()[Ljava/lang/Object;"⟩
abbrev M50 : MethodName := ⟨"java/util/ArrayList", "grow", "(I)[Ljava/lang/Object;"⟩
abbrev M51 : MethodName := ⟨"java/lang/Math", "max", "(II)I"⟩
abbrev M52 : MethodName := ⟨"java/util/List", "get", "(I)Ljava/lang/Object;"⟩
abbrev M53 : MethodName := ⟨"java/util/ArrayList", "get", "(I)Ljava/lang/Object;"⟩
abbrev M54 : MethodName := ⟨"java/util/Objects", "checkIndex", "(II)I"⟩
abbrev M55 : MethodName := ⟨"jdk/internal/util/Preconditions", "checkIndex", "(IILjava/util/function/BiFunction;)I"⟩
abbrev M56 : MethodName := ⟨"java/util/ArrayList", "elementData", "(I)Ljava/lang/Object;"⟩
abbrev M57 : MethodName := ⟨"com/example/inq2/inq2/ScoredDocument", "document", "()Ljava/lang/String;"⟩
abbrev M58 : MethodName := ⟨"java/util/Map", "getOrDefault", "(Ljava/lang/Object;Ljava/lang/Object;)Ljava/lang/Object;"⟩
abbrev M59 : MethodName := ⟨"java/util/HashMap", "getOrDefault", "(Ljava/lang/Object;Ljava/lang/Object;)Ljava/lang/Object;"⟩
abbrev M60 : MethodName := ⟨"java/util/HashMap", "getNode", "(Ljava/lang/Object;)Ljava/util/HashMap$Node;"⟩
abbrev M61 : MethodName := ⟨"java/lang/Integer", "intValue", "()I"⟩
abbrev M62 : MethodName := ⟨"java/util/Iterator", "next", "()Ljava/lang/Object;"⟩
abbrev M63 : MethodName := ⟨"java/util/HashMap$ValueIterator", "next", "()Ljava/lang/Object;"⟩
abbrev M64 : MethodName := ⟨"java/util/HashMap$ValueIterator", "nextNode", "()Ljava/util/HashMap$Node;"⟩
abbrev M65 : MethodName := ⟨"java/util/HashMap$HashIterator", "nextNode", "()Ljava/util/HashMap$Node;"⟩
abbrev M66 : MethodName := ⟨"java/lang/Integer", "<init>", "(I)V"⟩
abbrev M67 : MethodName := ⟨"java/lang/Number", "<init>", "()V"⟩
abbrev M68 : MethodName := ⟨"java/lang/Math", "min", "(II)I"⟩
abbrev M69 : MethodName := ⟨"java/lang/System", "arraycopy", "(Ljava/lang/Object;ILjava/lang/Object;II)V"⟩
theorem wd_0 {Z a0} (hw : HW Z a0) : (Cond.methodLink "com/example/inq2/inq2/JudgedRankingAveragePrecisionPinLaw" 7 M0).before a0 Z = true := wk_ hw 0 rfl
theorem wd_1 {Z a0} (hw : HW Z a0) : (Cond.static M0).before a0 Z = true := wk_ hw 1 rfl
theorem wd_2 {Z a0} (hw : HW Z a0) : (Cond.initialized "java/lang/String").before a0 Z = true := wk_ hw 2 rfl
theorem wd_3 {Z a0} (hw : HW Z a0) : (Cond.code M0 jdk_42_method_139_code 1 (some (FieldType.object "java/lang/String"))).before a0 Z = true := wk_ hw 3 rfl
theorem wd_4 {Z a0} (hw : HW Z a0) : (Cond.fieldLink "java/lang/String" 38 "java/lang/String" "COMPACT_STRINGS" "Z").before a0 Z = true := wk_ hw 4 rfl
theorem wd_5 {Z a0} (hw : HW Z a0) : (Cond.methodLink "java/lang/String" 1015 M1).before a0 Z = true := wk_ hw 5 rfl
theorem wd_6 {Z a0} (hw : HW Z a0) : (Cond.static M1).before a0 Z = true := wk_ hw 6 rfl
theorem wd_7 {Z a0} (hw : HW Z a0) : (Cond.initialized "java/lang/StringLatin1").before a0 Z = true := wk_ hw 7 rfl
theorem wd_8 {Z a0} (hw : HW Z a0) : (Cond.code M1 jdk_43_method_3_code 1 (some FieldType.boolean)).before a0 Z = true := wk_ hw 8 rfl
theorem wd_9 {Z a0} (hw : HW Z a0) : (Cond.classLink "java/lang/String" 10 "java/lang/String").before a0 Z = true := wk_ hw 9 rfl
theorem wd_10 {Z a0} (hw : HW Z a0) : (Cond.instantiable "java/lang/String" 4).before a0 Z = true := wk_ hw 10 rfl
theorem wd_11 {Z a0} (hw : HW Z a0) : (Cond.methodLink "java/lang/String" 1018 M2).before a0 Z = true := wk_ hw 11 rfl
theorem wd_12 {Z a0} (hw : HW Z a0) : (Cond.static M2).before a0 Z = true := wk_ hw 12 rfl
theorem wd_13 {Z a0} (hw : HW Z a0) : (Cond.code M2 jdk_43_method_46_code 1 (some (FieldType.array FieldType.byte))).before a0 Z = true := wk_ hw 13 rfl
theorem wd_14 {Z a0} (hw : HW Z a0) : (Cond.arrayClass FieldType.byte).before a0 Z = true := wk_ hw 14 rfl
theorem wd_15 {Z a0} (hw : HW Z a0) : (Cond.methodLink "java/lang/String" 209 M3).before a0 Z = true := wk_ hw 15 rfl
theorem wd_16 {Z a0} (hw : HW Z a0) : (Cond.instanceMethod M3).before a0 Z = true := wk_ hw 16 rfl
theorem wd_18 {Z a0} (hw : HW Z a0) : (Cond.code M3 jdk_42_method_151_code 3 (Option.none : Option Jvm.ClassFile.FieldType)).before a0 Z = true := wk_ hw 18 rfl
theorem wd_19 {Z a0} (hw : HW Z a0) : (Cond.methodLink "java/lang/String" 1 M4).before a0 Z = true := wk_ hw 19 rfl
theorem wd_20 {Z a0} (hw : HW Z a0) : (Cond.instanceMethod M4).before a0 Z = true := wk_ hw 20 rfl
theorem wd_21 {Z a0} (hw : HW Z a0) : (Cond.code M4 object_method_1_code 1 (Option.none : Option Jvm.ClassFile.FieldType)).before a0 Z = true := wk_ hw 21 rfl
theorem wd_22 {Z a0} (hw : HW Z a0) : (Cond.fieldLink "java/lang/String" 9 "java/lang/String" "value" "[B").before a0 Z = true := wk_ hw 22 rfl
theorem wd_23 {Z a0} (hw : HW Z a0) : (Cond.laysFinal "java/lang/String" "java/lang/String" "value" "[B").before a0 Z = true := wk_ hw 23 rfl
theorem wd_24 {Z a0} (hw : HW Z a0) : (Cond.fieldLink "java/lang/String" 15 "java/lang/String" "coder" "B").before a0 Z = true := wk_ hw 24 rfl
theorem wd_25 {Z a0} (hw : HW Z a0) : (Cond.laysFinal "java/lang/String" "java/lang/String" "coder" "B").before a0 Z = true := wk_ hw 25 rfl
theorem wd_26 {Z a0} (hw : HW Z a0) : (Cond.classLink "com/example/inq2/inq2/JudgedRankingAveragePrecisionPinLaw" 13 "java/util/HashMap").before a0 Z = true := wk_ hw 26 rfl
theorem wd_27 {Z a0} (hw : HW Z a0) : (Cond.instantiable "java/util/HashMap" 8).before a0 Z = true := wk_ hw 27 rfl
theorem wd_28 {Z a0} (hw : HW Z a0) : (Cond.initialized "java/util/HashMap").before a0 Z = true := wk_ hw 28 rfl
theorem wd_29 {Z a0} (hw : HW Z a0) : (Cond.methodLink "com/example/inq2/inq2/JudgedRankingAveragePrecisionPinLaw" 15 M5).before a0 Z = true := wk_ hw 29 rfl
theorem wd_30 {Z a0} (hw : HW Z a0) : (Cond.instanceMethod M5).before a0 Z = true := wk_ hw 30 rfl
theorem wd_31 {Z a0} (hw : HW Z a0) : (Cond.code M5 jdk_69_method_7_code 1 (Option.none : Option Jvm.ClassFile.FieldType)).before a0 Z = true := wk_ hw 31 rfl
theorem wd_32 {Z a0} (hw : HW Z a0) : (Cond.methodLink "java/util/HashMap" 43 M6).before a0 Z = true := wk_ hw 32 rfl
theorem wd_33 {Z a0} (hw : HW Z a0) : (Cond.instanceMethod M6).before a0 Z = true := wk_ hw 33 rfl
theorem wd_36 {Z a0} (hw : HW Z a0) : (Cond.initialized "java/util/AbstractMap").before a0 Z = true := wk_ hw 36 rfl
theorem wd_37 {Z a0} (hw : HW Z a0) : (Cond.code M6 jdk_71_method_1_code 1 (Option.none : Option Jvm.ClassFile.FieldType)).before a0 Z = true := wk_ hw 37 rfl
theorem wd_38 {Z a0} (hw : HW Z a0) : (Cond.methodLink "java/util/AbstractMap" 1 M4).before a0 Z = true := wk_ hw 38 rfl
theorem wd_39 {Z a0} (hw : HW Z a0) : (Cond.constantFloat "java/util/HashMap" 92 (1061158912 : UInt32)).before a0 Z = true := wk_ hw 39 rfl
theorem wd_40 {Z a0} (hw : HW Z a0) : (Cond.fieldLink "java/util/HashMap" 81 "java/util/HashMap" "loadFactor" "F").before a0 Z = true := wk_ hw 40 rfl
theorem wd_41 {Z a0} (hw : HW Z a0) : (Cond.laysFinal "java/util/HashMap" "java/util/HashMap" "loadFactor" "F").before a0 Z = true := wk_ hw 41 rfl
theorem wd_42 {Z a0} (hw : HW Z a0) : (Cond.classLink "com/example/inq2/inq2/JudgedRankingAveragePrecisionPinLaw" 25 "java/util/ArrayList").before a0 Z = true := wk_ hw 42 rfl
theorem wd_43 {Z a0} (hw : HW Z a0) : (Cond.instantiable "java/util/ArrayList" 3).before a0 Z = true := wk_ hw 43 rfl
theorem wd_44 {Z a0} (hw : HW Z a0) : (Cond.initialized "java/util/ArrayList").before a0 Z = true := wk_ hw 44 rfl
theorem wd_45 {Z a0} (hw : HW Z a0) : (Cond.methodLink "com/example/inq2/inq2/JudgedRankingAveragePrecisionPinLaw" 27 M7).before a0 Z = true := wk_ hw 45 rfl
theorem wd_46 {Z a0} (hw : HW Z a0) : (Cond.instanceMethod M7).before a0 Z = true := wk_ hw 46 rfl
theorem wd_47 {Z a0} (hw : HW Z a0) : (Cond.code M7 jdk_38_method_2_code 1 (Option.none : Option Jvm.ClassFile.FieldType)).before a0 Z = true := wk_ hw 47 rfl
theorem wd_48 {Z a0} (hw : HW Z a0) : (Cond.methodLink "java/util/ArrayList" 1 M8).before a0 Z = true := wk_ hw 48 rfl
theorem wd_49 {Z a0} (hw : HW Z a0) : (Cond.instanceMethod M8).before a0 Z = true := wk_ hw 49 rfl
theorem wd_52 {Z a0} (hw : HW Z a0) : (Cond.initialized "java/util/AbstractList").before a0 Z = true := wk_ hw 52 rfl
theorem wd_53 {Z a0} (hw : HW Z a0) : (Cond.code M8 jdk_39_method_1_code 1 (Option.none : Option Jvm.ClassFile.FieldType)).before a0 Z = true := wk_ hw 53 rfl
theorem wd_54 {Z a0} (hw : HW Z a0) : (Cond.methodLink "java/util/AbstractList" 1 M9).before a0 Z = true := wk_ hw 54 rfl
theorem wd_55 {Z a0} (hw : HW Z a0) : (Cond.instanceMethod M9).before a0 Z = true := wk_ hw 55 rfl
theorem wd_58 {Z a0} (hw : HW Z a0) : (Cond.initialized "java/util/AbstractCollection").before a0 Z = true := wk_ hw 58 rfl
theorem wd_59 {Z a0} (hw : HW Z a0) : (Cond.code M9 jdk_22_method_1_code 1 (Option.none : Option Jvm.ClassFile.FieldType)).before a0 Z = true := wk_ hw 59 rfl
theorem wd_60 {Z a0} (hw : HW Z a0) : (Cond.methodLink "java/util/AbstractCollection" 1 M4).before a0 Z = true := wk_ hw 60 rfl
theorem wd_61 {Z a0} (hw : HW Z a0) : (Cond.fieldLink "java/util/AbstractList" 7 "java/util/AbstractList" "modCount" "I").before a0 Z = true := wk_ hw 61 rfl
theorem wd_62 {Z a0} (hw : HW Z a0) : (Cond.lays "java/util/ArrayList" "java/util/AbstractList" "modCount" "I").before a0 Z = true := wk_ hw 62 rfl
theorem wd_63 {Z a0} (hw : HW Z a0) : (Cond.fieldLink "java/util/ArrayList" 39 "java/util/ArrayList" "DEFAULTCAPACITY_EMPTY_ELEMENTDATA" "[Ljava/lang/Object;").before a0 Z = true := wk_ hw 63 rfl
theorem wd_64 {Z a0} (hw : HW Z a0) : (Cond.fieldLink "java/util/ArrayList" 9 "java/util/ArrayList" "elementData" "[Ljava/lang/Object;").before a0 Z = true := wk_ hw 64 rfl
theorem wd_65 {Z a0} (hw : HW Z a0) : (Cond.lays "java/util/ArrayList" "java/util/ArrayList" "elementData" "[Ljava/lang/Object;").before a0 Z = true := wk_ hw 65 rfl
theorem wd_66 {Z a0} (hw : HW Z a0) : (Cond.classLink "com/example/inq2/inq2/JudgedRankingAveragePrecisionPinLaw" 41 "com/example/inq2/inq2/JudgedRanking").before a0 Z = true := wk_ hw 66 rfl
theorem wd_67 {Z a0} (hw : HW Z a0) : (Cond.instantiable "com/example/inq2/inq2/JudgedRanking" 2).before a0 Z = true := wk_ hw 67 rfl
theorem wd_68 {Z a0} (hw : HW Z a0) : (Cond.initialized "com/example/inq2/inq2/JudgedRanking").before a0 Z = true := wk_ hw 68 rfl
theorem wd_69 {Z a0} (hw : HW Z a0) : (Cond.methodLink "com/example/inq2/inq2/JudgedRankingAveragePrecisionPinLaw" 43 M10).before a0 Z = true := wk_ hw 69 rfl
theorem wd_70 {Z a0} (hw : HW Z a0) : (Cond.instanceMethod M10).before a0 Z = true := wk_ hw 70 rfl
theorem wd_71 {Z a0} (hw : HW Z a0) : (Cond.code M10 prog_8_method_1_code 7 (Option.none : Option Jvm.ClassFile.FieldType)).before a0 Z = true := wk_ hw 71 rfl
theorem wd_72 {Z a0} (hw : HW Z a0) : (Cond.methodLink "com/example/inq2/inq2/JudgedRanking" 1 M4).before a0 Z = true := wk_ hw 72 rfl
theorem wd_73 {Z a0} (hw : HW Z a0) : (Cond.methodLink "com/example/inq2/inq2/JudgedRanking" 7 M11).before a0 Z = true := wk_ hw 73 rfl
theorem wd_74 {Z a0} (hw : HW Z a0) : (Cond.declares M11).before a0 Z = true := wk_ hw 74 rfl
theorem wd_75 {Z a0} (hw : HW Z a0) : (Cond.interfaceMethod "java/util/List" "java/util/List" "size" "()I").before a0 Z = true := wk_ hw 75 rfl
theorem wd_76 {Z a0} (hw : HW Z a0) : (Cond.selects "java/util/ArrayList" M11 M12).before a0 Z = true := wk_ hw 76 rfl
theorem wd_77 {Z a0} (hw : HW Z a0) : (Cond.instanceMethod M12).before a0 Z = true := wk_ hw 77 rfl
theorem wd_78 {Z a0} (hw : HW Z a0) : (Cond.publicMethod M12).before a0 Z = true := wk_ hw 78 rfl
theorem wd_79 {Z a0} (hw : HW Z a0) : (Cond.unhidden "java/util/ArrayList" "size" "()I").before a0 Z = true := wk_ hw 79 rfl
theorem wd_80 {Z a0} (hw : HW Z a0) : (Cond.castable "java/util/ArrayList" "java/util/List").before a0 Z = true := wk_ hw 80 rfl
theorem wd_81 {Z a0} (hw : HW Z a0) : (Cond.code M12 jdk_38_method_8_code 1 (some FieldType.int)).before a0 Z = true := wk_ hw 81 rfl
theorem wd_82 {Z a0} (hw : HW Z a0) : (Cond.fieldLink "java/util/ArrayList" 48 "java/util/ArrayList" "size" "I").before a0 Z = true := wk_ hw 82 rfl
theorem wd_83 {Z a0} (hw : HW Z a0) : (Cond.lays "java/util/ArrayList" "java/util/ArrayList" "size" "I").before a0 Z = true := wk_ hw 83 rfl
theorem wd_84 {Z a0} (hw : HW Z a0) : (Cond.arrayClass FieldType.int).before a0 Z = true := wk_ hw 84 rfl
theorem wd_85 {Z a0} (hw : HW Z a0) : (Cond.fieldLink "com/example/inq2/inq2/JudgedRanking" 13 "com/example/inq2/inq2/JudgedRanking" "_relevances" "[I").before a0 Z = true := wk_ hw 85 rfl
theorem wd_86 {Z a0} (hw : HW Z a0) : (Cond.laysFinal "com/example/inq2/inq2/JudgedRanking" "com/example/inq2/inq2/JudgedRanking" "_relevances" "[I").before a0 Z = true := wk_ hw 86 rfl
theorem wd_87 {Z a0} (hw : HW Z a0) : (Cond.methodLink "com/example/inq2/inq2/JudgedRanking" 44 M13).before a0 Z = true := wk_ hw 87 rfl
theorem wd_88 {Z a0} (hw : HW Z a0) : (Cond.declares M13).before a0 Z = true := wk_ hw 88 rfl
theorem wd_89 {Z a0} (hw : HW Z a0) : (Cond.interfaceMethod "java/util/Map" "java/util/Map" "size" "()I").before a0 Z = true := wk_ hw 89 rfl
theorem wd_90 {Z a0} (hw : HW Z a0) : (Cond.selects "java/util/HashMap" M13 M14).before a0 Z = true := wk_ hw 90 rfl
theorem wd_91 {Z a0} (hw : HW Z a0) : (Cond.instanceMethod M14).before a0 Z = true := wk_ hw 91 rfl
theorem wd_92 {Z a0} (hw : HW Z a0) : (Cond.publicMethod M14).before a0 Z = true := wk_ hw 92 rfl
theorem wd_93 {Z a0} (hw : HW Z a0) : (Cond.unhidden "java/util/HashMap" "size" "()I").before a0 Z = true := wk_ hw 93 rfl
theorem wd_94 {Z a0} (hw : HW Z a0) : (Cond.castable "java/util/HashMap" "java/util/Map").before a0 Z = true := wk_ hw 94 rfl
theorem wd_95 {Z a0} (hw : HW Z a0) : (Cond.code M14 jdk_69_method_10_code 1 (some FieldType.int)).before a0 Z = true := wk_ hw 95 rfl
theorem wd_96 {Z a0} (hw : HW Z a0) : (Cond.fieldLink "java/util/HashMap" 156 "java/util/HashMap" "size" "I").before a0 Z = true := wk_ hw 96 rfl
theorem wd_97 {Z a0} (hw : HW Z a0) : (Cond.lays "java/util/HashMap" "java/util/HashMap" "size" "I").before a0 Z = true := wk_ hw 97 rfl
theorem wd_98 {Z a0} (hw : HW Z a0) : (Cond.methodLink "com/example/inq2/inq2/JudgedRanking" 45 M15).before a0 Z = true := wk_ hw 98 rfl
theorem wd_99 {Z a0} (hw : HW Z a0) : (Cond.declares M15).before a0 Z = true := wk_ hw 99 rfl
theorem wd_100 {Z a0} (hw : HW Z a0) : (Cond.interfaceMethod "java/util/Map" "java/util/Map" "values" "()Ljava/util/Collection;").before a0 Z = true := wk_ hw 100 rfl
theorem wd_101 {Z a0} (hw : HW Z a0) : (Cond.selects "java/util/HashMap" M15 M16).before a0 Z = true := wk_ hw 101 rfl
theorem wd_102 {Z a0} (hw : HW Z a0) : (Cond.instanceMethod M16).before a0 Z = true := wk_ hw 102 rfl
theorem wd_103 {Z a0} (hw : HW Z a0) : (Cond.publicMethod M16).before a0 Z = true := wk_ hw 103 rfl
theorem wd_104 {Z a0} (hw : HW Z a0) : (Cond.unhidden "java/util/HashMap" "values" "()Ljava/util/Collection;").before a0 Z = true := wk_ hw 104 rfl
theorem wd_105 {Z a0} (hw : HW Z a0) : (Cond.code M16 jdk_69_method_28_code 2 (some (FieldType.object "java/util/Collection"))).before a0 Z = true := wk_ hw 105 rfl
theorem wd_106 {Z a0} (hw : HW Z a0) : (Cond.fieldLink "java/util/HashMap" 259 "java/util/HashMap" "values" "Ljava/util/Collection;").before a0 Z = true := wk_ hw 106 rfl
theorem wd_107 {Z a0} (hw : HW Z a0) : (Cond.sameField "java/util/HashMap" "java/util/AbstractMap" "values" "Ljava/util/Collection;").before a0 Z = true := wk_ hw 107 rfl
theorem wd_108 {Z a0} (hw : HW Z a0) : (Cond.lays "java/util/HashMap" "java/util/AbstractMap" "values" "Ljava/util/Collection;").before a0 Z = true := wk_ hw 108 rfl
theorem wd_109 {Z a0} (hw : HW Z a0) : (Cond.classLink "java/util/HashMap" 263 "java/util/HashMap$Values").before a0 Z = true := wk_ hw 109 rfl
theorem wd_110 {Z a0} (hw : HW Z a0) : (Cond.instantiable "java/util/HashMap$Values" 1).before a0 Z = true := wk_ hw 110 rfl
theorem wd_111 {Z a0} (hw : HW Z a0) : (Cond.initialized "java/util/HashMap$Values").before a0 Z = true := wk_ hw 111 rfl
theorem wd_112 {Z a0} (hw : HW Z a0) : (Cond.methodLink "java/util/HashMap" 265 M17).before a0 Z = true := wk_ hw 112 rfl
theorem wd_113 {Z a0} (hw : HW Z a0) : (Cond.instanceMethod M17).before a0 Z = true := wk_ hw 113 rfl
theorem wd_115 {Z a0} (hw : HW Z a0) : (Cond.code M17 jdk_2571_method_1_code 2 (Option.none : Option Jvm.ClassFile.FieldType)).before a0 Z = true := wk_ hw 115 rfl
theorem wd_116 {Z a0} (hw : HW Z a0) : (Cond.fieldLink "java/util/HashMap$Values" 1 "java/util/HashMap$Values" "this$0" "Ljava/util/HashMap;").before a0 Z = true := wk_ hw 116 rfl
theorem wd_117 {Z a0} (hw : HW Z a0) : (Cond.laysFinal "java/util/HashMap$Values" "java/util/HashMap$Values" "this$0" "Ljava/util/HashMap;").before a0 Z = true := wk_ hw 117 rfl
theorem wd_118 {Z a0} (hw : HW Z a0) : (Cond.methodLink "java/util/HashMap$Values" 7 M9).before a0 Z = true := wk_ hw 118 rfl
theorem wd_120 {Z a0} (hw : HW Z a0) : (Cond.methodLink "com/example/inq2/inq2/JudgedRanking" 49 M18).before a0 Z = true := wk_ hw 120 rfl
theorem wd_121 {Z a0} (hw : HW Z a0) : (Cond.declares M18).before a0 Z = true := wk_ hw 121 rfl
theorem wd_122 {Z a0} (hw : HW Z a0) : (Cond.interfaceMethod "java/util/Collection" "java/util/Collection" "iterator" "()Ljava/util/Iterator;").before a0 Z = true := wk_ hw 122 rfl
theorem wd_123 {Z a0} (hw : HW Z a0) : (Cond.selects "java/util/HashMap$Values" M18 M19).before a0 Z = true := wk_ hw 123 rfl
theorem wd_124 {Z a0} (hw : HW Z a0) : (Cond.instanceMethod M19).before a0 Z = true := wk_ hw 124 rfl
theorem wd_125 {Z a0} (hw : HW Z a0) : (Cond.publicMethod M19).before a0 Z = true := wk_ hw 125 rfl
theorem wd_126 {Z a0} (hw : HW Z a0) : (Cond.unhidden "java/util/HashMap$Values" "iterator" "()Ljava/util/Iterator;").before a0 Z = true := wk_ hw 126 rfl
theorem wd_127 {Z a0} (hw : HW Z a0) : (Cond.castable "java/util/HashMap$Values" "java/util/Collection").before a0 Z = true := wk_ hw 127 rfl
theorem wd_128 {Z a0} (hw : HW Z a0) : (Cond.code M19 jdk_2571_method_4_code 1 (some (FieldType.object "java/util/Iterator"))).before a0 Z = true := wk_ hw 128 rfl
theorem wd_129 {Z a0} (hw : HW Z a0) : (Cond.classLink "java/util/HashMap$Values" 22 "java/util/HashMap$ValueIterator").before a0 Z = true := wk_ hw 129 rfl
theorem wd_130 {Z a0} (hw : HW Z a0) : (Cond.instantiable "java/util/HashMap$ValueIterator" 5).before a0 Z = true := wk_ hw 130 rfl
theorem wd_131 {Z a0} (hw : HW Z a0) : (Cond.initialized "java/util/HashMap$ValueIterator").before a0 Z = true := wk_ hw 131 rfl
theorem wd_132 {Z a0} (hw : HW Z a0) : (Cond.methodLink "java/util/HashMap$Values" 24 M20).before a0 Z = true := wk_ hw 132 rfl
theorem wd_133 {Z a0} (hw : HW Z a0) : (Cond.instanceMethod M20).before a0 Z = true := wk_ hw 133 rfl
theorem wd_135 {Z a0} (hw : HW Z a0) : (Cond.code M20 jdk_2569_method_1_code 2 (Option.none : Option Jvm.ClassFile.FieldType)).before a0 Z = true := wk_ hw 135 rfl
theorem wd_136 {Z a0} (hw : HW Z a0) : (Cond.methodLink "java/util/HashMap$ValueIterator" 1 M21).before a0 Z = true := wk_ hw 136 rfl
theorem wd_137 {Z a0} (hw : HW Z a0) : (Cond.instanceMethod M21).before a0 Z = true := wk_ hw 137 rfl
theorem wd_140 {Z a0} (hw : HW Z a0) : (Cond.initialized "java/util/HashMap$HashIterator").before a0 Z = true := wk_ hw 140 rfl
theorem wd_141 {Z a0} (hw : HW Z a0) : (Cond.code M21 jdk_99_method_1_code 3 (Option.none : Option Jvm.ClassFile.FieldType)).before a0 Z = true := wk_ hw 141 rfl
theorem wd_142 {Z a0} (hw : HW Z a0) : (Cond.fieldLink "java/util/HashMap$HashIterator" 1 "java/util/HashMap$HashIterator" "this$0" "Ljava/util/HashMap;").before a0 Z = true := wk_ hw 142 rfl
theorem wd_143 {Z a0} (hw : HW Z a0) : (Cond.laysFinal "java/util/HashMap$ValueIterator" "java/util/HashMap$HashIterator" "this$0" "Ljava/util/HashMap;").before a0 Z = true := wk_ hw 143 rfl
theorem wd_144 {Z a0} (hw : HW Z a0) : (Cond.methodLink "java/util/HashMap$HashIterator" 7 M4).before a0 Z = true := wk_ hw 144 rfl
theorem wd_145 {Z a0} (hw : HW Z a0) : (Cond.fieldLink "java/util/HashMap$HashIterator" 13 "java/util/HashMap" "modCount" "I").before a0 Z = true := wk_ hw 145 rfl
theorem wd_146 {Z a0} (hw : HW Z a0) : (Cond.lays "java/util/HashMap" "java/util/HashMap" "modCount" "I").before a0 Z = true := wk_ hw 146 rfl
theorem wd_147 {Z a0} (hw : HW Z a0) : (Cond.fieldLink "java/util/HashMap$HashIterator" 19 "java/util/HashMap$HashIterator" "expectedModCount" "I").before a0 Z = true := wk_ hw 147 rfl
theorem wd_148 {Z a0} (hw : HW Z a0) : (Cond.lays "java/util/HashMap$ValueIterator" "java/util/HashMap$HashIterator" "expectedModCount" "I").before a0 Z = true := wk_ hw 148 rfl
theorem wd_149 {Z a0} (hw : HW Z a0) : (Cond.fieldLink "java/util/HashMap$HashIterator" 22 "java/util/HashMap" "table" "[Ljava/util/HashMap$Node;").before a0 Z = true := wk_ hw 149 rfl
theorem wd_150 {Z a0} (hw : HW Z a0) : (Cond.lays "java/util/HashMap" "java/util/HashMap" "table" "[Ljava/util/HashMap$Node;").before a0 Z = true := wk_ hw 150 rfl
theorem wd_151 {Z a0} (hw : HW Z a0) : (Cond.fieldLink "java/util/HashMap$HashIterator" 26 "java/util/HashMap$HashIterator" "next" "Ljava/util/HashMap$Node;").before a0 Z = true := wk_ hw 151 rfl
theorem wd_152 {Z a0} (hw : HW Z a0) : (Cond.lays "java/util/HashMap$ValueIterator" "java/util/HashMap$HashIterator" "next" "Ljava/util/HashMap$Node;").before a0 Z = true := wk_ hw 152 rfl
theorem wd_153 {Z a0} (hw : HW Z a0) : (Cond.fieldLink "java/util/HashMap$HashIterator" 30 "java/util/HashMap$HashIterator" "current" "Ljava/util/HashMap$Node;").before a0 Z = true := wk_ hw 153 rfl
theorem wd_154 {Z a0} (hw : HW Z a0) : (Cond.lays "java/util/HashMap$ValueIterator" "java/util/HashMap$HashIterator" "current" "Ljava/util/HashMap$Node;").before a0 Z = true := wk_ hw 154 rfl
theorem wd_155 {Z a0} (hw : HW Z a0) : (Cond.fieldLink "java/util/HashMap$HashIterator" 33 "java/util/HashMap$HashIterator" "index" "I").before a0 Z = true := wk_ hw 155 rfl
theorem wd_156 {Z a0} (hw : HW Z a0) : (Cond.lays "java/util/HashMap$ValueIterator" "java/util/HashMap$HashIterator" "index" "I").before a0 Z = true := wk_ hw 156 rfl
theorem wd_157 {Z a0} (hw : HW Z a0) : (Cond.methodLink "com/example/inq2/inq2/JudgedRanking" 55 M22).before a0 Z = true := wk_ hw 157 rfl
theorem wd_158 {Z a0} (hw : HW Z a0) : (Cond.declares M22).before a0 Z = true := wk_ hw 158 rfl
theorem wd_159 {Z a0} (hw : HW Z a0) : (Cond.interfaceMethod "java/util/Iterator" "java/util/Iterator" "hasNext" "()Z").before a0 Z = true := wk_ hw 159 rfl
theorem wd_160 {Z a0} (hw : HW Z a0) : (Cond.selects "java/util/HashMap$ValueIterator" M22 M23).before a0 Z = true := wk_ hw 160 rfl
theorem wd_161 {Z a0} (hw : HW Z a0) : (Cond.instanceMethod M23).before a0 Z = true := wk_ hw 161 rfl
theorem wd_162 {Z a0} (hw : HW Z a0) : (Cond.publicMethod M23).before a0 Z = true := wk_ hw 162 rfl
theorem wd_163 {Z a0} (hw : HW Z a0) : (Cond.unhidden "java/util/HashMap$ValueIterator" "hasNext" "()Z").before a0 Z = true := wk_ hw 163 rfl
theorem wd_164 {Z a0} (hw : HW Z a0) : (Cond.castable "java/util/HashMap$ValueIterator" "java/util/Iterator").before a0 Z = true := wk_ hw 164 rfl
theorem wd_165 {Z a0} (hw : HW Z a0) : (Cond.code M23 jdk_99_method_2_code 1 (some FieldType.boolean)).before a0 Z = true := wk_ hw 165 rfl
theorem wd_166 {Z a0} (hw : HW Z a0) : (Cond.methodLink "com/example/inq2/inq2/JudgedRanking" 65 M24).before a0 Z = true := wk_ hw 166 rfl
theorem wd_167 {Z a0} (hw : HW Z a0) : (Cond.static M24).before a0 Z = true := wk_ hw 167 rfl
theorem wd_168 {Z a0} (hw : HW Z a0) : (Cond.initialized "java/util/Arrays").before a0 Z = true := wk_ hw 168 rfl
theorem wd_169 {Z a0} (hw : HW Z a0) : (Cond.code M24 jdk_65_method_123_code 3 (some (FieldType.array FieldType.int))).before a0 Z = true := wk_ hw 169 rfl
theorem wd_170 {Z a0} (hw : HW Z a0) : (Cond.methodLink "java/util/Arrays" 316 M25).before a0 Z = true := wk_ hw 170 rfl
theorem wd_171 {Z a0} (hw : HW Z a0) : (Cond.sameMethod "[I" "java/lang/Object" "clone" "()Ljava/lang/Object;").before a0 Z = true := wk_ hw 171 rfl
theorem wd_173 {Z a0} (hw : HW Z a0) : (Cond.instanceMethod M26).before a0 Z = true := wk_ hw 173 rfl
theorem wd_174 {Z a0} (hw : HW Z a0) : (Cond.selects "[I" M25 M26).before a0 Z = true := wk_ hw 174 rfl
theorem wd_175 {Z a0} (hw : HW Z a0) : (Cond.native M26).before a0 Z = true := wk_ hw 175 rfl
theorem wd_176 {Z a0} (hw : HW Z a0) : (Cond.castable "[I" "java/lang/Cloneable").before a0 Z = true := wk_ hw 176 rfl
theorem wd_177 {Z a0} (hw : HW Z a0) : (Cond.classLink "java/util/Arrays" 317 "[I").before a0 Z = true := wk_ hw 177 rfl
theorem wd_179 {Z a0} (hw : HW Z a0) : (Cond.fieldLink "com/example/inq2/inq2/JudgedRanking" 71 "com/example/inq2/inq2/JudgedRanking" "_idealGains" "[I").before a0 Z = true := wk_ hw 179 rfl
theorem wd_180 {Z a0} (hw : HW Z a0) : (Cond.laysFinal "com/example/inq2/inq2/JudgedRanking" "com/example/inq2/inq2/JudgedRanking" "_idealGains" "[I").before a0 Z = true := wk_ hw 180 rfl
theorem wd_181 {Z a0} (hw : HW Z a0) : (Cond.methodLink "com/example/inq2/inq2/JudgedRanking" 74 M27).before a0 Z = true := wk_ hw 181 rfl
theorem wd_182 {Z a0} (hw : HW Z a0) : (Cond.static M27).before a0 Z = true := wk_ hw 182 rfl
theorem wd_183 {Z a0} (hw : HW Z a0) : (Cond.code M27 jdk_65_method_2_code 1 (Option.none : Option Jvm.ClassFile.FieldType)).before a0 Z = true := wk_ hw 183 rfl
theorem wd_184 {Z a0} (hw : HW Z a0) : (Cond.methodLink "java/util/Arrays" 7 M28).before a0 Z = true := wk_ hw 184 rfl
theorem wd_185 {Z a0} (hw : HW Z a0) : (Cond.static M28).before a0 Z = true := wk_ hw 185 rfl
theorem wd_186 {Z a0} (hw : HW Z a0) : (Cond.initialized "java/util/DualPivotQuicksort").before a0 Z = true := wk_ hw 186 rfl
theorem wd_187 {Z a0} (hw : HW Z a0) : (Cond.code M28 jdk_2529_method_3_code 7 (Option.none : Option Jvm.ClassFile.FieldType)).before a0 Z = true := wk_ hw 187 rfl
theorem wd_188 {Z a0} (hw : HW Z a0) : (Cond.methodLink "java/util/DualPivotQuicksort" 26 M29).before a0 Z = true := wk_ hw 188 rfl
theorem wd_189 {Z a0} (hw : HW Z a0) : (Cond.static M29).before a0 Z = true := wk_ hw 189 rfl
theorem wd_190 {Z a0} (hw : HW Z a0) : (Cond.code M29 jdk_2529_method_4_code 21 (Option.none : Option Jvm.ClassFile.FieldType)).before a0 Z = true := wk_ hw 190 rfl
theorem wd_191 {Z a0} (hw : HW Z a0) : (Cond.methodLink "java/util/DualPivotQuicksort" 34 M30).before a0 Z = true := wk_ hw 191 rfl
theorem wd_192 {Z a0} (hw : HW Z a0) : (Cond.static M30).before a0 Z = true := wk_ hw 192 rfl
theorem wd_193 {Z a0} (hw : HW Z a0) : (Cond.code M30 jdk_2529_method_6_code 6 (Option.none : Option Jvm.ClassFile.FieldType)).before a0 Z = true := wk_ hw 193 rfl
theorem wd_194 {Z a0} (hw : HW Z a0) : (Cond.methodLink "com/example/inq2/inq2/JudgedRanking" 78 M31).before a0 Z = true := wk_ hw 194 rfl
theorem wd_195 {Z a0} (hw : HW Z a0) : (Cond.static M31).before a0 Z = true := wk_ hw 195 rfl
theorem wd_196 {Z a0} (hw : HW Z a0) : (Cond.code M31 prog_8_method_11_code 4 (Option.none : Option Jvm.ClassFile.FieldType)).before a0 Z = true := wk_ hw 196 rfl
theorem wd_197 {Z a0} (hw : HW Z a0) : (Cond.methodLink "com/example/inq2/inq2/JudgedRankingAveragePrecisionPinLaw" 46 M32).before a0 Z = true := wk_ hw 197 rfl
theorem wd_198 {Z a0} (hw : HW Z a0) : (Cond.declares M32).before a0 Z = true := wk_ hw 198 rfl
theorem wd_199 {Z a0} (hw : HW Z a0) : (Cond.instanceMethod M32).before a0 Z = true := wk_ hw 199 rfl
theorem wd_200 {Z a0} (hw : HW Z a0) : (Cond.selects "com/example/inq2/inq2/JudgedRanking" M32 M32).before a0 Z = true := wk_ hw 200 rfl
theorem wd_201 {Z a0} (hw : HW Z a0) : (Cond.code M32 prog_8_method_5_code 5 (some FieldType.double)).before a0 Z = true := wk_ hw 201 rfl
theorem wd_202 {Z a0} (hw : HW Z a0) : (Cond.methodLink "com/example/inq2/inq2/JudgedRanking" 85 M33).before a0 Z = true := wk_ hw 202 rfl
theorem wd_203 {Z a0} (hw : HW Z a0) : (Cond.declares M33).before a0 Z = true := wk_ hw 203 rfl
theorem wd_204 {Z a0} (hw : HW Z a0) : (Cond.instanceMethod M33).before a0 Z = true := wk_ hw 204 rfl
theorem wd_205 {Z a0} (hw : HW Z a0) : (Cond.selects "com/example/inq2/inq2/JudgedRanking" M33 M33).before a0 Z = true := wk_ hw 205 rfl
theorem wd_206 {Z a0} (hw : HW Z a0) : (Cond.code M33 prog_8_method_3_code 1 (some FieldType.int)).before a0 Z = true := wk_ hw 206 rfl
theorem wd_207 {Z a0} (hw : HW Z a0) : (Cond.methodLink "com/example/inq2/inq2/JudgedRankingAveragePrecisionPinLaw" 16 M34).before a0 Z = true := wk_ hw 207 rfl
theorem wd_208 {Z a0} (hw : HW Z a0) : (Cond.static M34).before a0 Z = true := wk_ hw 208 rfl
theorem wd_209 {Z a0} (hw : HW Z a0) : (Cond.initialized "java/lang/Integer").before a0 Z = true := wk_ hw 209 rfl
theorem wd_210 {Z a0} (hw : HW Z a0) : (Cond.code M34 jdk_33_method_22_code 1 (some (FieldType.object "java/lang/Integer"))).before a0 Z = true := wk_ hw 210 rfl
theorem wd_211 {Z a0} (hw : HW Z a0) : (Cond.fieldLink "java/lang/Integer" 191 "java/lang/Integer$IntegerCache" "high" "I").before a0 Z = true := wk_ hw 211 rfl
theorem wd_212 {Z a0} (hw : HW Z a0) : (Cond.initialized "java/lang/Integer$IntegerCache").before a0 Z = true := wk_ hw 212 rfl
theorem wd_213 {Z a0} (hw : HW Z a0) : (Cond.fieldLink "java/lang/Integer" 195 "java/lang/Integer$IntegerCache" "cache" "[Ljava/lang/Integer;").before a0 Z = true := wk_ hw 213 rfl
theorem wd_214 {Z a0} (hw : HW Z a0) : (Cond.methodLink "com/example/inq2/inq2/JudgedRankingAveragePrecisionPinLaw" 21 M35).before a0 Z = true := wk_ hw 214 rfl
theorem wd_215 {Z a0} (hw : HW Z a0) : (Cond.declares M35).before a0 Z = true := wk_ hw 215 rfl
theorem wd_216 {Z a0} (hw : HW Z a0) : (Cond.instanceMethod M35).before a0 Z = true := wk_ hw 216 rfl
theorem wd_217 {Z a0} (hw : HW Z a0) : (Cond.selects "java/util/HashMap" M35 M35).before a0 Z = true := wk_ hw 217 rfl
theorem wd_218 {Z a0} (hw : HW Z a0) : (Cond.code M35 jdk_69_method_15_code 3 (some (FieldType.object "java/lang/Object"))).before a0 Z = true := wk_ hw 218 rfl
theorem wd_219 {Z a0} (hw : HW Z a0) : (Cond.methodLink "java/util/HashMap" 149 M36).before a0 Z = true := wk_ hw 219 rfl
theorem wd_220 {Z a0} (hw : HW Z a0) : (Cond.static M36).before a0 Z = true := wk_ hw 220 rfl
theorem wd_221 {Z a0} (hw : HW Z a0) : (Cond.code M36 jdk_69_method_1_code 2 (some FieldType.int)).before a0 Z = true := wk_ hw 221 rfl
theorem wd_222 {Z a0} (hw : HW Z a0) : (Cond.methodLink "java/util/HashMap" 1 M37).before a0 Z = true := wk_ hw 222 rfl
theorem wd_223 {Z a0} (hw : HW Z a0) : (Cond.declares M37).before a0 Z = true := wk_ hw 223 rfl
theorem wd_225 {Z a0} (hw : HW Z a0) : (Cond.selects "java/lang/String" M37 M38).before a0 Z = true := wk_ hw 225 rfl
theorem wd_226 {Z a0} (hw : HW Z a0) : (Cond.instanceMethod M38).before a0 Z = true := wk_ hw 226 rfl
theorem wd_227 {Z a0} (hw : HW Z a0) : (Cond.code M38 jdk_42_method_78_code 2 (some FieldType.int)).before a0 Z = true := wk_ hw 227 rfl
theorem wd_228 {Z a0} (hw : HW Z a0) : (Cond.fieldLink "java/lang/String" 19 "java/lang/String" "hash" "I").before a0 Z = true := wk_ hw 228 rfl
theorem wd_229 {Z a0} (hw : HW Z a0) : (Cond.lays "java/lang/String" "java/lang/String" "hash" "I").before a0 Z = true := wk_ hw 229 rfl
theorem wd_230 {Z a0} (hw : HW Z a0) : (Cond.fieldLink "java/lang/String" 23 "java/lang/String" "hashIsZero" "Z").before a0 Z = true := wk_ hw 230 rfl
theorem wd_231 {Z a0} (hw : HW Z a0) : (Cond.lays "java/lang/String" "java/lang/String" "hashIsZero" "Z").before a0 Z = true := wk_ hw 231 rfl
theorem wd_232 {Z a0} (hw : HW Z a0) : (Cond.methodLink "java/lang/String" 492 M39).before a0 Z = true := wk_ hw 232 rfl
theorem wd_233 {Z a0} (hw : HW Z a0) : (Cond.declares M39).before a0 Z = true := wk_ hw 233 rfl
theorem wd_234 {Z a0} (hw : HW Z a0) : (Cond.instanceMethod M39).before a0 Z = true := wk_ hw 234 rfl
theorem wd_235 {Z a0} (hw : HW Z a0) : (Cond.selects "java/lang/String" M39 M39).before a0 Z = true := wk_ hw 235 rfl
theorem wd_236 {Z a0} (hw : HW Z a0) : (Cond.code M39 jdk_42_method_154_code 1 (some FieldType.boolean)).before a0 Z = true := wk_ hw 236 rfl
theorem wd_237 {Z a0} (hw : HW Z a0) : (Cond.methodLink "java/lang/String" 628 M40).before a0 Z = true := wk_ hw 237 rfl
theorem wd_238 {Z a0} (hw : HW Z a0) : (Cond.static M40).before a0 Z = true := wk_ hw 238 rfl
theorem wd_239 {Z a0} (hw : HW Z a0) : (Cond.code M40 jdk_43_method_21_code 1 (some FieldType.int)).before a0 Z = true := wk_ hw 239 rfl
theorem wd_240 {Z a0} (hw : HW Z a0) : (Cond.methodLink "java/util/HashMap" 152 M41).before a0 Z = true := wk_ hw 240 rfl
theorem wd_241 {Z a0} (hw : HW Z a0) : (Cond.declares M41).before a0 Z = true := wk_ hw 241 rfl
theorem wd_242 {Z a0} (hw : HW Z a0) : (Cond.instanceMethod M41).before a0 Z = true := wk_ hw 242 rfl
theorem wd_243 {Z a0} (hw : HW Z a0) : (Cond.selects "java/util/HashMap" M41 M41).before a0 Z = true := wk_ hw 243 rfl
theorem wd_244 {Z a0} (hw : HW Z a0) : (Cond.code M41 jdk_69_method_16_code 13 (some (FieldType.object "java/lang/Object"))).before a0 Z = true := wk_ hw 244 rfl
theorem wd_245 {Z a0} (hw : HW Z a0) : (Cond.fieldLink "java/util/HashMap" 105 "java/util/HashMap" "table" "[Ljava/util/HashMap$Node;").before a0 Z = true := wk_ hw 245 rfl
theorem wd_246 {Z a0} (hw : HW Z a0) : (Cond.methodLink "java/util/HashMap" 117 M42).before a0 Z = true := wk_ hw 246 rfl
theorem wd_247 {Z a0} (hw : HW Z a0) : (Cond.declares M42).before a0 Z = true := wk_ hw 247 rfl
theorem wd_248 {Z a0} (hw : HW Z a0) : (Cond.instanceMethod M42).before a0 Z = true := wk_ hw 248 rfl
theorem wd_249 {Z a0} (hw : HW Z a0) : (Cond.selects "java/util/HashMap" M42 M42).before a0 Z = true := wk_ hw 249 rfl
theorem wd_250 {Z a0} (hw : HW Z a0) : (Cond.code M42 jdk_69_method_17_code 14 (some (FieldType.array (FieldType.object "java/util/HashMap$Node")))).before a0 Z = true := wk_ hw 250 rfl
theorem wd_251 {Z a0} (hw : HW Z a0) : (Cond.fieldLink "java/util/HashMap" 88 "java/util/HashMap" "threshold" "I").before a0 Z = true := wk_ hw 251 rfl
theorem wd_252 {Z a0} (hw : HW Z a0) : (Cond.lays "java/util/HashMap" "java/util/HashMap" "threshold" "I").before a0 Z = true := wk_ hw 252 rfl
theorem wd_253 {Z a0} (hw : HW Z a0) : (Cond.classLink "java/util/HashMap" 163 "java/util/HashMap$Node").before a0 Z = true := wk_ hw 253 rfl
theorem wd_254 {Z a0} (hw : HW Z a0) : (Cond.arrayOver (FieldType.object "java/util/HashMap$Node")).before a0 Z = true := wk_ hw 254 rfl
theorem wd_255 {Z a0} (hw : HW Z a0) : (Cond.methodLink "java/util/HashMap" 186 M43).before a0 Z = true := wk_ hw 255 rfl
theorem wd_256 {Z a0} (hw : HW Z a0) : (Cond.declares M43).before a0 Z = true := wk_ hw 256 rfl
theorem wd_257 {Z a0} (hw : HW Z a0) : (Cond.instanceMethod M43).before a0 Z = true := wk_ hw 257 rfl
theorem wd_258 {Z a0} (hw : HW Z a0) : (Cond.selects "java/util/HashMap" M43 M43).before a0 Z = true := wk_ hw 258 rfl
theorem wd_259 {Z a0} (hw : HW Z a0) : (Cond.code M43 jdk_69_method_46_code 5 (some (FieldType.object "java/util/HashMap$Node"))).before a0 Z = true := wk_ hw 259 rfl
theorem wd_260 {Z a0} (hw : HW Z a0) : (Cond.instantiable "java/util/HashMap$Node" 4).before a0 Z = true := wk_ hw 260 rfl
theorem wd_261 {Z a0} (hw : HW Z a0) : (Cond.initialized "java/util/HashMap$Node").before a0 Z = true := wk_ hw 261 rfl
theorem wd_262 {Z a0} (hw : HW Z a0) : (Cond.methodLink "java/util/HashMap" 375 M44).before a0 Z = true := wk_ hw 262 rfl
theorem wd_263 {Z a0} (hw : HW Z a0) : (Cond.instanceMethod M44).before a0 Z = true := wk_ hw 263 rfl
theorem wd_265 {Z a0} (hw : HW Z a0) : (Cond.code M44 jdk_70_method_1_code 5 (Option.none : Option Jvm.ClassFile.FieldType)).before a0 Z = true := wk_ hw 265 rfl
theorem wd_266 {Z a0} (hw : HW Z a0) : (Cond.methodLink "java/util/HashMap$Node" 1 M4).before a0 Z = true := wk_ hw 266 rfl
theorem wd_267 {Z a0} (hw : HW Z a0) : (Cond.fieldLink "java/util/HashMap$Node" 7 "java/util/HashMap$Node" "hash" "I").before a0 Z = true := wk_ hw 267 rfl
theorem wd_268 {Z a0} (hw : HW Z a0) : (Cond.laysFinal "java/util/HashMap$Node" "java/util/HashMap$Node" "hash" "I").before a0 Z = true := wk_ hw 268 rfl
theorem wd_269 {Z a0} (hw : HW Z a0) : (Cond.fieldLink "java/util/HashMap$Node" 13 "java/util/HashMap$Node" "key" "Ljava/lang/Object;").before a0 Z = true := wk_ hw 269 rfl
theorem wd_270 {Z a0} (hw : HW Z a0) : (Cond.laysFinal "java/util/HashMap$Node" "java/util/HashMap$Node" "key" "Ljava/lang/Object;").before a0 Z = true := wk_ hw 270 rfl
theorem wd_271 {Z a0} (hw : HW Z a0) : (Cond.fieldLink "java/util/HashMap$Node" 17 "java/util/HashMap$Node" "value" "Ljava/lang/Object;").before a0 Z = true := wk_ hw 271 rfl
theorem wd_272 {Z a0} (hw : HW Z a0) : (Cond.lays "java/util/HashMap$Node" "java/util/HashMap$Node" "value" "Ljava/lang/Object;").before a0 Z = true := wk_ hw 272 rfl
theorem wd_273 {Z a0} (hw : HW Z a0) : (Cond.fieldLink "java/util/HashMap$Node" 20 "java/util/HashMap$Node" "next" "Ljava/util/HashMap$Node;").before a0 Z = true := wk_ hw 273 rfl
theorem wd_274 {Z a0} (hw : HW Z a0) : (Cond.lays "java/util/HashMap$Node" "java/util/HashMap$Node" "next" "Ljava/util/HashMap$Node;").before a0 Z = true := wk_ hw 274 rfl
theorem wd_275 {Z a0} (hw : HW Z a0) : (Cond.fieldLink "java/util/HashMap" 202 "java/util/HashMap" "modCount" "I").before a0 Z = true := wk_ hw 275 rfl
theorem wd_276 {Z a0} (hw : HW Z a0) : (Cond.methodLink "java/util/HashMap" 205 M45).before a0 Z = true := wk_ hw 276 rfl
theorem wd_277 {Z a0} (hw : HW Z a0) : (Cond.declares M45).before a0 Z = true := wk_ hw 277 rfl
theorem wd_278 {Z a0} (hw : HW Z a0) : (Cond.instanceMethod M45).before a0 Z = true := wk_ hw 278 rfl
theorem wd_279 {Z a0} (hw : HW Z a0) : (Cond.selects "java/util/HashMap" M45 M45).before a0 Z = true := wk_ hw 279 rfl
theorem wd_280 {Z a0} (hw : HW Z a0) : (Cond.code M45 jdk_69_method_52_code 2 (Option.none : Option Jvm.ClassFile.FieldType)).before a0 Z = true := wk_ hw 280 rfl
theorem wd_281 {Z a0} (hw : HW Z a0) : (Cond.classLink "com/example/inq2/inq2/JudgedRankingAveragePrecisionPinLaw" 28 "com/example/inq2/inq2/ScoredDocument").before a0 Z = true := wk_ hw 281 rfl
theorem wd_282 {Z a0} (hw : HW Z a0) : (Cond.instantiable "com/example/inq2/inq2/ScoredDocument" 2).before a0 Z = true := wk_ hw 282 rfl
theorem wd_283 {Z a0} (hw : HW Z a0) : (Cond.initialized "com/example/inq2/inq2/ScoredDocument").before a0 Z = true := wk_ hw 283 rfl
theorem wd_284 {Z a0} (hw : HW Z a0) : (Cond.constantDouble "com/example/inq2/inq2/JudgedRankingAveragePrecisionPinLaw" 30 (4613937818241073152 : UInt64)).before a0 Z = true := wk_ hw 284 rfl
theorem wd_285 {Z a0} (hw : HW Z a0) : (Cond.methodLink "com/example/inq2/inq2/JudgedRankingAveragePrecisionPinLaw" 32 M46).before a0 Z = true := wk_ hw 285 rfl
theorem wd_286 {Z a0} (hw : HW Z a0) : (Cond.instanceMethod M46).before a0 Z = true := wk_ hw 286 rfl
theorem wd_287 {Z a0} (hw : HW Z a0) : (Cond.code M46 prog_19_method_1_code 4 (Option.none : Option Jvm.ClassFile.FieldType)).before a0 Z = true := wk_ hw 287 rfl
theorem wd_288 {Z a0} (hw : HW Z a0) : (Cond.methodLink "com/example/inq2/inq2/ScoredDocument" 1 M4).before a0 Z = true := wk_ hw 288 rfl
theorem wd_289 {Z a0} (hw : HW Z a0) : (Cond.fieldLink "com/example/inq2/inq2/ScoredDocument" 7 "com/example/inq2/inq2/ScoredDocument" "_document" "Ljava/lang/String;").before a0 Z = true := wk_ hw 289 rfl
theorem wd_290 {Z a0} (hw : HW Z a0) : (Cond.laysFinal "com/example/inq2/inq2/ScoredDocument" "com/example/inq2/inq2/ScoredDocument" "_document" "Ljava/lang/String;").before a0 Z = true := wk_ hw 290 rfl
theorem wd_291 {Z a0} (hw : HW Z a0) : (Cond.fieldLink "com/example/inq2/inq2/ScoredDocument" 13 "com/example/inq2/inq2/ScoredDocument" "_score" "D").before a0 Z = true := wk_ hw 291 rfl
theorem wd_292 {Z a0} (hw : HW Z a0) : (Cond.laysFinal "com/example/inq2/inq2/ScoredDocument" "com/example/inq2/inq2/ScoredDocument" "_score" "D").before a0 Z = true := wk_ hw 292 rfl
theorem wd_293 {Z a0} (hw : HW Z a0) : (Cond.methodLink "com/example/inq2/inq2/JudgedRankingAveragePrecisionPinLaw" 35 M47).before a0 Z = true := wk_ hw 293 rfl
theorem wd_294 {Z a0} (hw : HW Z a0) : (Cond.declares M47).before a0 Z = true := wk_ hw 294 rfl
theorem wd_295 {Z a0} (hw : HW Z a0) : (Cond.instanceMethod M47).before a0 Z = true := wk_ hw 295 rfl
theorem wd_296 {Z a0} (hw : HW Z a0) : (Cond.selects "java/util/ArrayList" M47 M47).before a0 Z = true := wk_ hw 296 rfl
theorem wd_297 {Z a0} (hw : HW Z a0) : (Cond.code M47 jdk_38_method_25_code 2 (some FieldType.boolean)).before a0 Z = true := wk_ hw 297 rfl
theorem wd_298 {Z a0} (hw : HW Z a0) : (Cond.fieldLink "java/util/ArrayList" 63 "java/util/ArrayList" "modCount" "I").before a0 Z = true := wk_ hw 298 rfl
theorem wd_299 {Z a0} (hw : HW Z a0) : (Cond.sameField "java/util/ArrayList" "java/util/AbstractList" "modCount" "I").before a0 Z = true := wk_ hw 299 rfl
theorem wd_300 {Z a0} (hw : HW Z a0) : (Cond.methodLink "java/util/ArrayList" 131 M48).before a0 Z = true := wk_ hw 300 rfl
theorem wd_301 {Z a0} (hw : HW Z a0) : (Cond.instanceMethod M48).before a0 Z = true := wk_ hw 301 rfl
theorem wd_302 {Z a0} (hw : HW Z a0) : (Cond.privateMethod M48).before a0 Z = true := wk_ hw 302 rfl
theorem wd_304 {Z a0} (hw : HW Z a0) : (Cond.code M48 jdk_38_method_24_code 4 (Option.none : Option Jvm.ClassFile.FieldType)).before a0 Z = true := wk_ hw 304 rfl
theorem wd_305 {Z a0} (hw : HW Z a0) : (Cond.methodLink "java/util/ArrayList" 129 M49).before a0 Z = true := wk_ hw 305 rfl
theorem wd_306 {Z a0} (hw : HW Z a0) : (Cond.instanceMethod M49).before a0 Z = true := wk_ hw 306 rfl
theorem wd_307 {Z a0} (hw : HW Z a0) : (Cond.privateMethod M49).before a0 Z = true := wk_ hw 307 rfl
theorem wd_309 {Z a0} (hw : HW Z a0) : (Cond.code M49 jdk_38_method_7_code 1 (some (FieldType.array (FieldType.object "java/lang/Object")))).before a0 Z = true := wk_ hw 309 rfl
theorem wd_310 {Z a0} (hw : HW Z a0) : (Cond.methodLink "java/util/ArrayList" 69 M50).before a0 Z = true := wk_ hw 310 rfl
theorem wd_311 {Z a0} (hw : HW Z a0) : (Cond.instanceMethod M50).before a0 Z = true := wk_ hw 311 rfl
theorem wd_312 {Z a0} (hw : HW Z a0) : (Cond.privateMethod M50).before a0 Z = true := wk_ hw 312 rfl
theorem wd_314 {Z a0} (hw : HW Z a0) : (Cond.code M50 jdk_38_method_6_code 4 (some (FieldType.array (FieldType.object "java/lang/Object")))).before a0 Z = true := wk_ hw 314 rfl
theorem wd_315 {Z a0} (hw : HW Z a0) : (Cond.methodLink "java/util/ArrayList" 79 M51).before a0 Z = true := wk_ hw 315 rfl
theorem wd_316 {Z a0} (hw : HW Z a0) : (Cond.static M51).before a0 Z = true := wk_ hw 316 rfl
theorem wd_317 {Z a0} (hw : HW Z a0) : (Cond.initialized "java/lang/Math").before a0 Z = true := wk_ hw 317 rfl
theorem wd_318 {Z a0} (hw : HW Z a0) : (Cond.code M51 jdk_29_method_65_code 2 (some FieldType.int)).before a0 Z = true := wk_ hw 318 rfl
theorem wd_319 {Z a0} (hw : HW Z a0) : (Cond.classLink "java/util/ArrayList" 7 "java/lang/Object").before a0 Z = true := wk_ hw 319 rfl
theorem wd_320 {Z a0} (hw : HW Z a0) : (Cond.arrayOver (FieldType.object "java/lang/Object")).before a0 Z = true := wk_ hw 320 rfl
theorem wd_321 {Z a0} (hw : HW Z a0) : (Cond.castable "com/example/inq2/inq2/ScoredDocument" "java/lang/Object").before a0 Z = true := wk_ hw 321 rfl
theorem wd_322 {Z a0} (hw : HW Z a0) : (Cond.constantDouble "com/example/inq2/inq2/JudgedRankingAveragePrecisionPinLaw" 39 (4611686018427387904 : UInt64)).before a0 Z = true := wk_ hw 322 rfl
theorem wd_323 {Z a0} (hw : HW Z a0) : (Cond.methodLink "com/example/inq2/inq2/JudgedRanking" 19 M52).before a0 Z = true := wk_ hw 323 rfl
theorem wd_324 {Z a0} (hw : HW Z a0) : (Cond.declares M52).before a0 Z = true := wk_ hw 324 rfl
theorem wd_325 {Z a0} (hw : HW Z a0) : (Cond.interfaceMethod "java/util/List" "java/util/List" "get" "(I)Ljava/lang/Object;").before a0 Z = true := wk_ hw 325 rfl
theorem wd_326 {Z a0} (hw : HW Z a0) : (Cond.selects "java/util/ArrayList" M52 M53).before a0 Z = true := wk_ hw 326 rfl
theorem wd_327 {Z a0} (hw : HW Z a0) : (Cond.instanceMethod M53).before a0 Z = true := wk_ hw 327 rfl
theorem wd_328 {Z a0} (hw : HW Z a0) : (Cond.publicMethod M53).before a0 Z = true := wk_ hw 328 rfl
theorem wd_329 {Z a0} (hw : HW Z a0) : (Cond.unhidden "java/util/ArrayList" "get" "(I)Ljava/lang/Object;").before a0 Z = true := wk_ hw 329 rfl
theorem wd_330 {Z a0} (hw : HW Z a0) : (Cond.code M53 jdk_38_method_20_code 2 (some (FieldType.object "java/lang/Object"))).before a0 Z = true := wk_ hw 330 rfl
theorem wd_331 {Z a0} (hw : HW Z a0) : (Cond.methodLink "java/util/ArrayList" 118 M54).before a0 Z = true := wk_ hw 331 rfl
theorem wd_332 {Z a0} (hw : HW Z a0) : (Cond.static M54).before a0 Z = true := wk_ hw 332 rfl
theorem wd_333 {Z a0} (hw : HW Z a0) : (Cond.initialized "java/util/Objects").before a0 Z = true := wk_ hw 333 rfl
theorem wd_334 {Z a0} (hw : HW Z a0) : (Cond.code M54 jdk_31_method_17_code 2 (some FieldType.int)).before a0 Z = true := wk_ hw 334 rfl
theorem wd_335 {Z a0} (hw : HW Z a0) : (Cond.methodLink "java/util/Objects" 105 M55).before a0 Z = true := wk_ hw 335 rfl
theorem wd_336 {Z a0} (hw : HW Z a0) : (Cond.static M55).before a0 Z = true := wk_ hw 336 rfl
theorem wd_337 {Z a0} (hw : HW Z a0) : (Cond.initialized "jdk/internal/util/Preconditions").before a0 Z = true := wk_ hw 337 rfl
theorem wd_338 {Z a0} (hw : HW Z a0) : (Cond.code M55 jdk_41_method_11_code 3 (some FieldType.int)).before a0 Z = true := wk_ hw 338 rfl
theorem wd_339 {Z a0} (hw : HW Z a0) : (Cond.methodLink "java/util/ArrayList" 123 M56).before a0 Z = true := wk_ hw 339 rfl
theorem wd_340 {Z a0} (hw : HW Z a0) : (Cond.declares M56).before a0 Z = true := wk_ hw 340 rfl
theorem wd_341 {Z a0} (hw : HW Z a0) : (Cond.instanceMethod M56).before a0 Z = true := wk_ hw 341 rfl
theorem wd_342 {Z a0} (hw : HW Z a0) : (Cond.selects "java/util/ArrayList" M56 M56).before a0 Z = true := wk_ hw 342 rfl
theorem wd_343 {Z a0} (hw : HW Z a0) : (Cond.code M56 jdk_38_method_18_code 2 (some (FieldType.object "java/lang/Object"))).before a0 Z = true := wk_ hw 343 rfl
theorem wd_344 {Z a0} (hw : HW Z a0) : (Cond.classLink "com/example/inq2/inq2/JudgedRanking" 23 "com/example/inq2/inq2/ScoredDocument").before a0 Z = true := wk_ hw 344 rfl
theorem wd_346 {Z a0} (hw : HW Z a0) : (Cond.methodLink "com/example/inq2/inq2/JudgedRanking" 25 M57).before a0 Z = true := wk_ hw 346 rfl
theorem wd_347 {Z a0} (hw : HW Z a0) : (Cond.declares M57).before a0 Z = true := wk_ hw 347 rfl
theorem wd_348 {Z a0} (hw : HW Z a0) : (Cond.instanceMethod M57).before a0 Z = true := wk_ hw 348 rfl
theorem wd_349 {Z a0} (hw : HW Z a0) : (Cond.selects "com/example/inq2/inq2/ScoredDocument" M57 M57).before a0 Z = true := wk_ hw 349 rfl
theorem wd_350 {Z a0} (hw : HW Z a0) : (Cond.code M57 prog_19_method_2_code 1 (some (FieldType.object "java/lang/String"))).before a0 Z = true := wk_ hw 350 rfl
theorem wd_351 {Z a0} (hw : HW Z a0) : (Cond.methodLink "com/example/inq2/inq2/JudgedRanking" 29 M34).before a0 Z = true := wk_ hw 351 rfl
theorem wd_352 {Z a0} (hw : HW Z a0) : (Cond.methodLink "com/example/inq2/inq2/JudgedRanking" 35 M58).before a0 Z = true := wk_ hw 352 rfl
theorem wd_353 {Z a0} (hw : HW Z a0) : (Cond.declares M58).before a0 Z = true := wk_ hw 353 rfl
theorem wd_354 {Z a0} (hw : HW Z a0) : (Cond.interfaceMethod "java/util/Map" "java/util/Map" "getOrDefault" "(Ljava/lang/Object;Ljava/lang/Object;)Ljava/lang/Object;").before a0 Z = true := wk_ hw 354 rfl
theorem wd_355 {Z a0} (hw : HW Z a0) : (Cond.selects "java/util/HashMap" M58 M59).before a0 Z = true := wk_ hw 355 rfl
theorem wd_356 {Z a0} (hw : HW Z a0) : (Cond.instanceMethod M59).before a0 Z = true := wk_ hw 356 rfl
theorem wd_357 {Z a0} (hw : HW Z a0) : (Cond.publicMethod M59).before a0 Z = true := wk_ hw 357 rfl
theorem wd_358 {Z a0} (hw : HW Z a0) : (Cond.unhidden "java/util/HashMap" "getOrDefault" "(Ljava/lang/Object;Ljava/lang/Object;)Ljava/lang/Object;").before a0 Z = true := wk_ hw 358 rfl
theorem wd_359 {Z a0} (hw : HW Z a0) : (Cond.code M59 jdk_69_method_30_code 4 (some (FieldType.object "java/lang/Object"))).before a0 Z = true := wk_ hw 359 rfl
theorem wd_360 {Z a0} (hw : HW Z a0) : (Cond.methodLink "java/util/HashMap" 158 M60).before a0 Z = true := wk_ hw 360 rfl
theorem wd_361 {Z a0} (hw : HW Z a0) : (Cond.declares M60).before a0 Z = true := wk_ hw 361 rfl
theorem wd_362 {Z a0} (hw : HW Z a0) : (Cond.instanceMethod M60).before a0 Z = true := wk_ hw 362 rfl
theorem wd_363 {Z a0} (hw : HW Z a0) : (Cond.selects "java/util/HashMap" M60 M60).before a0 Z = true := wk_ hw 363 rfl
theorem wd_364 {Z a0} (hw : HW Z a0) : (Cond.code M60 jdk_69_method_13_code 8 (some (FieldType.object "java/util/HashMap$Node"))).before a0 Z = true := wk_ hw 364 rfl
theorem wd_365 {Z a0} (hw : HW Z a0) : (Cond.fieldLink "java/util/HashMap" 168 "java/util/HashMap$Node" "hash" "I").before a0 Z = true := wk_ hw 365 rfl
theorem wd_366 {Z a0} (hw : HW Z a0) : (Cond.fieldLink "java/util/HashMap" 170 "java/util/HashMap$Node" "key" "Ljava/lang/Object;").before a0 Z = true := wk_ hw 366 rfl
theorem wd_367 {Z a0} (hw : HW Z a0) : (Cond.fieldLink "java/util/HashMap" 162 "java/util/HashMap$Node" "value" "Ljava/lang/Object;").before a0 Z = true := wk_ hw 367 rfl
theorem wd_368 {Z a0} (hw : HW Z a0) : (Cond.classLink "com/example/inq2/inq2/JudgedRanking" 30 "java/lang/Integer").before a0 Z = true := wk_ hw 368 rfl
theorem wd_370 {Z a0} (hw : HW Z a0) : (Cond.methodLink "com/example/inq2/inq2/JudgedRanking" 41 M61).before a0 Z = true := wk_ hw 370 rfl
theorem wd_371 {Z a0} (hw : HW Z a0) : (Cond.declares M61).before a0 Z = true := wk_ hw 371 rfl
theorem wd_372 {Z a0} (hw : HW Z a0) : (Cond.instanceMethod M61).before a0 Z = true := wk_ hw 372 rfl
theorem wd_373 {Z a0} (hw : HW Z a0) : (Cond.selects "java/lang/Integer" M61 M61).before a0 Z = true := wk_ hw 373 rfl
theorem wd_374 {Z a0} (hw : HW Z a0) : (Cond.code M61 jdk_33_method_27_code 1 (some FieldType.int)).before a0 Z = true := wk_ hw 374 rfl
theorem wd_375 {Z a0} (hw : HW Z a0) : (Cond.fieldLink "java/lang/Integer" 205 "java/lang/Integer" "value" "I").before a0 Z = true := wk_ hw 375 rfl
theorem wd_376 {Z a0} (hw : HW Z a0) : (Cond.laysFinal "java/lang/Integer" "java/lang/Integer" "value" "I").before a0 Z = true := wk_ hw 376 rfl
theorem wd_377 {Z a0} (hw : HW Z a0) : (Cond.fieldLink "java/util/HashMap$HashIterator" 36 "java/util/HashMap" "size" "I").before a0 Z = true := wk_ hw 377 rfl
theorem wd_378 {Z a0} (hw : HW Z a0) : (Cond.methodLink "com/example/inq2/inq2/JudgedRanking" 61 M62).before a0 Z = true := wk_ hw 378 rfl
theorem wd_379 {Z a0} (hw : HW Z a0) : (Cond.declares M62).before a0 Z = true := wk_ hw 379 rfl
theorem wd_380 {Z a0} (hw : HW Z a0) : (Cond.interfaceMethod "java/util/Iterator" "java/util/Iterator" "next" "()Ljava/lang/Object;").before a0 Z = true := wk_ hw 380 rfl
theorem wd_381 {Z a0} (hw : HW Z a0) : (Cond.selects "java/util/HashMap$ValueIterator" M62 M63).before a0 Z = true := wk_ hw 381 rfl
theorem wd_382 {Z a0} (hw : HW Z a0) : (Cond.instanceMethod M63).before a0 Z = true := wk_ hw 382 rfl
theorem wd_383 {Z a0} (hw : HW Z a0) : (Cond.publicMethod M63).before a0 Z = true := wk_ hw 383 rfl
theorem wd_384 {Z a0} (hw : HW Z a0) : (Cond.unhidden "java/util/HashMap$ValueIterator" "next" "()Ljava/lang/Object;").before a0 Z = true := wk_ hw 384 rfl
theorem wd_385 {Z a0} (hw : HW Z a0) : (Cond.code M63 jdk_2569_method_2_code 1 (some (FieldType.object "java/lang/Object"))).before a0 Z = true := wk_ hw 385 rfl
theorem wd_386 {Z a0} (hw : HW Z a0) : (Cond.methodLink "java/util/HashMap$ValueIterator" 7 M64).before a0 Z = true := wk_ hw 386 rfl
theorem wd_387 {Z a0} (hw : HW Z a0) : (Cond.sameMethod "java/util/HashMap$ValueIterator" "java/util/HashMap$HashIterator" "nextNode" "()Ljava/util/HashMap$Node;").before a0 Z = true := wk_ hw 387 rfl
theorem wd_388 {Z a0} (hw : HW Z a0) : (Cond.declares M65).before a0 Z = true := wk_ hw 388 rfl
theorem wd_389 {Z a0} (hw : HW Z a0) : (Cond.instanceMethod M65).before a0 Z = true := wk_ hw 389 rfl
theorem wd_390 {Z a0} (hw : HW Z a0) : (Cond.selects "java/util/HashMap$ValueIterator" M64 M65).before a0 Z = true := wk_ hw 390 rfl
theorem wd_391 {Z a0} (hw : HW Z a0) : (Cond.code M65 jdk_99_method_3_code 3 (some (FieldType.object "java/util/HashMap$Node"))).before a0 Z = true := wk_ hw 391 rfl
theorem wd_392 {Z a0} (hw : HW Z a0) : (Cond.fieldLink "java/util/HashMap$HashIterator" 45 "java/util/HashMap$Node" "next" "Ljava/util/HashMap$Node;").before a0 Z = true := wk_ hw 392 rfl
theorem wd_393 {Z a0} (hw : HW Z a0) : (Cond.fieldLink "java/util/HashMap$ValueIterator" 13 "java/util/HashMap$Node" "value" "Ljava/lang/Object;").before a0 Z = true := wk_ hw 393 rfl
theorem wd_394 {Z a0} (hw : HW Z a0) : (Cond.classLink "java/lang/Integer" 1 "java/lang/Integer").before a0 Z = true := wk_ hw 394 rfl
theorem wd_395 {Z a0} (hw : HW Z a0) : (Cond.instantiable "java/lang/Integer" 1).before a0 Z = true := wk_ hw 395 rfl
theorem wd_396 {Z a0} (hw : HW Z a0) : (Cond.methodLink "java/lang/Integer" 199 M66).before a0 Z = true := wk_ hw 396 rfl
theorem wd_397 {Z a0} (hw : HW Z a0) : (Cond.instanceMethod M66).before a0 Z = true := wk_ hw 397 rfl
theorem wd_398 {Z a0} (hw : HW Z a0) : (Cond.code M66 jdk_33_method_23_code 2 (Option.none : Option Jvm.ClassFile.FieldType)).before a0 Z = true := wk_ hw 398 rfl
theorem wd_399 {Z a0} (hw : HW Z a0) : (Cond.methodLink "java/lang/Integer" 202 M67).before a0 Z = true := wk_ hw 399 rfl
theorem wd_400 {Z a0} (hw : HW Z a0) : (Cond.instanceMethod M67).before a0 Z = true := wk_ hw 400 rfl
theorem wd_403 {Z a0} (hw : HW Z a0) : (Cond.initialized "java/lang/Number").before a0 Z = true := wk_ hw 403 rfl
theorem wd_404 {Z a0} (hw : HW Z a0) : (Cond.code M67 jdk_18_method_1_code 1 (Option.none : Option Jvm.ClassFile.FieldType)).before a0 Z = true := wk_ hw 404 rfl
theorem wd_405 {Z a0} (hw : HW Z a0) : (Cond.methodLink "java/lang/Number" 1 M4).before a0 Z = true := wk_ hw 405 rfl
theorem wd_406 {Z a0} (hw : HW Z a0) : (Cond.methodLink "java/util/Arrays" 304 M68).before a0 Z = true := wk_ hw 406 rfl
theorem wd_407 {Z a0} (hw : HW Z a0) : (Cond.static M68).before a0 Z = true := wk_ hw 407 rfl
theorem wd_408 {Z a0} (hw : HW Z a0) : (Cond.code M68 jdk_29_method_69_code 2 (some FieldType.int)).before a0 Z = true := wk_ hw 408 rfl
theorem wd_409 {Z a0} (hw : HW Z a0) : (Cond.methodLink "java/util/Arrays" 150 M69).before a0 Z = true := wk_ hw 409 rfl
theorem wd_410 {Z a0} (hw : HW Z a0) : (Cond.static M69).before a0 Z = true := wk_ hw 410 rfl
theorem wd_411 {Z a0} (hw : HW Z a0) : (Cond.initialized "java/lang/System").before a0 Z = true := wk_ hw 411 rfl
theorem wd_412 {Z a0} (hw : HW Z a0) : (Cond.native M69).before a0 Z = true := wk_ hw 412 rfl
set_option maxRecDepth 65536
set_option maxHeartbeats 40000000
theorem ef_i1 (m : MethodId) (x0 : Int32) : entryFrame m #[.int x0] 1 = mkF m 0 #[.val (.int x0)] [] := by first | (simp [entryFrame, mkF, argsToLocals, Value.category, maxLocals]; done) | rfl
abbrev K2 : ByteArray := jdk_43_method_3_code
theorem d2_0 : decode K2 0 = .ok (.iload_n 0, 1) := by decide +kernel
theorem d2_1 : decode K2 1 = .ok (.sipush 255, 3) := by decide +kernel
theorem d2_4 : decode K2 4 = .ok (.if_icmp .gt 7, 3) := by decide +kernel
theorem d2_7 : decode K2 7 = .ok (.iconst 1, 1) := by decide +kernel
theorem d2_8 : decode K2 8 = .ok (.goto 4, 3) := by decide +kernel
theorem d2_12 : decode K2 12 = .ok (.ireturn, 1) := by decide +kernel
theorem pf_2 : plainFor ⟨"java/lang/StringLatin1", "canEncode", "(C)Z"⟩ = true := by first | exact plainFor_of_name (by first | (simp [plainName, overriddenIn]; done) | decide +kernel) | decide +kernel
abbrev K3 : ByteArray := jdk_43_method_46_code
theorem d3_0 : decode K3 0 = .ok (.iconst 1, 1) := by decide +kernel
theorem d3_1 : decode K3 1 = .ok (.newarray .byte, 2) := by decide +kernel
theorem d3_3 : decode K3 3 = .ok (.dup, 1) := by decide +kernel
theorem d3_4 : decode K3 4 = .ok (.iconst 0, 1) := by decide +kernel
theorem d3_5 : decode K3 5 = .ok (.iload_n 0, 1) := by decide +kernel
theorem d3_6 : decode K3 6 = .ok (.i2b, 1) := by decide +kernel
theorem d3_7 : decode K3 7 = .ok (.bastore, 1) := by decide +kernel
theorem d3_8 : decode K3 8 = .ok (.areturn, 1) := by decide +kernel
theorem pf_3 : plainFor ⟨"java/lang/StringLatin1", "toBytes", "(C)[B"⟩ = true := by first | exact plainFor_of_name (by first | (simp [plainName, overriddenIn]; done) | decide +kernel) | decide +kernel
theorem la_String {Z : State} {a0 : Array Value} (hw : ∀ d ∈ tables_1, d.before a0 Z = true) : LaidAll Z a0 "java/lang/String" [("java/lang/String", "value", "[B", .null), ("java/lang/String", "coder", "B", .int 0), ("java/lang/String", "hash", "I", .int 0), ("java/lang/String", "hashIsZero", "Z", .int 0)] := LaidAll.cons (Or.inr (wd_23 hw)) (t := (.array .byte)) (by decide) rfl (LaidAll.cons (Or.inr (wd_25 hw)) (t := .byte) (by decide) rfl (LaidAll.cons (Or.inl (wd_229 hw)) (t := .int) (by decide) rfl (LaidAll.cons (Or.inl (wd_231 hw)) (t := .boolean) (by decide) rfl (LaidAll.nil))))
abbrev fs_String (v0 v1 v2 v3 : Value) : List FR := [("java/lang/String", "value", "[B", v0), ("java/lang/String", "coder", "B", v1), ("java/lang/String", "hash", "I", v2), ("java/lang/String", "hashIsZero", "Z", v3)]
theorem ef_rri3 (m : MethodId) (x0 : Addr) (x1 : Addr) (x2 : Int32) : entryFrame m #[.ref x0, .ref x1, .int x2] 3 = mkF m 0 #[.val (.ref x0), .val (.ref x1), .val (.int x2)] [] := by first | (simp [entryFrame, mkF, argsToLocals, Value.category, maxLocals]; done) | rfl
abbrev K4 : ByteArray := jdk_42_method_151_code
theorem d4_0 : decode K4 0 = .ok (.aload_n 0, 1) := by decide +kernel
theorem d4_1 : decode K4 1 = .ok (.invokespecial 1, 3) := by decide +kernel
theorem d4_4 : decode K4 4 = .ok (.aload_n 0, 1) := by decide +kernel
theorem d4_5 : decode K4 5 = .ok (.aload_n 1, 1) := by decide +kernel
theorem d4_6 : decode K4 6 = .ok (.putfield 9, 3) := by decide +kernel
theorem d4_9 : decode K4 9 = .ok (.aload_n 0, 1) := by decide +kernel
theorem d4_10 : decode K4 10 = .ok (.iload_n 2, 1) := by decide +kernel
theorem d4_11 : decode K4 11 = .ok (.putfield 15, 3) := by decide +kernel
theorem d4_14 : decode K4 14 = .ok (.return_, 1) := by decide +kernel
theorem pf_4 : plainFor ⟨"java/lang/String", "<init>", "([BB)V"⟩ = true := by first | exact plainFor_of_name (by first | (simp [plainName, overriddenIn]; done) | decide +kernel) | decide +kernel
abbrev K1 : ByteArray := jdk_42_method_139_code
theorem d1_0 : decode K1 0 = .ok (.getstatic 38, 3) := by decide +kernel
theorem d1_3 : decode K1 3 = .ok (.ifCond .eq 23, 3) := by decide +kernel
theorem d1_6 : decode K1 6 = .ok (.iload_n 0, 1) := by decide +kernel
theorem d1_7 : decode K1 7 = .ok (.invokestatic 1015, 3) := by decide +kernel
theorem pd_0 : parseMethodDescriptor "(C)Z" = some ⟨[.char], some .boolean⟩ := by decide +kernel
theorem d1_10 : decode K1 10 = .ok (.ifCond .eq 16, 3) := by decide +kernel
theorem d1_13 : decode K1 13 = .ok (.new 10, 3) := by decide +kernel
theorem d1_16 : decode K1 16 = .ok (.dup, 1) := by decide +kernel
theorem d1_17 : decode K1 17 = .ok (.iload_n 0, 1) := by decide +kernel
theorem d1_18 : decode K1 18 = .ok (.invokestatic 1018, 3) := by decide +kernel
theorem pd_1 : parseMethodDescriptor "(C)[B" = some ⟨[.char], some (.array .byte)⟩ := by decide +kernel
theorem d1_21 : decode K1 21 = .ok (.iconst 0, 1) := by decide +kernel
theorem d1_22 : decode K1 22 = .ok (.invokespecial 209, 3) := by decide +kernel
theorem pd_2 : parseMethodDescriptor "([BB)V" = some ⟨[(.array .byte), .byte], none⟩ := by decide +kernel
theorem d1_25 : decode K1 25 = .ok (.areturn, 1) := by decide +kernel
theorem pf_1 : plainFor ⟨"java/lang/String", "valueOf", "(C)Ljava/lang/String;"⟩ = true := by first | exact plainFor_of_name (by first | (simp [plainName, overriddenIn]; done) | decide +kernel) | decide +kernel
theorem ef_r1 (m : MethodId) (x0 : Addr) : entryFrame m #[.ref x0] 1 = mkF m 0 #[.val (.ref x0)] [] := by first | (simp [entryFrame, mkF, argsToLocals, Value.category, maxLocals]; done) | rfl
abbrev K32 : ByteArray := jdk_42_method_154_code
theorem d32_0 : decode K32 0 = .ok (.getstatic 38, 3) := by decide +kernel
theorem d32_3 : decode K32 3 = .ok (.ifCond .eq 14, 3) := by decide +kernel
theorem d32_6 : decode K32 6 = .ok (.aload_n 0, 1) := by decide +kernel
theorem d32_7 : decode K32 7 = .ok (.getfield 15, 3) := by decide +kernel
theorem d32_10 : decode K32 10 = .ok (.ifCond .ne 7, 3) := by decide +kernel
theorem d32_13 : decode K32 13 = .ok (.iconst 1, 1) := by decide +kernel
theorem d32_14 : decode K32 14 = .ok (.goto 4, 3) := by decide +kernel
theorem d32_18 : decode K32 18 = .ok (.ireturn, 1) := by decide +kernel
theorem pf_32 : plainFor ⟨"java/lang/String", "isLatin1", "()Z"⟩ = true := by first | exact plainFor_of_name (by first | (simp [plainName, overriddenIn]; done) | decide +kernel) | decide +kernel
abbrev K33 : ByteArray := jdk_43_method_21_code
theorem d33_0 : decode K33 0 = .ok (.aload_n 0, 1) := by decide +kernel
theorem d33_1 : decode K33 1 = .ok (.arraylength, 1) := by decide +kernel
theorem d33_2 : decode K33 2 = .ok (.lookupswitch 40 #[(0, 26), (1, 30)], 26) := by decide +kernel
theorem d33_32 : decode K33 32 = .ok (.aload_n 0, 1) := by decide +kernel
theorem d33_33 : decode K33 33 = .ok (.iconst 0, 1) := by decide +kernel
theorem d33_34 : decode K33 34 = .ok (.baload, 1) := by decide +kernel
theorem d33_35 : decode K33 35 = .ok (.sipush 255, 3) := by decide +kernel
theorem d33_38 : decode K33 38 = .ok (.iand, 1) := by decide +kernel
theorem d33_39 : decode K33 39 = .ok (.goto 12, 3) := by decide +kernel
theorem d33_51 : decode K33 51 = .ok (.ireturn, 1) := by decide +kernel
theorem pf_33 : plainFor ⟨"java/lang/StringLatin1", "hashCode", "([B)I"⟩ = true := by first | exact plainFor_of_name (by first | (simp [plainName, overriddenIn]; done) | decide +kernel) | decide +kernel
theorem ef_r2 (m : MethodId) (x0 : Addr) : entryFrame m #[.ref x0] 2 = mkF m 0 #[.val (.ref x0), .unset] [] := by first | (simp [entryFrame, mkF, argsToLocals, Value.category, maxLocals]; done) | rfl
abbrev K31 : ByteArray := jdk_42_method_78_code
theorem d31_0 : decode K31 0 = .ok (.aload_n 0, 1) := by decide +kernel
theorem d31_1 : decode K31 1 = .ok (.getfield 19, 3) := by decide +kernel
theorem d31_4 : decode K31 4 = .ok (.istore_n 1, 1) := by decide +kernel
theorem d31_5 : decode K31 5 = .ok (.iload_n 1, 1) := by decide +kernel
theorem d31_6 : decode K31 6 = .ok (.ifCond .ne 52, 3) := by decide +kernel
theorem d31_9 : decode K31 9 = .ok (.aload_n 0, 1) := by decide +kernel
theorem d31_10 : decode K31 10 = .ok (.getfield 23, 3) := by decide +kernel
theorem d31_13 : decode K31 13 = .ok (.ifCond .ne 45, 3) := by decide +kernel
theorem d31_16 : decode K31 16 = .ok (.aload_n 0, 1) := by decide +kernel
theorem d31_17 : decode K31 17 = .ok (.invokevirtual 492, 3) := by decide +kernel
theorem pd_3 : parseMethodDescriptor "()Z" = some ⟨[], some .boolean⟩ := by decide +kernel
theorem d31_20 : decode K31 20 = .ok (.ifCond .eq 13, 3) := by decide +kernel
theorem d31_23 : decode K31 23 = .ok (.aload_n 0, 1) := by decide +kernel
theorem d31_24 : decode K31 24 = .ok (.getfield 9, 3) := by decide +kernel
theorem d31_27 : decode K31 27 = .ok (.invokestatic 628, 3) := by decide +kernel
theorem pd_4 : parseMethodDescriptor "([B)I" = some ⟨[(.array .byte)], some .int⟩ := by decide +kernel
theorem d31_30 : decode K31 30 = .ok (.goto 10, 3) := by decide +kernel
theorem d31_40 : decode K31 40 = .ok (.istore_n 1, 1) := by decide +kernel
theorem d31_41 : decode K31 41 = .ok (.iload_n 1, 1) := by decide +kernel
theorem d31_42 : decode K31 42 = .ok (.ifCond .ne 11, 3) := by decide +kernel
theorem d31_53 : decode K31 53 = .ok (.aload_n 0, 1) := by decide +kernel
theorem d31_54 : decode K31 54 = .ok (.iload_n 1, 1) := by decide +kernel
theorem d31_55 : decode K31 55 = .ok (.putfield 19, 3) := by decide +kernel
theorem d31_58 : decode K31 58 = .ok (.iload_n 1, 1) := by decide +kernel
theorem d31_59 : decode K31 59 = .ok (.ireturn, 1) := by decide +kernel
theorem pf_31 : plainFor ⟨"java/lang/String", "hashCode", "()I"⟩ = true := by first | exact plainFor_of_name (by first | (simp [plainName, overriddenIn]; done) | decide +kernel) | decide +kernel
abbrev K30 : ByteArray := jdk_69_method_1_code
theorem d30_0 : decode K30 0 = .ok (.aload_n 0, 1) := by decide +kernel
theorem d30_1 : decode K30 1 = .ok (.ifnonnull 7, 3) := by decide +kernel
theorem d30_8 : decode K30 8 = .ok (.aload_n 0, 1) := by decide +kernel
theorem d30_9 : decode K30 9 = .ok (.invokevirtual 1, 3) := by decide +kernel
theorem pd_5 : parseMethodDescriptor "()I" = some ⟨[], some .int⟩ := by decide +kernel
theorem d30_12 : decode K30 12 = .ok (.dup, 1) := by decide +kernel
theorem d30_13 : decode K30 13 = .ok (.istore_n 1, 1) := by decide +kernel
theorem d30_14 : decode K30 14 = .ok (.iload_n 1, 1) := by decide +kernel
theorem d30_15 : decode K30 15 = .ok (.bipush 16, 2) := by decide +kernel
theorem d30_17 : decode K30 17 = .ok (.iushr, 1) := by decide +kernel
theorem d30_18 : decode K30 18 = .ok (.ixor, 1) := by decide +kernel
theorem d30_19 : decode K30 19 = .ok (.ireturn, 1) := by decide +kernel
theorem pf_30 : plainFor ⟨"java/util/HashMap", "hash", "(Ljava/lang/Object;)I"⟩ = true := by first | exact plainFor_of_name (by first | (simp [plainName, overriddenIn]; done) | decide +kernel) | decide +kernel
abbrev K10 : ByteArray := jdk_22_method_1_code
theorem d10_0 : decode K10 0 = .ok (.aload_n 0, 1) := by decide +kernel
theorem d10_1 : decode K10 1 = .ok (.invokespecial 1, 3) := by decide +kernel
theorem d10_4 : decode K10 4 = .ok (.return_, 1) := by decide +kernel
theorem pf_10 : plainFor ⟨"java/util/AbstractCollection", "<init>", "()V"⟩ = true := by first | exact plainFor_of_name (by first | (simp [plainName, overriddenIn]; done) | decide +kernel) | decide +kernel
theorem la_ArrayList {Z : State} {a0 : Array Value} (hw : ∀ d ∈ tables_1, d.before a0 Z = true) : LaidAll Z a0 "java/util/ArrayList" [("java/util/AbstractList", "modCount", "I", .int 0), ("java/util/ArrayList", "elementData", "[Ljava/lang/Object;", .null), ("java/util/ArrayList", "size", "I", .int 0)] := LaidAll.cons (Or.inl (wd_62 hw)) (t := .int) (by decide) rfl (LaidAll.cons (Or.inl (wd_65 hw)) (t := (.array (.object "java/lang/Object"))) (by decide) rfl (LaidAll.cons (Or.inl (wd_83 hw)) (t := .int) (by decide) rfl (LaidAll.nil)))
abbrev fs_ArrayList (v0 v1 v2 : Value) : List FR := [("java/util/AbstractList", "modCount", "I", v0), ("java/util/ArrayList", "elementData", "[Ljava/lang/Object;", v1), ("java/util/ArrayList", "size", "I", v2)]
abbrev K9 : ByteArray := jdk_39_method_1_code
theorem d9_0 : decode K9 0 = .ok (.aload_n 0, 1) := by decide +kernel
theorem d9_1 : decode K9 1 = .ok (.invokespecial 1, 3) := by decide +kernel
theorem pd_6 : parseMethodDescriptor "()V" = some ⟨[], none⟩ := by decide +kernel
theorem d9_4 : decode K9 4 = .ok (.aload_n 0, 1) := by decide +kernel
theorem d9_5 : decode K9 5 = .ok (.iconst 0, 1) := by decide +kernel
theorem d9_6 : decode K9 6 = .ok (.putfield 7, 3) := by decide +kernel
theorem d9_9 : decode K9 9 = .ok (.return_, 1) := by decide +kernel
theorem pf_9 : plainFor ⟨"java/util/AbstractList", "<init>", "()V"⟩ = true := by first | exact plainFor_of_name (by first | (simp [plainName, overriddenIn]; done) | decide +kernel) | decide +kernel
abbrev K8 : ByteArray := jdk_38_method_2_code
theorem d8_0 : decode K8 0 = .ok (.aload_n 0, 1) := by decide +kernel
theorem d8_1 : decode K8 1 = .ok (.invokespecial 1, 3) := by decide +kernel
theorem d8_4 : decode K8 4 = .ok (.aload_n 0, 1) := by decide +kernel
theorem d8_5 : decode K8 5 = .ok (.getstatic 39, 3) := by decide +kernel
theorem d8_8 : decode K8 8 = .ok (.putfield 9, 3) := by decide +kernel
theorem d8_11 : decode K8 11 = .ok (.return_, 1) := by decide +kernel
theorem pf_8 : plainFor ⟨"java/util/ArrayList", "<init>", "()V"⟩ = true := by first | exact plainFor_of_name (by first | (simp [plainName, overriddenIn]; done) | decide +kernel) | decide +kernel
theorem ef_ii2 (m : MethodId) (x0 : Int32) (x1 : Int32) : entryFrame m #[.int x0, .int x1] 2 = mkF m 0 #[.val (.int x0), .val (.int x1)] [] := by first | (simp [entryFrame, mkF, argsToLocals, Value.category, maxLocals]; done) | rfl
abbrev K44 : ByteArray := jdk_29_method_65_code
theorem d44_0 : decode K44 0 = .ok (.iload_n 0, 1) := by decide +kernel
theorem d44_1 : decode K44 1 = .ok (.iload_n 1, 1) := by decide +kernel
theorem d44_2 : decode K44 2 = .ok (.if_icmp .lt 7, 3) := by decide +kernel
theorem d44_5 : decode K44 5 = .ok (.iload_n 0, 1) := by decide +kernel
theorem d44_6 : decode K44 6 = .ok (.goto 4, 3) := by decide +kernel
theorem d44_10 : decode K44 10 = .ok (.ireturn, 1) := by decide +kernel
theorem pf_44 : plainFor ⟨"java/lang/Math", "max", "(II)I"⟩ = true := by first | exact plainFor_of_name (by first | (simp [plainName, overriddenIn]; done) | decide +kernel) | decide +kernel
theorem ef_ri4 (m : MethodId) (x0 : Addr) (x1 : Int32) : entryFrame m #[.ref x0, .int x1] 4 = mkF m 0 #[.val (.ref x0), .val (.int x1), .unset, .unset] [] := by first | (simp [entryFrame, mkF, argsToLocals, Value.category, maxLocals]; done) | rfl
abbrev K43 : ByteArray := jdk_38_method_6_code
theorem d43_0 : decode K43 0 = .ok (.aload_n 0, 1) := by decide +kernel
theorem d43_1 : decode K43 1 = .ok (.getfield 9, 3) := by decide +kernel
theorem d43_4 : decode K43 4 = .ok (.arraylength, 1) := by decide +kernel
theorem d43_5 : decode K43 5 = .ok (.istore_n 2, 1) := by decide +kernel
theorem d43_6 : decode K43 6 = .ok (.iload_n 2, 1) := by decide +kernel
theorem d43_7 : decode K43 7 = .ok (.ifCond .gt 13, 3) := by decide +kernel
theorem d43_10 : decode K43 10 = .ok (.aload_n 0, 1) := by decide +kernel
theorem d43_11 : decode K43 11 = .ok (.getfield 9, 3) := by decide +kernel
theorem d43_14 : decode K43 14 = .ok (.getstatic 39, 3) := by decide +kernel
theorem d43_17 : decode K43 17 = .ok (.if_acmp .eq 28, 3) := by decide +kernel
theorem d43_45 : decode K43 45 = .ok (.aload_n 0, 1) := by decide +kernel
theorem d43_46 : decode K43 46 = .ok (.bipush 10, 2) := by decide +kernel
theorem d43_48 : decode K43 48 = .ok (.iload_n 1, 1) := by decide +kernel
theorem d43_49 : decode K43 49 = .ok (.invokestatic 79, 3) := by decide +kernel
theorem pd_7 : parseMethodDescriptor "(II)I" = some ⟨[.int, .int], some .int⟩ := by decide +kernel
theorem d43_52 : decode K43 52 = .ok (.anewarray 7, 3) := by decide +kernel
theorem d43_55 : decode K43 55 = .ok (.dup_x1, 1) := by decide +kernel
theorem d43_56 : decode K43 56 = .ok (.putfield 9, 3) := by decide +kernel
theorem d43_59 : decode K43 59 = .ok (.areturn, 1) := by decide +kernel
theorem pf_43 : plainFor ⟨"java/util/ArrayList", "grow", "(I)[Ljava/lang/Object;"⟩ = true := by first | exact plainFor_of_name (by first | (simp [plainName, overriddenIn]; done) | decide +kernel) | decide +kernel
abbrev K42 : ByteArray := jdk_38_method_7_code
theorem d42_0 : decode K42 0 = .ok (.aload_n 0, 1) := by decide +kernel
theorem d42_1 : decode K42 1 = .ok (.aload_n 0, 1) := by decide +kernel
theorem d42_2 : decode K42 2 = .ok (.getfield 48, 3) := by decide +kernel
theorem d42_5 : decode K42 5 = .ok (.iconst 1, 1) := by decide +kernel
theorem d42_6 : decode K42 6 = .ok (.iadd, 1) := by decide +kernel
theorem d42_7 : decode K42 7 = .ok (.invokevirtual 69, 3) := by decide +kernel
theorem pd_8 : parseMethodDescriptor "(I)[Ljava/lang/Object;" = some ⟨[.int], some (.array (.object "java/lang/Object"))⟩ := by decide +kernel
theorem d42_10 : decode K42 10 = .ok (.areturn, 1) := by decide +kernel
theorem pf_42 : plainFor ⟨"java/util/ArrayList", "grow", "()[Ljava/lang/Object;"⟩ = true := by first | exact plainFor_of_name (by first | (simp [plainName, overriddenIn]; done) | decide +kernel) | decide +kernel
theorem ef_rrri4 (m : MethodId) (x0 : Addr) (x1 : Addr) (x2 : Addr) (x3 : Int32) : entryFrame m #[.ref x0, .ref x1, .ref x2, .int x3] 4 = mkF m 0 #[.val (.ref x0), .val (.ref x1), .val (.ref x2), .val (.int x3)] [] := by first | (simp [entryFrame, mkF, argsToLocals, Value.category, maxLocals]; done) | rfl
abbrev K41 : ByteArray := jdk_38_method_24_code
theorem d41_0 : decode K41 0 = .ok (.iload_n 3, 1) := by decide +kernel
theorem d41_1 : decode K41 1 = .ok (.aload_n 2, 1) := by decide +kernel
theorem d41_2 : decode K41 2 = .ok (.arraylength, 1) := by decide +kernel
theorem d41_3 : decode K41 3 = .ok (.if_icmp .ne 8, 3) := by decide +kernel
theorem d41_6 : decode K41 6 = .ok (.aload_n 0, 1) := by decide +kernel
theorem d41_7 : decode K41 7 = .ok (.invokevirtual 129, 3) := by decide +kernel
theorem pd_9 : parseMethodDescriptor "()[Ljava/lang/Object;" = some ⟨[], some (.array (.object "java/lang/Object"))⟩ := by decide +kernel
theorem d41_10 : decode K41 10 = .ok (.astore_n 2, 1) := by decide +kernel
theorem d41_11 : decode K41 11 = .ok (.aload_n 2, 1) := by decide +kernel
theorem d41_12 : decode K41 12 = .ok (.iload_n 3, 1) := by decide +kernel
theorem d41_13 : decode K41 13 = .ok (.aload_n 1, 1) := by decide +kernel
theorem d41_14 : decode K41 14 = .ok (.aastore, 1) := by decide +kernel
theorem d41_15 : decode K41 15 = .ok (.aload_n 0, 1) := by decide +kernel
theorem d41_16 : decode K41 16 = .ok (.iload_n 3, 1) := by decide +kernel
theorem d41_17 : decode K41 17 = .ok (.iconst 1, 1) := by decide +kernel
theorem d41_18 : decode K41 18 = .ok (.iadd, 1) := by decide +kernel
theorem d41_19 : decode K41 19 = .ok (.putfield 48, 3) := by decide +kernel
theorem d41_22 : decode K41 22 = .ok (.return_, 1) := by decide +kernel
theorem pf_41 : plainFor ⟨"java/util/ArrayList", "add", "(Ljava/lang/Object;[Ljava/lang/Object;I)V"⟩ = true := by first | exact plainFor_of_name (by first | (simp [plainName, overriddenIn]; done) | decide +kernel) | decide +kernel
theorem ef_rr2 (m : MethodId) (x0 : Addr) (x1 : Addr) : entryFrame m #[.ref x0, .ref x1] 2 = mkF m 0 #[.val (.ref x0), .val (.ref x1)] [] := by first | (simp [entryFrame, mkF, argsToLocals, Value.category, maxLocals]; done) | rfl
abbrev K40 : ByteArray := jdk_38_method_25_code
theorem d40_0 : decode K40 0 = .ok (.aload_n 0, 1) := by decide +kernel
theorem d40_1 : decode K40 1 = .ok (.dup, 1) := by decide +kernel
theorem d40_2 : decode K40 2 = .ok (.getfield 63, 3) := by decide +kernel
theorem d40_5 : decode K40 5 = .ok (.iconst 1, 1) := by decide +kernel
theorem d40_6 : decode K40 6 = .ok (.iadd, 1) := by decide +kernel
theorem d40_7 : decode K40 7 = .ok (.putfield 63, 3) := by decide +kernel
theorem d40_10 : decode K40 10 = .ok (.aload_n 0, 1) := by decide +kernel
theorem d40_11 : decode K40 11 = .ok (.aload_n 1, 1) := by decide +kernel
theorem d40_12 : decode K40 12 = .ok (.aload_n 0, 1) := by decide +kernel
theorem d40_13 : decode K40 13 = .ok (.getfield 9, 3) := by decide +kernel
theorem d40_16 : decode K40 16 = .ok (.aload_n 0, 1) := by decide +kernel
theorem d40_17 : decode K40 17 = .ok (.getfield 48, 3) := by decide +kernel
theorem d40_20 : decode K40 20 = .ok (.invokevirtual 131, 3) := by decide +kernel
theorem pd_10 : parseMethodDescriptor "(Ljava/lang/Object;[Ljava/lang/Object;I)V" = some ⟨[(.object "java/lang/Object"), (.array (.object "java/lang/Object")), .int], none⟩ := by decide +kernel
theorem d40_23 : decode K40 23 = .ok (.iconst 1, 1) := by decide +kernel
theorem d40_24 : decode K40 24 = .ok (.ireturn, 1) := by decide +kernel
theorem pf_40 : plainFor ⟨"java/util/ArrayList", "add", "(Ljava/lang/Object;)Z"⟩ = true := by first | exact plainFor_of_name (by first | (simp [plainName, overriddenIn]; done) | decide +kernel) | decide +kernel
abbrev K12 : ByteArray := jdk_38_method_8_code
theorem d12_0 : decode K12 0 = .ok (.aload_n 0, 1) := by decide +kernel
theorem d12_1 : decode K12 1 = .ok (.getfield 48, 3) := by decide +kernel
theorem d12_4 : decode K12 4 = .ok (.ireturn, 1) := by decide +kernel
theorem pf_12 : plainFor ⟨"java/util/ArrayList", "size", "()I"⟩ = true := by first | exact plainFor_of_name (by first | (simp [plainName, overriddenIn]; done) | decide +kernel) | decide +kernel
theorem ef_iin3 (m : MethodId) (x0 : Int32) (x1 : Int32) : entryFrame m #[.int x0, .int x1, .null] 3 = mkF m 0 #[.val (.int x0), .val (.int x1), .val (.null)] [] := by first | (simp [entryFrame, mkF, argsToLocals, Value.category, maxLocals]; done) | rfl
abbrev K47 : ByteArray := jdk_41_method_11_code
theorem d47_0 : decode K47 0 = .ok (.iload_n 0, 1) := by decide +kernel
theorem d47_1 : decode K47 1 = .ok (.ifCond .lt 8, 3) := by decide +kernel
theorem d47_4 : decode K47 4 = .ok (.iload_n 0, 1) := by decide +kernel
theorem d47_5 : decode K47 5 = .ok (.iload_n 1, 1) := by decide +kernel
theorem d47_6 : decode K47 6 = .ok (.if_icmp .lt 10, 3) := by decide +kernel
theorem d47_16 : decode K47 16 = .ok (.iload_n 0, 1) := by decide +kernel
theorem d47_17 : decode K47 17 = .ok (.ireturn, 1) := by decide +kernel
theorem pn_Preconditions : plainName "jdk/internal/util/Preconditions" = true := by first | (simp [plainName, overriddenIn]; done) | decide +kernel
abbrev K46 : ByteArray := jdk_31_method_17_code
theorem d46_0 : decode K46 0 = .ok (.iload_n 0, 1) := by decide +kernel
theorem d46_1 : decode K46 1 = .ok (.iload_n 1, 1) := by decide +kernel
theorem d46_2 : decode K46 2 = .ok (.aconst_null, 1) := by decide +kernel
theorem d46_3 : decode K46 3 = .ok (.invokestatic 105, 3) := by decide +kernel
theorem pd_11 : parseMethodDescriptor "(IILjava/util/function/BiFunction;)I" = some ⟨[.int, .int, (.object "java/util/function/BiFunction")], some .int⟩ := by decide +kernel
theorem d46_6 : decode K46 6 = .ok (.ireturn, 1) := by decide +kernel
theorem pf_46 : plainFor ⟨"java/util/Objects", "checkIndex", "(II)I"⟩ = true := by first | exact plainFor_of_name (by first | (simp [plainName, overriddenIn]; done) | decide +kernel) | decide +kernel
theorem ef_ri2 (m : MethodId) (x0 : Addr) (x1 : Int32) : entryFrame m #[.ref x0, .int x1] 2 = mkF m 0 #[.val (.ref x0), .val (.int x1)] [] := by first | (simp [entryFrame, mkF, argsToLocals, Value.category, maxLocals]; done) | rfl
abbrev K48 : ByteArray := jdk_38_method_18_code
theorem d48_0 : decode K48 0 = .ok (.aload_n 0, 1) := by decide +kernel
theorem d48_1 : decode K48 1 = .ok (.getfield 9, 3) := by decide +kernel
theorem d48_4 : decode K48 4 = .ok (.iload_n 1, 1) := by decide +kernel
theorem d48_5 : decode K48 5 = .ok (.aaload, 1) := by decide +kernel
theorem d48_6 : decode K48 6 = .ok (.areturn, 1) := by decide +kernel
theorem pf_48 : plainFor ⟨"java/util/ArrayList", "elementData", "(I)Ljava/lang/Object;"⟩ = true := by first | exact plainFor_of_name (by first | (simp [plainName, overriddenIn]; done) | decide +kernel) | decide +kernel
abbrev K45 : ByteArray := jdk_38_method_20_code
theorem d45_0 : decode K45 0 = .ok (.iload_n 1, 1) := by decide +kernel
theorem d45_1 : decode K45 1 = .ok (.aload_n 0, 1) := by decide +kernel
theorem d45_2 : decode K45 2 = .ok (.getfield 48, 3) := by decide +kernel
theorem d45_5 : decode K45 5 = .ok (.invokestatic 118, 3) := by decide +kernel
theorem d45_8 : decode K45 8 = .ok (.pop, 1) := by decide +kernel
theorem d45_9 : decode K45 9 = .ok (.aload_n 0, 1) := by decide +kernel
theorem d45_10 : decode K45 10 = .ok (.iload_n 1, 1) := by decide +kernel
theorem d45_11 : decode K45 11 = .ok (.invokevirtual 123, 3) := by decide +kernel
theorem pd_12 : parseMethodDescriptor "(I)Ljava/lang/Object;" = some ⟨[.int], some (.object "java/lang/Object")⟩ := by decide +kernel
theorem d45_14 : decode K45 14 = .ok (.areturn, 1) := by decide +kernel
theorem pf_45 : plainFor ⟨"java/util/ArrayList", "get", "(I)Ljava/lang/Object;"⟩ = true := by first | exact plainFor_of_name (by first | (simp [plainName, overriddenIn]; done) | decide +kernel) | decide +kernel
abbrev K56 : ByteArray := jdk_18_method_1_code
theorem d56_0 : decode K56 0 = .ok (.aload_n 0, 1) := by decide +kernel
theorem d56_1 : decode K56 1 = .ok (.invokespecial 1, 3) := by decide +kernel
theorem d56_4 : decode K56 4 = .ok (.return_, 1) := by decide +kernel
theorem pf_56 : plainFor ⟨"java/lang/Number", "<init>", "()V"⟩ = true := by first | exact plainFor_of_name (by first | (simp [plainName, overriddenIn]; done) | decide +kernel) | decide +kernel
theorem la_Integer {Z : State} {a0 : Array Value} (hw : ∀ d ∈ tables_1, d.before a0 Z = true) : LaidAll Z a0 "java/lang/Integer" [("java/lang/Integer", "value", "I", .int 0)] := LaidAll.cons (Or.inr (wd_376 hw)) (t := .int) (by decide) rfl (LaidAll.nil)
abbrev fs_Integer (v0 : Value) : List FR := [("java/lang/Integer", "value", "I", v0)]
abbrev K55 : ByteArray := jdk_33_method_23_code
theorem d55_0 : decode K55 0 = .ok (.aload_n 0, 1) := by decide +kernel
theorem d55_1 : decode K55 1 = .ok (.invokespecial 202, 3) := by decide +kernel
theorem d55_4 : decode K55 4 = .ok (.aload_n 0, 1) := by decide +kernel
theorem d55_5 : decode K55 5 = .ok (.iload_n 1, 1) := by decide +kernel
theorem d55_6 : decode K55 6 = .ok (.putfield 205, 3) := by decide +kernel
theorem d55_9 : decode K55 9 = .ok (.return_, 1) := by decide +kernel
theorem pf_55 : plainFor ⟨"java/lang/Integer", "<init>", "(I)V"⟩ = true := by first | exact plainFor_of_name (by first | (simp [plainName, overriddenIn]; done) | decide +kernel) | decide +kernel
abbrev K28 : ByteArray := jdk_33_method_22_code
theorem d28_0 : decode K28 0 = .ok (.iload_n 0, 1) := by decide +kernel
theorem d28_1 : decode K28 1 = .ok (.bipush (-128), 2) := by decide +kernel
theorem d28_3 : decode K28 3 = .ok (.if_icmp .lt 20, 3) := by decide +kernel
theorem d28_23 : decode K28 23 = .ok (.new 1, 3) := by decide +kernel
theorem d28_26 : decode K28 26 = .ok (.dup, 1) := by decide +kernel
theorem d28_27 : decode K28 27 = .ok (.iload_n 0, 1) := by decide +kernel
theorem d28_28 : decode K28 28 = .ok (.invokespecial 199, 3) := by decide +kernel
theorem pd_13 : parseMethodDescriptor "(I)V" = some ⟨[.int], none⟩ := by decide +kernel
theorem d28_31 : decode K28 31 = .ok (.areturn, 1) := by decide +kernel
theorem d28_6 : decode K28 6 = .ok (.iload_n 0, 1) := by decide +kernel
theorem d28_7 : decode K28 7 = .ok (.getstatic 191, 3) := by decide +kernel
theorem d28_10 : decode K28 10 = .ok (.if_icmp .gt 13, 3) := by decide +kernel
theorem d28_13 : decode K28 13 = .ok (.getstatic 195, 3) := by decide +kernel
theorem d28_16 : decode K28 16 = .ok (.iload_n 0, 1) := by decide +kernel
theorem d28_17 : decode K28 17 = .ok (.sipush 128, 3) := by decide +kernel
theorem d28_20 : decode K28 20 = .ok (.iadd, 1) := by decide +kernel
theorem d28_21 : decode K28 21 = .ok (.aaload, 1) := by decide +kernel
theorem d28_22 : decode K28 22 = .ok (.areturn, 1) := by decide +kernel
theorem pf_28 : plainFor ⟨"java/lang/Integer", "valueOf", "(I)Ljava/lang/Integer;"⟩ = true := by first | exact plainFor_of_name (by first | (simp [plainName, overriddenIn]; done) | decide +kernel) | decide +kernel
abbrev K52 : ByteArray := jdk_33_method_27_code
theorem d52_0 : decode K52 0 = .ok (.aload_n 0, 1) := by decide +kernel
theorem d52_1 : decode K52 1 = .ok (.getfield 205, 3) := by decide +kernel
theorem d52_4 : decode K52 4 = .ok (.ireturn, 1) := by decide +kernel
theorem pf_52 : plainFor ⟨"java/lang/Integer", "intValue", "()I"⟩ = true := by first | exact plainFor_of_name (by first | (simp [plainName, overriddenIn]; done) | decide +kernel) | decide +kernel
abbrev K7 : ByteArray := jdk_71_method_1_code
theorem d7_0 : decode K7 0 = .ok (.aload_n 0, 1) := by decide +kernel
theorem d7_1 : decode K7 1 = .ok (.invokespecial 1, 3) := by decide +kernel
theorem d7_4 : decode K7 4 = .ok (.return_, 1) := by decide +kernel
theorem pf_7 : plainFor ⟨"java/util/AbstractMap", "<init>", "()V"⟩ = true := by first | exact plainFor_of_name (by first | (simp [plainName, overriddenIn]; done) | decide +kernel) | decide +kernel
theorem la_HashMap {Z : State} {a0 : Array Value} (hw : ∀ d ∈ tables_1, d.before a0 Z = true) : LaidAll Z a0 "java/util/HashMap" [("java/util/HashMap", "loadFactor", "F", .float 0), ("java/util/HashMap", "size", "I", .int 0), ("java/util/AbstractMap", "values", "Ljava/util/Collection;", .null), ("java/util/HashMap", "modCount", "I", .int 0), ("java/util/HashMap", "table", "[Ljava/util/HashMap$Node;", .null), ("java/util/HashMap", "threshold", "I", .int 0)] := LaidAll.cons (Or.inr (wd_41 hw)) (t := .float) (by decide) rfl (LaidAll.cons (Or.inl (wd_97 hw)) (t := .int) (by decide) rfl (LaidAll.cons (Or.inl (wd_108 hw)) (t := (.object "java/util/Collection")) (by decide) rfl (LaidAll.cons (Or.inl (wd_146 hw)) (t := .int) (by decide) rfl (LaidAll.cons (Or.inl (wd_150 hw)) (t := (.array (.object "java/util/HashMap$Node"))) (by decide) rfl (LaidAll.cons (Or.inl (wd_252 hw)) (t := .int) (by decide) rfl (LaidAll.nil))))))
abbrev fs_HashMap (v0 v1 v2 v3 v4 v5 : Value) : List FR := [("java/util/HashMap", "loadFactor", "F", v0), ("java/util/HashMap", "size", "I", v1), ("java/util/AbstractMap", "values", "Ljava/util/Collection;", v2), ("java/util/HashMap", "modCount", "I", v3), ("java/util/HashMap", "table", "[Ljava/util/HashMap$Node;", v4), ("java/util/HashMap", "threshold", "I", v5)]
abbrev K6 : ByteArray := jdk_69_method_7_code
theorem d6_0 : decode K6 0 = .ok (.aload_n 0, 1) := by decide +kernel
theorem d6_1 : decode K6 1 = .ok (.invokespecial 43, 3) := by decide +kernel
theorem d6_4 : decode K6 4 = .ok (.aload_n 0, 1) := by decide +kernel
theorem d6_5 : decode K6 5 = .ok (.ldc 92, 2) := by decide +kernel
theorem d6_7 : decode K6 7 = .ok (.putfield 81, 3) := by decide +kernel
theorem d6_10 : decode K6 10 = .ok (.return_, 1) := by decide +kernel
theorem pf_6 : plainFor ⟨"java/util/HashMap", "<init>", "()V"⟩ = true := by first | exact plainFor_of_name (by first | (simp [plainName, overriddenIn]; done) | decide +kernel) | decide +kernel
theorem la_HashMap_Node {Z : State} {a0 : Array Value} (hw : ∀ d ∈ tables_1, d.before a0 Z = true) : LaidAll Z a0 "java/util/HashMap$Node" [("java/util/HashMap$Node", "hash", "I", .int 0), ("java/util/HashMap$Node", "key", "Ljava/lang/Object;", .null), ("java/util/HashMap$Node", "value", "Ljava/lang/Object;", .null), ("java/util/HashMap$Node", "next", "Ljava/util/HashMap$Node;", .null)] := LaidAll.cons (Or.inr (wd_268 hw)) (t := .int) (by decide) rfl (LaidAll.cons (Or.inr (wd_270 hw)) (t := (.object "java/lang/Object")) (by decide) rfl (LaidAll.cons (Or.inl (wd_272 hw)) (t := (.object "java/lang/Object")) (by decide) rfl (LaidAll.cons (Or.inl (wd_274 hw)) (t := (.object "java/util/HashMap$Node")) (by decide) rfl (LaidAll.nil))))
abbrev fs_HashMap_Node (v0 v1 v2 v3 : Value) : List FR := [("java/util/HashMap$Node", "hash", "I", v0), ("java/util/HashMap$Node", "key", "Ljava/lang/Object;", v1), ("java/util/HashMap$Node", "value", "Ljava/lang/Object;", v2), ("java/util/HashMap$Node", "next", "Ljava/util/HashMap$Node;", v3)]
theorem ef_rirrn5 (m : MethodId) (x0 : Addr) (x1 : Int32) (x2 : Addr) (x3 : Addr) : entryFrame m #[.ref x0, .int x1, .ref x2, .ref x3, .null] 5 = mkF m 0 #[.val (.ref x0), .val (.int x1), .val (.ref x2), .val (.ref x3), .val (.null)] [] := by first | (simp [entryFrame, mkF, argsToLocals, Value.category, maxLocals]; done) | rfl
abbrev K37 : ByteArray := jdk_70_method_1_code
theorem d37_0 : decode K37 0 = .ok (.aload_n 0, 1) := by decide +kernel
theorem d37_1 : decode K37 1 = .ok (.invokespecial 1, 3) := by decide +kernel
theorem d37_4 : decode K37 4 = .ok (.aload_n 0, 1) := by decide +kernel
theorem d37_5 : decode K37 5 = .ok (.iload_n 1, 1) := by decide +kernel
theorem d37_6 : decode K37 6 = .ok (.putfield 7, 3) := by decide +kernel
theorem d37_9 : decode K37 9 = .ok (.aload_n 0, 1) := by decide +kernel
theorem d37_10 : decode K37 10 = .ok (.aload_n 2, 1) := by decide +kernel
theorem d37_11 : decode K37 11 = .ok (.putfield 13, 3) := by decide +kernel
theorem d37_14 : decode K37 14 = .ok (.aload_n 0, 1) := by decide +kernel
theorem d37_15 : decode K37 15 = .ok (.aload_n 3, 1) := by decide +kernel
theorem d37_16 : decode K37 16 = .ok (.putfield 17, 3) := by decide +kernel
theorem d37_19 : decode K37 19 = .ok (.aload_n 0, 1) := by decide +kernel
theorem d37_20 : decode K37 20 = .ok (.aload 4, 2) := by decide +kernel
theorem d37_22 : decode K37 22 = .ok (.putfield 20, 3) := by decide +kernel
theorem d37_25 : decode K37 25 = .ok (.return_, 1) := by decide +kernel
theorem pf_37 : plainFor ⟨"java/util/HashMap$Node", "<init>", "(ILjava/lang/Object;Ljava/lang/Object;Ljava/util/HashMap$Node;)V"⟩ = true := by first | exact plainFor_of_name (by first | (simp [plainName, overriddenIn]; done) | decide +kernel) | decide +kernel
abbrev K36 : ByteArray := jdk_69_method_46_code
theorem d36_0 : decode K36 0 = .ok (.new 163, 3) := by decide +kernel
theorem d36_3 : decode K36 3 = .ok (.dup, 1) := by decide +kernel
theorem d36_4 : decode K36 4 = .ok (.iload_n 1, 1) := by decide +kernel
theorem d36_5 : decode K36 5 = .ok (.aload_n 2, 1) := by decide +kernel
theorem d36_6 : decode K36 6 = .ok (.aload_n 3, 1) := by decide +kernel
theorem d36_7 : decode K36 7 = .ok (.aload 4, 2) := by decide +kernel
theorem d36_9 : decode K36 9 = .ok (.invokespecial 375, 3) := by decide +kernel
theorem pd_14 : parseMethodDescriptor "(ILjava/lang/Object;Ljava/lang/Object;Ljava/util/HashMap$Node;)V" = some ⟨[.int, (.object "java/lang/Object"), (.object "java/lang/Object"), (.object "java/util/HashMap$Node")], none⟩ := by decide +kernel
theorem d36_12 : decode K36 12 = .ok (.areturn, 1) := by decide +kernel
theorem pf_36 : plainFor ⟨"java/util/HashMap", "newNode", "(ILjava/lang/Object;Ljava/lang/Object;Ljava/util/HashMap$Node;)Ljava/util/HashMap$Node;"⟩ = true := by first | exact plainFor_of_name (by first | (simp [plainName, overriddenIn]; done) | decide +kernel) | decide +kernel
theorem ef_r14 (m : MethodId) (x0 : Addr) : entryFrame m #[.ref x0] 14 = mkF m 0 #[.val (.ref x0), .unset, .unset, .unset, .unset, .unset, .unset, .unset, .unset, .unset, .unset, .unset, .unset, .unset] [] := by first | (simp [entryFrame, mkF, argsToLocals, Value.category, maxLocals]; done) | rfl
abbrev K35 : ByteArray := jdk_69_method_17_code
theorem d35_0 : decode K35 0 = .ok (.aload_n 0, 1) := by decide +kernel
theorem d35_1 : decode K35 1 = .ok (.getfield 105, 3) := by decide +kernel
theorem d35_4 : decode K35 4 = .ok (.astore_n 1, 1) := by decide +kernel
theorem d35_5 : decode K35 5 = .ok (.aload_n 1, 1) := by decide +kernel
theorem d35_6 : decode K35 6 = .ok (.ifnonnull 7, 3) := by decide +kernel
theorem d35_9 : decode K35 9 = .ok (.iconst 0, 1) := by decide +kernel
theorem d35_10 : decode K35 10 = .ok (.goto 5, 3) := by decide +kernel
theorem d35_15 : decode K35 15 = .ok (.istore_n 2, 1) := by decide +kernel
theorem d35_16 : decode K35 16 = .ok (.aload_n 0, 1) := by decide +kernel
theorem d35_17 : decode K35 17 = .ok (.getfield 88, 3) := by decide +kernel
theorem d35_20 : decode K35 20 = .ok (.istore_n 3, 1) := by decide +kernel
theorem d35_21 : decode K35 21 = .ok (.iconst 0, 1) := by decide +kernel
theorem d35_22 : decode K35 22 = .ok (.istore 5, 2) := by decide +kernel
theorem d35_24 : decode K35 24 = .ok (.iload_n 2, 1) := by decide +kernel
theorem d35_25 : decode K35 25 = .ok (.ifCond .le 42, 3) := by decide +kernel
theorem d35_67 : decode K35 67 = .ok (.iload_n 3, 1) := by decide +kernel
theorem d35_68 : decode K35 68 = .ok (.ifCond .le 9, 3) := by decide +kernel
theorem d35_77 : decode K35 77 = .ok (.bipush 16, 2) := by decide +kernel
theorem d35_79 : decode K35 79 = .ok (.istore 4, 2) := by decide +kernel
theorem d35_81 : decode K35 81 = .ok (.bipush 12, 2) := by decide +kernel
theorem d35_83 : decode K35 83 = .ok (.istore 5, 2) := by decide +kernel
theorem d35_85 : decode K35 85 = .ok (.iload 5, 2) := by decide +kernel
theorem d35_87 : decode K35 87 = .ok (.ifCond .ne 38, 3) := by decide +kernel
theorem d35_125 : decode K35 125 = .ok (.aload_n 0, 1) := by decide +kernel
theorem d35_126 : decode K35 126 = .ok (.iload 5, 2) := by decide +kernel
theorem d35_128 : decode K35 128 = .ok (.putfield 88, 3) := by decide +kernel
theorem d35_131 : decode K35 131 = .ok (.iload 4, 2) := by decide +kernel
theorem d35_133 : decode K35 133 = .ok (.anewarray 163, 3) := by decide +kernel
theorem d35_136 : decode K35 136 = .ok (.astore 6, 2) := by decide +kernel
theorem d35_138 : decode K35 138 = .ok (.aload_n 0, 1) := by decide +kernel
theorem d35_139 : decode K35 139 = .ok (.aload 6, 2) := by decide +kernel
theorem d35_141 : decode K35 141 = .ok (.putfield 105, 3) := by decide +kernel
theorem d35_144 : decode K35 144 = .ok (.aload_n 1, 1) := by decide +kernel
theorem d35_145 : decode K35 145 = .ok (.ifnull 208, 3) := by decide +kernel
theorem d35_353 : decode K35 353 = .ok (.aload 6, 2) := by decide +kernel
theorem d35_355 : decode K35 355 = .ok (.areturn, 1) := by decide +kernel
theorem pf_35 : plainFor ⟨"java/util/HashMap", "resize", "()[Ljava/util/HashMap$Node;"⟩ = true := by first | exact plainFor_of_name (by first | (simp [plainName, overriddenIn]; done) | decide +kernel) | decide +kernel
abbrev K38 : ByteArray := jdk_69_method_52_code
theorem d38_0 : decode K38 0 = .ok (.return_, 1) := by decide +kernel
theorem pf_38 : plainFor ⟨"java/util/HashMap", "afterNodeInsertion", "(Z)V"⟩ = true := by first | exact plainFor_of_name (by first | (simp [plainName, overriddenIn]; done) | decide +kernel) | decide +kernel
theorem ef_rirrii13 (m : MethodId) (x0 : Addr) (x1 : Int32) (x2 : Addr) (x3 : Addr) (x4 : Int32) (x5 : Int32) : entryFrame m #[.ref x0, .int x1, .ref x2, .ref x3, .int x4, .int x5] 13 = mkF m 0 #[.val (.ref x0), .val (.int x1), .val (.ref x2), .val (.ref x3), .val (.int x4), .val (.int x5), .unset, .unset, .unset, .unset, .unset, .unset, .unset] [] := by first | (simp [entryFrame, mkF, argsToLocals, Value.category, maxLocals]; done) | rfl
abbrev K34 : ByteArray := jdk_69_method_16_code
theorem d34_0 : decode K34 0 = .ok (.aload_n 0, 1) := by decide +kernel
theorem d34_1 : decode K34 1 = .ok (.getfield 105, 3) := by decide +kernel
theorem d34_4 : decode K34 4 = .ok (.dup, 1) := by decide +kernel
theorem d34_5 : decode K34 5 = .ok (.astore 6, 2) := by decide +kernel
theorem d34_7 : decode K34 7 = .ok (.ifnull 12, 3) := by decide +kernel
theorem d34_19 : decode K34 19 = .ok (.aload_n 0, 1) := by decide +kernel
theorem d34_20 : decode K34 20 = .ok (.invokevirtual 117, 3) := by decide +kernel
theorem pd_15 : parseMethodDescriptor "()[Ljava/util/HashMap$Node;" = some ⟨[], some (.array (.object "java/util/HashMap$Node"))⟩ := by decide +kernel
theorem d34_23 : decode K34 23 = .ok (.dup, 1) := by decide +kernel
theorem d34_24 : decode K34 24 = .ok (.astore 6, 2) := by decide +kernel
theorem d34_26 : decode K34 26 = .ok (.arraylength, 1) := by decide +kernel
theorem d34_27 : decode K34 27 = .ok (.istore 8, 2) := by decide +kernel
theorem d34_29 : decode K34 29 = .ok (.aload 6, 2) := by decide +kernel
theorem d34_31 : decode K34 31 = .ok (.iload 8, 2) := by decide +kernel
theorem d34_33 : decode K34 33 = .ok (.iconst 1, 1) := by decide +kernel
theorem d34_34 : decode K34 34 = .ok (.isub, 1) := by decide +kernel
theorem d34_35 : decode K34 35 = .ok (.iload_n 1, 1) := by decide +kernel
theorem d34_36 : decode K34 36 = .ok (.iand, 1) := by decide +kernel
theorem d34_37 : decode K34 37 = .ok (.dup, 1) := by decide +kernel
theorem d34_38 : decode K34 38 = .ok (.istore 9, 2) := by decide +kernel
theorem d34_40 : decode K34 40 = .ok (.aaload, 1) := by decide +kernel
theorem d34_41 : decode K34 41 = .ok (.dup, 1) := by decide +kernel
theorem d34_42 : decode K34 42 = .ok (.astore 7, 2) := by decide +kernel
theorem d34_44 : decode K34 44 = .ok (.ifnonnull 19, 3) := by decide +kernel
theorem d34_47 : decode K34 47 = .ok (.aload 6, 2) := by decide +kernel
theorem d34_49 : decode K34 49 = .ok (.iload 9, 2) := by decide +kernel
theorem d34_51 : decode K34 51 = .ok (.aload_n 0, 1) := by decide +kernel
theorem d34_52 : decode K34 52 = .ok (.iload_n 1, 1) := by decide +kernel
theorem d34_53 : decode K34 53 = .ok (.aload_n 2, 1) := by decide +kernel
theorem d34_54 : decode K34 54 = .ok (.aload_n 3, 1) := by decide +kernel
theorem d34_55 : decode K34 55 = .ok (.aconst_null, 1) := by decide +kernel
theorem d34_56 : decode K34 56 = .ok (.invokevirtual 186, 3) := by decide +kernel
theorem pd_16 : parseMethodDescriptor "(ILjava/lang/Object;Ljava/lang/Object;Ljava/util/HashMap$Node;)Ljava/util/HashMap$Node;" = some ⟨[.int, (.object "java/lang/Object"), (.object "java/lang/Object"), (.object "java/util/HashMap$Node")], some (.object "java/util/HashMap$Node")⟩ := by decide +kernel
theorem d34_59 : decode K34 59 = .ok (.aastore, 1) := by decide +kernel
theorem d34_60 : decode K34 60 = .ok (.goto 199, 3) := by decide +kernel
theorem d34_259 : decode K34 259 = .ok (.aload_n 0, 1) := by decide +kernel
theorem d34_260 : decode K34 260 = .ok (.dup, 1) := by decide +kernel
theorem d34_261 : decode K34 261 = .ok (.getfield 202, 3) := by decide +kernel
theorem d34_264 : decode K34 264 = .ok (.iconst 1, 1) := by decide +kernel
theorem d34_265 : decode K34 265 = .ok (.iadd, 1) := by decide +kernel
theorem d34_266 : decode K34 266 = .ok (.putfield 202, 3) := by decide +kernel
theorem d34_269 : decode K34 269 = .ok (.aload_n 0, 1) := by decide +kernel
theorem d34_270 : decode K34 270 = .ok (.dup, 1) := by decide +kernel
theorem d34_271 : decode K34 271 = .ok (.getfield 156, 3) := by decide +kernel
theorem d34_274 : decode K34 274 = .ok (.iconst 1, 1) := by decide +kernel
theorem d34_275 : decode K34 275 = .ok (.iadd, 1) := by decide +kernel
theorem d34_276 : decode K34 276 = .ok (.dup_x1, 1) := by decide +kernel
theorem d34_277 : decode K34 277 = .ok (.putfield 156, 3) := by decide +kernel
theorem d34_280 : decode K34 280 = .ok (.aload_n 0, 1) := by decide +kernel
theorem d34_281 : decode K34 281 = .ok (.getfield 88, 3) := by decide +kernel
theorem d34_284 : decode K34 284 = .ok (.if_icmp .le 8, 3) := by decide +kernel
theorem d34_292 : decode K34 292 = .ok (.aload_n 0, 1) := by decide +kernel
theorem d34_293 : decode K34 293 = .ok (.iload 5, 2) := by decide +kernel
theorem d34_295 : decode K34 295 = .ok (.invokevirtual 205, 3) := by decide +kernel
theorem pd_17 : parseMethodDescriptor "(Z)V" = some ⟨[.boolean], none⟩ := by decide +kernel
theorem d34_298 : decode K34 298 = .ok (.aconst_null, 1) := by decide +kernel
theorem d34_299 : decode K34 299 = .ok (.areturn, 1) := by decide +kernel
theorem pf_34 : plainFor ⟨"java/util/HashMap", "putVal", "(ILjava/lang/Object;Ljava/lang/Object;ZZ)Ljava/lang/Object;"⟩ = true := by first | exact plainFor_of_name (by first | (simp [plainName, overriddenIn]; done) | decide +kernel) | decide +kernel
theorem d34_10 : decode K34 10 = .ok (.aload 6, 2) := by decide +kernel
theorem d34_12 : decode K34 12 = .ok (.arraylength, 1) := by decide +kernel
theorem d34_13 : decode K34 13 = .ok (.dup, 1) := by decide +kernel
theorem d34_14 : decode K34 14 = .ok (.istore 8, 2) := by decide +kernel
theorem d34_16 : decode K34 16 = .ok (.ifCond .ne 13, 3) := by decide +kernel
theorem ef_rrr3 (m : MethodId) (x0 : Addr) (x1 : Addr) (x2 : Addr) : entryFrame m #[.ref x0, .ref x1, .ref x2] 3 = mkF m 0 #[.val (.ref x0), .val (.ref x1), .val (.ref x2)] [] := by first | (simp [entryFrame, mkF, argsToLocals, Value.category, maxLocals]; done) | rfl
abbrev K29 : ByteArray := jdk_69_method_15_code
theorem d29_0 : decode K29 0 = .ok (.aload_n 0, 1) := by decide +kernel
theorem d29_1 : decode K29 1 = .ok (.aload_n 1, 1) := by decide +kernel
theorem d29_2 : decode K29 2 = .ok (.invokestatic 149, 3) := by decide +kernel
theorem pd_18 : parseMethodDescriptor "(Ljava/lang/Object;)I" = some ⟨[(.object "java/lang/Object")], some .int⟩ := by decide +kernel
theorem d29_5 : decode K29 5 = .ok (.aload_n 1, 1) := by decide +kernel
theorem d29_6 : decode K29 6 = .ok (.aload_n 2, 1) := by decide +kernel
theorem d29_7 : decode K29 7 = .ok (.iconst 0, 1) := by decide +kernel
theorem d29_8 : decode K29 8 = .ok (.iconst 1, 1) := by decide +kernel
theorem d29_9 : decode K29 9 = .ok (.invokevirtual 152, 3) := by decide +kernel
theorem pd_19 : parseMethodDescriptor "(ILjava/lang/Object;Ljava/lang/Object;ZZ)Ljava/lang/Object;" = some ⟨[.int, (.object "java/lang/Object"), (.object "java/lang/Object"), .boolean, .boolean], some (.object "java/lang/Object")⟩ := by decide +kernel
theorem d29_12 : decode K29 12 = .ok (.areturn, 1) := by decide +kernel
theorem pf_29 : plainFor ⟨"java/util/HashMap", "put", "(Ljava/lang/Object;Ljava/lang/Object;)Ljava/lang/Object;"⟩ = true := by first | exact plainFor_of_name (by first | (simp [plainName, overriddenIn]; done) | decide +kernel) | decide +kernel
theorem ef_rr8 (m : MethodId) (x0 : Addr) (x1 : Addr) : entryFrame m #[.ref x0, .ref x1] 8 = mkF m 0 #[.val (.ref x0), .val (.ref x1), .unset, .unset, .unset, .unset, .unset, .unset] [] := by first | (simp [entryFrame, mkF, argsToLocals, Value.category, maxLocals]; done) | rfl
abbrev K51 : ByteArray := jdk_69_method_13_code
theorem d51_0 : decode K51 0 = .ok (.aload_n 0, 1) := by decide +kernel
theorem d51_1 : decode K51 1 = .ok (.getfield 105, 3) := by decide +kernel
theorem d51_4 : decode K51 4 = .ok (.dup, 1) := by decide +kernel
theorem d51_5 : decode K51 5 = .ok (.astore_n 2, 1) := by decide +kernel
theorem d51_6 : decode K51 6 = .ok (.ifnull 142, 3) := by decide +kernel
theorem d51_148 : decode K51 148 = .ok (.aconst_null, 1) := by decide +kernel
theorem d51_149 : decode K51 149 = .ok (.areturn, 1) := by decide +kernel
theorem pf_51 : plainFor ⟨"java/util/HashMap", "getNode", "(Ljava/lang/Object;)Ljava/util/HashMap$Node;"⟩ = true := by first | exact plainFor_of_name (by first | (simp [plainName, overriddenIn]; done) | decide +kernel) | decide +kernel
theorem ef_rrr4 (m : MethodId) (x0 : Addr) (x1 : Addr) (x2 : Addr) : entryFrame m #[.ref x0, .ref x1, .ref x2] 4 = mkF m 0 #[.val (.ref x0), .val (.ref x1), .val (.ref x2), .unset] [] := by first | (simp [entryFrame, mkF, argsToLocals, Value.category, maxLocals]; done) | rfl
abbrev K50 : ByteArray := jdk_69_method_30_code
theorem d50_0 : decode K50 0 = .ok (.aload_n 0, 1) := by decide +kernel
theorem d50_1 : decode K50 1 = .ok (.aload_n 1, 1) := by decide +kernel
theorem d50_2 : decode K50 2 = .ok (.invokevirtual 158, 3) := by decide +kernel
theorem pd_20 : parseMethodDescriptor "(Ljava/lang/Object;)Ljava/util/HashMap$Node;" = some ⟨[(.object "java/lang/Object")], some (.object "java/util/HashMap$Node")⟩ := by decide +kernel
theorem d50_5 : decode K50 5 = .ok (.dup, 1) := by decide +kernel
theorem d50_6 : decode K50 6 = .ok (.astore_n 3, 1) := by decide +kernel
theorem d50_7 : decode K50 7 = .ok (.ifnonnull 7, 3) := by decide +kernel
theorem d50_10 : decode K50 10 = .ok (.aload_n 2, 1) := by decide +kernel
theorem d50_11 : decode K50 11 = .ok (.goto 7, 3) := by decide +kernel
theorem d50_18 : decode K50 18 = .ok (.areturn, 1) := by decide +kernel
theorem pf_50 : plainFor ⟨"java/util/HashMap", "getOrDefault", "(Ljava/lang/Object;Ljava/lang/Object;)Ljava/lang/Object;"⟩ = true := by first | exact plainFor_of_name (by first | (simp [plainName, overriddenIn]; done) | decide +kernel) | decide +kernel
theorem d51_9 : decode K51 9 = .ok (.aload_n 2, 1) := by decide +kernel
theorem d51_10 : decode K51 10 = .ok (.arraylength, 1) := by decide +kernel
theorem d51_11 : decode K51 11 = .ok (.dup, 1) := by decide +kernel
theorem d51_12 : decode K51 12 = .ok (.istore 5, 2) := by decide +kernel
theorem d51_14 : decode K51 14 = .ok (.ifCond .le 134, 3) := by decide +kernel
theorem d51_17 : decode K51 17 = .ok (.aload_n 2, 1) := by decide +kernel
theorem d51_18 : decode K51 18 = .ok (.iload 5, 2) := by decide +kernel
theorem d51_20 : decode K51 20 = .ok (.iconst 1, 1) := by decide +kernel
theorem d51_21 : decode K51 21 = .ok (.isub, 1) := by decide +kernel
theorem d51_22 : decode K51 22 = .ok (.aload_n 1, 1) := by decide +kernel
theorem d51_23 : decode K51 23 = .ok (.invokestatic 149, 3) := by decide +kernel
theorem d51_26 : decode K51 26 = .ok (.dup, 1) := by decide +kernel
theorem d51_27 : decode K51 27 = .ok (.istore 6, 2) := by decide +kernel
theorem d51_29 : decode K51 29 = .ok (.iand, 1) := by decide +kernel
theorem d51_30 : decode K51 30 = .ok (.aaload, 1) := by decide +kernel
theorem d51_31 : decode K51 31 = .ok (.dup, 1) := by decide +kernel
theorem d51_32 : decode K51 32 = .ok (.astore_n 3, 1) := by decide +kernel
theorem d51_33 : decode K51 33 = .ok (.ifnull 115, 3) := by decide +kernel
theorem d51_36 : decode K51 36 = .ok (.aload_n 3, 1) := by decide +kernel
theorem d51_37 : decode K51 37 = .ok (.getfield 168, 3) := by decide +kernel
theorem d51_40 : decode K51 40 = .ok (.iload 6, 2) := by decide +kernel
theorem d51_42 : decode K51 42 = .ok (.if_icmp .ne 29, 3) := by decide +kernel
theorem d51_45 : decode K51 45 = .ok (.aload_n 3, 1) := by decide +kernel
theorem d51_46 : decode K51 46 = .ok (.getfield 170, 3) := by decide +kernel
theorem d51_49 : decode K51 49 = .ok (.dup, 1) := by decide +kernel
theorem d51_50 : decode K51 50 = .ok (.astore 7, 2) := by decide +kernel
theorem d51_52 : decode K51 52 = .ok (.aload_n 1, 1) := by decide +kernel
theorem d51_53 : decode K51 53 = .ok (.if_acmp .eq 16, 3) := by decide +kernel
theorem d51_69 : decode K51 69 = .ok (.aload_n 3, 1) := by decide +kernel
theorem d51_70 : decode K51 70 = .ok (.areturn, 1) := by decide +kernel
theorem d50_14 : decode K50 14 = .ok (.aload_n 3, 1) := by decide +kernel
theorem d50_15 : decode K50 15 = .ok (.getfield 162, 3) := by decide +kernel
abbrev K13 : ByteArray := jdk_69_method_10_code
theorem d13_0 : decode K13 0 = .ok (.aload_n 0, 1) := by decide +kernel
theorem d13_1 : decode K13 1 = .ok (.getfield 156, 3) := by decide +kernel
theorem d13_4 : decode K13 4 = .ok (.ireturn, 1) := by decide +kernel
theorem pf_13 : plainFor ⟨"java/util/HashMap", "size", "()I"⟩ = true := by first | exact plainFor_of_name (by first | (simp [plainName, overriddenIn]; done) | decide +kernel) | decide +kernel
theorem la_HashMap_Values {Z : State} {a0 : Array Value} (hw : ∀ d ∈ tables_1, d.before a0 Z = true) : LaidAll Z a0 "java/util/HashMap$Values" [("java/util/HashMap$Values", "this$0", "Ljava/util/HashMap;", .null)] := LaidAll.cons (Or.inr (wd_117 hw)) (t := (.object "java/util/HashMap")) (by decide) rfl (LaidAll.nil)
abbrev fs_HashMap_Values (v0 : Value) : List FR := [("java/util/HashMap$Values", "this$0", "Ljava/util/HashMap;", v0)]
abbrev K15 : ByteArray := jdk_2571_method_1_code
theorem d15_0 : decode K15 0 = .ok (.aload_n 0, 1) := by decide +kernel
theorem d15_1 : decode K15 1 = .ok (.aload_n 1, 1) := by decide +kernel
theorem d15_2 : decode K15 2 = .ok (.putfield 1, 3) := by decide +kernel
theorem d15_5 : decode K15 5 = .ok (.aload_n 0, 1) := by decide +kernel
theorem d15_6 : decode K15 6 = .ok (.invokespecial 7, 3) := by decide +kernel
theorem d15_9 : decode K15 9 = .ok (.return_, 1) := by decide +kernel
theorem pf_15 : plainFor ⟨"java/util/HashMap$Values", "<init>", "(Ljava/util/HashMap;)V"⟩ = true := by first | exact plainFor_of_name (by first | (simp [plainName, overriddenIn]; done) | decide +kernel) | decide +kernel
abbrev K14 : ByteArray := jdk_69_method_28_code
theorem d14_0 : decode K14 0 = .ok (.aload_n 0, 1) := by decide +kernel
theorem d14_1 : decode K14 1 = .ok (.getfield 259, 3) := by decide +kernel
theorem d14_4 : decode K14 4 = .ok (.astore_n 1, 1) := by decide +kernel
theorem d14_5 : decode K14 5 = .ok (.aload_n 1, 1) := by decide +kernel
theorem d14_6 : decode K14 6 = .ok (.ifnonnull 17, 3) := by decide +kernel
theorem d14_9 : decode K14 9 = .ok (.new 263, 3) := by decide +kernel
theorem d14_12 : decode K14 12 = .ok (.dup, 1) := by decide +kernel
theorem d14_13 : decode K14 13 = .ok (.aload_n 0, 1) := by decide +kernel
theorem d14_14 : decode K14 14 = .ok (.invokespecial 265, 3) := by decide +kernel
theorem pd_21 : parseMethodDescriptor "(Ljava/util/HashMap;)V" = some ⟨[(.object "java/util/HashMap")], none⟩ := by decide +kernel
theorem d14_17 : decode K14 17 = .ok (.astore_n 1, 1) := by decide +kernel
theorem d14_18 : decode K14 18 = .ok (.aload_n 0, 1) := by decide +kernel
theorem d14_19 : decode K14 19 = .ok (.aload_n 1, 1) := by decide +kernel
theorem d14_20 : decode K14 20 = .ok (.putfield 259, 3) := by decide +kernel
theorem d14_23 : decode K14 23 = .ok (.aload_n 1, 1) := by decide +kernel
theorem d14_24 : decode K14 24 = .ok (.areturn, 1) := by decide +kernel
theorem pf_14 : plainFor ⟨"java/util/HashMap", "values", "()Ljava/util/Collection;"⟩ = true := by first | exact plainFor_of_name (by first | (simp [plainName, overriddenIn]; done) | decide +kernel) | decide +kernel
theorem la_HashMap_ValueIterator {Z : State} {a0 : Array Value} (hw : ∀ d ∈ tables_1, d.before a0 Z = true) : LaidAll Z a0 "java/util/HashMap$ValueIterator" [("java/util/HashMap$HashIterator", "this$0", "Ljava/util/HashMap;", .null), ("java/util/HashMap$HashIterator", "expectedModCount", "I", .int 0), ("java/util/HashMap$HashIterator", "next", "Ljava/util/HashMap$Node;", .null), ("java/util/HashMap$HashIterator", "current", "Ljava/util/HashMap$Node;", .null), ("java/util/HashMap$HashIterator", "index", "I", .int 0)] := LaidAll.cons (Or.inr (wd_143 hw)) (t := (.object "java/util/HashMap")) (by decide) rfl (LaidAll.cons (Or.inl (wd_148 hw)) (t := .int) (by decide) rfl (LaidAll.cons (Or.inl (wd_152 hw)) (t := (.object "java/util/HashMap$Node")) (by decide) rfl (LaidAll.cons (Or.inl (wd_154 hw)) (t := (.object "java/util/HashMap$Node")) (by decide) rfl (LaidAll.cons (Or.inl (wd_156 hw)) (t := .int) (by decide) rfl (LaidAll.nil)))))
abbrev fs_HashMap_ValueIterator (v0 v1 v2 v3 v4 : Value) : List FR := [("java/util/HashMap$HashIterator", "this$0", "Ljava/util/HashMap;", v0), ("java/util/HashMap$HashIterator", "expectedModCount", "I", v1), ("java/util/HashMap$HashIterator", "next", "Ljava/util/HashMap$Node;", v2), ("java/util/HashMap$HashIterator", "current", "Ljava/util/HashMap$Node;", v3), ("java/util/HashMap$HashIterator", "index", "I", v4)]
theorem ef_rr3 (m : MethodId) (x0 : Addr) (x1 : Addr) : entryFrame m #[.ref x0, .ref x1] 3 = mkF m 0 #[.val (.ref x0), .val (.ref x1), .unset] [] := by first | (simp [entryFrame, mkF, argsToLocals, Value.category, maxLocals]; done) | rfl
abbrev K18 : ByteArray := jdk_99_method_1_code
theorem d18_0 : decode K18 0 = .ok (.aload_n 0, 1) := by decide +kernel
theorem d18_1 : decode K18 1 = .ok (.aload_n 1, 1) := by decide +kernel
theorem d18_2 : decode K18 2 = .ok (.putfield 1, 3) := by decide +kernel
theorem d18_5 : decode K18 5 = .ok (.aload_n 0, 1) := by decide +kernel
theorem d18_6 : decode K18 6 = .ok (.invokespecial 7, 3) := by decide +kernel
theorem d18_9 : decode K18 9 = .ok (.aload_n 0, 1) := by decide +kernel
theorem d18_10 : decode K18 10 = .ok (.aload_n 1, 1) := by decide +kernel
theorem d18_11 : decode K18 11 = .ok (.getfield 13, 3) := by decide +kernel
theorem d18_14 : decode K18 14 = .ok (.putfield 19, 3) := by decide +kernel
theorem d18_17 : decode K18 17 = .ok (.aload_n 1, 1) := by decide +kernel
theorem d18_18 : decode K18 18 = .ok (.getfield 22, 3) := by decide +kernel
theorem d18_21 : decode K18 21 = .ok (.astore_n 2, 1) := by decide +kernel
theorem d18_22 : decode K18 22 = .ok (.aload_n 0, 1) := by decide +kernel
theorem d18_23 : decode K18 23 = .ok (.aload_n 0, 1) := by decide +kernel
theorem d18_24 : decode K18 24 = .ok (.aconst_null, 1) := by decide +kernel
theorem d18_25 : decode K18 25 = .ok (.dup_x1, 1) := by decide +kernel
theorem d18_26 : decode K18 26 = .ok (.putfield 26, 3) := by decide +kernel
theorem d18_29 : decode K18 29 = .ok (.putfield 30, 3) := by decide +kernel
theorem d18_32 : decode K18 32 = .ok (.aload_n 0, 1) := by decide +kernel
theorem d18_33 : decode K18 33 = .ok (.iconst 0, 1) := by decide +kernel
theorem d18_34 : decode K18 34 = .ok (.putfield 33, 3) := by decide +kernel
theorem d18_37 : decode K18 37 = .ok (.aload_n 2, 1) := by decide +kernel
theorem d18_38 : decode K18 38 = .ok (.ifnull 40, 3) := by decide +kernel
theorem d18_78 : decode K18 78 = .ok (.return_, 1) := by decide +kernel
theorem pf_18 : plainFor ⟨"java/util/HashMap$HashIterator", "<init>", "(Ljava/util/HashMap;)V"⟩ = true := by first | exact plainFor_of_name (by first | (simp [plainName, overriddenIn]; done) | decide +kernel) | decide +kernel
theorem d18_48 : decode K18 48 = .ok (.aload_n 0, 1) := by decide +kernel
theorem d18_49 : decode K18 49 = .ok (.getfield 33, 3) := by decide +kernel
theorem d18_52 : decode K18 52 = .ok (.aload_n 2, 1) := by decide +kernel
theorem d18_53 : decode K18 53 = .ok (.arraylength, 1) := by decide +kernel
theorem d18_54 : decode K18 54 = .ok (.if_icmp .ge 24, 3) := by decide +kernel
theorem d18_57 : decode K18 57 = .ok (.aload_n 0, 1) := by decide +kernel
theorem d18_58 : decode K18 58 = .ok (.aload_n 2, 1) := by decide +kernel
theorem d18_59 : decode K18 59 = .ok (.aload_n 0, 1) := by decide +kernel
theorem d18_60 : decode K18 60 = .ok (.dup, 1) := by decide +kernel
theorem d18_61 : decode K18 61 = .ok (.getfield 33, 3) := by decide +kernel
theorem d18_64 : decode K18 64 = .ok (.dup_x1, 1) := by decide +kernel
theorem d18_65 : decode K18 65 = .ok (.iconst 1, 1) := by decide +kernel
theorem d18_66 : decode K18 66 = .ok (.iadd, 1) := by decide +kernel
theorem d18_67 : decode K18 67 = .ok (.putfield 33, 3) := by decide +kernel
theorem d18_70 : decode K18 70 = .ok (.aaload, 1) := by decide +kernel
theorem d18_71 : decode K18 71 = .ok (.dup_x1, 1) := by decide +kernel
theorem d18_72 : decode K18 72 = .ok (.putfield 26, 3) := by decide +kernel
theorem d18_75 : decode K18 75 = .ok (.ifnull (-27), 3) := by decide +kernel
theorem d18_41 : decode K18 41 = .ok (.aload_n 1, 1) := by decide +kernel
theorem d18_42 : decode K18 42 = .ok (.getfield 36, 3) := by decide +kernel
theorem d18_45 : decode K18 45 = .ok (.ifCond .le 33, 3) := by decide +kernel
abbrev K17 : ByteArray := jdk_2569_method_1_code
theorem d17_0 : decode K17 0 = .ok (.aload_n 0, 1) := by decide +kernel
theorem d17_1 : decode K17 1 = .ok (.aload_n 1, 1) := by decide +kernel
theorem d17_2 : decode K17 2 = .ok (.invokespecial 1, 3) := by decide +kernel
theorem d17_5 : decode K17 5 = .ok (.return_, 1) := by decide +kernel
theorem pf_17 : plainFor ⟨"java/util/HashMap$ValueIterator", "<init>", "(Ljava/util/HashMap;)V"⟩ = true := by first | exact plainFor_of_name (by first | (simp [plainName, overriddenIn]; done) | decide +kernel) | decide +kernel
abbrev K16 : ByteArray := jdk_2571_method_4_code
theorem d16_0 : decode K16 0 = .ok (.new 22, 3) := by decide +kernel
theorem d16_3 : decode K16 3 = .ok (.dup, 1) := by decide +kernel
theorem d16_4 : decode K16 4 = .ok (.aload_n 0, 1) := by decide +kernel
theorem d16_5 : decode K16 5 = .ok (.getfield 1, 3) := by decide +kernel
theorem d16_8 : decode K16 8 = .ok (.invokespecial 24, 3) := by decide +kernel
theorem d16_11 : decode K16 11 = .ok (.areturn, 1) := by decide +kernel
theorem pf_16 : plainFor ⟨"java/util/HashMap$Values", "iterator", "()Ljava/util/Iterator;"⟩ = true := by first | exact plainFor_of_name (by first | (simp [plainName, overriddenIn]; done) | decide +kernel) | decide +kernel
abbrev K19 : ByteArray := jdk_99_method_2_code
theorem d19_0 : decode K19 0 = .ok (.aload_n 0, 1) := by decide +kernel
theorem d19_1 : decode K19 1 = .ok (.getfield 26, 3) := by decide +kernel
theorem d19_4 : decode K19 4 = .ok (.ifnull 7, 3) := by decide +kernel
theorem d19_11 : decode K19 11 = .ok (.iconst 0, 1) := by decide +kernel
theorem d19_12 : decode K19 12 = .ok (.ireturn, 1) := by decide +kernel
theorem pf_19 : plainFor ⟨"java/util/HashMap$HashIterator", "hasNext", "()Z"⟩ = true := by first | exact plainFor_of_name (by first | (simp [plainName, overriddenIn]; done) | decide +kernel) | decide +kernel
theorem d19_7 : decode K19 7 = .ok (.iconst 1, 1) := by decide +kernel
theorem d19_8 : decode K19 8 = .ok (.goto 4, 3) := by decide +kernel
abbrev K54 : ByteArray := jdk_99_method_3_code
theorem d54_68 : decode K54 68 = .ok (.aload_n 0, 1) := by decide +kernel
theorem d54_69 : decode K54 69 = .ok (.getfield 33, 3) := by decide +kernel
theorem d54_72 : decode K54 72 = .ok (.aload_n 1, 1) := by decide +kernel
theorem d54_73 : decode K54 73 = .ok (.arraylength, 1) := by decide +kernel
theorem d54_74 : decode K54 74 = .ok (.if_icmp .ge 24, 3) := by decide +kernel
theorem d54_98 : decode K54 98 = .ok (.aload_n 2, 1) := by decide +kernel
theorem d54_99 : decode K54 99 = .ok (.areturn, 1) := by decide +kernel
theorem d54_77 : decode K54 77 = .ok (.aload_n 0, 1) := by decide +kernel
theorem d54_78 : decode K54 78 = .ok (.aload_n 1, 1) := by decide +kernel
theorem d54_79 : decode K54 79 = .ok (.aload_n 0, 1) := by decide +kernel
theorem d54_80 : decode K54 80 = .ok (.dup, 1) := by decide +kernel
theorem d54_81 : decode K54 81 = .ok (.getfield 33, 3) := by decide +kernel
theorem d54_84 : decode K54 84 = .ok (.dup_x1, 1) := by decide +kernel
theorem d54_85 : decode K54 85 = .ok (.iconst 1, 1) := by decide +kernel
theorem d54_86 : decode K54 86 = .ok (.iadd, 1) := by decide +kernel
theorem d54_87 : decode K54 87 = .ok (.putfield 33, 3) := by decide +kernel
theorem d54_90 : decode K54 90 = .ok (.aaload, 1) := by decide +kernel
theorem d54_91 : decode K54 91 = .ok (.dup_x1, 1) := by decide +kernel
theorem d54_92 : decode K54 92 = .ok (.putfield 26, 3) := by decide +kernel
theorem d54_95 : decode K54 95 = .ok (.ifnull (-27), 3) := by decide +kernel
theorem ef_r3 (m : MethodId) (x0 : Addr) : entryFrame m #[.ref x0] 3 = mkF m 0 #[.val (.ref x0), .unset, .unset] [] := by first | (simp [entryFrame, mkF, argsToLocals, Value.category, maxLocals]; done) | rfl
theorem d54_0 : decode K54 0 = .ok (.aload_n 0, 1) := by decide +kernel
theorem d54_1 : decode K54 1 = .ok (.getfield 26, 3) := by decide +kernel
theorem d54_4 : decode K54 4 = .ok (.astore_n 2, 1) := by decide +kernel
theorem d54_5 : decode K54 5 = .ok (.aload_n 0, 1) := by decide +kernel
theorem d54_6 : decode K54 6 = .ok (.getfield 1, 3) := by decide +kernel
theorem d54_9 : decode K54 9 = .ok (.getfield 13, 3) := by decide +kernel
theorem d54_12 : decode K54 12 = .ok (.aload_n 0, 1) := by decide +kernel
theorem d54_13 : decode K54 13 = .ok (.getfield 19, 3) := by decide +kernel
theorem d54_16 : decode K54 16 = .ok (.if_icmp .eq 11, 3) := by decide +kernel
theorem d54_27 : decode K54 27 = .ok (.aload_n 2, 1) := by decide +kernel
theorem d54_28 : decode K54 28 = .ok (.ifnonnull 11, 3) := by decide +kernel
theorem d54_39 : decode K54 39 = .ok (.aload_n 0, 1) := by decide +kernel
theorem d54_40 : decode K54 40 = .ok (.aload_n 0, 1) := by decide +kernel
theorem d54_41 : decode K54 41 = .ok (.aload_n 2, 1) := by decide +kernel
theorem d54_42 : decode K54 42 = .ok (.dup_x1, 1) := by decide +kernel
theorem d54_43 : decode K54 43 = .ok (.putfield 30, 3) := by decide +kernel
theorem d54_46 : decode K54 46 = .ok (.getfield 45, 3) := by decide +kernel
theorem d54_49 : decode K54 49 = .ok (.dup_x1, 1) := by decide +kernel
theorem d54_50 : decode K54 50 = .ok (.putfield 26, 3) := by decide +kernel
theorem d54_53 : decode K54 53 = .ok (.ifnonnull 45, 3) := by decide +kernel
theorem d54_56 : decode K54 56 = .ok (.aload_n 0, 1) := by decide +kernel
theorem d54_57 : decode K54 57 = .ok (.getfield 1, 3) := by decide +kernel
theorem d54_60 : decode K54 60 = .ok (.getfield 22, 3) := by decide +kernel
theorem d54_63 : decode K54 63 = .ok (.dup, 1) := by decide +kernel
theorem d54_64 : decode K54 64 = .ok (.astore_n 1, 1) := by decide +kernel
theorem d54_65 : decode K54 65 = .ok (.ifnull 33, 3) := by decide +kernel
theorem pf_54 : plainFor ⟨"java/util/HashMap$HashIterator", "nextNode", "()Ljava/util/HashMap$Node;"⟩ = true := by first | exact plainFor_of_name (by first | (simp [plainName, overriddenIn]; done) | decide +kernel) | decide +kernel
abbrev K53 : ByteArray := jdk_2569_method_2_code
theorem d53_0 : decode K53 0 = .ok (.aload_n 0, 1) := by decide +kernel
theorem d53_1 : decode K53 1 = .ok (.invokevirtual 7, 3) := by decide +kernel
theorem pd_22 : parseMethodDescriptor "()Ljava/util/HashMap$Node;" = some ⟨[], some (.object "java/util/HashMap$Node")⟩ := by decide +kernel
theorem d53_4 : decode K53 4 = .ok (.getfield 13, 3) := by decide +kernel
theorem d53_7 : decode K53 7 = .ok (.areturn, 1) := by decide +kernel
theorem pf_53 : plainFor ⟨"java/util/HashMap$ValueIterator", "next", "()Ljava/lang/Object;"⟩ = true := by first | exact plainFor_of_name (by first | (simp [plainName, overriddenIn]; done) | decide +kernel) | decide +kernel
abbrev K24 : ByteArray := jdk_2529_method_6_code
theorem d24_3 : decode K24 3 = .ok (.iinc 4 1, 3) := by decide +kernel
theorem d24_6 : decode K24 6 = .ok (.iload 4, 2) := by decide +kernel
theorem d24_8 : decode K24 8 = .ok (.iload_n 2, 1) := by decide +kernel
theorem d24_9 : decode K24 9 = .ok (.if_icmp .ge 58, 3) := by decide +kernel
theorem d24_67 : decode K24 67 = .ok (.return_, 1) := by decide +kernel
theorem d24_12 : decode K24 12 = .ok (.aload_n 0, 1) := by decide +kernel
theorem d24_13 : decode K24 13 = .ok (.iload 4, 2) := by decide +kernel
theorem d24_15 : decode K24 15 = .ok (.dup, 1) := by decide +kernel
theorem d24_16 : decode K24 16 = .ok (.istore_n 3, 1) := by decide +kernel
theorem d24_17 : decode K24 17 = .ok (.iaload, 1) := by decide +kernel
theorem d24_18 : decode K24 18 = .ok (.istore 5, 2) := by decide +kernel
theorem d24_20 : decode K24 20 = .ok (.iload 5, 2) := by decide +kernel
theorem d24_22 : decode K24 22 = .ok (.aload_n 0, 1) := by decide +kernel
theorem d24_23 : decode K24 23 = .ok (.iload_n 3, 1) := by decide +kernel
theorem d24_24 : decode K24 24 = .ok (.iconst 1, 1) := by decide +kernel
theorem d24_25 : decode K24 25 = .ok (.isub, 1) := by decide +kernel
theorem d24_26 : decode K24 26 = .ok (.iaload, 1) := by decide +kernel
theorem d24_27 : decode K24 27 = .ok (.if_icmp .ge 37, 3) := by decide +kernel
theorem d24_64 : decode K24 64 = .ok (.goto (-61), 3) := by decide +kernel
theorem d24_30 : decode K24 30 = .ok (.iinc 3 (-1), 3) := by decide +kernel
theorem d24_33 : decode K24 33 = .ok (.iload_n 3, 1) := by decide +kernel
theorem d24_34 : decode K24 34 = .ok (.iload_n 1, 1) := by decide +kernel
theorem d24_35 : decode K24 35 = .ok (.if_icmp .lt 22, 3) := by decide +kernel
theorem d24_57 : decode K24 57 = .ok (.aload_n 0, 1) := by decide +kernel
theorem d24_58 : decode K24 58 = .ok (.iload_n 3, 1) := by decide +kernel
theorem d24_59 : decode K24 59 = .ok (.iconst 1, 1) := by decide +kernel
theorem d24_60 : decode K24 60 = .ok (.iadd, 1) := by decide +kernel
theorem d24_61 : decode K24 61 = .ok (.iload 5, 2) := by decide +kernel
theorem d24_63 : decode K24 63 = .ok (.iastore, 1) := by decide +kernel
theorem d24_38 : decode K24 38 = .ok (.iload 5, 2) := by decide +kernel
theorem d24_40 : decode K24 40 = .ok (.aload_n 0, 1) := by decide +kernel
theorem d24_41 : decode K24 41 = .ok (.iload_n 3, 1) := by decide +kernel
theorem d24_42 : decode K24 42 = .ok (.iaload, 1) := by decide +kernel
theorem d24_43 : decode K24 43 = .ok (.if_icmp .ge 14, 3) := by decide +kernel
theorem d24_46 : decode K24 46 = .ok (.aload_n 0, 1) := by decide +kernel
theorem d24_47 : decode K24 47 = .ok (.iload_n 3, 1) := by decide +kernel
theorem d24_48 : decode K24 48 = .ok (.iconst 1, 1) := by decide +kernel
theorem d24_49 : decode K24 49 = .ok (.iadd, 1) := by decide +kernel
theorem d24_50 : decode K24 50 = .ok (.aload_n 0, 1) := by decide +kernel
theorem d24_51 : decode K24 51 = .ok (.iload_n 3, 1) := by decide +kernel
theorem d24_52 : decode K24 52 = .ok (.iaload, 1) := by decide +kernel
theorem d24_53 : decode K24 53 = .ok (.iastore, 1) := by decide +kernel
theorem d24_54 : decode K24 54 = .ok (.goto (-24), 3) := by decide +kernel
theorem ef_rii6 (m : MethodId) (x0 : Addr) (x1 : Int32) (x2 : Int32) : entryFrame m #[.ref x0, .int x1, .int x2] 6 = mkF m 0 #[.val (.ref x0), .val (.int x1), .val (.int x2), .unset, .unset, .unset] [] := by first | (simp [entryFrame, mkF, argsToLocals, Value.category, maxLocals]; done) | rfl
theorem d24_0 : decode K24 0 = .ok (.iload_n 1, 1) := by decide +kernel
theorem d24_1 : decode K24 1 = .ok (.istore 4, 2) := by decide +kernel
theorem pf_24 : plainFor ⟨"java/util/DualPivotQuicksort", "insertionSort", "([III)V"⟩ = true := by first | exact plainFor_of_name (by first | (simp [plainName, overriddenIn]; done) | decide +kernel) | decide +kernel
theorem ef_nriii21 (m : MethodId) (x1 : Addr) (x2 : Int32) (x3 : Int32) (x4 : Int32) : entryFrame m #[.null, .ref x1, .int x2, .int x3, .int x4] 21 = mkF m 0 #[.val (.null), .val (.ref x1), .val (.int x2), .val (.int x3), .val (.int x4), .unset, .unset, .unset, .unset, .unset, .unset, .unset, .unset, .unset, .unset, .unset, .unset, .unset, .unset, .unset, .unset] [] := by first | (simp [entryFrame, mkF, argsToLocals, Value.category, maxLocals]; done) | rfl
abbrev K23 : ByteArray := jdk_2529_method_4_code
theorem d23_0 : decode K23 0 = .ok (.iload 4, 2) := by decide +kernel
theorem d23_2 : decode K23 2 = .ok (.iconst 1, 1) := by decide +kernel
theorem d23_3 : decode K23 3 = .ok (.isub, 1) := by decide +kernel
theorem d23_4 : decode K23 4 = .ok (.istore 5, 2) := by decide +kernel
theorem d23_6 : decode K23 6 = .ok (.iload 4, 2) := by decide +kernel
theorem d23_8 : decode K23 8 = .ok (.iload_n 3, 1) := by decide +kernel
theorem d23_9 : decode K23 9 = .ok (.isub, 1) := by decide +kernel
theorem d23_10 : decode K23 10 = .ok (.istore 6, 2) := by decide +kernel
theorem d23_12 : decode K23 12 = .ok (.iload 6, 2) := by decide +kernel
theorem d23_14 : decode K23 14 = .ok (.bipush 65, 2) := by decide +kernel
theorem d23_16 : decode K23 16 = .ok (.iload_n 2, 1) := by decide +kernel
theorem d23_17 : decode K23 17 = .ok (.iadd, 1) := by decide +kernel
theorem d23_18 : decode K23 18 = .ok (.if_icmp .ge 28, 3) := by decide +kernel
theorem d23_21 : decode K23 21 = .ok (.iload_n 2, 1) := by decide +kernel
theorem d23_22 : decode K23 22 = .ok (.iconst 1, 1) := by decide +kernel
theorem d23_23 : decode K23 23 = .ok (.iand, 1) := by decide +kernel
theorem d23_24 : decode K23 24 = .ok (.ifCond .le 22, 3) := by decide +kernel
theorem d23_46 : decode K23 46 = .ok (.iload 6, 2) := by decide +kernel
theorem d23_48 : decode K23 48 = .ok (.bipush 44, 2) := by decide +kernel
theorem d23_50 : decode K23 50 = .ok (.if_icmp .ge 11, 3) := by decide +kernel
theorem d23_53 : decode K23 53 = .ok (.aload_n 1, 1) := by decide +kernel
theorem d23_54 : decode K23 54 = .ok (.iload_n 3, 1) := by decide +kernel
theorem d23_55 : decode K23 55 = .ok (.iload 4, 2) := by decide +kernel
theorem d23_57 : decode K23 57 = .ok (.invokestatic 34, 3) := by decide +kernel
theorem pd_23 : parseMethodDescriptor "([III)V" = some ⟨[(.array .int), .int, .int], none⟩ := by decide +kernel
theorem d23_60 : decode K23 60 = .ok (.return_, 1) := by decide +kernel
theorem pf_23 : plainFor ⟨"java/util/DualPivotQuicksort", "sort", "(Ljava/util/DualPivotQuicksort$Sorter;[IIII)V"⟩ = true := by first | exact plainFor_of_name (by first | (simp [plainName, overriddenIn]; done) | decide +kernel) | decide +kernel
theorem ef_riii7 (m : MethodId) (x0 : Addr) (x1 : Int32) (x2 : Int32) (x3 : Int32) : entryFrame m #[.ref x0, .int x1, .int x2, .int x3] 7 = mkF m 0 #[.val (.ref x0), .val (.int x1), .val (.int x2), .val (.int x3), .unset, .unset, .unset] [] := by first | (simp [entryFrame, mkF, argsToLocals, Value.category, maxLocals]; done) | rfl
abbrev K22 : ByteArray := jdk_2529_method_3_code
theorem d22_0 : decode K22 0 = .ok (.iload_n 3, 1) := by decide +kernel
theorem d22_1 : decode K22 1 = .ok (.iload_n 2, 1) := by decide +kernel
theorem d22_2 : decode K22 2 = .ok (.isub, 1) := by decide +kernel
theorem d22_3 : decode K22 3 = .ok (.istore 4, 2) := by decide +kernel
theorem d22_5 : decode K22 5 = .ok (.iload_n 1, 1) := by decide +kernel
theorem d22_6 : decode K22 6 = .ok (.iconst 1, 1) := by decide +kernel
theorem d22_7 : decode K22 7 = .ok (.if_icmp .le 61, 3) := by decide +kernel
theorem d22_68 : decode K22 68 = .ok (.aconst_null, 1) := by decide +kernel
theorem d22_69 : decode K22 69 = .ok (.aload_n 0, 1) := by decide +kernel
theorem d22_70 : decode K22 70 = .ok (.iconst 0, 1) := by decide +kernel
theorem d22_71 : decode K22 71 = .ok (.iload_n 2, 1) := by decide +kernel
theorem d22_72 : decode K22 72 = .ok (.iload_n 3, 1) := by decide +kernel
theorem d22_73 : decode K22 73 = .ok (.invokestatic 26, 3) := by decide +kernel
theorem pd_24 : parseMethodDescriptor "(Ljava/util/DualPivotQuicksort$Sorter;[IIII)V" = some ⟨[(.object "java/util/DualPivotQuicksort$Sorter"), (.array .int), .int, .int, .int], none⟩ := by decide +kernel
theorem d22_76 : decode K22 76 = .ok (.return_, 1) := by decide +kernel
theorem pf_22 : plainFor ⟨"java/util/DualPivotQuicksort", "sort", "([IIII)V"⟩ = true := by first | exact plainFor_of_name (by first | (simp [plainName, overriddenIn]; done) | decide +kernel) | decide +kernel
abbrev K21 : ByteArray := jdk_65_method_2_code
theorem d21_0 : decode K21 0 = .ok (.aload_n 0, 1) := by decide +kernel
theorem d21_1 : decode K21 1 = .ok (.iconst 0, 1) := by decide +kernel
theorem d21_2 : decode K21 2 = .ok (.iconst 0, 1) := by decide +kernel
theorem d21_3 : decode K21 3 = .ok (.aload_n 0, 1) := by decide +kernel
theorem d21_4 : decode K21 4 = .ok (.arraylength, 1) := by decide +kernel
theorem d21_5 : decode K21 5 = .ok (.invokestatic 7, 3) := by decide +kernel
theorem pd_25 : parseMethodDescriptor "([IIII)V" = some ⟨[(.array .int), .int, .int, .int], none⟩ := by decide +kernel
theorem d21_8 : decode K21 8 = .ok (.return_, 1) := by decide +kernel
theorem pf_21 : plainFor ⟨"java/util/Arrays", "sort", "([I)V"⟩ = true := by first | exact plainFor_of_name (by first | (simp [plainName, overriddenIn]; done) | decide +kernel) | decide +kernel
abbrev K25 : ByteArray := prog_8_method_11_code
theorem d25_7 : decode K25 7 = .ok (.iload_n 1, 1) := by decide +kernel
theorem d25_8 : decode K25 8 = .ok (.iload_n 2, 1) := by decide +kernel
theorem d25_9 : decode K25 9 = .ok (.if_icmp .ge 26, 3) := by decide +kernel
theorem d25_35 : decode K25 35 = .ok (.return_, 1) := by decide +kernel
theorem d25_12 : decode K25 12 = .ok (.aload_n 0, 1) := by decide +kernel
theorem d25_13 : decode K25 13 = .ok (.iload_n 1, 1) := by decide +kernel
theorem d25_14 : decode K25 14 = .ok (.iaload, 1) := by decide +kernel
theorem d25_15 : decode K25 15 = .ok (.istore_n 3, 1) := by decide +kernel
theorem d25_16 : decode K25 16 = .ok (.aload_n 0, 1) := by decide +kernel
theorem d25_17 : decode K25 17 = .ok (.iload_n 1, 1) := by decide +kernel
theorem d25_18 : decode K25 18 = .ok (.aload_n 0, 1) := by decide +kernel
theorem d25_19 : decode K25 19 = .ok (.iload_n 2, 1) := by decide +kernel
theorem d25_20 : decode K25 20 = .ok (.iaload, 1) := by decide +kernel
theorem d25_21 : decode K25 21 = .ok (.iastore, 1) := by decide +kernel
theorem d25_22 : decode K25 22 = .ok (.aload_n 0, 1) := by decide +kernel
theorem d25_23 : decode K25 23 = .ok (.iload_n 2, 1) := by decide +kernel
theorem d25_24 : decode K25 24 = .ok (.iload_n 3, 1) := by decide +kernel
theorem d25_25 : decode K25 25 = .ok (.iastore, 1) := by decide +kernel
theorem d25_26 : decode K25 26 = .ok (.iinc 1 1, 3) := by decide +kernel
theorem d25_29 : decode K25 29 = .ok (.iinc 2 (-1), 3) := by decide +kernel
theorem d25_32 : decode K25 32 = .ok (.goto (-25), 3) := by decide +kernel
theorem ef_r4 (m : MethodId) (x0 : Addr) : entryFrame m #[.ref x0] 4 = mkF m 0 #[.val (.ref x0), .unset, .unset, .unset] [] := by first | (simp [entryFrame, mkF, argsToLocals, Value.category, maxLocals]; done) | rfl
theorem d25_0 : decode K25 0 = .ok (.iconst 0, 1) := by decide +kernel
theorem d25_1 : decode K25 1 = .ok (.istore_n 1, 1) := by decide +kernel
theorem d25_2 : decode K25 2 = .ok (.aload_n 0, 1) := by decide +kernel
theorem d25_3 : decode K25 3 = .ok (.arraylength, 1) := by decide +kernel
theorem d25_4 : decode K25 4 = .ok (.iconst 1, 1) := by decide +kernel
theorem d25_5 : decode K25 5 = .ok (.isub, 1) := by decide +kernel
theorem d25_6 : decode K25 6 = .ok (.istore_n 2, 1) := by decide +kernel
theorem pn_JudgedRanking : plainName "com/example/inq2/inq2/JudgedRanking" = true := by first | (simp [plainName, overriddenIn]; done) | decide +kernel
abbrev K57 : ByteArray := jdk_29_method_69_code
theorem d57_0 : decode K57 0 = .ok (.iload_n 0, 1) := by decide +kernel
theorem d57_1 : decode K57 1 = .ok (.iload_n 1, 1) := by decide +kernel
theorem d57_2 : decode K57 2 = .ok (.if_icmp .gt 7, 3) := by decide +kernel
theorem d57_9 : decode K57 9 = .ok (.iload_n 1, 1) := by decide +kernel
theorem d57_10 : decode K57 10 = .ok (.ireturn, 1) := by decide +kernel
theorem d57_5 : decode K57 5 = .ok (.iload_n 0, 1) := by decide +kernel
theorem d57_6 : decode K57 6 = .ok (.goto 4, 3) := by decide +kernel
theorem pf_57 : plainFor ⟨"java/lang/Math", "min", "(II)I"⟩ = true := by first | exact plainFor_of_name (by first | (simp [plainName, overriddenIn]; done) | decide +kernel) | decide +kernel
theorem ef_ri3 (m : MethodId) (x0 : Addr) (x1 : Int32) : entryFrame m #[.ref x0, .int x1] 3 = mkF m 0 #[.val (.ref x0), .val (.int x1), .unset] [] := by first | (simp [entryFrame, mkF, argsToLocals, Value.category, maxLocals]; done) | rfl
abbrev K20 : ByteArray := jdk_65_method_123_code
theorem d20_0 : decode K20 0 = .ok (.iload_n 1, 1) := by decide +kernel
theorem d20_1 : decode K20 1 = .ok (.aload_n 0, 1) := by decide +kernel
theorem d20_2 : decode K20 2 = .ok (.arraylength, 1) := by decide +kernel
theorem d20_3 : decode K20 3 = .ok (.if_icmp .ne 11, 3) := by decide +kernel
theorem d20_14 : decode K20 14 = .ok (.iload_n 1, 1) := by decide +kernel
theorem d20_15 : decode K20 15 = .ok (.newarray .int, 2) := by decide +kernel
theorem d20_17 : decode K20 17 = .ok (.astore_n 2, 1) := by decide +kernel
theorem d20_18 : decode K20 18 = .ok (.aload_n 0, 1) := by decide +kernel
theorem d20_19 : decode K20 19 = .ok (.iconst 0, 1) := by decide +kernel
theorem d20_20 : decode K20 20 = .ok (.aload_n 2, 1) := by decide +kernel
theorem d20_21 : decode K20 21 = .ok (.iconst 0, 1) := by decide +kernel
theorem d20_22 : decode K20 22 = .ok (.aload_n 0, 1) := by decide +kernel
theorem d20_23 : decode K20 23 = .ok (.arraylength, 1) := by decide +kernel
theorem d20_24 : decode K20 24 = .ok (.iload_n 1, 1) := by decide +kernel
theorem d20_25 : decode K20 25 = .ok (.invokestatic 304, 3) := by decide +kernel
theorem d20_28 : decode K20 28 = .ok (.invokestatic 150, 3) := by decide +kernel
theorem d20_31 : decode K20 31 = .ok (.aload_n 2, 1) := by decide +kernel
theorem d20_32 : decode K20 32 = .ok (.areturn, 1) := by decide +kernel
theorem d20_6 : decode K20 6 = .ok (.aload_n 0, 1) := by decide +kernel
theorem d20_7 : decode K20 7 = .ok (.invokevirtual 316, 3) := by decide +kernel
theorem d20_10 : decode K20 10 = .ok (.checkcast 317, 3) := by decide +kernel
theorem d20_13 : decode K20 13 = .ok (.areturn, 1) := by decide +kernel
theorem pf_20 : plainFor ⟨"java/util/Arrays", "copyOf", "([II)[I"⟩ = true := by first | exact plainFor_of_name (by first | (simp [plainName, overriddenIn]; done) | decide +kernel) | decide +kernel
theorem la_ScoredDocument {Z : State} {a0 : Array Value} (hw : ∀ d ∈ tables_1, d.before a0 Z = true) : LaidAll Z a0 "com/example/inq2/inq2/ScoredDocument" [("com/example/inq2/inq2/ScoredDocument", "_document", "Ljava/lang/String;", .null), ("com/example/inq2/inq2/ScoredDocument", "_score", "D", .double 0)] := LaidAll.cons (Or.inr (wd_290 hw)) (t := (.object "java/lang/String")) (by decide) rfl (LaidAll.cons (Or.inr (wd_292 hw)) (t := .double) (by decide) rfl (LaidAll.nil))
abbrev fs_ScoredDocument (v0 v1 : Value) : List FR := [("com/example/inq2/inq2/ScoredDocument", "_document", "Ljava/lang/String;", v0), ("com/example/inq2/inq2/ScoredDocument", "_score", "D", v1)]
theorem ef_rrd4 (m : MethodId) (x0 : Addr) (x1 : Addr) (x2 : UInt64) : entryFrame m #[.ref x0, .ref x1, .double x2] 4 = mkF m 0 #[.val (.ref x0), .val (.ref x1), .val (.double x2), .second] [] := by first | (simp [entryFrame, mkF, argsToLocals, Value.category, maxLocals]; done) | rfl
abbrev K39 : ByteArray := prog_19_method_1_code
theorem d39_0 : decode K39 0 = .ok (.aload_n 0, 1) := by decide +kernel
theorem d39_1 : decode K39 1 = .ok (.invokespecial 1, 3) := by decide +kernel
theorem d39_4 : decode K39 4 = .ok (.aload_n 0, 1) := by decide +kernel
theorem d39_5 : decode K39 5 = .ok (.aload_n 1, 1) := by decide +kernel
theorem d39_6 : decode K39 6 = .ok (.putfield 7, 3) := by decide +kernel
theorem d39_9 : decode K39 9 = .ok (.aload_n 0, 1) := by decide +kernel
theorem d39_10 : decode K39 10 = .ok (.dload_n 2, 1) := by decide +kernel
theorem d39_11 : decode K39 11 = .ok (.putfield 13, 3) := by decide +kernel
theorem d39_14 : decode K39 14 = .ok (.return_, 1) := by decide +kernel
theorem pn_ScoredDocument : plainName "com/example/inq2/inq2/ScoredDocument" = true := by first | (simp [plainName, overriddenIn]; done) | decide +kernel
abbrev K49 : ByteArray := prog_19_method_2_code
theorem d49_0 : decode K49 0 = .ok (.aload_n 0, 1) := by decide +kernel
theorem d49_1 : decode K49 1 = .ok (.getfield 7, 3) := by decide +kernel
theorem d49_4 : decode K49 4 = .ok (.areturn, 1) := by decide +kernel
abbrev K11 : ByteArray := prog_8_method_1_code
theorem d11_93 : decode K11 93 = .ok (.aload 5, 2) := by decide +kernel
theorem d11_95 : decode K11 95 = .ok (.invokeinterface 55 1, 5) := by decide +kernel
theorem d11_100 : decode K11 100 = .ok (.ifCond .eq 36, 3) := by decide +kernel
theorem d11_103 : decode K11 103 = .ok (.aload 5, 2) := by decide +kernel
theorem d11_105 : decode K11 105 = .ok (.invokeinterface 61 1, 5) := by decide +kernel
theorem pd_26 : parseMethodDescriptor "()Ljava/lang/Object;" = some ⟨[], some (.object "java/lang/Object")⟩ := by decide +kernel
theorem d11_110 : decode K11 110 = .ok (.checkcast 30, 3) := by decide +kernel
theorem d11_113 : decode K11 113 = .ok (.invokevirtual 41, 3) := by decide +kernel
theorem d11_116 : decode K11 116 = .ok (.istore 6, 2) := by decide +kernel
theorem d11_118 : decode K11 118 = .ok (.iload 6, 2) := by decide +kernel
theorem d11_120 : decode K11 120 = .ok (.iconst 1, 1) := by decide +kernel
theorem d11_121 : decode K11 121 = .ok (.if_icmp .lt 12, 3) := by decide +kernel
theorem d11_133 : decode K11 133 = .ok (.goto (-40), 3) := by decide +kernel
theorem d11_124 : decode K11 124 = .ok (.aload_n 3, 1) := by decide +kernel
theorem d11_125 : decode K11 125 = .ok (.iload 4, 2) := by decide +kernel
theorem d11_127 : decode K11 127 = .ok (.iinc 4 1, 3) := by decide +kernel
theorem d11_130 : decode K11 130 = .ok (.iload 6, 2) := by decide +kernel
theorem d11_132 : decode K11 132 = .ok (.iastore, 1) := by decide +kernel
theorem la_JudgedRanking {Z : State} {a0 : Array Value} (hw : ∀ d ∈ tables_1, d.before a0 Z = true) : LaidAll Z a0 "com/example/inq2/inq2/JudgedRanking" [("com/example/inq2/inq2/JudgedRanking", "_relevances", "[I", .null), ("com/example/inq2/inq2/JudgedRanking", "_idealGains", "[I", .null)] := LaidAll.cons (Or.inr (wd_86 hw)) (t := (.array .int)) (by decide) rfl (LaidAll.cons (Or.inr (wd_180 hw)) (t := (.array .int)) (by decide) rfl (LaidAll.nil))
theorem d11_18 : decode K11 18 = .ok (.iload_n 3, 1) := by decide +kernel
theorem d11_19 : decode K11 19 = .ok (.aload_n 0, 1) := by decide +kernel
theorem d11_20 : decode K11 20 = .ok (.getfield 13, 3) := by decide +kernel
theorem d11_23 : decode K11 23 = .ok (.arraylength, 1) := by decide +kernel
theorem d11_24 : decode K11 24 = .ok (.if_icmp .ge 44, 3) := by decide +kernel
theorem d11_27 : decode K11 27 = .ok (.aload_n 0, 1) := by decide +kernel
theorem d11_28 : decode K11 28 = .ok (.getfield 13, 3) := by decide +kernel
theorem d11_31 : decode K11 31 = .ok (.iload_n 3, 1) := by decide +kernel
theorem d11_32 : decode K11 32 = .ok (.aload_n 2, 1) := by decide +kernel
theorem d11_33 : decode K11 33 = .ok (.aload_n 1, 1) := by decide +kernel
theorem d11_34 : decode K11 34 = .ok (.iload_n 3, 1) := by decide +kernel
theorem d11_35 : decode K11 35 = .ok (.invokeinterface 19 2, 5) := by decide +kernel
theorem d11_40 : decode K11 40 = .ok (.checkcast 23, 3) := by decide +kernel
theorem d11_43 : decode K11 43 = .ok (.invokevirtual 25, 3) := by decide +kernel
theorem pd_27 : parseMethodDescriptor "()Ljava/lang/String;" = some ⟨[], some (.object "java/lang/String")⟩ := by decide +kernel
theorem d11_46 : decode K11 46 = .ok (.iconst 0, 1) := by decide +kernel
theorem d11_47 : decode K11 47 = .ok (.invokestatic 29, 3) := by decide +kernel
theorem pd_28 : parseMethodDescriptor "(I)Ljava/lang/Integer;" = some ⟨[.int], some (.object "java/lang/Integer")⟩ := by decide +kernel
abbrev fs_JudgedRanking (v0 v1 : Value) : List FR := [("com/example/inq2/inq2/JudgedRanking", "_relevances", "[I", v0), ("com/example/inq2/inq2/JudgedRanking", "_idealGains", "[I", v1)]
theorem d11_50 : decode K11 50 = .ok (.invokeinterface 35 3, 5) := by decide +kernel
theorem pd_29 : parseMethodDescriptor "(Ljava/lang/Object;Ljava/lang/Object;)Ljava/lang/Object;" = some ⟨[(.object "java/lang/Object"), (.object "java/lang/Object")], some (.object "java/lang/Object")⟩ := by decide +kernel
theorem d11_55 : decode K11 55 = .ok (.checkcast 30, 3) := by decide +kernel
theorem d11_58 : decode K11 58 = .ok (.invokevirtual 41, 3) := by decide +kernel
theorem d11_61 : decode K11 61 = .ok (.iastore, 1) := by decide +kernel
theorem d11_62 : decode K11 62 = .ok (.iinc 3 1, 3) := by decide +kernel
theorem d11_65 : decode K11 65 = .ok (.goto (-47), 3) := by decide +kernel
theorem d11_68 : decode K11 68 = .ok (.aload_n 2, 1) := by decide +kernel
theorem d11_69 : decode K11 69 = .ok (.invokeinterface 44 1, 5) := by decide +kernel
theorem d11_74 : decode K11 74 = .ok (.newarray .int, 2) := by decide +kernel
theorem d11_76 : decode K11 76 = .ok (.astore_n 3, 1) := by decide +kernel
theorem d11_77 : decode K11 77 = .ok (.iconst 0, 1) := by decide +kernel
theorem d11_78 : decode K11 78 = .ok (.istore 4, 2) := by decide +kernel
theorem d11_80 : decode K11 80 = .ok (.aload_n 2, 1) := by decide +kernel
theorem d11_81 : decode K11 81 = .ok (.invokeinterface 45 1, 5) := by decide +kernel
theorem pd_30 : parseMethodDescriptor "()Ljava/util/Collection;" = some ⟨[], some (.object "java/util/Collection")⟩ := by decide +kernel
theorem d11_86 : decode K11 86 = .ok (.invokeinterface 49 1, 5) := by decide +kernel
theorem pd_31 : parseMethodDescriptor "()Ljava/util/Iterator;" = some ⟨[], some (.object "java/util/Iterator")⟩ := by decide +kernel
theorem d11_91 : decode K11 91 = .ok (.astore 5, 2) := by decide +kernel
theorem d11_136 : decode K11 136 = .ok (.aload_n 0, 1) := by decide +kernel
theorem d11_137 : decode K11 137 = .ok (.aload_n 3, 1) := by decide +kernel
theorem d11_138 : decode K11 138 = .ok (.iload 4, 2) := by decide +kernel
theorem d11_140 : decode K11 140 = .ok (.invokestatic 65, 3) := by decide +kernel
theorem pd_32 : parseMethodDescriptor "([II)[I" = some ⟨[(.array .int), .int], some (.array .int)⟩ := by decide +kernel
theorem d11_143 : decode K11 143 = .ok (.putfield 71, 3) := by decide +kernel
theorem d11_146 : decode K11 146 = .ok (.aload_n 0, 1) := by decide +kernel
theorem d11_147 : decode K11 147 = .ok (.getfield 71, 3) := by decide +kernel
theorem d11_150 : decode K11 150 = .ok (.invokestatic 74, 3) := by decide +kernel
theorem pd_33 : parseMethodDescriptor "([I)V" = some ⟨[(.array .int)], none⟩ := by decide +kernel
theorem d11_153 : decode K11 153 = .ok (.aload_n 0, 1) := by decide +kernel
theorem d11_154 : decode K11 154 = .ok (.getfield 71, 3) := by decide +kernel
theorem d11_157 : decode K11 157 = .ok (.invokestatic 78, 3) := by decide +kernel
theorem d11_160 : decode K11 160 = .ok (.return_, 1) := by decide +kernel
theorem ef_rrr7 (m : MethodId) (x0 : Addr) (x1 : Addr) (x2 : Addr) : entryFrame m #[.ref x0, .ref x1, .ref x2] 7 = mkF m 0 #[.val (.ref x0), .val (.ref x1), .val (.ref x2), .unset, .unset, .unset, .unset] [] := by first | (simp [entryFrame, mkF, argsToLocals, Value.category, maxLocals]; done) | rfl
theorem d11_0 : decode K11 0 = .ok (.aload_n 0, 1) := by decide +kernel
theorem d11_1 : decode K11 1 = .ok (.invokespecial 1, 3) := by decide +kernel
theorem d11_4 : decode K11 4 = .ok (.aload_n 0, 1) := by decide +kernel
theorem d11_5 : decode K11 5 = .ok (.aload_n 1, 1) := by decide +kernel
theorem d11_6 : decode K11 6 = .ok (.invokeinterface 7 1, 5) := by decide +kernel
theorem d11_11 : decode K11 11 = .ok (.newarray .int, 2) := by decide +kernel
theorem d11_13 : decode K11 13 = .ok (.putfield 13, 3) := by decide +kernel
theorem d11_16 : decode K11 16 = .ok (.iconst 0, 1) := by decide +kernel
theorem d11_17 : decode K11 17 = .ok (.istore_n 3, 1) := by decide +kernel
theorem sw5_2 {Z : State} {n0 : Nat} {h : Heap} {r0 r1 r2 r3 r4 s0 s1 : HRow} {G F : List HRow} (H : Hp Z n0 h (r0 :: r1 :: r2 :: r3 :: r4 :: (G ++ (s0 :: s1 :: F)))) : Hp Z n0 h (r0 :: r1 :: r2 :: r3 :: r4 :: s0 :: s1 :: (G ++ F)) := H.perm (List.Perm.append_left [r0, r1, r2, r3, r4] (List.perm_append_comm_assoc G [s0, s1] F))
theorem sw5_4 {Z : State} {n0 : Nat} {h : Heap} {r0 r1 r2 r3 r4 s0 s1 s2 s3 : HRow} {G F : List HRow} (H : Hp Z n0 h (r0 :: r1 :: r2 :: r3 :: r4 :: (G ++ (s0 :: s1 :: s2 :: s3 :: F)))) : Hp Z n0 h (r0 :: r1 :: r2 :: r3 :: r4 :: s0 :: s1 :: s2 :: s3 :: (G ++ F)) := H.perm (List.Perm.append_left [r0, r1, r2, r3, r4] (List.perm_append_comm_assoc G [s0, s1, s2, s3] F))
theorem sw8_2 {Z : State} {n0 : Nat} {h : Heap} {r0 r1 r2 r3 r4 r5 r6 r7 s0 s1 : HRow} {G F : List HRow} (H : Hp Z n0 h (r0 :: r1 :: r2 :: r3 :: r4 :: r5 :: r6 :: r7 :: (G ++ (s0 :: s1 :: F)))) : Hp Z n0 h (r0 :: r1 :: r2 :: r3 :: r4 :: r5 :: r6 :: r7 :: s0 :: s1 :: (G ++ F)) := H.perm (List.Perm.append_left [r0, r1, r2, r3, r4, r5, r6, r7] (List.perm_append_comm_assoc G [s0, s1] F))
theorem sw5_6 {Z : State} {n0 : Nat} {h : Heap} {r0 r1 r2 r3 r4 s0 s1 s2 s3 s4 s5 : HRow} {G F : List HRow} (H : Hp Z n0 h (r0 :: r1 :: r2 :: r3 :: r4 :: (G ++ (s0 :: s1 :: s2 :: s3 :: s4 :: s5 :: F)))) : Hp Z n0 h (r0 :: r1 :: r2 :: r3 :: r4 :: s0 :: s1 :: s2 :: s3 :: s4 :: s5 :: (G ++ F)) := H.perm (List.Perm.append_left [r0, r1, r2, r3, r4] (List.perm_append_comm_assoc G [s0, s1, s2, s3, s4, s5] F))
theorem sw8_4 {Z : State} {n0 : Nat} {h : Heap} {r0 r1 r2 r3 r4 r5 r6 r7 s0 s1 s2 s3 : HRow} {G F : List HRow} (H : Hp Z n0 h (r0 :: r1 :: r2 :: r3 :: r4 :: r5 :: r6 :: r7 :: (G ++ (s0 :: s1 :: s2 :: s3 :: F)))) : Hp Z n0 h (r0 :: r1 :: r2 :: r3 :: r4 :: r5 :: r6 :: r7 :: s0 :: s1 :: s2 :: s3 :: (G ++ F)) := H.perm (List.Perm.append_left [r0, r1, r2, r3, r4, r5, r6, r7] (List.perm_append_comm_assoc G [s0, s1, s2, s3] F))
abbrev K27 : ByteArray := prog_8_method_3_code
theorem d27_0 : decode K27 0 = .ok (.aload_n 0, 1) := by decide +kernel
theorem d27_1 : decode K27 1 = .ok (.getfield 71, 3) := by decide +kernel
theorem d27_4 : decode K27 4 = .ok (.arraylength, 1) := by decide +kernel
theorem d27_5 : decode K27 5 = .ok (.ireturn, 1) := by decide +kernel
abbrev K26 : ByteArray := prog_8_method_5_code
theorem d26_7 : decode K26 7 = .ok (.iload 4, 2) := by decide +kernel
theorem d26_9 : decode K26 9 = .ok (.aload_n 0, 1) := by decide +kernel
theorem d26_10 : decode K26 10 = .ok (.getfield 13, 3) := by decide +kernel
theorem d26_13 : decode K26 13 = .ok (.arraylength, 1) := by decide +kernel
theorem d26_14 : decode K26 14 = .ok (.if_icmp .ge 34, 3) := by decide +kernel
theorem d26_48 : decode K26 48 = .ok (.aload_n 0, 1) := by decide +kernel
theorem d26_49 : decode K26 49 = .ok (.invokevirtual 85, 3) := by decide +kernel
theorem d26_52 : decode K26 52 = .ok (.ifCond .ne 7, 3) := by decide +kernel
theorem d26_59 : decode K26 59 = .ok (.dload_n 1, 1) := by decide +kernel
theorem d26_60 : decode K26 60 = .ok (.aload_n 0, 1) := by decide +kernel
theorem d26_61 : decode K26 61 = .ok (.invokevirtual 85, 3) := by decide +kernel
theorem d26_64 : decode K26 64 = .ok (.i2d, 1) := by decide +kernel
theorem d26_65 : decode K26 65 = .ok (.ddiv, 1) := by decide +kernel
theorem d26_66 : decode K26 66 = .ok (.dreturn, 1) := by decide +kernel
theorem d26_55 : decode K26 55 = .ok (.dconst 0, 1) := by decide +kernel
theorem d26_56 : decode K26 56 = .ok (.goto 10, 3) := by decide +kernel
theorem d26_17 : decode K26 17 = .ok (.aload_n 0, 1) := by decide +kernel
theorem d26_18 : decode K26 18 = .ok (.getfield 13, 3) := by decide +kernel
theorem d26_21 : decode K26 21 = .ok (.iload 4, 2) := by decide +kernel
theorem d26_23 : decode K26 23 = .ok (.iaload, 1) := by decide +kernel
theorem d26_24 : decode K26 24 = .ok (.iconst 1, 1) := by decide +kernel
theorem d26_25 : decode K26 25 = .ok (.if_icmp .lt 17, 3) := by decide +kernel
theorem d26_42 : decode K26 42 = .ok (.iinc 4 1, 3) := by decide +kernel
theorem d26_45 : decode K26 45 = .ok (.goto (-38), 3) := by decide +kernel
theorem d26_28 : decode K26 28 = .ok (.iinc 3 1, 3) := by decide +kernel
theorem d26_31 : decode K26 31 = .ok (.dload_n 1, 1) := by decide +kernel
theorem d26_32 : decode K26 32 = .ok (.iload_n 3, 1) := by decide +kernel
theorem d26_33 : decode K26 33 = .ok (.i2d, 1) := by decide +kernel
theorem d26_34 : decode K26 34 = .ok (.iload 4, 2) := by decide +kernel
theorem d26_36 : decode K26 36 = .ok (.iconst 1, 1) := by decide +kernel
theorem d26_37 : decode K26 37 = .ok (.iadd, 1) := by decide +kernel
theorem d26_38 : decode K26 38 = .ok (.i2d, 1) := by decide +kernel
theorem d26_39 : decode K26 39 = .ok (.ddiv, 1) := by decide +kernel
theorem d26_40 : decode K26 40 = .ok (.dadd, 1) := by decide +kernel
theorem d26_41 : decode K26 41 = .ok (.dstore_n 1, 1) := by decide +kernel
theorem ef_r5 (m : MethodId) (x0 : Addr) : entryFrame m #[.ref x0] 5 = mkF m 0 #[.val (.ref x0), .unset, .unset, .unset, .unset] [] := by first | (simp [entryFrame, mkF, argsToLocals, Value.category, maxLocals]; done) | rfl
theorem d26_0 : decode K26 0 = .ok (.dconst 0, 1) := by decide +kernel
theorem d26_1 : decode K26 1 = .ok (.dstore_n 1, 1) := by decide +kernel
theorem d26_2 : decode K26 2 = .ok (.iconst 0, 1) := by decide +kernel
theorem d26_3 : decode K26 3 = .ok (.istore_n 3, 1) := by decide +kernel
theorem d26_4 : decode K26 4 = .ok (.iconst 0, 1) := by decide +kernel
theorem d26_5 : decode K26 5 = .ok (.istore 4, 2) := by decide +kernel
theorem ef_0 (m : MethodId) (x0 : Int32) (x1 : Int32) (x2 : Int32) (x3 : Int32) (x4 : Int32) : entryFrame m #[.int x0, .int x1, .int x2, .int x3, .int x4] maxLocals = mkF m 0 #[.val (.int x0), .val (.int x1), .val (.int x2), .val (.int x3), .val (.int x4), .unset, .unset, .unset, .unset, .unset, .unset, .unset, .unset, .unset, .unset, .unset, .unset, .unset, .unset, .unset, .unset, .unset, .unset, .unset, .unset, .unset, .unset, .unset, .unset, .unset, .unset, .unset] [] := by first | (simp [entryFrame, mkF, argsToLocals, Value.category, maxLocals]; done) | rfl
theorem pd_34 : parseMethodDescriptor "(C)Ljava/lang/String;" = some ⟨[.char], some (.object "java/lang/String")⟩ := by decide +kernel
theorem pd_35 : parseMethodDescriptor "()D" = some ⟨[], some .double⟩ := by decide +kernel
theorem pd_36 : parseMethodDescriptor "(Ljava/util/List;Ljava/util/Map;)V" = some ⟨[(.object "java/util/List"), (.object "java/util/Map")], none⟩ := by decide +kernel
theorem pd_37 : parseMethodDescriptor "(Ljava/lang/String;D)V" = some ⟨[(.object "java/lang/String"), .double], none⟩ := by decide +kernel
theorem pd_38 : parseMethodDescriptor "(Ljava/lang/Object;)Z" = some ⟨[(.object "java/lang/Object")], some .boolean⟩ := by decide +kernel
theorem pn_JudgedRankingAveragePrecisionPinLaw : plainName "com/example/inq2/inq2/JudgedRankingAveragePrecisionPinLaw" = true := by first | (simp [plainName, overriddenIn]; done) | decide +kernel

/-- what is asked of a key'sk sign -/
def KeyOk (q : Int32) : Prop := ¬ (255 : Int32) < q ∧ q.toInt8.toInt32 = q ∧ q &&& 255 = q ∧ ¬ q = 0 ∧ q ^^^ (XT.ushr q (16 : Int32)) = q
theorem keyA : KeyOk 97 := ⟨by decide, by decide, by decide, by decide, by decide⟩
theorem keyB : KeyOk 98 := ⟨by decide, by decide, by decide, by decide, by decide⟩
theorem keyC : KeyOk 99 := ⟨by decide, by decide, by decide, by decide, by decide⟩
theorem keyD : KeyOk 100 := ⟨by decide, by decide, by decide, by decide, by decide⟩

theorem box_in {x : Int32} (h1 : ¬ x < (-128 : Int32)) (h2 : ¬ (127 : Int32) < x) {n : Nat} (hn : n = (256 : Int32).toNatClampNeg) : ¬ (x + (128 : Int32) < 0 ∨ n ≤ (x + (128 : Int32)).toNatClampNeg) := by
  rw [Int32.lt_iff_toInt_lt] at h1 h2
  have e1 : (-128 : Int32).toInt = -128 := by decide
  have e2 : (127 : Int32).toInt = 127 := by decide
  have e3 : (128 : Int32).toInt = 128 := by decide
  have e4 : (256 : Int32).toNatClampNeg = 256 := by decide
  have e5 : (0 : Int32).toInt = 0 := by decide
  have el : (x + (128 : Int32)).toInt = x.toInt + 128 := by
    rw [Int32.toInt_add, e3]; exact Kit.bmod32 (by omega) (by omega)
  rw [Int32.lt_iff_toInt_lt, Int32.toNatClampNeg, el, e5, hn, e4]
  omega
theorem box_back (x : Int32) : x + (128 : Int32) - 128 = x := Int32.add_sub_cancel x 128

theorem c_can (l : Launch) (Z : State) (a0 : Array Value) (hw : ∀ d ∈ tables_1, d.before a0 Z = true) (n0 : Nat) (q : Int32) (hq : ¬ (255 : Int32) < q) (h0 : Heap) (F : List HRow) (H00 : Hp Z n0 h0 F) :
    Con l Z n0 ⟨"java/lang/StringLatin1", "canEncode", "(C)Z"⟩ [] jdk_43_method_3_code 1 (some .boolean) ({ frames := 0, cells := 0, slots := 0, locals := 0 } : Room) #[.int q] h0 (fun v h => v = some (.int 1) ∧ Hp Z n0 h F) := by
  refine con_of pf_2 ?_
  intro p e s m below meth c T0 W0 e0
  subst e0
  have H0 := H00
  refine g_cast (ef_i1 m q) ?_
  refine g_iloadN W0 d2_0 (pc' := 1) rfl rfl ?_
  refine g_sipush W0 d2_1 (pc' := 4) rfl (v := (255 : Int32)) (by decide) ?_
  refine g_icmp W0 d2_4 (pcy := 11) (by decide) (pc' := 7) rfl (fun (h : (255 : Int32) < q) => absurd h hq) (fun (_ : ¬ (255 : Int32) < q) => ?_)
  refine g_iconst W0 d2_7 (pc' := 8) rfl (v := (1 : Int32)) (by decide) ?_
  refine g_goto W0 d2_8 (pc' := 12) (by decide) ?_
  exact g_zreturn W0 (by decide) d2_12 ⟨rfl, H0⟩ (by decide) (by decide)
theorem c_tob (l : Launch) (Z : State) (a0 : Array Value) (hw : ∀ d ∈ tables_1, d.before a0 Z = true) (n0 : Nat) (q : Int32) (hq : q.toInt8.toInt32 = q) (h0 : Heap) (F : List HRow) (H00 : Hp Z n0 h0 F) :
    Con l Z n0 ⟨"java/lang/StringLatin1", "toBytes", "(C)[B"⟩ [] jdk_43_method_46_code 1 (some (.array .byte)) ({ frames := 0, cells := 1, slots := 1, locals := 0 } : Room) #[.int q] h0 (fun v h => ∃ b, v = some (.ref b) ∧ Hp Z n0 h ((b, ArC Z .byte [.int q]) :: F)) := by
  refine con_of pf_3 ?_
  intro p e s m below meth c T0 W0 e0
  subst e0
  have H0 := H00
  refine g_cast (ef_i1 m q) ?_
  refine g_iconst W0 d3_0 (pc' := 1) rfl (v := (1 : Int32)) (by decide) ?_
  refine g_newarr (aty := .byte) W0 (wd_14 hw) H0 (by decide) (vs := [.int 0]) rfl (cap := 1) (Nat.le_of_eq rfl) (by decide) d3_1 (pc' := 3) rfl (kc' := 1) (ks' := 1) rfl rfl (by decide) (by decide) ?_
  intro T1 a1 W1 H1
  replace H1 : Hp Z n0 T1.heap ((a1, ArC Z .byte [.int 0]) :: F) := H1
  refine g_dup W1 d3_3 (pc' := 4) rfl rfl ?_
  refine g_iconst W1 d3_4 (pc' := 5) rfl (v := (0 : Int32)) (by decide) ?_
  refine g_iloadN W1 d3_5 (pc' := 6) rfl rfl ?_
  refine g_i2b W1 (v := q) hq d3_6 (pc' := 7) rfl ?_
  refine g_bastore W1 H1 (i := 0) rfl (u' := q) hq (jx := 0) (by decide) (by exact (by decide : 0 < 1)) d3_7 (pc' := 8) rfl (L' := ((a1, ArC Z .byte [.int q]) :: F)) rfl ?_
  intro T2 W2 H2
  exact g_areturn W2 rfl rfl d3_8 ⟨_, rfl, H2⟩ (by decide) (by decide)
theorem c_sini (l : Launch) (Z : State) (a0 : Array Value) (hw : ∀ d ∈ tables_1, d.before a0 Z = true) (n0 : Nat) (a b : Addr) (h0 : Heap) (F : List HRow) (H00 : Hp Z n0 h0 ((a, ObC Z "java/lang/String" (fs_String .null (.int (0 : Int32)) (.int (0 : Int32)) (.int (0 : Int32)))) :: F)) :
    Con l Z n0 ⟨"java/lang/String", "<init>", "([BB)V"⟩ [] jdk_42_method_151_code 3 none ({ frames := 1, cells := 0, slots := 0, locals := 12 } : Room) #[.ref a, .ref b, .int (0 : Int32)] h0 (fun v h => v = none ∧ Hp Z n0 h ((a, ObC Z "java/lang/String" (fs_String (.ref b) (.int (0 : Int32)) (.int (0 : Int32)) (.int (0 : Int32)))) :: F)) := by
  refine con_of pf_4 ?_
  intro p e s m below meth c T0 W0 e0
  subst e0
  have H0 := H00
  refine g_cast (ef_rri3 m a b (0 : Int32)) ?_
  refine g_aloadN W0 d4_0 (pc' := 1) rfl rfl rfl ?_
  refine g_initO W0 (wd_19 hw) (wd_20 hw) (wd_21 hw) H0 rfl d4_1 (pc' := 4) rfl (by decide) (Wn := 0) (Nat.le_of_eq rfl) (by decide) ?_
  intro T1 W1 H1
  refine g_aloadN W1 d4_4 (pc' := 5) rfl rfl rfl ?_
  refine g_aloadN W1 d4_5 (pc' := 6) rfl rfl rfl ?_
  refine g_putf W1 (wd_22 hw) Via.refl (Or.inr ⟨(wd_23 hw), rfl, rfl⟩) (wd_10 hw) (ty := (.array .byte)) (by decide) rfl rfl H1 (i := 0) rfl (jx := 0) rfl d4_6 (pc' := 9) rfl (L' := ((a, ObC Z "java/lang/String" (fs_String (.ref b) (.int (0 : Int32)) (.int (0 : Int32)) (.int (0 : Int32)))) :: F)) rfl ?_
  intro T2 W2 H2
  refine g_aloadN W2 d4_9 (pc' := 10) rfl rfl rfl ?_
  refine g_iloadN W2 d4_10 (pc' := 11) rfl rfl ?_
  refine g_putf W2 (wd_24 hw) Via.refl (Or.inr ⟨(wd_25 hw), rfl, rfl⟩) (wd_10 hw) (ty := .byte) (by decide) rfl rfl H2 (i := 0) rfl (jx := 1) rfl d4_11 (pc' := 14) rfl (L' := ((a, ObC Z "java/lang/String" (fs_String (.ref b) (.int (0 : Int32)) (.int (0 : Int32)) (.int (0 : Int32)))) :: F)) rfl ?_
  intro T3 W3 H3
  exact g_return W3 d4_14 ⟨rfl, H3⟩ (by decide) (by decide)
theorem c_sval (l : Launch) (Z : State) (a0 : Array Value) (hw : ∀ d ∈ tables_1, d.before a0 Z = true) (n0 : Nat) (cs : Int32) (hS : Sta Z Z.heap "java/lang/String" "COMPACT_STRINGS" "Z" (.int cs)) (hcs : ¬ cs = 0) (q : Int32) (hq : KeyOk q) (h0 : Heap) (F : List HRow) (H00 : Hp Z n0 h0 F) :
    Con l Z n0 ⟨"java/lang/String", "valueOf", "(C)Ljava/lang/String;"⟩ [] jdk_42_method_139_code 1 (some (.object "java/lang/String")) ({ frames := 2, cells := 2, slots := 5, locals := 27 } : Room) #[.int q] h0 (fun v h => ∃ a b, v = some (.ref a) ∧ Hp Z n0 h ((a, ObC Z "java/lang/String" (fs_String (.ref b) (.int (0 : Int32)) (.int (0 : Int32)) (.int (0 : Int32)))) :: (b, ArC Z .byte [.int q]) :: F)) := by
  refine con_of pf_1 ?_
  intro p e s m below meth c T0 W0 e0
  subst e0
  have H0 := H00
  refine g_cast (ef_i1 m q) ?_
  refine g_getS W0 (wd_4 hw) Via.refl hS H0 d1_0 (pc' := 3) rfl ?_
  intro T1 W1 _ H1
  refine g_if W1 d1_3 (pcy := 26) (by decide) (pc' := 6) rfl (fun (h : cs = (0 : Int32)) => absurd h hcs) (fun (_ : ¬ cs = (0 : Int32)) => ?_)
  refine g_iloadN W1 d1_6 (pc' := 7) rfl rfl ?_
  refine g_callS W1 (argsL := [.int q]) (st := []) (wd_5 hw) (wd_6 hw) (wd_7 hw) (wd_8 hw) (by decide) (c_can l Z a0 hw n0 q hq.1 _ _ H1) pd_0 rfl rfl rfl d1_7 (pc' := 10) rfl (by decide) (Wn := 0) (Nat.le_of_eq rfl) (by decide) (kc' := 0) (ks' := 0) rfl rfl (by decide) (by decide) ?_
  intro T2 v2 W2 hp2
  obtain ⟨rfl, H2⟩ := hp2
  show Goes _ _ _ _ (State.setTop _ (mkF _ _ _ [.int (1 : Int32)]))
  refine g_if W2 d1_10 (pcy := 26) (by decide) (pc' := 13) rfl (fun (h : (1 : Int32) = (0 : Int32)) => absurd h (by decide)) (fun _ => ?_)
  refine g_new W2 (wd_9 hw) (wd_10 hw) (wd_2 hw) (la_String hw) (by decide) H2 d1_13 (pc' := 16) rfl (kc' := 1) (ks' := 4) rfl rfl (by decide) (by decide) ?_
  intro T3 a3 W3 H3
  refine g_dup W3 d1_16 (pc' := 17) rfl rfl ?_
  refine g_iloadN W3 d1_17 (pc' := 18) rfl rfl ?_
  refine g_callS W3 (argsL := [.int q]) (st := [.ref a3, .ref a3]) (wd_11 hw) (wd_12 hw) (wd_7 hw) (wd_13 hw) (by decide) (c_tob l Z a0 hw n0 q hq.2.1 _ _ H3) pd_1 rfl rfl rfl d1_18 (pc' := 21) rfl (by decide) (Wn := 2) (Nat.le_of_eq rfl) (by decide) (kc' := 2) (ks' := 5) rfl rfl (by decide) (by decide) ?_
  intro T4 v4 W4 hp4
  obtain ⟨b1, rfl, H4⟩ := hp4
  show Goes _ _ _ _ (State.setTop _ (mkF _ _ _ [.ref b1, .ref a3, .ref a3]))
  refine g_iconst W4 d1_21 (pc' := 22) rfl (v := (0 : Int32)) (by decide) ?_
  have H5f := Hp.fr1 H4
  refine g_callI W4 (argsL := [.ref b1, .int (0 : Int32)]) (st := [.ref a3]) rfl (wd_15 hw) (wd_16 hw) (wd_2 hw) (wd_18 hw) (by decide) (a := a3) (c_sini l Z a0 hw n0 a3 b1 _ _ H5f) pd_2 rfl rfl rfl d1_22 (pc' := 25) rfl (by decide) (Wn := 1) (Nat.le_of_eq rfl) (by decide) (kc' := 2) (ks' := 5) rfl rfl (by decide) (by decide) ?_
  intro T6 v6 W6 hp6
  obtain ⟨rfl, H6⟩ := hp6
  show Goes _ _ _ _ (State.setTop _ (mkF _ _ _ [.ref a3]))
  exact g_areturn W6 rfl rfl d1_25 ⟨_, _, rfl, H6⟩ (by decide) (by decide)
theorem c_lat (l : Launch) (Z : State) (a0 : Array Value) (hw : ∀ d ∈ tables_1, d.before a0 Z = true) (n0 : Nat) (cs : Int32) (hS : Sta Z Z.heap "java/lang/String" "COMPACT_STRINGS" "Z" (.int cs)) (hcs : ¬ cs = 0) (a b : Addr) (hv : Int32) (h0 : Heap) (F : List HRow) (H00 : Hp Z n0 h0 ((a, ObC Z "java/lang/String" (fs_String (.ref b) (.int (0 : Int32)) (.int hv) (.int (0 : Int32)))) :: F)) :
    Con l Z n0 ⟨"java/lang/String", "isLatin1", "()Z"⟩ [] jdk_42_method_154_code 1 (some .boolean) ({ frames := 0, cells := 0, slots := 0, locals := 0 } : Room) #[.ref a] h0 (fun v h => v = some (.int 1) ∧ Hp Z n0 h ((a, ObC Z "java/lang/String" (fs_String (.ref b) (.int (0 : Int32)) (.int hv) (.int (0 : Int32)))) :: F)) := by
  refine con_of pf_32 ?_
  intro p e s m below meth c T0 W0 e0
  subst e0
  have H0 := H00
  refine g_cast (ef_r1 m a) ?_
  refine g_getS W0 (wd_4 hw) Via.refl hS H0 d32_0 (pc' := 3) rfl ?_
  intro T1 W1 _ H1
  refine g_if W1 d32_3 (pcy := 17) (by decide) (pc' := 6) rfl (fun (h : cs = (0 : Int32)) => absurd h hcs) (fun (_ : ¬ cs = (0 : Int32)) => ?_)
  refine g_aloadN W1 d32_6 (pc' := 7) rfl rfl rfl ?_
  refine g_getf W1 (wd_24 hw) Via.refl H1 (i := 0) rfl (jx := 1) rfl d32_7 (pc' := 10) rfl ?_
  intro T2 W2 H2
  refine g_if W2 d32_10 (pcy := 17) (by decide) (pc' := 13) rfl (fun (h : ¬ (0 : Int32) = (0 : Int32)) => absurd h (by decide)) (fun _ => ?_)
  refine g_iconst W2 d32_13 (pc' := 14) rfl (v := (1 : Int32)) (by decide) ?_
  refine g_goto W2 d32_14 (pc' := 18) (by decide) ?_
  exact g_zreturn W2 (by decide) d32_18 ⟨rfl, H2⟩ (by decide) (by decide)
theorem c_lhc (l : Launch) (Z : State) (a0 : Array Value) (hw : ∀ d ∈ tables_1, d.before a0 Z = true) (n0 : Nat) (b : Addr) (q : Int32) (hq : q &&& 255 = q) (h0 : Heap) (F : List HRow) (H00 : Hp Z n0 h0 ((b, ArC Z .byte [.int q]) :: F)) :
    Con l Z n0 ⟨"java/lang/StringLatin1", "hashCode", "([B)I"⟩ [] jdk_43_method_21_code 1 (some .int) ({ frames := 0, cells := 0, slots := 0, locals := 0 } : Room) #[.ref b] h0 (fun v h => v = some (.int q) ∧ Hp Z n0 h ((b, ArC Z .byte [.int q]) :: F)) := by
  refine con_of pf_33 ?_
  intro p e s m below meth c T0 W0 e0
  subst e0
  have H0 := H00
  refine g_cast (ef_r1 m b) ?_
  refine g_aloadN W0 d33_0 (pc' := 1) rfl rfl rfl ?_
  refine g_arrlen W0 H0 (i := 0) rfl (x := (1 : Int32)) rfl d33_1 (pc' := 2) rfl ?_
  refine g_lswitch W0 (q := 1) (off := 30) (by decide) (by decide) d33_2 (pcy := 32) (by decide) ?_
  refine g_aloadN W0 d33_32 (pc' := 33) rfl rfl rfl ?_
  refine g_iconst W0 d33_33 (pc' := 34) rfl (v := (0 : Int32)) (by decide) ?_
  refine g_baload W0 H0 (i := 0) rfl (jx := 0) (by decide) (v := .int q) rfl d33_34 (pc' := 35) rfl ?_
  refine g_sipush W0 d33_35 (pc' := 38) rfl (v := (255 : Int32)) (by decide) ?_
  refine g_iand W0 d33_38 (pc' := 39) rfl rfl ?_
  refine g_goto W0 d33_39 (pc' := 51) (by decide) ?_
  rw [hq]
  exact g_ireturn W0 d33_51 ⟨rfl, H0⟩ (by decide) (by decide)
theorem c_shc (l : Launch) (Z : State) (a0 : Array Value) (hw : ∀ d ∈ tables_1, d.before a0 Z = true) (n0 : Nat) (cs : Int32) (hS : Sta Z Z.heap "java/lang/String" "COMPACT_STRINGS" "Z" (.int cs)) (hcs : ¬ cs = 0) (a b : Addr) (q hv : Int32) (hq : KeyOk q) (hh : hv = 0 ∨ hv = q) (h0 : Heap) (F : List HRow) (H00 : Hp Z n0 h0 ((a, ObC Z "java/lang/String" (fs_String (.ref b) (.int (0 : Int32)) (.int hv) (.int (0 : Int32)))) :: (b, ArC Z .byte [.int q]) :: F)) :
    Con l Z n0 ⟨"java/lang/String", "hashCode", "()I"⟩ [] jdk_42_method_78_code 2 (some .int) ({ frames := 1, cells := 0, slots := 0, locals := 12 } : Room) #[.ref a] h0 (fun v h => v = some (.int q) ∧ Hp Z n0 h ((a, ObC Z "java/lang/String" (fs_String (.ref b) (.int (0 : Int32)) (.int q) (.int (0 : Int32)))) :: (b, ArC Z .byte [.int q]) :: F)) := by
  refine con_of pf_31 ?_
  intro p e s m below meth c T0 W0 e0
  subst e0
  have H0 := H00
  refine g_cast (ef_r2 m a) ?_
  rcases hh with e1 | e2
  · rw [e1] at H0
    refine g_aloadN W0 d31_0 (pc' := 1) rfl rfl rfl ?_
    refine g_getf W0 (wd_228 hw) Via.refl H0 (i := 0) rfl (jx := 2) rfl d31_1 (pc' := 4) rfl ?_
    intro T1 W1 H1
    refine g_istoreN W1 d31_4 (pc' := 5) rfl (ls' := #[.val (.ref a), .val (.int (0 : Int32))]) rfl ?_
    refine g_iloadN W1 d31_5 (pc' := 6) rfl rfl ?_
    refine g_if W1 d31_6 (pcy := 58) (by decide) (pc' := 9) rfl (fun (h : ¬ (0 : Int32) = (0 : Int32)) => absurd h (by decide)) (fun _ => ?_)
    refine g_aloadN W1 d31_9 (pc' := 10) rfl rfl rfl ?_
    refine g_getf W1 (wd_230 hw) Via.refl H1 (i := 0) rfl (jx := 3) rfl d31_10 (pc' := 13) rfl ?_
    intro T2 W2 H2
    refine g_if W2 d31_13 (pcy := 58) (by decide) (pc' := 16) rfl (fun (h : ¬ (0 : Int32) = (0 : Int32)) => absurd h (by decide)) (fun _ => ?_)
    refine g_aloadN W2 d31_16 (pc' := 17) rfl rfl rfl ?_
    refine g_callV W2 (argsL := []) (st := []) (wd_232 hw) (wd_233 hw) (wd_235 hw) (wd_234 hw) (wd_2 hw) (wd_236 hw) (by decide) (a := a) H2 (i := 0) rfl (c_lat l Z a0 hw n0 cs hS hcs a b (0 : Int32) _ _ H2) pd_3 rfl rfl rfl d31_17 (pc' := 20) rfl (by decide) (Wn := 0) (Nat.le_of_eq rfl) (by decide) (kc' := 0) (ks' := 0) rfl rfl (by decide) (by decide) ?_
    intro T3 v3 W3 hp3
    obtain ⟨rfl, H3⟩ := hp3
    show Goes _ _ _ _ (State.setTop _ (mkF _ _ _ [.int (1 : Int32)]))
    refine g_if W3 d31_20 (pcy := 33) (by decide) (pc' := 23) rfl (fun (h : (1 : Int32) = (0 : Int32)) => absurd h (by decide)) (fun _ => ?_)
    refine g_aloadN W3 d31_23 (pc' := 24) rfl rfl rfl ?_
    refine g_getf W3 (wd_22 hw) Via.refl H3 (i := 0) rfl (jx := 0) rfl d31_24 (pc' := 27) rfl ?_
    intro T4 W4 H4
    have H5f := Hp.fr1 H4
    refine g_callS W4 (argsL := [.ref b]) (st := []) (wd_237 hw) (wd_238 hw) (wd_7 hw) (wd_239 hw) (by decide) (c_lhc l Z a0 hw n0 b q hq.2.2.1 _ _ H5f) pd_4 rfl rfl rfl d31_27 (pc' := 30) rfl (by decide) (Wn := 0) (Nat.le_of_eq rfl) (by decide) (kc' := 0) (ks' := 0) rfl rfl (by decide) (by decide) ?_
    intro T6 v6 W6 hp6
    obtain ⟨rfl, H6⟩ := hp6
    show Goes _ _ _ _ (State.setTop _ (mkF _ _ _ [.int q]))
    refine g_goto W6 d31_30 (pc' := 40) (by decide) ?_
    refine g_istoreN W6 d31_40 (pc' := 41) rfl (ls' := #[.val (.ref a), .val (.int q)]) rfl ?_
    refine g_iloadN W6 d31_41 (pc' := 42) rfl rfl ?_
    refine g_if W6 d31_42 (pcy := 53) (by decide) (pc' := 45) rfl (fun (_ : ¬ q = (0 : Int32)) => ?_) (fun (h : ¬ ¬ q = (0 : Int32)) => absurd hq.2.2.2.1 h)
    refine g_aloadN W6 d31_53 (pc' := 54) rfl rfl rfl ?_
    refine g_iloadN W6 d31_54 (pc' := 55) rfl rfl ?_
    refine g_putf W6 (wd_228 hw) Via.refl (Or.inl (wd_229 hw)) (wd_10 hw) (ty := .int) (by decide) rfl rfl H6 (i := 1) rfl (jx := 2) rfl d31_55 (pc' := 58) rfl (L' := ((b, ArC Z .byte [.int q]) :: (a, ObC Z "java/lang/String" (fs_String (.ref b) (.int (0 : Int32)) (.int q) (.int (0 : Int32)))) :: F)) rfl ?_
    intro T7 W7 H7
    refine g_iloadN W7 d31_58 (pc' := 59) rfl rfl ?_
    have H8f := Hp.fr1 H7
    exact g_ireturn W7 d31_59 ⟨rfl, H8f⟩ (by decide) (by decide)
  · rw [e2] at H0
    refine g_aloadN W0 d31_0 (pc' := 1) rfl rfl rfl ?_
    refine g_getf W0 (wd_228 hw) Via.refl H0 (i := 0) rfl (jx := 2) rfl d31_1 (pc' := 4) rfl ?_
    intro T9 W9 H9
    refine g_istoreN W9 d31_4 (pc' := 5) rfl (ls' := #[.val (.ref a), .val (.int q)]) rfl ?_
    refine g_iloadN W9 d31_5 (pc' := 6) rfl rfl ?_
    refine g_if W9 d31_6 (pcy := 58) (by decide) (pc' := 9) rfl (fun (_ : ¬ q = (0 : Int32)) => ?_) (fun (h : ¬ ¬ q = (0 : Int32)) => absurd hq.2.2.2.1 h)
    refine g_iloadN W9 d31_58 (pc' := 59) rfl rfl ?_
    exact g_ireturn W9 d31_59 ⟨rfl, H9⟩ (by decide) (by decide)
theorem c_hash (l : Launch) (Z : State) (a0 : Array Value) (hw : ∀ d ∈ tables_1, d.before a0 Z = true) (n0 : Nat) (cs : Int32) (hS : Sta Z Z.heap "java/lang/String" "COMPACT_STRINGS" "Z" (.int cs)) (hcs : ¬ cs = 0) (a b : Addr) (q hv : Int32) (hq : KeyOk q) (hh : hv = 0 ∨ hv = q) (h0 : Heap) (F : List HRow) (H00 : Hp Z n0 h0 ((a, ObC Z "java/lang/String" (fs_String (.ref b) (.int (0 : Int32)) (.int hv) (.int (0 : Int32)))) :: (b, ArC Z .byte [.int q]) :: F)) :
    Con l Z n0 ⟨"java/util/HashMap", "hash", "(Ljava/lang/Object;)I"⟩ [] jdk_69_method_1_code 2 (some .int) ({ frames := 2, cells := 0, slots := 0, locals := 25 } : Room) #[.ref a] h0 (fun v h => v = some (.int q) ∧ Hp Z n0 h ((a, ObC Z "java/lang/String" (fs_String (.ref b) (.int (0 : Int32)) (.int q) (.int (0 : Int32)))) :: (b, ArC Z .byte [.int q]) :: F)) := by
  refine con_of pf_30 ?_
  intro p e s m below meth c T0 W0 e0
  subst e0
  have H0 := H00
  refine g_cast (ef_r2 m a) ?_
  refine g_aloadN W0 d30_0 (pc' := 1) rfl rfl rfl ?_
  refine g_ifnonnullY W0 d30_1 (pcy := 8) (by decide) ?_
  refine g_aloadN W0 d30_8 (pc' := 9) rfl rfl rfl ?_
  refine g_callVE W0 (argsL := []) (st := []) (wd_222 hw) (wd_223 hw) (wd_225 hw) (wd_226 hw) (wd_2 hw) (wd_227 hw) (fun _ hZ => nf_via (args := #[]) (mvT hZ (wd_174 hw)) rfl) (by decide) (a := a) (H0.exa (i := 0) rfl) (c_shc l Z a0 hw n0 cs hS hcs a b q hv hq hh _ _ H0) pd_5 rfl rfl rfl d30_9 (pc' := 12) rfl (by decide) (Wn := 0) (Nat.le_of_eq rfl) (by decide) (kc' := 0) (ks' := 0) rfl rfl (by decide) (by decide) ?_
  intro T1 v1 W1 hp1
  obtain ⟨rfl, H1⟩ := hp1
  show Goes _ _ _ _ (State.setTop _ (mkF _ _ _ [.int q]))
  refine g_dup W1 d30_12 (pc' := 13) rfl rfl ?_
  refine g_istoreN W1 d30_13 (pc' := 14) rfl (ls' := #[.val (.ref a), .val (.int q)]) rfl ?_
  refine g_iloadN W1 d30_14 (pc' := 15) rfl rfl ?_
  refine g_bipush W1 d30_15 (pc' := 17) rfl (v := (16 : Int32)) (by decide) ?_
  refine g_iushr W1 d30_17 (pc' := 18) rfl rfl ?_
  refine g_ixor W1 d30_18 (pc' := 19) rfl rfl ?_
  rw [hq.2.2.2.2]
  exact g_ireturn W1 d30_19 ⟨rfl, H1⟩ (by decide) (by decide)
theorem c_ac (l : Launch) (Z : State) (a0 : Array Value) (hw : ∀ d ∈ tables_1, d.before a0 Z = true) (n0 : Nat) (a : Addr) (h0 : Heap) (F : List HRow) (H00 : Hp Z n0 h0 F) :
    Con l Z n0 ⟨"java/util/AbstractCollection", "<init>", "()V"⟩ [] jdk_22_method_1_code 1 none ({ frames := 1, cells := 0, slots := 0, locals := 12 } : Room) #[.ref a] h0 (fun v h => v = none ∧ Hp Z n0 h F) := by
  refine con_of pf_10 ?_
  intro p e s m below meth c T0 W0 e0
  subst e0
  have H0 := H00
  refine g_cast (ef_r1 m a) ?_
  refine g_aloadN W0 d10_0 (pc' := 1) rfl rfl rfl ?_
  refine g_initO W0 (wd_60 hw) (wd_20 hw) (wd_21 hw) H0 rfl d10_1 (pc' := 4) rfl (by decide) (Wn := 0) (Nat.le_of_eq rfl) (by decide) ?_
  intro T1 W1 H1
  exact g_return W1 d10_4 ⟨rfl, H1⟩ (by decide) (by decide)
theorem c_abl (l : Launch) (Z : State) (a0 : Array Value) (hw : ∀ d ∈ tables_1, d.before a0 Z = true) (n0 : Nat) (a : Addr) (h0 : Heap) (F : List HRow) (H00 : Hp Z n0 h0 ((a, ObC Z "java/util/ArrayList" (fs_ArrayList (.int (0 : Int32)) .null (.int (0 : Int32)))) :: F)) :
    Con l Z n0 ⟨"java/util/AbstractList", "<init>", "()V"⟩ [] jdk_39_method_1_code 1 none ({ frames := 2, cells := 0, slots := 0, locals := 24 } : Room) #[.ref a] h0 (fun v h => v = none ∧ Hp Z n0 h ((a, ObC Z "java/util/ArrayList" (fs_ArrayList (.int (0 : Int32)) .null (.int (0 : Int32)))) :: F)) := by
  refine con_of pf_9 ?_
  intro p e s m below meth c T0 W0 e0
  subst e0
  have H0 := H00
  refine g_cast (ef_r1 m a) ?_
  refine g_aloadN W0 d9_0 (pc' := 1) rfl rfl rfl ?_
  refine g_callI W0 (argsL := []) (st := []) rfl (wd_54 hw) (wd_55 hw) (wd_58 hw) (wd_59 hw) (by decide) (a := a) (c_ac l Z a0 hw n0 a _ _ H0) pd_6 rfl rfl rfl d9_1 (pc' := 4) rfl (by decide) (Wn := 0) (Nat.le_of_eq rfl) (by decide) (kc' := 0) (ks' := 0) rfl rfl (by decide) (by decide) ?_
  intro T1 v1 W1 hp1
  obtain ⟨rfl, H1⟩ := hp1
  show Goes _ _ _ _ (State.setTop _ (mkF _ _ _ []))
  refine g_aloadN W1 d9_4 (pc' := 5) rfl rfl rfl ?_
  refine g_iconst W1 d9_5 (pc' := 6) rfl (v := (0 : Int32)) (by decide) ?_
  refine g_putf W1 (wd_61 hw) Via.refl (Or.inl (wd_62 hw)) (wd_43 hw) (ty := .int) (by decide) rfl rfl H1 (i := 0) rfl (jx := 0) rfl d9_6 (pc' := 9) rfl (L' := ((a, ObC Z "java/util/ArrayList" (fs_ArrayList (.int (0 : Int32)) .null (.int (0 : Int32)))) :: F)) rfl ?_
  intro T2 W2 H2
  exact g_return W2 d9_9 ⟨rfl, H2⟩ (by decide) (by decide)
theorem c_alini (l : Launch) (Z : State) (a0 : Array Value) (hw : ∀ d ∈ tables_1, d.before a0 Z = true) (n0 : Nat) (de : Addr) (dc : Cell) (hD : Sta Z Z.heap "java/util/ArrayList" "DEFAULTCAPACITY_EMPTY_ELEMENTDATA" "[Ljava/lang/Object;" (.ref de)) (hA : Arr Z Z.heap de dc (.object "java/lang/Object")) (hA0 : dc.slots.size.toInt32 = 0) (a : Addr) (h0 : Heap) (F : List HRow) (H00 : Hp Z n0 h0 ((a, ObC Z "java/util/ArrayList" (fs_ArrayList (.int (0 : Int32)) .null (.int (0 : Int32)))) :: F)) :
    Con l Z n0 ⟨"java/util/ArrayList", "<init>", "()V"⟩ [] jdk_38_method_2_code 1 none ({ frames := 3, cells := 0, slots := 0, locals := 36 } : Room) #[.ref a] h0 (fun v h => v = none ∧ Hp Z n0 h ((a, ObC Z "java/util/ArrayList" (fs_ArrayList (.int (0 : Int32)) (.ref de) (.int (0 : Int32)))) :: F)) := by
  refine con_of pf_8 ?_
  intro p e s m below meth c T0 W0 e0
  subst e0
  have H0 := H00
  refine g_cast (ef_r1 m a) ?_
  refine g_aloadN W0 d8_0 (pc' := 1) rfl rfl rfl ?_
  refine g_callI W0 (argsL := []) (st := []) rfl (wd_48 hw) (wd_49 hw) (wd_52 hw) (wd_53 hw) (by decide) (a := a) (c_abl l Z a0 hw n0 a _ _ H0) pd_6 rfl rfl rfl d8_1 (pc' := 4) rfl (by decide) (Wn := 0) (Nat.le_of_eq rfl) (by decide) (kc' := 0) (ks' := 0) rfl rfl (by decide) (by decide) ?_
  intro T1 v1 W1 hp1
  obtain ⟨rfl, H1⟩ := hp1
  show Goes _ _ _ _ (State.setTop _ (mkF _ _ _ []))
  refine g_aloadN W1 d8_4 (pc' := 5) rfl rfl rfl ?_
  refine g_getS W1 (wd_63 hw) Via.refl hD H1 d8_5 (pc' := 8) rfl ?_
  intro T2 W2 _ H2
  refine g_putf W2 (wd_64 hw) Via.refl (Or.inl (wd_65 hw)) (wd_43 hw) (ty := (.array (.object "java/lang/Object"))) (by decide) rfl rfl H2 (i := 0) rfl (jx := 1) rfl d8_8 (pc' := 11) rfl (L' := ((a, ObC Z "java/util/ArrayList" (fs_ArrayList (.int (0 : Int32)) (.ref de) (.int (0 : Int32)))) :: F)) rfl ?_
  intro T3 W3 H3
  exact g_return W3 d8_11 ⟨rfl, H3⟩ (by decide) (by decide)
theorem c_max (l : Launch) (Z : State) (a0 : Array Value) (hw : ∀ d ∈ tables_1, d.before a0 Z = true) (n0 : Nat)  (h0 : Heap) (F : List HRow) (H00 : Hp Z n0 h0 F) :
    Con l Z n0 ⟨"java/lang/Math", "max", "(II)I"⟩ [] jdk_29_method_65_code 2 (some .int) ({ frames := 0, cells := 0, slots := 0, locals := 0 } : Room) #[.int (10 : Int32), .int (1 : Int32)] h0 (fun v h => v = some (.int 10) ∧ Hp Z n0 h F) := by
  refine con_of pf_44 ?_
  intro p e s m below meth c T0 W0 e0
  subst e0
  have H0 := H00
  refine g_cast (ef_ii2 m (10 : Int32) (1 : Int32)) ?_
  refine g_iloadN W0 d44_0 (pc' := 1) rfl rfl ?_
  refine g_iloadN W0 d44_1 (pc' := 2) rfl rfl ?_
  refine g_icmp W0 d44_2 (pcy := 9) (by decide) (pc' := 5) rfl (fun (h : (10 : Int32) < (1 : Int32)) => absurd h (by decide)) (fun _ => ?_)
  refine g_iloadN W0 d44_5 (pc' := 6) rfl rfl ?_
  refine g_goto W0 d44_6 (pc' := 10) (by decide) ?_
  exact g_ireturn W0 d44_10 ⟨rfl, H0⟩ (by decide) (by decide)
theorem c_growI (l : Launch) (Z : State) (a0 : Array Value) (hw : ∀ d ∈ tables_1, d.before a0 Z = true) (n0 : Nat) (de : Addr) (dc : Cell) (hD : Sta Z Z.heap "java/util/ArrayList" "DEFAULTCAPACITY_EMPTY_ELEMENTDATA" "[Ljava/lang/Object;" (.ref de)) (hA : Arr Z Z.heap de dc (.object "java/lang/Object")) (hA0 : dc.slots.size.toInt32 = 0) (a : Addr) (mc : Int32) (h0 : Heap) (F : List HRow) (H00 : Hp Z n0 h0 ((a, ObC Z "java/util/ArrayList" (fs_ArrayList (.int mc) (.ref de) (.int (0 : Int32)))) :: F)) :
    Con l Z n0 ⟨"java/util/ArrayList", "grow", "(I)[Ljava/lang/Object;"⟩ [] jdk_38_method_6_code 4 (some (.array (.object "java/lang/Object"))) ({ frames := 1, cells := 1, slots := 10, locals := 14 } : Room) #[.ref a, .int (1 : Int32)] h0 (fun v h => ∃ el, v = some (.ref el) ∧ Hp Z n0 h ((el, RaC Z "java/lang/Object" (List.replicate 10 Value.null)) :: (a, ObC Z "java/util/ArrayList" (fs_ArrayList (.int mc) (.ref el) (.int (0 : Int32)))) :: F)) := by
  refine con_of pf_43 ?_
  intro p e s m below meth c T0 W0 e0
  subst e0
  have H0 := H00
  refine g_cast (ef_ri4 m a (1 : Int32)) ?_
  refine g_aloadN W0 d43_0 (pc' := 1) rfl rfl rfl ?_
  refine g_getf W0 (wd_64 hw) Via.refl H0 (i := 0) rfl (jx := 1) rfl d43_1 (pc' := 4) rfl ?_
  intro T1 W1 H1
  refine g_arrlenF W1 (cl := dc) ⟨H1.old.2 _ _ hA.1, hA.2⟩ (x := (0 : Int32)) hA0 d43_4 (pc' := 5) rfl ?_
  refine g_istoreN W1 d43_5 (pc' := 6) rfl (ls' := #[.val (.ref a), .val (.int (1 : Int32)), .val (.int (0 : Int32)), .unset]) rfl ?_
  refine g_iloadN W1 d43_6 (pc' := 7) rfl rfl ?_
  refine g_if W1 d43_7 (pcy := 20) (by decide) (pc' := 10) rfl (fun (h : (0 : Int32) < (0 : Int32)) => absurd h (by decide)) (fun _ => ?_)
  refine g_aloadN W1 d43_10 (pc' := 11) rfl rfl rfl ?_
  refine g_getf W1 (wd_64 hw) Via.refl H1 (i := 0) rfl (jx := 1) rfl d43_11 (pc' := 14) rfl ?_
  intro T2 W2 H2
  refine g_getS W2 (wd_63 hw) Via.refl hD H2 d43_14 (pc' := 17) rfl ?_
  intro T3 W3 _ H3
  refine g_acmpY W3 rfl rfl (acmp_same _) d43_17 (pcy := 45) (by decide) ?_
  refine g_aloadN W3 d43_45 (pc' := 46) rfl rfl rfl ?_
  refine g_bipush W3 d43_46 (pc' := 48) rfl (v := (10 : Int32)) (by decide) ?_
  refine g_iloadN W3 d43_48 (pc' := 49) rfl rfl ?_
  refine g_callS W3 (argsL := [.int (10 : Int32), .int (1 : Int32)]) (st := [.ref a]) (wd_315 hw) (wd_316 hw) (wd_317 hw) (wd_318 hw) (by decide) (c_max l Z a0 hw n0 _ _ H3) pd_7 rfl rfl rfl d43_49 (pc' := 52) rfl (by decide) (Wn := 1) (Nat.le_of_eq rfl) (by decide) (kc' := 0) (ks' := 0) rfl rfl (by decide) (by decide) ?_
  intro T4 v4 W4 hp4
  obtain ⟨rfl, H4⟩ := hp4
  show Goes _ _ _ _ (State.setTop _ (mkF _ _ _ [.int (10 : Int32), .ref a]))
  refine g_anewarr W4 (wd_319 hw) (wd_320 hw) H4 (by decide) (vs := (List.replicate 10 Value.null)) rfl (cap := 10) (by decide) (by decide) d43_52 (pc' := 55) rfl (kc' := 1) (ks' := 10) rfl rfl (by decide) (by decide) ?_
  intro T5 a5 W5 H5
  refine g_dup_x1 W5 d43_55 (pc' := 56) rfl rfl rfl ?_
  refine g_putf W5 (wd_64 hw) Via.refl (Or.inl (wd_65 hw)) (wd_43 hw) (ty := (.array (.object "java/lang/Object"))) (by decide) rfl rfl H5 (i := 1) rfl (jx := 1) rfl d43_56 (pc' := 59) rfl (L' := ((a5, RaC Z "java/lang/Object" (List.replicate 10 Value.null)) :: (a, ObC Z "java/util/ArrayList" (fs_ArrayList (.int mc) (.ref a5) (.int (0 : Int32)))) :: F)) rfl ?_
  intro T6 W6 H6
  exact g_areturn W6 rfl rfl d43_59 ⟨_, rfl, H6⟩ (by decide) (by decide)
theorem c_grow (l : Launch) (Z : State) (a0 : Array Value) (hw : ∀ d ∈ tables_1, d.before a0 Z = true) (n0 : Nat) (de : Addr) (dc : Cell) (hD : Sta Z Z.heap "java/util/ArrayList" "DEFAULTCAPACITY_EMPTY_ELEMENTDATA" "[Ljava/lang/Object;" (.ref de)) (hA : Arr Z Z.heap de dc (.object "java/lang/Object")) (hA0 : dc.slots.size.toInt32 = 0) (a : Addr) (mc : Int32) (h0 : Heap) (F : List HRow) (H00 : Hp Z n0 h0 ((a, ObC Z "java/util/ArrayList" (fs_ArrayList (.int mc) (.ref de) (.int (0 : Int32)))) :: F)) :
    Con l Z n0 ⟨"java/util/ArrayList", "grow", "()[Ljava/lang/Object;"⟩ [] jdk_38_method_7_code 1 (some (.array (.object "java/lang/Object"))) ({ frames := 2, cells := 1, slots := 10, locals := 29 } : Room) #[.ref a] h0 (fun v h => ∃ el, v = some (.ref el) ∧ Hp Z n0 h ((el, RaC Z "java/lang/Object" (List.replicate 10 Value.null)) :: (a, ObC Z "java/util/ArrayList" (fs_ArrayList (.int mc) (.ref el) (.int (0 : Int32)))) :: F)) := by
  refine con_of pf_42 ?_
  intro p e s m below meth c T0 W0 e0
  subst e0
  have H0 := H00
  refine g_cast (ef_r1 m a) ?_
  refine g_aloadN W0 d42_0 (pc' := 1) rfl rfl rfl ?_
  refine g_aloadN W0 d42_1 (pc' := 2) rfl rfl rfl ?_
  refine g_getf W0 (wd_82 hw) Via.refl H0 (i := 0) rfl (jx := 2) rfl d42_2 (pc' := 5) rfl ?_
  intro T1 W1 H1
  refine g_iconst W1 d42_5 (pc' := 6) rfl (v := (1 : Int32)) (by decide) ?_
  refine g_iadd W1 d42_6 (pc' := 7) rfl (v := (1 : Int32)) (by decide) ?_
  refine g_callP W1 (argsL := [.int (1 : Int32)]) (st := []) (wd_310 hw) (wd_311 hw) (wd_312 hw) (wd_43 hw) (wd_44 hw) (wd_314 hw) (by decide) (a := a) H1 (i := 0) rfl (c_growI l Z a0 hw n0 de dc hD hA hA0 a mc _ _ H1) pd_8 rfl rfl rfl d42_7 (pc' := 10) rfl (by decide) (Wn := 0) (Nat.le_of_eq rfl) (by decide) (kc' := 1) (ks' := 10) rfl rfl (by decide) (by decide) ?_
  intro T2 v2 W2 hp2
  obtain ⟨e1, rfl, H2⟩ := hp2
  show Goes _ _ _ _ (State.setTop _ (mkF _ _ _ [.ref e1]))
  exact g_areturn W2 rfl rfl d42_10 ⟨_, rfl, H2⟩ (by decide) (by decide)
theorem c_add20 (l : Launch) (Z : State) (a0 : Array Value) (hw : ∀ d ∈ tables_1, d.before a0 Z = true) (n0 : Nat) (de : Addr) (dc : Cell) (hD : Sta Z Z.heap "java/util/ArrayList" "DEFAULTCAPACITY_EMPTY_ELEMENTDATA" "[Ljava/lang/Object;" (.ref de)) (hA : Arr Z Z.heap de dc (.object "java/lang/Object")) (hA0 : dc.slots.size.toInt32 = 0) (a : Addr) (mc : Int32) (F : List HRow) (d : Addr) (dfs : List FR) (hd : (d, ObC Z "com/example/inq2/inq2/ScoredDocument" dfs) ∈ F)  (h0 : Heap) (H00 : Hp Z n0 h0 ((a, ObC Z "java/util/ArrayList" (fs_ArrayList (.int mc) (.ref de) (.int (0 : Int32)))) :: F)) :
    Con l Z n0 ⟨"java/util/ArrayList", "add", "(Ljava/lang/Object;[Ljava/lang/Object;I)V"⟩ [] jdk_38_method_24_code 4 none ({ frames := 3, cells := 1, slots := 10, locals := 41 } : Room) #[.ref a, .ref d, .ref de, .int (0 : Int32)] h0 (fun v h => ∃ el, v = none ∧ Hp Z n0 h ((el, RaC Z "java/lang/Object" ((List.replicate 10 Value.null).set 0 (.ref d))) :: (a, ObC Z "java/util/ArrayList" (fs_ArrayList (.int mc) (.ref el) (.int (1 : Int32)))) :: F)) := by
  refine con_of pf_41 ?_
  intro p e s m below meth c T0 W0 e0
  subst e0
  have H0 := H00
  refine g_cast (ef_rrri4 m a d de (0 : Int32)) ?_
  refine g_iloadN W0 d41_0 (pc' := 1) rfl rfl ?_
  refine g_aloadN W0 d41_1 (pc' := 2) rfl rfl rfl ?_
  refine g_arrlenF W0 (cl := dc) ⟨H0.old.2 _ _ hA.1, hA.2⟩ (x := (0 : Int32)) hA0 d41_2 (pc' := 3) rfl ?_
  refine g_icmp W0 d41_3 (pcy := 11) (by decide) (pc' := 6) rfl (fun (h : ¬ (0 : Int32) = (0 : Int32)) => absurd h (by decide)) (fun _ => ?_)
  refine g_aloadN W0 d41_6 (pc' := 7) rfl rfl rfl ?_
  refine g_callP W0 (argsL := []) (st := []) (wd_305 hw) (wd_306 hw) (wd_307 hw) (wd_43 hw) (wd_44 hw) (wd_309 hw) (by decide) (a := a) H0 (i := 0) rfl (c_grow l Z a0 hw n0 de dc hD hA hA0 a mc _ _ H0) pd_9 rfl rfl rfl d41_7 (pc' := 10) rfl (by decide) (Wn := 0) (Nat.le_of_eq rfl) (by decide) (kc' := 1) (ks' := 10) rfl rfl (by decide) (by decide) ?_
  intro T1 v1 W1 hp1
  obtain ⟨e1, rfl, H1⟩ := hp1
  show Goes _ _ _ _ (State.setTop _ (mkF _ _ _ [.ref e1]))
  refine g_astoreN W1 d41_10 (pc' := 11) rfl rfl (ls' := #[.val (.ref a), .val (.ref d), .val (.ref e1), .val (.int (0 : Int32))]) rfl ?_
  refine g_aloadN W1 d41_11 (pc' := 12) rfl rfl rfl ?_
  refine g_iloadN W1 d41_12 (pc' := 13) rfl rfl ?_
  refine g_aloadN W1 d41_13 (pc' := 14) rfl rfl rfl ?_
  refine g_aastore W1 H1 (i := 0) rfl (Ins.of_exa (H1.exam (mc2 hd)) (wd_321 hw)) (jx := 0) (by decide) (by decide) d41_14 (pc' := 15) rfl (L' := ((e1, RaC Z "java/lang/Object" ((List.replicate 10 Value.null).set 0 (.ref d))) :: (a, ObC Z "java/util/ArrayList" (fs_ArrayList (.int mc) (.ref e1) (.int (0 : Int32)))) :: F)) rfl ?_
  intro T2 W2 H2
  refine g_aloadN W2 d41_15 (pc' := 16) rfl rfl rfl ?_
  refine g_iloadN W2 d41_16 (pc' := 17) rfl rfl ?_
  refine g_iconst W2 d41_17 (pc' := 18) rfl (v := (1 : Int32)) (by decide) ?_
  refine g_iadd W2 d41_18 (pc' := 19) rfl (v := (1 : Int32)) (by decide) ?_
  refine g_putf W2 (wd_82 hw) Via.refl (Or.inl (wd_83 hw)) (wd_43 hw) (ty := .int) (by decide) rfl rfl H2 (i := 1) rfl (jx := 2) rfl d41_19 (pc' := 22) rfl (L' := ((e1, RaC Z "java/lang/Object" ((List.replicate 10 Value.null).set 0 (.ref d))) :: (a, ObC Z "java/util/ArrayList" (fs_ArrayList (.int mc) (.ref e1) (.int (1 : Int32)))) :: F)) rfl ?_
  intro T3 W3 H3
  exact g_return W3 d41_22 ⟨_, rfl, H3⟩ (by decide) (by decide)
theorem c_add10 (l : Launch) (Z : State) (a0 : Array Value) (hw : ∀ d ∈ tables_1, d.before a0 Z = true) (n0 : Nat) (de : Addr) (dc : Cell) (hD : Sta Z Z.heap "java/util/ArrayList" "DEFAULTCAPACITY_EMPTY_ELEMENTDATA" "[Ljava/lang/Object;" (.ref de)) (hA : Arr Z Z.heap de dc (.object "java/lang/Object")) (hA0 : dc.slots.size.toInt32 = 0) (a : Addr) (mc : Int32) (F : List HRow) (d : Addr) (dfs : List FR) (hd : (d, ObC Z "com/example/inq2/inq2/ScoredDocument" dfs) ∈ F)  (h0 : Heap) (H00 : Hp Z n0 h0 ((a, ObC Z "java/util/ArrayList" (fs_ArrayList (.int mc) (.ref de) (.int (0 : Int32)))) :: F)) :
    Con l Z n0 ⟨"java/util/ArrayList", "add", "(Ljava/lang/Object;)Z"⟩ [] jdk_38_method_25_code 2 (some .boolean) ({ frames := 4, cells := 1, slots := 10, locals := 56 } : Room) #[.ref a, .ref d] h0 (fun v h => ∃ el, v = some (.int 1) ∧ Hp Z n0 h ((el, RaC Z "java/lang/Object" ((List.replicate 10 Value.null).set 0 (.ref d))) :: (a, ObC Z "java/util/ArrayList" (fs_ArrayList (.int (mc + (1 : Int32))) (.ref el) (.int (1 : Int32)))) :: F)) := by
  refine con_of pf_40 ?_
  intro p e s m below meth c T0 W0 e0
  subst e0
  have H0 := H00
  refine g_cast (ef_rr2 m a d) ?_
  refine g_aloadN W0 d40_0 (pc' := 1) rfl rfl rfl ?_
  refine g_dup W0 d40_1 (pc' := 2) rfl rfl ?_
  refine g_getf W0 (wd_298 hw) (Via.of (wd_299 hw)) H0 (i := 0) rfl (jx := 0) rfl d40_2 (pc' := 5) rfl ?_
  intro T1 W1 H1
  refine g_iconst W1 d40_5 (pc' := 6) rfl (v := (1 : Int32)) (by decide) ?_
  refine g_iadd W1 d40_6 (pc' := 7) rfl rfl ?_
  refine g_putf W1 (wd_298 hw) (Via.of (wd_299 hw)) (Or.inl (wd_62 hw)) (wd_43 hw) (ty := .int) (by decide) rfl rfl H1 (i := 0) rfl (jx := 0) rfl d40_7 (pc' := 10) rfl (L' := ((a, ObC Z "java/util/ArrayList" (fs_ArrayList (.int (mc + (1 : Int32))) (.ref de) (.int (0 : Int32)))) :: F)) rfl ?_
  intro T2 W2 H2
  refine g_aloadN W2 d40_10 (pc' := 11) rfl rfl rfl ?_
  refine g_aloadN W2 d40_11 (pc' := 12) rfl rfl rfl ?_
  refine g_aloadN W2 d40_12 (pc' := 13) rfl rfl rfl ?_
  refine g_getf W2 (wd_64 hw) Via.refl H2 (i := 0) rfl (jx := 1) rfl d40_13 (pc' := 16) rfl ?_
  intro T3 W3 H3
  refine g_aloadN W3 d40_16 (pc' := 17) rfl rfl rfl ?_
  refine g_getf W3 (wd_82 hw) Via.refl H3 (i := 0) rfl (jx := 2) rfl d40_17 (pc' := 20) rfl ?_
  intro T4 W4 H4
  refine g_callP W4 (argsL := [.ref d, .ref de, .int (0 : Int32)]) (st := []) (wd_300 hw) (wd_301 hw) (wd_302 hw) (wd_43 hw) (wd_44 hw) (wd_304 hw) (by decide) (a := a) H4 (i := 0) rfl (c_add20 l Z a0 hw n0 de dc hD hA hA0 a (mc + (1 : Int32)) _ d dfs hd _ H4) pd_10 rfl rfl rfl d40_20 (pc' := 23) rfl (by decide) (Wn := 0) (Nat.le_of_eq rfl) (by decide) (kc' := 1) (ks' := 10) rfl rfl (by decide) (by decide) ?_
  intro T5 v5 W5 hp5
  obtain ⟨e1, rfl, H5⟩ := hp5
  show Goes _ _ _ _ (State.setTop _ (mkF _ _ _ []))
  refine g_iconst W5 d40_23 (pc' := 24) rfl (v := (1 : Int32)) (by decide) ?_
  exact g_zreturn W5 (by decide) d40_24 ⟨_, rfl, H5⟩ (by decide) (by decide)
theorem c_add21 (l : Launch) (Z : State) (a0 : Array Value) (hw : ∀ d ∈ tables_1, d.before a0 Z = true) (n0 : Nat) (a : Addr) (mc : Int32) (F : List HRow) (d : Addr) (dfs : List FR) (hd : (d, ObC Z "com/example/inq2/inq2/ScoredDocument" dfs) ∈ F) (el : Addr) (vs : List Value) (sz : Int32) (jx : Nat) (hlen : vs.length.toInt32 = 10) (hne : ¬ sz = 10) (hjx : sz.toInt = (jx : Int)) (hlt : jx < vs.length)  (h0 : Heap) (H00 : Hp Z n0 h0 ((a, ObC Z "java/util/ArrayList" (fs_ArrayList (.int mc) (.ref el) (.int sz))) :: (el, RaC Z "java/lang/Object" vs) :: F)) :
    Con l Z n0 ⟨"java/util/ArrayList", "add", "(Ljava/lang/Object;[Ljava/lang/Object;I)V"⟩ [] jdk_38_method_24_code 4 none ({ frames := 0, cells := 0, slots := 0, locals := 0 } : Room) #[.ref a, .ref d, .ref el, .int sz] h0 (fun v h => v = none ∧ Hp Z n0 h ((a, ObC Z "java/util/ArrayList" (fs_ArrayList (.int mc) (.ref el) (.int (sz + (1 : Int32))))) :: (el, RaC Z "java/lang/Object" (vs.set jx (.ref d))) :: F)) := by
  refine con_of pf_41 ?_
  intro p e s m below meth c T0 W0 e0
  subst e0
  have H0 := H00
  refine g_cast (ef_rrri4 m a d el sz) ?_
  refine g_iloadN W0 d41_0 (pc' := 1) rfl rfl ?_
  refine g_aloadN W0 d41_1 (pc' := 2) rfl rfl rfl ?_
  refine g_arrlenR W0 H0 (i := 1) rfl (x := (10 : Int32)) hlen d41_2 (pc' := 3) rfl ?_
  refine g_icmp W0 d41_3 (pcy := 11) (by decide) (pc' := 6) rfl (fun (_ : ¬ sz = (10 : Int32)) => ?_) (fun (h : ¬ ¬ sz = (10 : Int32)) => absurd hne h)
  refine g_aloadN W0 d41_11 (pc' := 12) rfl rfl rfl ?_
  refine g_iloadN W0 d41_12 (pc' := 13) rfl rfl ?_
  refine g_aloadN W0 d41_13 (pc' := 14) rfl rfl rfl ?_
  refine g_aastore W0 H0 (i := 1) rfl (Ins.of_exa (H0.exam (mc2 hd)) (wd_321 hw)) (jx := jx) hjx hlt d41_14 (pc' := 15) rfl (L' := ((a, ObC Z "java/util/ArrayList" (fs_ArrayList (.int mc) (.ref el) (.int sz))) :: (el, RaC Z "java/lang/Object" (vs.set jx (.ref d))) :: F)) rfl ?_
  intro T1 W1 H1
  refine g_aloadN W1 d41_15 (pc' := 16) rfl rfl rfl ?_
  refine g_iloadN W1 d41_16 (pc' := 17) rfl rfl ?_
  refine g_iconst W1 d41_17 (pc' := 18) rfl (v := (1 : Int32)) (by decide) ?_
  refine g_iadd W1 d41_18 (pc' := 19) rfl rfl ?_
  refine g_putf W1 (wd_82 hw) Via.refl (Or.inl (wd_83 hw)) (wd_43 hw) (ty := .int) (by decide) rfl rfl H1 (i := 0) rfl (jx := 2) rfl d41_19 (pc' := 22) rfl (L' := ((a, ObC Z "java/util/ArrayList" (fs_ArrayList (.int mc) (.ref el) (.int (sz + (1 : Int32))))) :: (el, RaC Z "java/lang/Object" (vs.set jx (.ref d))) :: F)) rfl ?_
  intro T2 W2 H2
  exact g_return W2 d41_22 ⟨rfl, H2⟩ (by decide) (by decide)
theorem c_add11 (l : Launch) (Z : State) (a0 : Array Value) (hw : ∀ d ∈ tables_1, d.before a0 Z = true) (n0 : Nat) (a : Addr) (mc : Int32) (F : List HRow) (d : Addr) (dfs : List FR) (hd : (d, ObC Z "com/example/inq2/inq2/ScoredDocument" dfs) ∈ F) (el : Addr) (vs : List Value) (sz : Int32) (jx : Nat) (hlen : vs.length.toInt32 = 10) (hne : ¬ sz = 10) (hjx : sz.toInt = (jx : Int)) (hlt : jx < vs.length)  (h0 : Heap) (H00 : Hp Z n0 h0 ((a, ObC Z "java/util/ArrayList" (fs_ArrayList (.int mc) (.ref el) (.int sz))) :: (el, RaC Z "java/lang/Object" vs) :: F)) :
    Con l Z n0 ⟨"java/util/ArrayList", "add", "(Ljava/lang/Object;)Z"⟩ [] jdk_38_method_25_code 2 (some .boolean) ({ frames := 1, cells := 0, slots := 0, locals := 15 } : Room) #[.ref a, .ref d] h0 (fun v h => v = some (.int 1) ∧ Hp Z n0 h ((a, ObC Z "java/util/ArrayList" (fs_ArrayList (.int (mc + (1 : Int32))) (.ref el) (.int (sz + (1 : Int32))))) :: (el, RaC Z "java/lang/Object" (vs.set jx (.ref d))) :: F)) := by
  refine con_of pf_40 ?_
  intro p e s m below meth c T0 W0 e0
  subst e0
  have H0 := H00
  refine g_cast (ef_rr2 m a d) ?_
  refine g_aloadN W0 d40_0 (pc' := 1) rfl rfl rfl ?_
  refine g_dup W0 d40_1 (pc' := 2) rfl rfl ?_
  refine g_getf W0 (wd_298 hw) (Via.of (wd_299 hw)) H0 (i := 0) rfl (jx := 0) rfl d40_2 (pc' := 5) rfl ?_
  intro T1 W1 H1
  refine g_iconst W1 d40_5 (pc' := 6) rfl (v := (1 : Int32)) (by decide) ?_
  refine g_iadd W1 d40_6 (pc' := 7) rfl rfl ?_
  refine g_putf W1 (wd_298 hw) (Via.of (wd_299 hw)) (Or.inl (wd_62 hw)) (wd_43 hw) (ty := .int) (by decide) rfl rfl H1 (i := 0) rfl (jx := 0) rfl d40_7 (pc' := 10) rfl (L' := ((a, ObC Z "java/util/ArrayList" (fs_ArrayList (.int (mc + (1 : Int32))) (.ref el) (.int sz))) :: (el, RaC Z "java/lang/Object" vs) :: F)) rfl ?_
  intro T2 W2 H2
  refine g_aloadN W2 d40_10 (pc' := 11) rfl rfl rfl ?_
  refine g_aloadN W2 d40_11 (pc' := 12) rfl rfl rfl ?_
  refine g_aloadN W2 d40_12 (pc' := 13) rfl rfl rfl ?_
  refine g_getf W2 (wd_64 hw) Via.refl H2 (i := 0) rfl (jx := 1) rfl d40_13 (pc' := 16) rfl ?_
  intro T3 W3 H3
  refine g_aloadN W3 d40_16 (pc' := 17) rfl rfl rfl ?_
  refine g_getf W3 (wd_82 hw) Via.refl H3 (i := 0) rfl (jx := 2) rfl d40_17 (pc' := 20) rfl ?_
  intro T4 W4 H4
  refine g_callP W4 (argsL := [.ref d, .ref el, .int sz]) (st := []) (wd_300 hw) (wd_301 hw) (wd_302 hw) (wd_43 hw) (wd_44 hw) (wd_304 hw) (by decide) (a := a) H4 (i := 0) rfl (c_add21 l Z a0 hw n0 a (mc + (1 : Int32)) _ d dfs hd el vs sz jx hlen hne hjx hlt _ H4) pd_10 rfl rfl rfl d40_20 (pc' := 23) rfl (by decide) (Wn := 0) (Nat.le_of_eq rfl) (by decide) (kc' := 0) (ks' := 0) rfl rfl (by decide) (by decide) ?_
  intro T5 v5 W5 hp5
  obtain ⟨rfl, H5⟩ := hp5
  show Goes _ _ _ _ (State.setTop _ (mkF _ _ _ []))
  refine g_iconst W5 d40_23 (pc' := 24) rfl (v := (1 : Int32)) (by decide) ?_
  exact g_zreturn W5 (by decide) d40_24 ⟨rfl, H5⟩ (by decide) (by decide)
theorem c_size (l : Launch) (Z : State) (a0 : Array Value) (hw : ∀ d ∈ tables_1, d.before a0 Z = true) (n0 : Nat) (a el : Addr) (mc sz : Int32) (h0 : Heap) (F : List HRow) (H00 : Hp Z n0 h0 ((a, ObC Z "java/util/ArrayList" (fs_ArrayList (.int mc) (.ref el) (.int sz))) :: F)) :
    Con l Z n0 ⟨"java/util/ArrayList", "size", "()I"⟩ [] jdk_38_method_8_code 1 (some .int) ({ frames := 0, cells := 0, slots := 0, locals := 0 } : Room) #[.ref a] h0 (fun v h => v = some (.int sz) ∧ Hp Z n0 h ((a, ObC Z "java/util/ArrayList" (fs_ArrayList (.int mc) (.ref el) (.int sz))) :: F)) := by
  refine con_of pf_12 ?_
  intro p e s m below meth c T0 W0 e0
  subst e0
  have H0 := H00
  refine g_cast (ef_r1 m a) ?_
  refine g_aloadN W0 d12_0 (pc' := 1) rfl rfl rfl ?_
  refine g_getf W0 (wd_82 hw) Via.refl H0 (i := 0) rfl (jx := 2) rfl d12_1 (pc' := 4) rfl ?_
  intro T1 W1 H1
  exact g_ireturn W1 d12_4 ⟨rfl, H1⟩ (by decide) (by decide)
theorem c_prei (l : Launch) (Z : State) (a0 : Array Value) (hw : ∀ d ∈ tables_1, d.before a0 Z = true) (n0 : Nat) (i n : Int32) (hi0 : ¬ i < 0) (hlt : i < n) (h0 : Heap) (F : List HRow) (H00 : Hp Z n0 h0 F) :
    Con l Z n0 ⟨"jdk/internal/util/Preconditions", "checkIndex", "(IILjava/util/function/BiFunction;)I"⟩ [] jdk_41_method_11_code 3 (some .int) ({ frames := 0, cells := 0, slots := 0, locals := 0 } : Room) #[.int i, .int n, .null] h0 (fun v h => v = some (.int i) ∧ Hp Z n0 h F) := by
  refine con_of (plainFor_of_name pn_Preconditions) ?_
  intro p e s m below meth c T0 W0 e0
  subst e0
  have H0 := H00
  refine g_cast (ef_iin3 m i n) ?_
  refine g_iloadN W0 d47_0 (pc' := 1) rfl rfl ?_
  refine g_if W0 d47_1 (pcy := 9) (by decide) (pc' := 4) rfl (fun (h : i < (0 : Int32)) => absurd h hi0) (fun (_ : ¬ i < (0 : Int32)) => ?_)
  refine g_iloadN W0 d47_4 (pc' := 5) rfl rfl ?_
  refine g_iloadN W0 d47_5 (pc' := 6) rfl rfl ?_
  refine g_icmp W0 d47_6 (pcy := 16) (by decide) (pc' := 9) rfl (fun (_ : i < n) => ?_) (fun (h : ¬ i < n) => absurd hlt h)
  refine g_iloadN W0 d47_16 (pc' := 17) rfl rfl ?_
  exact g_ireturn W0 d47_17 ⟨rfl, H0⟩ (by decide) (by decide)
theorem c_chk (l : Launch) (Z : State) (a0 : Array Value) (hw : ∀ d ∈ tables_1, d.before a0 Z = true) (n0 : Nat) (i n : Int32) (hi0 : ¬ i < 0) (hlt : i < n) (h0 : Heap) (F : List HRow) (H00 : Hp Z n0 h0 F) :
    Con l Z n0 ⟨"java/util/Objects", "checkIndex", "(II)I"⟩ [] jdk_31_method_17_code 2 (some .int) ({ frames := 1, cells := 0, slots := 0, locals := 14 } : Room) #[.int i, .int n] h0 (fun v h => v = some (.int i) ∧ Hp Z n0 h F) := by
  refine con_of pf_46 ?_
  intro p e s m below meth c T0 W0 e0
  subst e0
  have H0 := H00
  refine g_cast (ef_ii2 m i n) ?_
  refine g_iloadN W0 d46_0 (pc' := 1) rfl rfl ?_
  refine g_iloadN W0 d46_1 (pc' := 2) rfl rfl ?_
  refine g_aconst_null W0 d46_2 (pc' := 3) rfl ?_
  refine g_callS W0 (argsL := [.int i, .int n, .null]) (st := []) (wd_335 hw) (wd_336 hw) (wd_337 hw) (wd_338 hw) (by decide) (c_prei l Z a0 hw n0 i n hi0 hlt _ _ H0) pd_11 rfl rfl rfl d46_3 (pc' := 6) rfl (by decide) (Wn := 0) (Nat.le_of_eq rfl) (by decide) (kc' := 0) (ks' := 0) rfl rfl (by decide) (by decide) ?_
  intro T1 v1 W1 hp1
  obtain ⟨rfl, H1⟩ := hp1
  show Goes _ _ _ _ (State.setTop _ (mkF _ _ _ [.int i]))
  exact g_ireturn W1 d46_6 ⟨rfl, H1⟩ (by decide) (by decide)
theorem c_eld (l : Launch) (Z : State) (a0 : Array Value) (hw : ∀ d ∈ tables_1, d.before a0 Z = true) (n0 : Nat) (a el : Addr) (mc sz i : Int32) (vs : List Value) (d : Addr) (jx : Nat) (hjx : i.toInt = (jx : Int)) (hv : vs[jx]? = some (.ref d)) (h0 : Heap) (F : List HRow) (H00 : Hp Z n0 h0 ((a, ObC Z "java/util/ArrayList" (fs_ArrayList (.int mc) (.ref el) (.int sz))) :: (el, RaC Z "java/lang/Object" vs) :: F)) :
    Con l Z n0 ⟨"java/util/ArrayList", "elementData", "(I)Ljava/lang/Object;"⟩ [] jdk_38_method_18_code 2 (some (.object "java/lang/Object")) ({ frames := 0, cells := 0, slots := 0, locals := 0 } : Room) #[.ref a, .int i] h0 (fun v h => v = some (.ref d) ∧ Hp Z n0 h ((a, ObC Z "java/util/ArrayList" (fs_ArrayList (.int mc) (.ref el) (.int sz))) :: (el, RaC Z "java/lang/Object" vs) :: F)) := by
  refine con_of pf_48 ?_
  intro p e s m below meth c T0 W0 e0
  subst e0
  have H0 := H00
  refine g_cast (ef_ri2 m a i) ?_
  refine g_aloadN W0 d48_0 (pc' := 1) rfl rfl rfl ?_
  refine g_getf W0 (wd_64 hw) Via.refl H0 (i := 0) rfl (jx := 1) rfl d48_1 (pc' := 4) rfl ?_
  intro T1 W1 H1
  refine g_iloadN W1 d48_4 (pc' := 5) rfl rfl ?_
  refine g_aaload W1 H1 (i := 1) rfl (jx := jx) hjx (v := .ref d) hv d48_5 (pc' := 6) rfl ?_
  exact g_areturn W1 rfl rfl d48_6 ⟨rfl, H1⟩ (by decide) (by decide)
theorem c_get (l : Launch) (Z : State) (a0 : Array Value) (hw : ∀ d ∈ tables_1, d.before a0 Z = true) (n0 : Nat) (a el : Addr) (mc sz i : Int32) (vs : List Value) (d : Addr) (jx : Nat) (hjx : i.toInt = (jx : Int)) (hv : vs[jx]? = some (.ref d)) (hi0 : ¬ i < 0) (hlt : i < sz) (h0 : Heap) (F : List HRow) (H00 : Hp Z n0 h0 ((a, ObC Z "java/util/ArrayList" (fs_ArrayList (.int mc) (.ref el) (.int sz))) :: (el, RaC Z "java/lang/Object" vs) :: F)) :
    Con l Z n0 ⟨"java/util/ArrayList", "get", "(I)Ljava/lang/Object;"⟩ [] jdk_38_method_20_code 2 (some (.object "java/lang/Object")) ({ frames := 2, cells := 0, slots := 0, locals := 27 } : Room) #[.ref a, .int i] h0 (fun v h => v = some (.ref d) ∧ Hp Z n0 h ((a, ObC Z "java/util/ArrayList" (fs_ArrayList (.int mc) (.ref el) (.int sz))) :: (el, RaC Z "java/lang/Object" vs) :: F)) := by
  refine con_of pf_45 ?_
  intro p e s m below meth c T0 W0 e0
  subst e0
  have H0 := H00
  refine g_cast (ef_ri2 m a i) ?_
  refine g_iloadN W0 d45_0 (pc' := 1) rfl rfl ?_
  refine g_aloadN W0 d45_1 (pc' := 2) rfl rfl rfl ?_
  refine g_getf W0 (wd_82 hw) Via.refl H0 (i := 0) rfl (jx := 2) rfl d45_2 (pc' := 5) rfl ?_
  intro T1 W1 H1
  refine g_callS W1 (argsL := [.int i, .int sz]) (st := []) (wd_331 hw) (wd_332 hw) (wd_333 hw) (wd_334 hw) (by decide) (c_chk l Z a0 hw n0 i sz hi0 hlt _ _ H1) pd_7 rfl rfl rfl d45_5 (pc' := 8) rfl (by decide) (Wn := 0) (Nat.le_of_eq rfl) (by decide) (kc' := 0) (ks' := 0) rfl rfl (by decide) (by decide) ?_
  intro T2 v2 W2 hp2
  obtain ⟨rfl, H2⟩ := hp2
  show Goes _ _ _ _ (State.setTop _ (mkF _ _ _ [.int i]))
  refine g_pop W2 d45_8 (pc' := 9) rfl rfl ?_
  refine g_aloadN W2 d45_9 (pc' := 10) rfl rfl rfl ?_
  refine g_iloadN W2 d45_10 (pc' := 11) rfl rfl ?_
  refine g_callV W2 (argsL := [.int i]) (st := []) (wd_339 hw) (wd_340 hw) (wd_342 hw) (wd_341 hw) (wd_44 hw) (wd_343 hw) (by decide) (a := a) H2 (i := 0) rfl (c_eld l Z a0 hw n0 a el mc sz i vs d jx hjx hv _ _ H2) pd_12 rfl rfl rfl d45_11 (pc' := 14) rfl (by decide) (Wn := 0) (Nat.le_of_eq rfl) (by decide) (kc' := 0) (ks' := 0) rfl rfl (by decide) (by decide) ?_
  intro T3 v3 W3 hp3
  obtain ⟨rfl, H3⟩ := hp3
  show Goes _ _ _ _ (State.setTop _ (mkF _ _ _ [.ref d]))
  exact g_areturn W3 rfl rfl d45_14 ⟨rfl, H3⟩ (by decide) (by decide)
theorem c_num (l : Launch) (Z : State) (a0 : Array Value) (hw : ∀ d ∈ tables_1, d.before a0 Z = true) (n0 : Nat) (a : Addr) (h0 : Heap) (F : List HRow) (H00 : Hp Z n0 h0 F) :
    Con l Z n0 ⟨"java/lang/Number", "<init>", "()V"⟩ [] jdk_18_method_1_code 1 none ({ frames := 1, cells := 0, slots := 0, locals := 12 } : Room) #[.ref a] h0 (fun v h => v = none ∧ Hp Z n0 h F) := by
  refine con_of pf_56 ?_
  intro p e s m below meth c T0 W0 e0
  subst e0
  have H0 := H00
  refine g_cast (ef_r1 m a) ?_
  refine g_aloadN W0 d56_0 (pc' := 1) rfl rfl rfl ?_
  refine g_initO W0 (wd_405 hw) (wd_20 hw) (wd_21 hw) H0 rfl d56_1 (pc' := 4) rfl (by decide) (Wn := 0) (Nat.le_of_eq rfl) (by decide) ?_
  intro T1 W1 H1
  exact g_return W1 d56_4 ⟨rfl, H1⟩ (by decide) (by decide)
theorem c_iini (l : Launch) (Z : State) (a0 : Array Value) (hw : ∀ d ∈ tables_1, d.before a0 Z = true) (n0 : Nat) (a : Addr) (x : Int32) (h0 : Heap) (F : List HRow) (H00 : Hp Z n0 h0 ((a, ObC Z "java/lang/Integer" (fs_Integer (.int (0 : Int32)))) :: F)) :
    Con l Z n0 ⟨"java/lang/Integer", "<init>", "(I)V"⟩ [] jdk_33_method_23_code 2 none ({ frames := 2, cells := 0, slots := 0, locals := 24 } : Room) #[.ref a, .int x] h0 (fun v h => v = none ∧ Hp Z n0 h ((a, ObC Z "java/lang/Integer" (fs_Integer (.int x))) :: F)) := by
  refine con_of pf_55 ?_
  intro p e s m below meth c T0 W0 e0
  subst e0
  have H0 := H00
  refine g_cast (ef_ri2 m a x) ?_
  refine g_aloadN W0 d55_0 (pc' := 1) rfl rfl rfl ?_
  refine g_callI W0 (argsL := []) (st := []) rfl (wd_399 hw) (wd_400 hw) (wd_403 hw) (wd_404 hw) (by decide) (a := a) (c_num l Z a0 hw n0 a _ _ H0) pd_6 rfl rfl rfl d55_1 (pc' := 4) rfl (by decide) (Wn := 0) (Nat.le_of_eq rfl) (by decide) (kc' := 0) (ks' := 0) rfl rfl (by decide) (by decide) ?_
  intro T1 v1 W1 hp1
  obtain ⟨rfl, H1⟩ := hp1
  show Goes _ _ _ _ (State.setTop _ (mkF _ _ _ []))
  refine g_aloadN W1 d55_4 (pc' := 5) rfl rfl rfl ?_
  refine g_iloadN W1 d55_5 (pc' := 6) rfl rfl ?_
  refine g_putf W1 (wd_375 hw) Via.refl (Or.inr ⟨(wd_376 hw), rfl, rfl⟩) (wd_395 hw) (ty := .int) (by decide) rfl rfl H1 (i := 0) rfl (jx := 0) rfl d55_6 (pc' := 9) rfl (L' := ((a, ObC Z "java/lang/Integer" (fs_Integer (.int x))) :: F)) rfl ?_
  intro T2 W2 H2
  exact g_return W2 d55_9 ⟨rfl, H2⟩ (by decide) (by decide)
theorem c_ival (l : Launch) (Z : State) (a0 : Array Value) (hw : ∀ d ∈ tables_1, d.before a0 Z = true) (n0 : Nat) (ca : Addr) (cc : Cell) (hH : Sta Z Z.heap "java/lang/Integer$IntegerCache" "high" "I" (.int 127)) (hCa : Sta Z Z.heap "java/lang/Integer$IntegerCache" "cache" "[Ljava/lang/Integer;" (.ref ca)) (hB : Bxs Z ca cc "java/lang/Integer" "I" (256 : Int32) (fun j => .int (j - 128))) (x : Int32) (h0 : Heap) (F : List HRow) (H00 : Hp Z n0 h0 F) :
    Con l Z n0 ⟨"java/lang/Integer", "valueOf", "(I)Ljava/lang/Integer;"⟩ [] jdk_33_method_22_code 1 (some (.object "java/lang/Integer")) ({ frames := 3, cells := 1, slots := 1, locals := 38 } : Room) #[.int x] h0 (fun v h => ∃ a G, v = some (.ref a) ∧ Hp Z n0 h (G ++ F) ∧ IntF Z n0 G a x) := by
  refine con_of pf_28 ?_
  intro p e s m below meth c T0 W0 e0
  subst e0
  have H0 := H00
  refine g_cast (ef_i1 m x) ?_
  refine g_iloadN W0 d28_0 (pc' := 1) rfl rfl ?_
  refine g_bipush W0 d28_1 (pc' := 3) rfl (v := (-128 : Int32)) (by decide) ?_
  refine g_icmp W0 d28_3 (pcy := 23) (by decide) (pc' := 6) rfl (fun (c1 : x < (-128 : Int32)) => ?_) (fun (c1 : ¬ x < (-128 : Int32)) => ?_)
  · refine g_new W0 (wd_394 hw) (wd_395 hw) (wd_209 hw) (la_Integer hw) (by decide) H0 d28_23 (pc' := 26) rfl (kc' := 1) (ks' := 1) rfl rfl (by decide) (by decide) ?_
    intro T2 a2 W2 H2
    refine g_dup W2 d28_26 (pc' := 27) rfl rfl ?_
    refine g_iloadN W2 d28_27 (pc' := 28) rfl rfl ?_
    refine g_callI W2 (argsL := [.int x]) (st := [.ref a2]) rfl (wd_396 hw) (wd_397 hw) (wd_209 hw) (wd_398 hw) (by decide) (a := a2) (c_iini l Z a0 hw n0 a2 x _ _ H2) pd_13 rfl rfl rfl d28_28 (pc' := 31) rfl (by decide) (Wn := 1) (Nat.le_of_eq rfl) (by decide) (kc' := 1) (ks' := 1) rfl rfl (by decide) (by decide) ?_
    intro T3 v3 W3 hp3
    obtain ⟨rfl, H3⟩ := hp3
    show Goes _ _ _ _ (State.setTop _ (mkF _ _ _ [.ref a2]))
    exact g_areturn W3 rfl rfl d28_31 ⟨a2, [(a2, ObC Z "java/lang/Integer" (fs_Integer (.int x)))], rfl, H3, fun h L H z => ⟨H.exam (z _ (List.mem_singleton.mpr rfl)), H.fldm (z _ (List.mem_singleton.mpr rfl)) (jx := 0) rfl⟩⟩ (by decide) (by decide)
  · refine g_iloadN W0 d28_6 (pc' := 7) rfl rfl ?_
    refine g_getS W0 (wd_211 hw) Via.refl hH H0 d28_7 (pc' := 10) rfl ?_
    intro T4 W4 _ H4
    refine g_icmp W4 d28_10 (pcy := 23) (by decide) (pc' := 13) rfl (fun (c5 : (127 : Int32) < x) => ?_) (fun (c5 : ¬ (127 : Int32) < x) => ?_)
    · refine g_new W4 (wd_394 hw) (wd_395 hw) (wd_209 hw) (la_Integer hw) (by decide) H4 d28_23 (pc' := 26) rfl (kc' := 1) (ks' := 1) rfl rfl (by decide) (by decide) ?_
      intro T6 a6 W6 H6
      refine g_dup W6 d28_26 (pc' := 27) rfl rfl ?_
      refine g_iloadN W6 d28_27 (pc' := 28) rfl rfl ?_
      refine g_callI W6 (argsL := [.int x]) (st := [.ref a6]) rfl (wd_396 hw) (wd_397 hw) (wd_209 hw) (wd_398 hw) (by decide) (a := a6) (c_iini l Z a0 hw n0 a6 x _ _ H6) pd_13 rfl rfl rfl d28_28 (pc' := 31) rfl (by decide) (Wn := 1) (Nat.le_of_eq rfl) (by decide) (kc' := 1) (ks' := 1) rfl rfl (by decide) (by decide) ?_
      intro T7 v7 W7 hp7
      obtain ⟨rfl, H7⟩ := hp7
      show Goes _ _ _ _ (State.setTop _ (mkF _ _ _ [.ref a6]))
      exact g_areturn W7 rfl rfl d28_31 ⟨a6, [(a6, ObC Z "java/lang/Integer" (fs_Integer (.int x)))], rfl, H7, fun h L H z => ⟨H.exam (z _ (List.mem_singleton.mpr rfl)), H.fldm (z _ (List.mem_singleton.mpr rfl)) (jx := 0) rfl⟩⟩ (by decide) (by decide)
    · refine g_getS W4 (wd_213 hw) Via.refl hCa H4 d28_13 (pc' := 16) rfl ?_
      intro T8 W8 _ H8
      refine g_iloadN W8 d28_16 (pc' := 17) rfl rfl ?_
      refine g_sipush W8 d28_17 (pc' := 20) rfl (v := (128 : Int32)) (by decide) ?_
      refine g_iadd W8 d28_20 (pc' := 21) rfl rfl ?_
      obtain ⟨b1, hb1, hb2, hb3⟩ := hB.2.2.2 (x + (128 : Int32)) (box_in c1 c5 hB.2.1)
      refine g_aaloadF W8 (cl := cc) (hB.1.ext H8.old) rfl (box_in c1 c5 hB.2.1) hb1 d28_21 (pc' := 22) rfl ?_
      exact g_areturn W8 rfl rfl d28_22 ⟨b1, [], rfl, H8, fun h L H z => ⟨hb2.ext H.old, by have q : Fld Z h b1 "java/lang/Integer" "value" "I" (.int (x + (128 : Int32) - 128)) := hb3.ext H.old; rw [box_back x] at q; exact q⟩⟩ (by decide) (by decide)
theorem c_intv (l : Launch) (Z : State) (a0 : Array Value) (hw : ∀ d ∈ tables_1, d.before a0 Z = true) (n0 : Nat) (ia : Addr) (x : Int32) (F : List HRow) (hI : IntF Z n0 F ia x) (h0 : Heap) (H00 : Hp Z n0 h0 F) :
    Con l Z n0 ⟨"java/lang/Integer", "intValue", "()I"⟩ [] jdk_33_method_27_code 1 (some .int) ({ frames := 0, cells := 0, slots := 0, locals := 0 } : Room) #[.ref ia] h0 (fun v h => v = some (.int x) ∧ Hp Z n0 h F) := by
  refine con_of pf_52 ?_
  intro p e s m below meth c T0 W0 e0
  subst e0
  have H0 := H00
  refine g_cast (ef_r1 m ia) ?_
  refine g_aloadN W0 d52_0 (pc' := 1) rfl rfl rfl ?_
  refine g_getfF W0 (wd_375 hw) Via.refl H0 (hI _ _ H0 (fun r hr => hr)).2 d52_1 (pc' := 4) rfl ?_
  intro T1 W1 _ H1
  exact g_ireturn W1 d52_4 ⟨rfl, H1⟩ (by decide) (by decide)
theorem c_am (l : Launch) (Z : State) (a0 : Array Value) (hw : ∀ d ∈ tables_1, d.before a0 Z = true) (n0 : Nat) (a : Addr) (h0 : Heap) (F : List HRow) (H00 : Hp Z n0 h0 F) :
    Con l Z n0 ⟨"java/util/AbstractMap", "<init>", "()V"⟩ [] jdk_71_method_1_code 1 none ({ frames := 1, cells := 0, slots := 0, locals := 12 } : Room) #[.ref a] h0 (fun v h => v = none ∧ Hp Z n0 h F) := by
  refine con_of pf_7 ?_
  intro p e s m below meth c T0 W0 e0
  subst e0
  have H0 := H00
  refine g_cast (ef_r1 m a) ?_
  refine g_aloadN W0 d7_0 (pc' := 1) rfl rfl rfl ?_
  refine g_initO W0 (wd_38 hw) (wd_20 hw) (wd_21 hw) H0 rfl d7_1 (pc' := 4) rfl (by decide) (Wn := 0) (Nat.le_of_eq rfl) (by decide) ?_
  intro T1 W1 H1
  exact g_return W1 d7_4 ⟨rfl, H1⟩ (by decide) (by decide)
theorem c_hmini (l : Launch) (Z : State) (a0 : Array Value) (hw : ∀ d ∈ tables_1, d.before a0 Z = true) (n0 : Nat) (a : Addr) (h0 : Heap) (F : List HRow) (H00 : Hp Z n0 h0 ((a, ObC Z "java/util/HashMap" (fs_HashMap (.float 0) (.int (0 : Int32)) .null (.int (0 : Int32)) .null (.int (0 : Int32)))) :: F)) :
    Con l Z n0 ⟨"java/util/HashMap", "<init>", "()V"⟩ [] jdk_69_method_7_code 1 none ({ frames := 2, cells := 0, slots := 0, locals := 24 } : Room) #[.ref a] h0 (fun v h => v = none ∧ Hp Z n0 h ((a, ObC Z "java/util/HashMap" (fs_HashMap (.float (1061158912 : UInt32)) (.int (0 : Int32)) .null (.int (0 : Int32)) .null (.int (0 : Int32)))) :: F)) := by
  refine con_of pf_6 ?_
  intro p e s m below meth c T0 W0 e0
  subst e0
  have H0 := H00
  refine g_cast (ef_r1 m a) ?_
  refine g_aloadN W0 d6_0 (pc' := 1) rfl rfl rfl ?_
  refine g_callI W0 (argsL := []) (st := []) rfl (wd_32 hw) (wd_33 hw) (wd_36 hw) (wd_37 hw) (by decide) (a := a) (c_am l Z a0 hw n0 a _ _ H0) pd_6 rfl rfl rfl d6_1 (pc' := 4) rfl (by decide) (Wn := 0) (Nat.le_of_eq rfl) (by decide) (kc' := 0) (ks' := 0) rfl rfl (by decide) (by decide) ?_
  intro T1 v1 W1 hp1
  obtain ⟨rfl, H1⟩ := hp1
  show Goes _ _ _ _ (State.setTop _ (mkF _ _ _ []))
  refine g_aloadN W1 d6_4 (pc' := 5) rfl rfl rfl ?_
  refine g_ldcFloat W1 (wd_39 hw) d6_5 (pc' := 7) rfl ?_
  refine g_putf W1 (wd_40 hw) Via.refl (Or.inr ⟨(wd_41 hw), rfl, rfl⟩) (wd_27 hw) (ty := .float) (by decide) rfl rfl H1 (i := 0) rfl (jx := 0) rfl d6_7 (pc' := 10) rfl (L' := ((a, ObC Z "java/util/HashMap" (fs_HashMap (.float (1061158912 : UInt32)) (.int (0 : Int32)) .null (.int (0 : Int32)) .null (.int (0 : Int32)))) :: F)) rfl ?_
  intro T2 W2 H2
  exact g_return W2 d6_10 ⟨rfl, H2⟩ (by decide) (by decide)
theorem c_ndini (l : Launch) (Z : State) (a0 : Array Value) (hw : ∀ d ∈ tables_1, d.before a0 Z = true) (n0 : Nat) (a sk ia : Addr) (q : Int32) (h0 : Heap) (F : List HRow) (H00 : Hp Z n0 h0 ((a, ObC Z "java/util/HashMap$Node" (fs_HashMap_Node (.int (0 : Int32)) .null .null .null)) :: F)) :
    Con l Z n0 ⟨"java/util/HashMap$Node", "<init>", "(ILjava/lang/Object;Ljava/lang/Object;Ljava/util/HashMap$Node;)V"⟩ [] jdk_70_method_1_code 5 none ({ frames := 1, cells := 0, slots := 0, locals := 12 } : Room) #[.ref a, .int q, .ref sk, .ref ia, .null] h0 (fun v h => v = none ∧ Hp Z n0 h ((a, ObC Z "java/util/HashMap$Node" (fs_HashMap_Node (.int q) (.ref sk) (.ref ia) .null)) :: F)) := by
  refine con_of pf_37 ?_
  intro p e s m below meth c T0 W0 e0
  subst e0
  have H0 := H00
  refine g_cast (ef_rirrn5 m a q sk ia) ?_
  refine g_aloadN W0 d37_0 (pc' := 1) rfl rfl rfl ?_
  refine g_initO W0 (wd_266 hw) (wd_20 hw) (wd_21 hw) H0 rfl d37_1 (pc' := 4) rfl (by decide) (Wn := 0) (Nat.le_of_eq rfl) (by decide) ?_
  intro T1 W1 H1
  refine g_aloadN W1 d37_4 (pc' := 5) rfl rfl rfl ?_
  refine g_iloadN W1 d37_5 (pc' := 6) rfl rfl ?_
  refine g_putf W1 (wd_267 hw) Via.refl (Or.inr ⟨(wd_268 hw), rfl, rfl⟩) (wd_260 hw) (ty := .int) (by decide) rfl rfl H1 (i := 0) rfl (jx := 0) rfl d37_6 (pc' := 9) rfl (L' := ((a, ObC Z "java/util/HashMap$Node" (fs_HashMap_Node (.int q) .null .null .null)) :: F)) rfl ?_
  intro T2 W2 H2
  refine g_aloadN W2 d37_9 (pc' := 10) rfl rfl rfl ?_
  refine g_aloadN W2 d37_10 (pc' := 11) rfl rfl rfl ?_
  refine g_putf W2 (wd_269 hw) Via.refl (Or.inr ⟨(wd_270 hw), rfl, rfl⟩) (wd_260 hw) (ty := (.object "java/lang/Object")) (by decide) rfl rfl H2 (i := 0) rfl (jx := 1) rfl d37_11 (pc' := 14) rfl (L' := ((a, ObC Z "java/util/HashMap$Node" (fs_HashMap_Node (.int q) (.ref sk) .null .null)) :: F)) rfl ?_
  intro T3 W3 H3
  refine g_aloadN W3 d37_14 (pc' := 15) rfl rfl rfl ?_
  refine g_aloadN W3 d37_15 (pc' := 16) rfl rfl rfl ?_
  refine g_putf W3 (wd_271 hw) Via.refl (Or.inl (wd_272 hw)) (wd_260 hw) (ty := (.object "java/lang/Object")) (by decide) rfl rfl H3 (i := 0) rfl (jx := 2) rfl d37_16 (pc' := 19) rfl (L' := ((a, ObC Z "java/util/HashMap$Node" (fs_HashMap_Node (.int q) (.ref sk) (.ref ia) .null)) :: F)) rfl ?_
  intro T4 W4 H4
  refine g_aloadN W4 d37_19 (pc' := 20) rfl rfl rfl ?_
  refine g_aload W4 d37_20 (pc' := 22) rfl rfl rfl ?_
  refine g_putf W4 (wd_273 hw) Via.refl (Or.inl (wd_274 hw)) (wd_260 hw) (ty := (.object "java/util/HashMap$Node")) (by decide) rfl rfl H4 (i := 0) rfl (jx := 3) rfl d37_22 (pc' := 25) rfl (L' := ((a, ObC Z "java/util/HashMap$Node" (fs_HashMap_Node (.int q) (.ref sk) (.ref ia) .null)) :: F)) rfl ?_
  intro T5 W5 H5
  exact g_return W5 d37_25 ⟨rfl, H5⟩ (by decide) (by decide)
theorem c_newn (l : Launch) (Z : State) (a0 : Array Value) (hw : ∀ d ∈ tables_1, d.before a0 Z = true) (n0 : Nat) (m0 sk ia : Addr) (q : Int32) (h0 : Heap) (F : List HRow) (H00 : Hp Z n0 h0 F) :
    Con l Z n0 ⟨"java/util/HashMap", "newNode", "(ILjava/lang/Object;Ljava/lang/Object;Ljava/util/HashMap$Node;)Ljava/util/HashMap$Node;"⟩ [] jdk_69_method_46_code 5 (some (.object "java/util/HashMap$Node")) ({ frames := 2, cells := 1, slots := 4, locals := 29 } : Room) #[.ref m0, .int q, .ref sk, .ref ia, .null] h0 (fun v h => ∃ nd, v = some (.ref nd) ∧ Hp Z n0 h ((nd, ObC Z "java/util/HashMap$Node" (fs_HashMap_Node (.int q) (.ref sk) (.ref ia) .null)) :: F)) := by
  refine con_of pf_36 ?_
  intro p e s m below meth c T0 W0 e0
  subst e0
  have H0 := H00
  refine g_cast (ef_rirrn5 m m0 q sk ia) ?_
  refine g_new W0 (wd_253 hw) (wd_260 hw) (wd_261 hw) (la_HashMap_Node hw) (by decide) H0 d36_0 (pc' := 3) rfl (kc' := 1) (ks' := 4) rfl rfl (by decide) (by decide) ?_
  intro T1 a1 W1 H1
  refine g_dup W1 d36_3 (pc' := 4) rfl rfl ?_
  refine g_iloadN W1 d36_4 (pc' := 5) rfl rfl ?_
  refine g_aloadN W1 d36_5 (pc' := 6) rfl rfl rfl ?_
  refine g_aloadN W1 d36_6 (pc' := 7) rfl rfl rfl ?_
  refine g_aload W1 d36_7 (pc' := 9) rfl rfl rfl ?_
  refine g_callI W1 (argsL := [.int q, .ref sk, .ref ia, .null]) (st := [.ref a1]) rfl (wd_262 hw) (wd_263 hw) (wd_261 hw) (wd_265 hw) (by decide) (a := a1) (c_ndini l Z a0 hw n0 a1 sk ia q _ _ H1) pd_14 rfl rfl rfl d36_9 (pc' := 12) rfl (by decide) (Wn := 1) (Nat.le_of_eq rfl) (by decide) (kc' := 1) (ks' := 4) rfl rfl (by decide) (by decide) ?_
  intro T2 v2 W2 hp2
  obtain ⟨rfl, H2⟩ := hp2
  show Goes _ _ _ _ (State.setTop _ (mkF _ _ _ [.ref a1]))
  exact g_areturn W2 rfl rfl d36_12 ⟨_, rfl, H2⟩ (by decide) (by decide)
theorem c_resz (l : Launch) (Z : State) (a0 : Array Value) (hw : ∀ d ∈ tables_1, d.before a0 Z = true) (n0 : Nat) (m0 : Addr) (mc : Int32) (h0 : Heap) (F : List HRow) (H00 : Hp Z n0 h0 ((m0, ObC Z "java/util/HashMap" (fs_HashMap (.float (1061158912 : UInt32)) (.int (0 : Int32)) .null (.int mc) .null (.int (0 : Int32)))) :: F)) :
    Con l Z n0 ⟨"java/util/HashMap", "resize", "()[Ljava/util/HashMap$Node;"⟩ [] jdk_69_method_17_code 14 (some (.array (.object "java/util/HashMap$Node"))) ({ frames := 0, cells := 1, slots := 16, locals := 0 } : Room) #[.ref m0] h0 (fun v h => ∃ tb, v = some (.ref tb) ∧ Hp Z n0 h ((tb, RaC Z "java/util/HashMap$Node" (List.replicate 16 Value.null)) :: (m0, ObC Z "java/util/HashMap" (fs_HashMap (.float (1061158912 : UInt32)) (.int (0 : Int32)) .null (.int mc) (.ref tb) (.int (12 : Int32)))) :: F)) := by
  refine con_of pf_35 ?_
  intro p e s m below meth c T0 W0 e0
  subst e0
  have H0 := H00
  refine g_cast (ef_r14 m m0) ?_
  refine g_aloadN W0 d35_0 (pc' := 1) rfl rfl rfl ?_
  refine g_getf W0 (wd_245 hw) Via.refl H0 (i := 0) rfl (jx := 4) rfl d35_1 (pc' := 4) rfl ?_
  intro T1 W1 H1
  refine g_astoreN W1 d35_4 (pc' := 5) rfl rfl (ls' := #[.val (.ref m0), .val (.null), .unset, .unset, .unset, .unset, .unset, .unset, .unset, .unset, .unset, .unset, .unset, .unset]) rfl ?_
  refine g_aloadN W1 d35_5 (pc' := 6) rfl rfl rfl ?_
  refine g_ifnonnullN W1 d35_6 (pc' := 9) rfl ?_
  refine g_iconst W1 d35_9 (pc' := 10) rfl (v := (0 : Int32)) (by decide) ?_
  refine g_goto W1 d35_10 (pc' := 15) (by decide) ?_
  refine g_istoreN W1 d35_15 (pc' := 16) rfl (ls' := #[.val (.ref m0), .val (.null), .val (.int (0 : Int32)), .unset, .unset, .unset, .unset, .unset, .unset, .unset, .unset, .unset, .unset, .unset]) rfl ?_
  refine g_aloadN W1 d35_16 (pc' := 17) rfl rfl rfl ?_
  refine g_getf W1 (wd_251 hw) Via.refl H1 (i := 0) rfl (jx := 5) rfl d35_17 (pc' := 20) rfl ?_
  intro T2 W2 H2
  refine g_istoreN W2 d35_20 (pc' := 21) rfl (ls' := #[.val (.ref m0), .val (.null), .val (.int (0 : Int32)), .val (.int (0 : Int32)), .unset, .unset, .unset, .unset, .unset, .unset, .unset, .unset, .unset, .unset]) rfl ?_
  refine g_iconst W2 d35_21 (pc' := 22) rfl (v := (0 : Int32)) (by decide) ?_
  refine g_istore W2 d35_22 (pc' := 24) rfl (ls' := #[.val (.ref m0), .val (.null), .val (.int (0 : Int32)), .val (.int (0 : Int32)), .unset, .val (.int (0 : Int32)), .unset, .unset, .unset, .unset, .unset, .unset, .unset, .unset]) rfl ?_
  refine g_iloadN W2 d35_24 (pc' := 25) rfl rfl ?_
  refine g_if W2 d35_25 (pcy := 67) (by decide) (pc' := 28) rfl (fun _ => ?_) (fun (h : ¬ ¬ (0 : Int32) < (0 : Int32)) => absurd h (by decide))
  refine g_iloadN W2 d35_67 (pc' := 68) rfl rfl ?_
  refine g_if W2 d35_68 (pcy := 77) (by decide) (pc' := 71) rfl (fun _ => ?_) (fun (h : ¬ ¬ (0 : Int32) < (0 : Int32)) => absurd h (by decide))
  refine g_bipush W2 d35_77 (pc' := 79) rfl (v := (16 : Int32)) (by decide) ?_
  refine g_istore W2 d35_79 (pc' := 81) rfl (ls' := #[.val (.ref m0), .val (.null), .val (.int (0 : Int32)), .val (.int (0 : Int32)), .val (.int (16 : Int32)), .val (.int (0 : Int32)), .unset, .unset, .unset, .unset, .unset, .unset, .unset, .unset]) rfl ?_
  refine g_bipush W2 d35_81 (pc' := 83) rfl (v := (12 : Int32)) (by decide) ?_
  refine g_istore W2 d35_83 (pc' := 85) rfl (ls' := #[.val (.ref m0), .val (.null), .val (.int (0 : Int32)), .val (.int (0 : Int32)), .val (.int (16 : Int32)), .val (.int (12 : Int32)), .unset, .unset, .unset, .unset, .unset, .unset, .unset, .unset]) rfl ?_
  refine g_iload W2 d35_85 (pc' := 87) rfl rfl ?_
  refine g_if W2 d35_87 (pcy := 125) (by decide) (pc' := 90) rfl (fun _ => ?_) (fun (h : ¬ ¬ (12 : Int32) = (0 : Int32)) => absurd h (by decide))
  refine g_aloadN W2 d35_125 (pc' := 126) rfl rfl rfl ?_
  refine g_iload W2 d35_126 (pc' := 128) rfl rfl ?_
  refine g_putf W2 (wd_251 hw) Via.refl (Or.inl (wd_252 hw)) (wd_27 hw) (ty := .int) (by decide) rfl rfl H2 (i := 0) rfl (jx := 5) rfl d35_128 (pc' := 131) rfl (L' := ((m0, ObC Z "java/util/HashMap" (fs_HashMap (.float (1061158912 : UInt32)) (.int (0 : Int32)) .null (.int mc) .null (.int (12 : Int32)))) :: F)) rfl ?_
  intro T3 W3 H3
  refine g_iload W3 d35_131 (pc' := 133) rfl rfl ?_
  refine g_anewarr W3 (wd_253 hw) (wd_254 hw) H3 (by decide) (vs := (List.replicate 16 Value.null)) rfl (cap := 16) (by decide) (by decide) d35_133 (pc' := 136) rfl (kc' := 1) (ks' := 16) rfl rfl (by decide) (by decide) ?_
  intro T4 a4 W4 H4
  refine g_astore W4 d35_136 (pc' := 138) rfl rfl (ls' := #[.val (.ref m0), .val (.null), .val (.int (0 : Int32)), .val (.int (0 : Int32)), .val (.int (16 : Int32)), .val (.int (12 : Int32)), .val (.ref a4), .unset, .unset, .unset, .unset, .unset, .unset, .unset]) rfl ?_
  refine g_aloadN W4 d35_138 (pc' := 139) rfl rfl rfl ?_
  refine g_aload W4 d35_139 (pc' := 141) rfl rfl rfl ?_
  refine g_putf W4 (wd_245 hw) Via.refl (Or.inl (wd_150 hw)) (wd_27 hw) (ty := (.array (.object "java/util/HashMap$Node"))) (by decide) rfl rfl H4 (i := 1) rfl (jx := 4) rfl d35_141 (pc' := 144) rfl (L' := ((a4, RaC Z "java/util/HashMap$Node" (List.replicate 16 Value.null)) :: (m0, ObC Z "java/util/HashMap" (fs_HashMap (.float (1061158912 : UInt32)) (.int (0 : Int32)) .null (.int mc) (.ref a4) (.int (12 : Int32)))) :: F)) rfl ?_
  intro T5 W5 H5
  refine g_aloadN W5 d35_144 (pc' := 145) rfl rfl rfl ?_
  refine g_ifnullY W5 d35_145 (pcy := 353) (by decide) ?_
  refine g_aload W5 d35_353 (pc' := 355) rfl rfl rfl ?_
  exact g_areturn W5 rfl rfl d35_355 ⟨_, rfl, H5⟩ (by decide) (by decide)
theorem c_ani (l : Launch) (Z : State) (a0 : Array Value) (hw : ∀ d ∈ tables_1, d.before a0 Z = true) (n0 : Nat) (m0 : Addr) (h0 : Heap) (F : List HRow) (H00 : Hp Z n0 h0 F) :
    Con l Z n0 ⟨"java/util/HashMap", "afterNodeInsertion", "(Z)V"⟩ [] jdk_69_method_52_code 2 none ({ frames := 0, cells := 0, slots := 0, locals := 0 } : Room) #[.ref m0, .int (1 : Int32)] h0 (fun v h => v = none ∧ Hp Z n0 h F) := by
  refine con_of pf_38 ?_
  intro p e s m below meth c T0 W0 e0
  subst e0
  have H0 := H00
  refine g_cast (ef_ri2 m m0 (1 : Int32)) ?_
  exact g_return W0 d38_0 ⟨rfl, H0⟩ (by decide) (by decide)
theorem c_pv0 (l : Launch) (Z : State) (a0 : Array Value) (hw : ∀ d ∈ tables_1, d.before a0 Z = true) (n0 : Nat) (m0 sk ia : Addr) (q mc : Int32) (jx : Nat) (hjx : ((15 : Int32) &&& q).toInt = (jx : Int)) (hj16 : jx < 16)  (h0 : Heap) (F : List HRow) (H00 : Hp Z n0 h0 ((m0, ObC Z "java/util/HashMap" (fs_HashMap (.float (1061158912 : UInt32)) (.int (0 : Int32)) .null (.int mc) .null (.int (0 : Int32)))) :: F)) :
    Con l Z n0 ⟨"java/util/HashMap", "putVal", "(ILjava/lang/Object;Ljava/lang/Object;ZZ)Ljava/lang/Object;"⟩ [] jdk_69_method_16_code 13 (some (.object "java/lang/Object")) ({ frames := 3, cells := 2, slots := 20, locals := 47 } : Room) #[.ref m0, .int q, .ref sk, .ref ia, .int (0 : Int32), .int (1 : Int32)] h0 (fun v h => ∃ tb nd, v = some .null ∧ Hp Z n0 h ((nd, ObC Z "java/util/HashMap$Node" (fs_HashMap_Node (.int q) (.ref sk) (.ref ia) .null)) :: (tb, RaC Z "java/util/HashMap$Node" ((List.replicate 16 Value.null).set jx (.ref nd))) :: (m0, ObC Z "java/util/HashMap" (fs_HashMap (.float (1061158912 : UInt32)) (.int (1 : Int32)) .null (.int (mc + (1 : Int32))) (.ref tb) (.int (12 : Int32)))) :: F)) := by
  refine con_of pf_34 ?_
  intro p e s m below meth c T0 W0 e0
  subst e0
  have H0 := H00
  refine g_cast (ef_rirrii13 m m0 q sk ia (0 : Int32) (1 : Int32)) ?_
  refine g_aloadN W0 d34_0 (pc' := 1) rfl rfl rfl ?_
  refine g_getf W0 (wd_245 hw) Via.refl H0 (i := 0) rfl (jx := 4) rfl d34_1 (pc' := 4) rfl ?_
  intro T1 W1 H1
  refine g_dup W1 d34_4 (pc' := 5) rfl rfl ?_
  refine g_astore W1 d34_5 (pc' := 7) rfl rfl (ls' := #[.val (.ref m0), .val (.int q), .val (.ref sk), .val (.ref ia), .val (.int (0 : Int32)), .val (.int (1 : Int32)), .val (.null), .unset, .unset, .unset, .unset, .unset, .unset]) rfl ?_
  refine g_ifnullY W1 d34_7 (pcy := 19) (by decide) ?_
  refine g_aloadN W1 d34_19 (pc' := 20) rfl rfl rfl ?_
  refine g_callV W1 (argsL := []) (st := []) (wd_246 hw) (wd_247 hw) (wd_249 hw) (wd_248 hw) (wd_28 hw) (wd_250 hw) (by decide) (a := m0) H1 (i := 0) rfl (c_resz l Z a0 hw n0 m0 mc _ _ H1) pd_15 rfl rfl rfl d34_20 (pc' := 23) rfl (by decide) (Wn := 0) (Nat.le_of_eq rfl) (by decide) (kc' := 1) (ks' := 16) rfl rfl (by decide) (by decide) ?_
  intro T2 v2 W2 hp2
  obtain ⟨tb1, rfl, H2⟩ := hp2
  show Goes _ _ _ _ (State.setTop _ (mkF _ _ _ [.ref tb1]))
  refine g_dup W2 d34_23 (pc' := 24) rfl rfl ?_
  refine g_astore W2 d34_24 (pc' := 26) rfl rfl (ls' := #[.val (.ref m0), .val (.int q), .val (.ref sk), .val (.ref ia), .val (.int (0 : Int32)), .val (.int (1 : Int32)), .val (.ref tb1), .unset, .unset, .unset, .unset, .unset, .unset]) rfl ?_
  refine g_arrlenR W2 H2 (i := 0) rfl (x := (16 : Int32)) (by decide) d34_26 (pc' := 27) rfl ?_
  refine g_istore W2 d34_27 (pc' := 29) rfl (ls' := #[.val (.ref m0), .val (.int q), .val (.ref sk), .val (.ref ia), .val (.int (0 : Int32)), .val (.int (1 : Int32)), .val (.ref tb1), .unset, .val (.int (16 : Int32)), .unset, .unset, .unset, .unset]) rfl ?_
  refine g_aload W2 d34_29 (pc' := 31) rfl rfl rfl ?_
  refine g_iload W2 d34_31 (pc' := 33) rfl rfl ?_
  refine g_iconst W2 d34_33 (pc' := 34) rfl (v := (1 : Int32)) (by decide) ?_
  refine g_isub W2 d34_34 (pc' := 35) rfl (v := (15 : Int32)) (by decide) ?_
  refine g_iloadN W2 d34_35 (pc' := 36) rfl rfl ?_
  refine g_iand W2 d34_36 (pc' := 37) rfl rfl ?_
  refine g_dup W2 d34_37 (pc' := 38) rfl rfl ?_
  refine g_istore W2 d34_38 (pc' := 40) rfl (ls' := #[.val (.ref m0), .val (.int q), .val (.ref sk), .val (.ref ia), .val (.int (0 : Int32)), .val (.int (1 : Int32)), .val (.ref tb1), .unset, .val (.int (16 : Int32)), .val (.int ((15 : Int32) &&& q)), .unset, .unset, .unset]) rfl ?_
  refine g_aaload W2 H2 (i := 0) rfl (jx := jx) hjx (v := .null) (by rw [List.getElem?_replicate, if_pos hj16]) d34_40 (pc' := 41) rfl ?_
  refine g_dup W2 d34_41 (pc' := 42) rfl rfl ?_
  refine g_astore W2 d34_42 (pc' := 44) rfl rfl (ls' := #[.val (.ref m0), .val (.int q), .val (.ref sk), .val (.ref ia), .val (.int (0 : Int32)), .val (.int (1 : Int32)), .val (.ref tb1), .val (.null), .val (.int (16 : Int32)), .val (.int ((15 : Int32) &&& q)), .unset, .unset, .unset]) rfl ?_
  refine g_ifnonnullN W2 d34_44 (pc' := 47) rfl ?_
  refine g_aload W2 d34_47 (pc' := 49) rfl rfl rfl ?_
  refine g_iload W2 d34_49 (pc' := 51) rfl rfl ?_
  refine g_aloadN W2 d34_51 (pc' := 52) rfl rfl rfl ?_
  refine g_iloadN W2 d34_52 (pc' := 53) rfl rfl ?_
  refine g_aloadN W2 d34_53 (pc' := 54) rfl rfl rfl ?_
  refine g_aloadN W2 d34_54 (pc' := 55) rfl rfl rfl ?_
  refine g_aconst_null W2 d34_55 (pc' := 56) rfl ?_
  refine g_callV W2 (argsL := [.int q, .ref sk, .ref ia, .null]) (st := [.int ((15 : Int32) &&& q), .ref tb1]) (wd_255 hw) (wd_256 hw) (wd_258 hw) (wd_257 hw) (wd_28 hw) (wd_259 hw) (by decide) (a := m0) H2 (i := 1) rfl (c_newn l Z a0 hw n0 m0 sk ia q _ _ H2) pd_16 rfl rfl rfl d34_56 (pc' := 59) rfl (by decide) (Wn := 2) (Nat.le_of_eq rfl) (by decide) (kc' := 2) (ks' := 20) rfl rfl (by decide) (by decide) ?_
  intro T3 v3 W3 hp3
  obtain ⟨nd1, rfl, H3⟩ := hp3
  show Goes _ _ _ _ (State.setTop _ (mkF _ _ _ [.ref nd1, .int ((15 : Int32) &&& q), .ref tb1]))
  refine g_aastore W3 H3 (i := 1) rfl (Ins.self (H3.exa (i := 0) rfl)) (jx := jx) hjx (by simpa using hj16) d34_59 (pc' := 60) rfl (L' := ((nd1, ObC Z "java/util/HashMap$Node" (fs_HashMap_Node (.int q) (.ref sk) (.ref ia) .null)) :: (tb1, RaC Z "java/util/HashMap$Node" ((List.replicate 16 Value.null).set jx (.ref nd1))) :: (m0, ObC Z "java/util/HashMap" (fs_HashMap (.float (1061158912 : UInt32)) (.int (0 : Int32)) .null (.int mc) (.ref tb1) (.int (12 : Int32)))) :: F)) rfl ?_
  intro T4 W4 H4
  refine g_goto W4 d34_60 (pc' := 259) (by decide) ?_
  refine g_aloadN W4 d34_259 (pc' := 260) rfl rfl rfl ?_
  refine g_dup W4 d34_260 (pc' := 261) rfl rfl ?_
  refine g_getf W4 (wd_275 hw) Via.refl H4 (i := 2) rfl (jx := 3) rfl d34_261 (pc' := 264) rfl ?_
  intro T5 W5 H5
  refine g_iconst W5 d34_264 (pc' := 265) rfl (v := (1 : Int32)) (by decide) ?_
  refine g_iadd W5 d34_265 (pc' := 266) rfl rfl ?_
  refine g_putf W5 (wd_275 hw) Via.refl (Or.inl (wd_146 hw)) (wd_27 hw) (ty := .int) (by decide) rfl rfl H5 (i := 2) rfl (jx := 3) rfl d34_266 (pc' := 269) rfl (L' := ((nd1, ObC Z "java/util/HashMap$Node" (fs_HashMap_Node (.int q) (.ref sk) (.ref ia) .null)) :: (tb1, RaC Z "java/util/HashMap$Node" ((List.replicate 16 Value.null).set jx (.ref nd1))) :: (m0, ObC Z "java/util/HashMap" (fs_HashMap (.float (1061158912 : UInt32)) (.int (0 : Int32)) .null (.int (mc + (1 : Int32))) (.ref tb1) (.int (12 : Int32)))) :: F)) rfl ?_
  intro T6 W6 H6
  refine g_aloadN W6 d34_269 (pc' := 270) rfl rfl rfl ?_
  refine g_dup W6 d34_270 (pc' := 271) rfl rfl ?_
  refine g_getf W6 (wd_96 hw) Via.refl H6 (i := 2) rfl (jx := 1) rfl d34_271 (pc' := 274) rfl ?_
  intro T7 W7 H7
  refine g_iconst W7 d34_274 (pc' := 275) rfl (v := (1 : Int32)) (by decide) ?_
  refine g_iadd W7 d34_275 (pc' := 276) rfl (v := (1 : Int32)) (by decide) ?_
  refine g_dup_x1 W7 d34_276 (pc' := 277) rfl rfl rfl ?_
  refine g_putf W7 (wd_96 hw) Via.refl (Or.inl (wd_97 hw)) (wd_27 hw) (ty := .int) (by decide) rfl rfl H7 (i := 2) rfl (jx := 1) rfl d34_277 (pc' := 280) rfl (L' := ((nd1, ObC Z "java/util/HashMap$Node" (fs_HashMap_Node (.int q) (.ref sk) (.ref ia) .null)) :: (tb1, RaC Z "java/util/HashMap$Node" ((List.replicate 16 Value.null).set jx (.ref nd1))) :: (m0, ObC Z "java/util/HashMap" (fs_HashMap (.float (1061158912 : UInt32)) (.int (1 : Int32)) .null (.int (mc + (1 : Int32))) (.ref tb1) (.int (12 : Int32)))) :: F)) rfl ?_
  intro T8 W8 H8
  refine g_aloadN W8 d34_280 (pc' := 281) rfl rfl rfl ?_
  refine g_getf W8 (wd_251 hw) Via.refl H8 (i := 2) rfl (jx := 5) rfl d34_281 (pc' := 284) rfl ?_
  intro T9 W9 H9
  refine g_icmp W9 d34_284 (pcy := 292) (by decide) (pc' := 287) rfl (fun _ => ?_) (fun (h : ¬ ¬ (12 : Int32) < (1 : Int32)) => absurd h (by decide))
  refine g_aloadN W9 d34_292 (pc' := 293) rfl rfl rfl ?_
  refine g_iload W9 d34_293 (pc' := 295) rfl rfl ?_
  refine g_callV W9 (argsL := [.int (1 : Int32)]) (st := []) (wd_276 hw) (wd_277 hw) (wd_279 hw) (wd_278 hw) (wd_28 hw) (wd_280 hw) (by decide) (a := m0) H9 (i := 2) rfl (c_ani l Z a0 hw n0 m0 _ _ H9) pd_17 rfl rfl rfl d34_295 (pc' := 298) rfl (by decide) (Wn := 0) (Nat.le_of_eq rfl) (by decide) (kc' := 2) (ks' := 20) rfl rfl (by decide) (by decide) ?_
  intro T10 v10 W10 hp10
  obtain ⟨rfl, H10⟩ := hp10
  show Goes _ _ _ _ (State.setTop _ (mkF _ _ _ []))
  refine g_aconst_null W10 d34_298 (pc' := 299) rfl ?_
  exact g_areturn W10 rfl rfl d34_299 ⟨_, _, rfl, H10⟩ (by decide) (by decide)
theorem c_pv1 (l : Launch) (Z : State) (a0 : Array Value) (hw : ∀ d ∈ tables_1, d.before a0 Z = true) (n0 : Nat) (m0 sk ia : Addr) (q mc : Int32) (jx : Nat) (hjx : ((15 : Int32) &&& q).toInt = (jx : Int)) (hj16 : jx < 16) (tb : Addr) (vs : List Value) (sz : Int32) (hlen : vs.length.toInt32 = 16) (hlt : jx < vs.length) (hvn : vs[jx]? = some .null) (hsz : ¬ (12 : Int32) < sz + (1 : Int32))  (h0 : Heap) (F : List HRow) (H00 : Hp Z n0 h0 ((m0, ObC Z "java/util/HashMap" (fs_HashMap (.float (1061158912 : UInt32)) (.int sz) .null (.int mc) (.ref tb) (.int (12 : Int32)))) :: (tb, RaC Z "java/util/HashMap$Node" vs) :: F)) :
    Con l Z n0 ⟨"java/util/HashMap", "putVal", "(ILjava/lang/Object;Ljava/lang/Object;ZZ)Ljava/lang/Object;"⟩ [] jdk_69_method_16_code 13 (some (.object "java/lang/Object")) ({ frames := 3, cells := 1, slots := 4, locals := 47 } : Room) #[.ref m0, .int q, .ref sk, .ref ia, .int (0 : Int32), .int (1 : Int32)] h0 (fun v h => ∃ nd, v = some .null ∧ Hp Z n0 h ((nd, ObC Z "java/util/HashMap$Node" (fs_HashMap_Node (.int q) (.ref sk) (.ref ia) .null)) :: (m0, ObC Z "java/util/HashMap" (fs_HashMap (.float (1061158912 : UInt32)) (.int (sz + (1 : Int32))) .null (.int (mc + (1 : Int32))) (.ref tb) (.int (12 : Int32)))) :: (tb, RaC Z "java/util/HashMap$Node" (vs.set jx (.ref nd))) :: F)) := by
  refine con_of pf_34 ?_
  intro p e s m below meth c T0 W0 e0
  subst e0
  have H0 := H00
  refine g_cast (ef_rirrii13 m m0 q sk ia (0 : Int32) (1 : Int32)) ?_
  refine g_aloadN W0 d34_0 (pc' := 1) rfl rfl rfl ?_
  refine g_getf W0 (wd_245 hw) Via.refl H0 (i := 0) rfl (jx := 4) rfl d34_1 (pc' := 4) rfl ?_
  intro T1 W1 H1
  refine g_dup W1 d34_4 (pc' := 5) rfl rfl ?_
  refine g_astore W1 d34_5 (pc' := 7) rfl rfl (ls' := #[.val (.ref m0), .val (.int q), .val (.ref sk), .val (.ref ia), .val (.int (0 : Int32)), .val (.int (1 : Int32)), .val (.ref tb), .unset, .unset, .unset, .unset, .unset, .unset]) rfl ?_
  refine g_ifnullN W1 d34_7 (pc' := 10) rfl ?_
  refine g_aload W1 d34_10 (pc' := 12) rfl rfl rfl ?_
  refine g_arrlenR W1 H1 (i := 1) rfl (x := (16 : Int32)) hlen d34_12 (pc' := 13) rfl ?_
  refine g_dup W1 d34_13 (pc' := 14) rfl rfl ?_
  refine g_istore W1 d34_14 (pc' := 16) rfl (ls' := #[.val (.ref m0), .val (.int q), .val (.ref sk), .val (.ref ia), .val (.int (0 : Int32)), .val (.int (1 : Int32)), .val (.ref tb), .unset, .val (.int (16 : Int32)), .unset, .unset, .unset, .unset]) rfl ?_
  refine g_if W1 d34_16 (pcy := 29) (by decide) (pc' := 19) rfl (fun _ => ?_) (fun (h : ¬ ¬ (16 : Int32) = (0 : Int32)) => absurd h (by decide))
  refine g_aload W1 d34_29 (pc' := 31) rfl rfl rfl ?_
  refine g_iload W1 d34_31 (pc' := 33) rfl rfl ?_
  refine g_iconst W1 d34_33 (pc' := 34) rfl (v := (1 : Int32)) (by decide) ?_
  refine g_isub W1 d34_34 (pc' := 35) rfl (v := (15 : Int32)) (by decide) ?_
  refine g_iloadN W1 d34_35 (pc' := 36) rfl rfl ?_
  refine g_iand W1 d34_36 (pc' := 37) rfl rfl ?_
  refine g_dup W1 d34_37 (pc' := 38) rfl rfl ?_
  refine g_istore W1 d34_38 (pc' := 40) rfl (ls' := #[.val (.ref m0), .val (.int q), .val (.ref sk), .val (.ref ia), .val (.int (0 : Int32)), .val (.int (1 : Int32)), .val (.ref tb), .unset, .val (.int (16 : Int32)), .val (.int ((15 : Int32) &&& q)), .unset, .unset, .unset]) rfl ?_
  refine g_aaload W1 H1 (i := 1) rfl (jx := jx) hjx (v := .null) hvn d34_40 (pc' := 41) rfl ?_
  refine g_dup W1 d34_41 (pc' := 42) rfl rfl ?_
  refine g_astore W1 d34_42 (pc' := 44) rfl rfl (ls' := #[.val (.ref m0), .val (.int q), .val (.ref sk), .val (.ref ia), .val (.int (0 : Int32)), .val (.int (1 : Int32)), .val (.ref tb), .val (.null), .val (.int (16 : Int32)), .val (.int ((15 : Int32) &&& q)), .unset, .unset, .unset]) rfl ?_
  refine g_ifnonnullN W1 d34_44 (pc' := 47) rfl ?_
  refine g_aload W1 d34_47 (pc' := 49) rfl rfl rfl ?_
  refine g_iload W1 d34_49 (pc' := 51) rfl rfl ?_
  refine g_aloadN W1 d34_51 (pc' := 52) rfl rfl rfl ?_
  refine g_iloadN W1 d34_52 (pc' := 53) rfl rfl ?_
  refine g_aloadN W1 d34_53 (pc' := 54) rfl rfl rfl ?_
  refine g_aloadN W1 d34_54 (pc' := 55) rfl rfl rfl ?_
  refine g_aconst_null W1 d34_55 (pc' := 56) rfl ?_
  refine g_callV W1 (argsL := [.int q, .ref sk, .ref ia, .null]) (st := [.int ((15 : Int32) &&& q), .ref tb]) (wd_255 hw) (wd_256 hw) (wd_258 hw) (wd_257 hw) (wd_28 hw) (wd_259 hw) (by decide) (a := m0) H1 (i := 0) rfl (c_newn l Z a0 hw n0 m0 sk ia q _ _ H1) pd_16 rfl rfl rfl d34_56 (pc' := 59) rfl (by decide) (Wn := 2) (Nat.le_of_eq rfl) (by decide) (kc' := 1) (ks' := 4) rfl rfl (by decide) (by decide) ?_
  intro T2 v2 W2 hp2
  obtain ⟨nd1, rfl, H2⟩ := hp2
  show Goes _ _ _ _ (State.setTop _ (mkF _ _ _ [.ref nd1, .int ((15 : Int32) &&& q), .ref tb]))
  refine g_aastore W2 H2 (i := 2) rfl (Ins.self (H2.exa (i := 0) rfl)) (jx := jx) hjx hlt d34_59 (pc' := 60) rfl (L' := ((nd1, ObC Z "java/util/HashMap$Node" (fs_HashMap_Node (.int q) (.ref sk) (.ref ia) .null)) :: (m0, ObC Z "java/util/HashMap" (fs_HashMap (.float (1061158912 : UInt32)) (.int sz) .null (.int mc) (.ref tb) (.int (12 : Int32)))) :: (tb, RaC Z "java/util/HashMap$Node" (vs.set jx (.ref nd1))) :: F)) rfl ?_
  intro T3 W3 H3
  refine g_goto W3 d34_60 (pc' := 259) (by decide) ?_
  refine g_aloadN W3 d34_259 (pc' := 260) rfl rfl rfl ?_
  refine g_dup W3 d34_260 (pc' := 261) rfl rfl ?_
  refine g_getf W3 (wd_275 hw) Via.refl H3 (i := 1) rfl (jx := 3) rfl d34_261 (pc' := 264) rfl ?_
  intro T4 W4 H4
  refine g_iconst W4 d34_264 (pc' := 265) rfl (v := (1 : Int32)) (by decide) ?_
  refine g_iadd W4 d34_265 (pc' := 266) rfl rfl ?_
  refine g_putf W4 (wd_275 hw) Via.refl (Or.inl (wd_146 hw)) (wd_27 hw) (ty := .int) (by decide) rfl rfl H4 (i := 1) rfl (jx := 3) rfl d34_266 (pc' := 269) rfl (L' := ((nd1, ObC Z "java/util/HashMap$Node" (fs_HashMap_Node (.int q) (.ref sk) (.ref ia) .null)) :: (m0, ObC Z "java/util/HashMap" (fs_HashMap (.float (1061158912 : UInt32)) (.int sz) .null (.int (mc + (1 : Int32))) (.ref tb) (.int (12 : Int32)))) :: (tb, RaC Z "java/util/HashMap$Node" (vs.set jx (.ref nd1))) :: F)) rfl ?_
  intro T5 W5 H5
  refine g_aloadN W5 d34_269 (pc' := 270) rfl rfl rfl ?_
  refine g_dup W5 d34_270 (pc' := 271) rfl rfl ?_
  refine g_getf W5 (wd_96 hw) Via.refl H5 (i := 1) rfl (jx := 1) rfl d34_271 (pc' := 274) rfl ?_
  intro T6 W6 H6
  refine g_iconst W6 d34_274 (pc' := 275) rfl (v := (1 : Int32)) (by decide) ?_
  refine g_iadd W6 d34_275 (pc' := 276) rfl rfl ?_
  refine g_dup_x1 W6 d34_276 (pc' := 277) rfl rfl rfl ?_
  refine g_putf W6 (wd_96 hw) Via.refl (Or.inl (wd_97 hw)) (wd_27 hw) (ty := .int) (by decide) rfl rfl H6 (i := 1) rfl (jx := 1) rfl d34_277 (pc' := 280) rfl (L' := ((nd1, ObC Z "java/util/HashMap$Node" (fs_HashMap_Node (.int q) (.ref sk) (.ref ia) .null)) :: (m0, ObC Z "java/util/HashMap" (fs_HashMap (.float (1061158912 : UInt32)) (.int (sz + (1 : Int32))) .null (.int (mc + (1 : Int32))) (.ref tb) (.int (12 : Int32)))) :: (tb, RaC Z "java/util/HashMap$Node" (vs.set jx (.ref nd1))) :: F)) rfl ?_
  intro T7 W7 H7
  refine g_aloadN W7 d34_280 (pc' := 281) rfl rfl rfl ?_
  refine g_getf W7 (wd_251 hw) Via.refl H7 (i := 1) rfl (jx := 5) rfl d34_281 (pc' := 284) rfl ?_
  intro T8 W8 H8
  refine g_icmp W8 d34_284 (pcy := 292) (by decide) (pc' := 287) rfl (fun (_ : ¬ (12 : Int32) < (sz + (1 : Int32))) => ?_) (fun (h : ¬ ¬ (12 : Int32) < (sz + (1 : Int32))) => absurd hsz h)
  refine g_aloadN W8 d34_292 (pc' := 293) rfl rfl rfl ?_
  refine g_iload W8 d34_293 (pc' := 295) rfl rfl ?_
  refine g_callV W8 (argsL := [.int (1 : Int32)]) (st := []) (wd_276 hw) (wd_277 hw) (wd_279 hw) (wd_278 hw) (wd_28 hw) (wd_280 hw) (by decide) (a := m0) H8 (i := 1) rfl (c_ani l Z a0 hw n0 m0 _ _ H8) pd_17 rfl rfl rfl d34_295 (pc' := 298) rfl (by decide) (Wn := 0) (Nat.le_of_eq rfl) (by decide) (kc' := 1) (ks' := 4) rfl rfl (by decide) (by decide) ?_
  intro T9 v9 W9 hp9
  obtain ⟨rfl, H9⟩ := hp9
  show Goes _ _ _ _ (State.setTop _ (mkF _ _ _ []))
  refine g_aconst_null W9 d34_298 (pc' := 299) rfl ?_
  exact g_areturn W9 rfl rfl d34_299 ⟨_, rfl, H9⟩ (by decide) (by decide)
theorem c_put0 (l : Launch) (Z : State) (a0 : Array Value) (hw : ∀ d ∈ tables_1, d.before a0 Z = true) (n0 : Nat) (cs : Int32) (hS : Sta Z Z.heap "java/lang/String" "COMPACT_STRINGS" "Z" (.int cs)) (hcs : ¬ cs = 0) (m0 sk ia : Addr) (q mc : Int32) (jx : Nat) (hjx : ((15 : Int32) &&& q).toInt = (jx : Int)) (hj16 : jx < 16) (b : Addr) (hv : Int32) (hq : KeyOk q) (hh : hv = 0 ∨ hv = q)  (h0 : Heap) (F : List HRow) (H00 : Hp Z n0 h0 ((m0, ObC Z "java/util/HashMap" (fs_HashMap (.float (1061158912 : UInt32)) (.int (0 : Int32)) .null (.int mc) .null (.int (0 : Int32)))) :: (sk, ObC Z "java/lang/String" (fs_String (.ref b) (.int (0 : Int32)) (.int hv) (.int (0 : Int32)))) :: (b, ArC Z .byte [.int q]) :: F)) :
    Con l Z n0 ⟨"java/util/HashMap", "put", "(Ljava/lang/Object;Ljava/lang/Object;)Ljava/lang/Object;"⟩ [] jdk_69_method_15_code 3 (some (.object "java/lang/Object")) ({ frames := 4, cells := 2, slots := 20, locals := 71 } : Room) #[.ref m0, .ref sk, .ref ia] h0 (fun v h => ∃ tb nd, v = some .null ∧ Hp Z n0 h ((nd, ObC Z "java/util/HashMap$Node" (fs_HashMap_Node (.int q) (.ref sk) (.ref ia) .null)) :: (tb, RaC Z "java/util/HashMap$Node" ((List.replicate 16 Value.null).set jx (.ref nd))) :: (m0, ObC Z "java/util/HashMap" (fs_HashMap (.float (1061158912 : UInt32)) (.int (1 : Int32)) .null (.int (mc + (1 : Int32))) (.ref tb) (.int (12 : Int32)))) :: (sk, ObC Z "java/lang/String" (fs_String (.ref b) (.int (0 : Int32)) (.int q) (.int (0 : Int32)))) :: (b, ArC Z .byte [.int q]) :: F)) := by
  refine con_of pf_29 ?_
  intro p e s m below meth c T0 W0 e0
  subst e0
  have H0 := H00
  refine g_cast (ef_rrr3 m m0 sk ia) ?_
  refine g_aloadN W0 d29_0 (pc' := 1) rfl rfl rfl ?_
  refine g_aloadN W0 d29_1 (pc' := 2) rfl rfl rfl ?_
  have H1f := Hp.fr2 H0
  have H2f := Hp.fr2 H1f
  refine g_callS W0 (argsL := [.ref sk]) (st := [.ref m0]) (wd_219 hw) (wd_220 hw) (wd_28 hw) (wd_221 hw) (by decide) (c_hash l Z a0 hw n0 cs hS hcs sk b q hv hq hh _ _ H2f) pd_18 rfl rfl rfl d29_2 (pc' := 5) rfl (by decide) (Wn := 1) (Nat.le_of_eq rfl) (by decide) (kc' := 0) (ks' := 0) rfl rfl (by decide) (by decide) ?_
  intro T3 v3 W3 hp3
  obtain ⟨rfl, H3⟩ := hp3
  show Goes _ _ _ _ (State.setTop _ (mkF _ _ _ [.int q, .ref m0]))
  refine g_aloadN W3 d29_5 (pc' := 6) rfl rfl rfl ?_
  refine g_aloadN W3 d29_6 (pc' := 7) rfl rfl rfl ?_
  refine g_iconst W3 d29_7 (pc' := 8) rfl (v := (0 : Int32)) (by decide) ?_
  refine g_iconst W3 d29_8 (pc' := 9) rfl (v := (1 : Int32)) (by decide) ?_
  have H4f := Hp.fr2 H3
  refine g_callV W3 (argsL := [.int q, .ref sk, .ref ia, .int (0 : Int32), .int (1 : Int32)]) (st := []) (wd_240 hw) (wd_241 hw) (wd_243 hw) (wd_242 hw) (wd_28 hw) (wd_244 hw) (by decide) (a := m0) H4f (i := 0) rfl (c_pv0 l Z a0 hw n0 m0 sk ia q mc jx hjx hj16 _ _ H4f) pd_19 rfl rfl rfl d29_9 (pc' := 12) rfl (by decide) (Wn := 0) (Nat.le_of_eq rfl) (by decide) (kc' := 2) (ks' := 20) rfl rfl (by decide) (by decide) ?_
  intro T5 v5 W5 hp5
  obtain ⟨tb1, nd1, rfl, H5⟩ := hp5
  show Goes _ _ _ _ (State.setTop _ (mkF _ _ _ [.null]))
  exact g_areturn W5 rfl rfl d29_12 ⟨_, _, rfl, H5⟩ (by decide) (by decide)
theorem c_put1 (l : Launch) (Z : State) (a0 : Array Value) (hw : ∀ d ∈ tables_1, d.before a0 Z = true) (n0 : Nat) (cs : Int32) (hS : Sta Z Z.heap "java/lang/String" "COMPACT_STRINGS" "Z" (.int cs)) (hcs : ¬ cs = 0) (m0 sk ia : Addr) (q mc : Int32) (jx : Nat) (hjx : ((15 : Int32) &&& q).toInt = (jx : Int)) (hj16 : jx < 16) (tb : Addr) (vs : List Value) (sz : Int32) (hlen : vs.length.toInt32 = 16) (hlt : jx < vs.length) (hvn : vs[jx]? = some .null) (hsz : ¬ (12 : Int32) < sz + (1 : Int32)) (b : Addr) (hv : Int32) (hq : KeyOk q) (hh : hv = 0 ∨ hv = q)  (h0 : Heap) (F : List HRow) (H00 : Hp Z n0 h0 ((m0, ObC Z "java/util/HashMap" (fs_HashMap (.float (1061158912 : UInt32)) (.int sz) .null (.int mc) (.ref tb) (.int (12 : Int32)))) :: (tb, RaC Z "java/util/HashMap$Node" vs) :: (sk, ObC Z "java/lang/String" (fs_String (.ref b) (.int (0 : Int32)) (.int hv) (.int (0 : Int32)))) :: (b, ArC Z .byte [.int q]) :: F)) :
    Con l Z n0 ⟨"java/util/HashMap", "put", "(Ljava/lang/Object;Ljava/lang/Object;)Ljava/lang/Object;"⟩ [] jdk_69_method_15_code 3 (some (.object "java/lang/Object")) ({ frames := 4, cells := 1, slots := 4, locals := 71 } : Room) #[.ref m0, .ref sk, .ref ia] h0 (fun v h => ∃ nd, v = some .null ∧ Hp Z n0 h ((nd, ObC Z "java/util/HashMap$Node" (fs_HashMap_Node (.int q) (.ref sk) (.ref ia) .null)) :: (m0, ObC Z "java/util/HashMap" (fs_HashMap (.float (1061158912 : UInt32)) (.int (sz + (1 : Int32))) .null (.int (mc + (1 : Int32))) (.ref tb) (.int (12 : Int32)))) :: (tb, RaC Z "java/util/HashMap$Node" (vs.set jx (.ref nd))) :: (sk, ObC Z "java/lang/String" (fs_String (.ref b) (.int (0 : Int32)) (.int q) (.int (0 : Int32)))) :: (b, ArC Z .byte [.int q]) :: F)) := by
  refine con_of pf_29 ?_
  intro p e s m below meth c T0 W0 e0
  subst e0
  have H0 := H00
  refine g_cast (ef_rrr3 m m0 sk ia) ?_
  refine g_aloadN W0 d29_0 (pc' := 1) rfl rfl rfl ?_
  refine g_aloadN W0 d29_1 (pc' := 2) rfl rfl rfl ?_
  have H1f := Hp.fr3 H0
  have H2f := Hp.fr3 H1f
  refine g_callS W0 (argsL := [.ref sk]) (st := [.ref m0]) (wd_219 hw) (wd_220 hw) (wd_28 hw) (wd_221 hw) (by decide) (c_hash l Z a0 hw n0 cs hS hcs sk b q hv hq hh _ _ H2f) pd_18 rfl rfl rfl d29_2 (pc' := 5) rfl (by decide) (Wn := 1) (Nat.le_of_eq rfl) (by decide) (kc' := 0) (ks' := 0) rfl rfl (by decide) (by decide) ?_
  intro T3 v3 W3 hp3
  obtain ⟨rfl, H3⟩ := hp3
  show Goes _ _ _ _ (State.setTop _ (mkF _ _ _ [.int q, .ref m0]))
  refine g_aloadN W3 d29_5 (pc' := 6) rfl rfl rfl ?_
  refine g_aloadN W3 d29_6 (pc' := 7) rfl rfl rfl ?_
  refine g_iconst W3 d29_7 (pc' := 8) rfl (v := (0 : Int32)) (by decide) ?_
  refine g_iconst W3 d29_8 (pc' := 9) rfl (v := (1 : Int32)) (by decide) ?_
  have H4f := Hp.fr3 H3
  have H5f := Hp.fr3 H4f
  refine g_callV W3 (argsL := [.int q, .ref sk, .ref ia, .int (0 : Int32), .int (1 : Int32)]) (st := []) (wd_240 hw) (wd_241 hw) (wd_243 hw) (wd_242 hw) (wd_28 hw) (wd_244 hw) (by decide) (a := m0) H5f (i := 0) rfl (c_pv1 l Z a0 hw n0 m0 sk ia q mc jx hjx hj16 tb vs sz hlen hlt hvn hsz _ _ H5f) pd_19 rfl rfl rfl d29_9 (pc' := 12) rfl (by decide) (Wn := 0) (Nat.le_of_eq rfl) (by decide) (kc' := 1) (ks' := 4) rfl rfl (by decide) (by decide) ?_
  intro T6 v6 W6 hp6
  obtain ⟨nd1, rfl, H6⟩ := hp6
  show Goes _ _ _ _ (State.setTop _ (mkF _ _ _ [.null]))
  exact g_areturn W6 rfl rfl d29_12 ⟨_, rfl, H6⟩ (by decide) (by decide)
theorem c_gn0 (l : Launch) (Z : State) (a0 : Array Value) (hw : ∀ d ∈ tables_1, d.before a0 Z = true) (n0 : Nat) (m0 sk : Addr) (sz mc thr : Int32) (h0 : Heap) (F : List HRow) (H00 : Hp Z n0 h0 ((m0, ObC Z "java/util/HashMap" (fs_HashMap (.float (1061158912 : UInt32)) (.int sz) .null (.int mc) .null (.int thr))) :: F)) :
    Con l Z n0 ⟨"java/util/HashMap", "getNode", "(Ljava/lang/Object;)Ljava/util/HashMap$Node;"⟩ [] jdk_69_method_13_code 8 (some (.object "java/util/HashMap$Node")) ({ frames := 0, cells := 0, slots := 0, locals := 0 } : Room) #[.ref m0, .ref sk] h0 (fun v h => v = some .null ∧ Hp Z n0 h ((m0, ObC Z "java/util/HashMap" (fs_HashMap (.float (1061158912 : UInt32)) (.int sz) .null (.int mc) .null (.int thr))) :: F)) := by
  refine con_of pf_51 ?_
  intro p e s m below meth c T0 W0 e0
  subst e0
  have H0 := H00
  refine g_cast (ef_rr8 m m0 sk) ?_
  refine g_aloadN W0 d51_0 (pc' := 1) rfl rfl rfl ?_
  refine g_getf W0 (wd_245 hw) Via.refl H0 (i := 0) rfl (jx := 4) rfl d51_1 (pc' := 4) rfl ?_
  intro T1 W1 H1
  refine g_dup W1 d51_4 (pc' := 5) rfl rfl ?_
  refine g_astoreN W1 d51_5 (pc' := 6) rfl rfl (ls' := #[.val (.ref m0), .val (.ref sk), .val (.null), .unset, .unset, .unset, .unset, .unset]) rfl ?_
  refine g_ifnullY W1 d51_6 (pcy := 148) (by decide) ?_
  refine g_aconst_null W1 d51_148 (pc' := 149) rfl ?_
  exact g_areturn W1 rfl rfl d51_149 ⟨rfl, H1⟩ (by decide) (by decide)
theorem c_gd0 (l : Launch) (Z : State) (a0 : Array Value) (hw : ∀ d ∈ tables_1, d.before a0 Z = true) (n0 : Nat) (m0 sk df : Addr) (sz mc thr : Int32) (h0 : Heap) (F : List HRow) (H00 : Hp Z n0 h0 ((m0, ObC Z "java/util/HashMap" (fs_HashMap (.float (1061158912 : UInt32)) (.int sz) .null (.int mc) .null (.int thr))) :: F)) :
    Con l Z n0 ⟨"java/util/HashMap", "getOrDefault", "(Ljava/lang/Object;Ljava/lang/Object;)Ljava/lang/Object;"⟩ [] jdk_69_method_30_code 4 (some (.object "java/lang/Object")) ({ frames := 1, cells := 0, slots := 0, locals := 19 } : Room) #[.ref m0, .ref sk, .ref df] h0 (fun v h => v = some (.ref df) ∧ Hp Z n0 h ((m0, ObC Z "java/util/HashMap" (fs_HashMap (.float (1061158912 : UInt32)) (.int sz) .null (.int mc) .null (.int thr))) :: F)) := by
  refine con_of pf_50 ?_
  intro p e s m below meth c T0 W0 e0
  subst e0
  have H0 := H00
  refine g_cast (ef_rrr4 m m0 sk df) ?_
  refine g_aloadN W0 d50_0 (pc' := 1) rfl rfl rfl ?_
  refine g_aloadN W0 d50_1 (pc' := 2) rfl rfl rfl ?_
  refine g_callV W0 (argsL := [.ref sk]) (st := []) (wd_360 hw) (wd_361 hw) (wd_363 hw) (wd_362 hw) (wd_28 hw) (wd_364 hw) (by decide) (a := m0) H0 (i := 0) rfl (c_gn0 l Z a0 hw n0 m0 sk sz mc thr _ _ H0) pd_20 rfl rfl rfl d50_2 (pc' := 5) rfl (by decide) (Wn := 0) (Nat.le_of_eq rfl) (by decide) (kc' := 0) (ks' := 0) rfl rfl (by decide) (by decide) ?_
  intro T1 v1 W1 hp1
  obtain ⟨rfl, H1⟩ := hp1
  show Goes _ _ _ _ (State.setTop _ (mkF _ _ _ [.null]))
  refine g_dup W1 d50_5 (pc' := 6) rfl rfl ?_
  refine g_astoreN W1 d50_6 (pc' := 7) rfl rfl (ls' := #[.val (.ref m0), .val (.ref sk), .val (.ref df), .val (.null)]) rfl ?_
  refine g_ifnonnullN W1 d50_7 (pc' := 10) rfl ?_
  refine g_aloadN W1 d50_10 (pc' := 11) rfl rfl rfl ?_
  refine g_goto W1 d50_11 (pc' := 18) (by decide) ?_
  exact g_areturn W1 rfl rfl d50_18 ⟨rfl, H1⟩ (by decide) (by decide)
theorem c_gn1 (l : Launch) (Z : State) (a0 : Array Value) (hw : ∀ d ∈ tables_1, d.before a0 Z = true) (n0 : Nat) (cs : Int32) (hS : Sta Z Z.heap "java/lang/String" "COMPACT_STRINGS" "Z" (.int cs)) (hcs : ¬ cs = 0) (m0 sk tb : Addr) (q sz mc thr : Int32) (vs : List Value) (hlen : vs.length.toInt32 = 16) (jx : Nat) (hjx : ((15 : Int32) &&& q).toInt = (jx : Int)) (hj16 : jx < 16) (b : Addr) (hv : Int32) (hq : KeyOk q) (hh : hv = 0 ∨ hv = q) (hvn : vs[jx]? = some .null) (h0 : Heap) (F : List HRow) (H00 : Hp Z n0 h0 ((m0, ObC Z "java/util/HashMap" (fs_HashMap (.float (1061158912 : UInt32)) (.int sz) .null (.int mc) (.ref tb) (.int thr))) :: (tb, RaC Z "java/util/HashMap$Node" vs) :: (sk, ObC Z "java/lang/String" (fs_String (.ref b) (.int (0 : Int32)) (.int hv) (.int (0 : Int32)))) :: (b, ArC Z .byte [.int q]) :: F)) :
    Con l Z n0 ⟨"java/util/HashMap", "getNode", "(Ljava/lang/Object;)Ljava/util/HashMap$Node;"⟩ [] jdk_69_method_13_code 8 (some (.object "java/util/HashMap$Node")) ({ frames := 3, cells := 0, slots := 0, locals := 40 } : Room) #[.ref m0, .ref sk] h0 (fun v h => v = some .null ∧ Hp Z n0 h ((m0, ObC Z "java/util/HashMap" (fs_HashMap (.float (1061158912 : UInt32)) (.int sz) .null (.int mc) (.ref tb) (.int thr))) :: (tb, RaC Z "java/util/HashMap$Node" vs) :: (sk, ObC Z "java/lang/String" (fs_String (.ref b) (.int (0 : Int32)) (.int q) (.int (0 : Int32)))) :: (b, ArC Z .byte [.int q]) :: F)) := by
  refine con_of pf_51 ?_
  intro p e s m below meth c T0 W0 e0
  subst e0
  have H0 := H00
  refine g_cast (ef_rr8 m m0 sk) ?_
  refine g_aloadN W0 d51_0 (pc' := 1) rfl rfl rfl ?_
  refine g_getf W0 (wd_245 hw) Via.refl H0 (i := 0) rfl (jx := 4) rfl d51_1 (pc' := 4) rfl ?_
  intro T1 W1 H1
  refine g_dup W1 d51_4 (pc' := 5) rfl rfl ?_
  refine g_astoreN W1 d51_5 (pc' := 6) rfl rfl (ls' := #[.val (.ref m0), .val (.ref sk), .val (.ref tb), .unset, .unset, .unset, .unset, .unset]) rfl ?_
  refine g_ifnullN W1 d51_6 (pc' := 9) rfl ?_
  refine g_aloadN W1 d51_9 (pc' := 10) rfl rfl rfl ?_
  refine g_arrlenR W1 H1 (i := 1) rfl (x := (16 : Int32)) hlen d51_10 (pc' := 11) rfl ?_
  refine g_dup W1 d51_11 (pc' := 12) rfl rfl ?_
  refine g_istore W1 d51_12 (pc' := 14) rfl (ls' := #[.val (.ref m0), .val (.ref sk), .val (.ref tb), .unset, .unset, .val (.int (16 : Int32)), .unset, .unset]) rfl ?_
  refine g_if W1 d51_14 (pcy := 148) (by decide) (pc' := 17) rfl (fun (h : ¬ (0 : Int32) < (16 : Int32)) => absurd h (by decide)) (fun _ => ?_)
  refine g_aloadN W1 d51_17 (pc' := 18) rfl rfl rfl ?_
  refine g_iload W1 d51_18 (pc' := 20) rfl rfl ?_
  refine g_iconst W1 d51_20 (pc' := 21) rfl (v := (1 : Int32)) (by decide) ?_
  refine g_isub W1 d51_21 (pc' := 22) rfl (v := (15 : Int32)) (by decide) ?_
  refine g_aloadN W1 d51_22 (pc' := 23) rfl rfl rfl ?_
  have H2f := Hp.fr3 H1
  have H3f := Hp.fr3 H2f
  refine g_callS W1 (argsL := [.ref sk]) (st := [.int (15 : Int32), .ref tb]) (wd_219 hw) (wd_220 hw) (wd_28 hw) (wd_221 hw) (by decide) (c_hash l Z a0 hw n0 cs hS hcs sk b q hv hq hh _ _ H3f) pd_18 rfl rfl rfl d51_23 (pc' := 26) rfl (by decide) (Wn := 2) (Nat.le_of_eq rfl) (by decide) (kc' := 0) (ks' := 0) rfl rfl (by decide) (by decide) ?_
  intro T4 v4 W4 hp4
  obtain ⟨rfl, H4⟩ := hp4
  show Goes _ _ _ _ (State.setTop _ (mkF _ _ _ [.int q, .int (15 : Int32), .ref tb]))
  refine g_dup W4 d51_26 (pc' := 27) rfl rfl ?_
  refine g_istore W4 d51_27 (pc' := 29) rfl (ls' := #[.val (.ref m0), .val (.ref sk), .val (.ref tb), .unset, .unset, .val (.int (16 : Int32)), .val (.int q), .unset]) rfl ?_
  refine g_iand W4 d51_29 (pc' := 30) rfl rfl ?_
  refine g_aaload W4 H4 (i := 3) rfl (jx := jx) hjx (v := .null) hvn d51_30 (pc' := 31) rfl ?_
  refine g_dup W4 d51_31 (pc' := 32) rfl rfl ?_
  refine g_astoreN W4 d51_32 (pc' := 33) rfl rfl (ls' := #[.val (.ref m0), .val (.ref sk), .val (.ref tb), .val (.null), .unset, .val (.int (16 : Int32)), .val (.int q), .unset]) rfl ?_
  refine g_ifnullY W4 d51_33 (pcy := 148) (by decide) ?_
  refine g_aconst_null W4 d51_148 (pc' := 149) rfl ?_
  have H5f := Hp.fr1 H4
  have H6f := Hp.fr1 H5f
  have H7f := Hp.fr3 H6f
  have H8f := Hp.fr3 H7f
  exact g_areturn W4 rfl rfl d51_149 ⟨rfl, H8f⟩ (by decide) (by decide)
theorem c_gn2 (l : Launch) (Z : State) (a0 : Array Value) (hw : ∀ d ∈ tables_1, d.before a0 Z = true) (n0 : Nat) (cs : Int32) (hS : Sta Z Z.heap "java/lang/String" "COMPACT_STRINGS" "Z" (.int cs)) (hcs : ¬ cs = 0) (m0 sk tb : Addr) (q sz mc thr : Int32) (vs : List Value) (hlen : vs.length.toInt32 = 16) (jx : Nat) (hjx : ((15 : Int32) &&& q).toInt = (jx : Int)) (hj16 : jx < 16) (b : Addr) (hv : Int32) (hq : KeyOk q) (hh : hv = 0 ∨ hv = q) (F : List HRow) (nd ia : Addr) (hvn : vs[jx]? = some (.ref nd)) (hn : (nd, ObC Z "java/util/HashMap$Node" (fs_HashMap_Node (.int q) (.ref sk) (.ref ia) .null)) ∈ F) (h0 : Heap) (H00 : Hp Z n0 h0 ((m0, ObC Z "java/util/HashMap" (fs_HashMap (.float (1061158912 : UInt32)) (.int sz) .null (.int mc) (.ref tb) (.int thr))) :: (tb, RaC Z "java/util/HashMap$Node" vs) :: (sk, ObC Z "java/lang/String" (fs_String (.ref b) (.int (0 : Int32)) (.int hv) (.int (0 : Int32)))) :: (b, ArC Z .byte [.int q]) :: F)) :
    Con l Z n0 ⟨"java/util/HashMap", "getNode", "(Ljava/lang/Object;)Ljava/util/HashMap$Node;"⟩ [] jdk_69_method_13_code 8 (some (.object "java/util/HashMap$Node")) ({ frames := 3, cells := 0, slots := 0, locals := 40 } : Room) #[.ref m0, .ref sk] h0 (fun v h => v = some (.ref nd) ∧ Hp Z n0 h ((m0, ObC Z "java/util/HashMap" (fs_HashMap (.float (1061158912 : UInt32)) (.int sz) .null (.int mc) (.ref tb) (.int thr))) :: (tb, RaC Z "java/util/HashMap$Node" vs) :: (sk, ObC Z "java/lang/String" (fs_String (.ref b) (.int (0 : Int32)) (.int q) (.int (0 : Int32)))) :: (b, ArC Z .byte [.int q]) :: F)) := by
  refine con_of pf_51 ?_
  intro p e s m below meth c T0 W0 e0
  subst e0
  have H0 := H00
  refine g_cast (ef_rr8 m m0 sk) ?_
  refine g_aloadN W0 d51_0 (pc' := 1) rfl rfl rfl ?_
  refine g_getf W0 (wd_245 hw) Via.refl H0 (i := 0) rfl (jx := 4) rfl d51_1 (pc' := 4) rfl ?_
  intro T1 W1 H1
  refine g_dup W1 d51_4 (pc' := 5) rfl rfl ?_
  refine g_astoreN W1 d51_5 (pc' := 6) rfl rfl (ls' := #[.val (.ref m0), .val (.ref sk), .val (.ref tb), .unset, .unset, .unset, .unset, .unset]) rfl ?_
  refine g_ifnullN W1 d51_6 (pc' := 9) rfl ?_
  refine g_aloadN W1 d51_9 (pc' := 10) rfl rfl rfl ?_
  refine g_arrlenR W1 H1 (i := 1) rfl (x := (16 : Int32)) hlen d51_10 (pc' := 11) rfl ?_
  refine g_dup W1 d51_11 (pc' := 12) rfl rfl ?_
  refine g_istore W1 d51_12 (pc' := 14) rfl (ls' := #[.val (.ref m0), .val (.ref sk), .val (.ref tb), .unset, .unset, .val (.int (16 : Int32)), .unset, .unset]) rfl ?_
  refine g_if W1 d51_14 (pcy := 148) (by decide) (pc' := 17) rfl (fun (h : ¬ (0 : Int32) < (16 : Int32)) => absurd h (by decide)) (fun _ => ?_)
  refine g_aloadN W1 d51_17 (pc' := 18) rfl rfl rfl ?_
  refine g_iload W1 d51_18 (pc' := 20) rfl rfl ?_
  refine g_iconst W1 d51_20 (pc' := 21) rfl (v := (1 : Int32)) (by decide) ?_
  refine g_isub W1 d51_21 (pc' := 22) rfl (v := (15 : Int32)) (by decide) ?_
  refine g_aloadN W1 d51_22 (pc' := 23) rfl rfl rfl ?_
  have H2f := Hp.fr3 H1
  have H3f := Hp.fr3 H2f
  refine g_callS W1 (argsL := [.ref sk]) (st := [.int (15 : Int32), .ref tb]) (wd_219 hw) (wd_220 hw) (wd_28 hw) (wd_221 hw) (by decide) (c_hash l Z a0 hw n0 cs hS hcs sk b q hv hq hh _ _ H3f) pd_18 rfl rfl rfl d51_23 (pc' := 26) rfl (by decide) (Wn := 2) (Nat.le_of_eq rfl) (by decide) (kc' := 0) (ks' := 0) rfl rfl (by decide) (by decide) ?_
  intro T4 v4 W4 hp4
  obtain ⟨rfl, H4⟩ := hp4
  show Goes _ _ _ _ (State.setTop _ (mkF _ _ _ [.int q, .int (15 : Int32), .ref tb]))
  refine g_dup W4 d51_26 (pc' := 27) rfl rfl ?_
  refine g_istore W4 d51_27 (pc' := 29) rfl (ls' := #[.val (.ref m0), .val (.ref sk), .val (.ref tb), .unset, .unset, .val (.int (16 : Int32)), .val (.int q), .unset]) rfl ?_
  refine g_iand W4 d51_29 (pc' := 30) rfl rfl ?_
  refine g_aaload W4 H4 (i := 3) rfl (jx := jx) hjx (v := .ref nd) hvn d51_30 (pc' := 31) rfl ?_
  refine g_dup W4 d51_31 (pc' := 32) rfl rfl ?_
  refine g_astoreN W4 d51_32 (pc' := 33) rfl rfl (ls' := #[.val (.ref m0), .val (.ref sk), .val (.ref tb), .val (.ref nd), .unset, .val (.int (16 : Int32)), .val (.int q), .unset]) rfl ?_
  refine g_ifnullN W4 d51_33 (pc' := 36) rfl ?_
  refine g_aloadN W4 d51_36 (pc' := 37) rfl rfl rfl ?_
  refine g_getfF W4 (wd_365 hw) Via.refl H4 (H4.fldm (mc4 hn) (jx := 0) rfl) d51_37 (pc' := 40) rfl ?_
  intro T5 W5 _ H5
  refine g_iload W5 d51_40 (pc' := 42) rfl rfl ?_
  refine g_icmp W5 d51_42 (pcy := 71) (by decide) (pc' := 45) rfl (fun (h : ¬ q = q) => absurd rfl h) (fun (_ : ¬ ¬ q = q) => ?_)
  refine g_aloadN W5 d51_45 (pc' := 46) rfl rfl rfl ?_
  refine g_getfF W5 (wd_366 hw) Via.refl H5 (H5.fldm (mc4 hn) (jx := 1) rfl) d51_46 (pc' := 49) rfl ?_
  intro T6 W6 _ H6
  refine g_dup W6 d51_49 (pc' := 50) rfl rfl ?_
  refine g_astore W6 d51_50 (pc' := 52) rfl rfl (ls' := #[.val (.ref m0), .val (.ref sk), .val (.ref tb), .val (.ref nd), .unset, .val (.int (16 : Int32)), .val (.int q), .val (.ref sk)]) rfl ?_
  refine g_aloadN W6 d51_52 (pc' := 53) rfl rfl rfl ?_
  refine g_acmpY W6 rfl rfl (acmp_same _) d51_53 (pcy := 69) (by decide) ?_
  refine g_aloadN W6 d51_69 (pc' := 70) rfl rfl rfl ?_
  have H7f := Hp.fr1 H6
  have H8f := Hp.fr1 H7f
  have H9f := Hp.fr3 H8f
  have H10f := Hp.fr3 H9f
  exact g_areturn W6 rfl rfl d51_70 ⟨rfl, H10f⟩ (by decide) (by decide)
theorem c_gd1 (l : Launch) (Z : State) (a0 : Array Value) (hw : ∀ d ∈ tables_1, d.before a0 Z = true) (n0 : Nat) (cs : Int32) (hS : Sta Z Z.heap "java/lang/String" "COMPACT_STRINGS" "Z" (.int cs)) (hcs : ¬ cs = 0) (m0 sk tb : Addr) (q sz mc thr : Int32) (vs : List Value) (hlen : vs.length.toInt32 = 16) (jx : Nat) (hjx : ((15 : Int32) &&& q).toInt = (jx : Int)) (hj16 : jx < 16) (b : Addr) (hv : Int32) (hq : KeyOk q) (hh : hv = 0 ∨ hv = q) (hvn : vs[jx]? = some .null) (df : Addr) (h0 : Heap) (F : List HRow) (H00 : Hp Z n0 h0 ((m0, ObC Z "java/util/HashMap" (fs_HashMap (.float (1061158912 : UInt32)) (.int sz) .null (.int mc) (.ref tb) (.int thr))) :: (tb, RaC Z "java/util/HashMap$Node" vs) :: (sk, ObC Z "java/lang/String" (fs_String (.ref b) (.int (0 : Int32)) (.int hv) (.int (0 : Int32)))) :: (b, ArC Z .byte [.int q]) :: F)) :
    Con l Z n0 ⟨"java/util/HashMap", "getOrDefault", "(Ljava/lang/Object;Ljava/lang/Object;)Ljava/lang/Object;"⟩ [] jdk_69_method_30_code 4 (some (.object "java/lang/Object")) ({ frames := 4, cells := 0, slots := 0, locals := 59 } : Room) #[.ref m0, .ref sk, .ref df] h0 (fun v h => v = some (.ref df) ∧ Hp Z n0 h ((m0, ObC Z "java/util/HashMap" (fs_HashMap (.float (1061158912 : UInt32)) (.int sz) .null (.int mc) (.ref tb) (.int thr))) :: (tb, RaC Z "java/util/HashMap$Node" vs) :: (sk, ObC Z "java/lang/String" (fs_String (.ref b) (.int (0 : Int32)) (.int q) (.int (0 : Int32)))) :: (b, ArC Z .byte [.int q]) :: F)) := by
  refine con_of pf_50 ?_
  intro p e s m below meth c T0 W0 e0
  subst e0
  have H0 := H00
  refine g_cast (ef_rrr4 m m0 sk df) ?_
  refine g_aloadN W0 d50_0 (pc' := 1) rfl rfl rfl ?_
  refine g_aloadN W0 d50_1 (pc' := 2) rfl rfl rfl ?_
  refine g_callV W0 (argsL := [.ref sk]) (st := []) (wd_360 hw) (wd_361 hw) (wd_363 hw) (wd_362 hw) (wd_28 hw) (wd_364 hw) (by decide) (a := m0) H0 (i := 0) rfl (c_gn1 l Z a0 hw n0 cs hS hcs m0 sk tb q sz mc thr vs hlen jx hjx hj16 b hv hq hh hvn _ _ H0) pd_20 rfl rfl rfl d50_2 (pc' := 5) rfl (by decide) (Wn := 0) (Nat.le_of_eq rfl) (by decide) (kc' := 0) (ks' := 0) rfl rfl (by decide) (by decide) ?_
  intro T1 v1 W1 hp1
  obtain ⟨rfl, H1⟩ := hp1
  show Goes _ _ _ _ (State.setTop _ (mkF _ _ _ [.null]))
  refine g_dup W1 d50_5 (pc' := 6) rfl rfl ?_
  refine g_astoreN W1 d50_6 (pc' := 7) rfl rfl (ls' := #[.val (.ref m0), .val (.ref sk), .val (.ref df), .val (.null)]) rfl ?_
  refine g_ifnonnullN W1 d50_7 (pc' := 10) rfl ?_
  refine g_aloadN W1 d50_10 (pc' := 11) rfl rfl rfl ?_
  refine g_goto W1 d50_11 (pc' := 18) (by decide) ?_
  exact g_areturn W1 rfl rfl d50_18 ⟨rfl, H1⟩ (by decide) (by decide)
theorem c_gd2 (l : Launch) (Z : State) (a0 : Array Value) (hw : ∀ d ∈ tables_1, d.before a0 Z = true) (n0 : Nat) (cs : Int32) (hS : Sta Z Z.heap "java/lang/String" "COMPACT_STRINGS" "Z" (.int cs)) (hcs : ¬ cs = 0) (m0 sk tb : Addr) (q sz mc thr : Int32) (vs : List Value) (hlen : vs.length.toInt32 = 16) (jx : Nat) (hjx : ((15 : Int32) &&& q).toInt = (jx : Int)) (hj16 : jx < 16) (b : Addr) (hv : Int32) (hq : KeyOk q) (hh : hv = 0 ∨ hv = q) (F : List HRow) (nd ia : Addr) (hvn : vs[jx]? = some (.ref nd)) (hn : (nd, ObC Z "java/util/HashMap$Node" (fs_HashMap_Node (.int q) (.ref sk) (.ref ia) .null)) ∈ F) (df : Addr) (h0 : Heap) (H00 : Hp Z n0 h0 ((m0, ObC Z "java/util/HashMap" (fs_HashMap (.float (1061158912 : UInt32)) (.int sz) .null (.int mc) (.ref tb) (.int thr))) :: (tb, RaC Z "java/util/HashMap$Node" vs) :: (sk, ObC Z "java/lang/String" (fs_String (.ref b) (.int (0 : Int32)) (.int hv) (.int (0 : Int32)))) :: (b, ArC Z .byte [.int q]) :: F)) :
    Con l Z n0 ⟨"java/util/HashMap", "getOrDefault", "(Ljava/lang/Object;Ljava/lang/Object;)Ljava/lang/Object;"⟩ [] jdk_69_method_30_code 4 (some (.object "java/lang/Object")) ({ frames := 4, cells := 0, slots := 0, locals := 59 } : Room) #[.ref m0, .ref sk, .ref df] h0 (fun v h => v = some (.ref ia) ∧ Hp Z n0 h ((m0, ObC Z "java/util/HashMap" (fs_HashMap (.float (1061158912 : UInt32)) (.int sz) .null (.int mc) (.ref tb) (.int thr))) :: (tb, RaC Z "java/util/HashMap$Node" vs) :: (sk, ObC Z "java/lang/String" (fs_String (.ref b) (.int (0 : Int32)) (.int q) (.int (0 : Int32)))) :: (b, ArC Z .byte [.int q]) :: F)) := by
  refine con_of pf_50 ?_
  intro p e s m below meth c T0 W0 e0
  subst e0
  have H0 := H00
  refine g_cast (ef_rrr4 m m0 sk df) ?_
  refine g_aloadN W0 d50_0 (pc' := 1) rfl rfl rfl ?_
  refine g_aloadN W0 d50_1 (pc' := 2) rfl rfl rfl ?_
  refine g_callV W0 (argsL := [.ref sk]) (st := []) (wd_360 hw) (wd_361 hw) (wd_363 hw) (wd_362 hw) (wd_28 hw) (wd_364 hw) (by decide) (a := m0) H0 (i := 0) rfl (c_gn2 l Z a0 hw n0 cs hS hcs m0 sk tb q sz mc thr vs hlen jx hjx hj16 b hv hq hh _ nd ia hvn hn _ H0) pd_20 rfl rfl rfl d50_2 (pc' := 5) rfl (by decide) (Wn := 0) (Nat.le_of_eq rfl) (by decide) (kc' := 0) (ks' := 0) rfl rfl (by decide) (by decide) ?_
  intro T1 v1 W1 hp1
  obtain ⟨rfl, H1⟩ := hp1
  show Goes _ _ _ _ (State.setTop _ (mkF _ _ _ [.ref nd]))
  refine g_dup W1 d50_5 (pc' := 6) rfl rfl ?_
  refine g_astoreN W1 d50_6 (pc' := 7) rfl rfl (ls' := #[.val (.ref m0), .val (.ref sk), .val (.ref df), .val (.ref nd)]) rfl ?_
  refine g_ifnonnullY W1 d50_7 (pcy := 14) (by decide) ?_
  refine g_aloadN W1 d50_14 (pc' := 15) rfl rfl rfl ?_
  refine g_getfF W1 (wd_367 hw) Via.refl H1 (H1.fldm (mc4 hn) (jx := 2) rfl) d50_15 (pc' := 18) rfl ?_
  intro T2 W2 _ H2
  exact g_areturn W2 rfl rfl d50_18 ⟨rfl, H2⟩ (by decide) (by decide)

/-- where the iterator stands when it has looked on from i: the next index, and what it found -/
def own_scan : List Value → Nat → Nat × Value
  | [], i => (i, .null)
  | .null :: r, i => own_scan r (i + 1)
  | v :: _, i => (i + 1, v)
theorem sc_i1 {i : Int32} {i0 : Nat} (h : i.toInt = (i0 : Int)) (hb : i0 < 1000000) : (i + (1 : Int32)).toInt = ((i0 + 1 : Nat) : Int) := by
  have e1 : (1 : Int32).toInt = 1 := by decide
  rw [Int32.toInt_add, e1, h, Kit.bmod32 (by omega) (by omega)]; omega
theorem sc_tl {r vs : List Value} {v : Value} {i0 : Nat} (h : ∀ t z, (v :: r)[t]? = some z → vs[i0 + t]? = some z) : ∀ t z, r[t]? = some z → vs[i0 + 1 + t]? = some z := fun t z q => by
  have := h (t + 1) z (by simpa using q)
  rwa [show i0 + (t + 1) = i0 + 1 + t by omega] at this
theorem sc_16 : (16 : Int32).toInt = 16 := by decide

theorem c_msz (l : Launch) (Z : State) (a0 : Array Value) (hw : ∀ d ∈ tables_1, d.before a0 Z = true) (n0 : Nat) (m0 : Addr) (sz mc thr : Int32) (tv : Value) (h0 : Heap) (F : List HRow) (H00 : Hp Z n0 h0 ((m0, ObC Z "java/util/HashMap" (fs_HashMap (.float (1061158912 : UInt32)) (.int sz) .null (.int mc) tv (.int thr))) :: F)) :
    Con l Z n0 ⟨"java/util/HashMap", "size", "()I"⟩ [] jdk_69_method_10_code 1 (some .int) ({ frames := 0, cells := 0, slots := 0, locals := 0 } : Room) #[.ref m0] h0 (fun v h => v = some (.int sz) ∧ Hp Z n0 h ((m0, ObC Z "java/util/HashMap" (fs_HashMap (.float (1061158912 : UInt32)) (.int sz) .null (.int mc) tv (.int thr))) :: F)) := by
  refine con_of pf_13 ?_
  intro p e s m below meth c T0 W0 e0
  subst e0
  have H0 := H00
  refine g_cast (ef_r1 m m0) ?_
  refine g_aloadN W0 d13_0 (pc' := 1) rfl rfl rfl ?_
  refine g_getf W0 (wd_96 hw) Via.refl H0 (i := 0) rfl (jx := 1) rfl d13_1 (pc' := 4) rfl ?_
  intro T1 W1 H1
  exact g_ireturn W1 d13_4 ⟨rfl, H1⟩ (by decide) (by decide)
theorem c_vai (l : Launch) (Z : State) (a0 : Array Value) (hw : ∀ d ∈ tables_1, d.before a0 Z = true) (n0 : Nat) (a m0 : Addr) (h0 : Heap) (F : List HRow) (H00 : Hp Z n0 h0 ((a, ObC Z "java/util/HashMap$Values" (fs_HashMap_Values .null)) :: F)) :
    Con l Z n0 ⟨"java/util/HashMap$Values", "<init>", "(Ljava/util/HashMap;)V"⟩ [] jdk_2571_method_1_code 2 none ({ frames := 2, cells := 0, slots := 0, locals := 24 } : Room) #[.ref a, .ref m0] h0 (fun v h => v = none ∧ Hp Z n0 h ((a, ObC Z "java/util/HashMap$Values" (fs_HashMap_Values (.ref m0))) :: F)) := by
  refine con_of pf_15 ?_
  intro p e s m below meth c T0 W0 e0
  subst e0
  have H0 := H00
  refine g_cast (ef_rr2 m a m0) ?_
  refine g_aloadN W0 d15_0 (pc' := 1) rfl rfl rfl ?_
  refine g_aloadN W0 d15_1 (pc' := 2) rfl rfl rfl ?_
  refine g_putf W0 (wd_116 hw) Via.refl (Or.inr ⟨(wd_117 hw), rfl, rfl⟩) (wd_110 hw) (ty := (.object "java/util/HashMap")) (by decide) rfl rfl H0 (i := 0) rfl (jx := 0) rfl d15_2 (pc' := 5) rfl (L' := ((a, ObC Z "java/util/HashMap$Values" (fs_HashMap_Values (.ref m0))) :: F)) rfl ?_
  intro T1 W1 H1
  refine g_aloadN W1 d15_5 (pc' := 6) rfl rfl rfl ?_
  refine g_callI W1 (argsL := []) (st := []) rfl (wd_118 hw) (wd_55 hw) (wd_58 hw) (wd_59 hw) (by decide) (a := a) (c_ac l Z a0 hw n0 a _ _ H1) pd_6 rfl rfl rfl d15_6 (pc' := 9) rfl (by decide) (Wn := 0) (Nat.le_of_eq rfl) (by decide) (kc' := 0) (ks' := 0) rfl rfl (by decide) (by decide) ?_
  intro T2 v2 W2 hp2
  obtain ⟨rfl, H2⟩ := hp2
  show Goes _ _ _ _ (State.setTop _ (mkF _ _ _ []))
  exact g_return W2 d15_9 ⟨rfl, H2⟩ (by decide) (by decide)
theorem c_vals (l : Launch) (Z : State) (a0 : Array Value) (hw : ∀ d ∈ tables_1, d.before a0 Z = true) (n0 : Nat) (m0 : Addr) (sz mc thr : Int32) (tv : Value) (h0 : Heap) (F : List HRow) (H00 : Hp Z n0 h0 ((m0, ObC Z "java/util/HashMap" (fs_HashMap (.float (1061158912 : UInt32)) (.int sz) .null (.int mc) tv (.int thr))) :: F)) :
    Con l Z n0 ⟨"java/util/HashMap", "values", "()Ljava/util/Collection;"⟩ [] jdk_69_method_28_code 2 (some (.object "java/util/Collection")) ({ frames := 3, cells := 1, slots := 1, locals := 38 } : Room) #[.ref m0] h0 (fun v h => ∃ va, v = some (.ref va) ∧ Hp Z n0 h ((va, ObC Z "java/util/HashMap$Values" (fs_HashMap_Values (.ref m0))) :: (m0, ObC Z "java/util/HashMap" (fs_HashMap (.float (1061158912 : UInt32)) (.int sz) (.ref va) (.int mc) tv (.int thr))) :: F)) := by
  refine con_of pf_14 ?_
  intro p e s m below meth c T0 W0 e0
  subst e0
  have H0 := H00
  refine g_cast (ef_r2 m m0) ?_
  refine g_aloadN W0 d14_0 (pc' := 1) rfl rfl rfl ?_
  refine g_getf W0 (wd_106 hw) (Via.of (wd_107 hw)) H0 (i := 0) rfl (jx := 2) rfl d14_1 (pc' := 4) rfl ?_
  intro T1 W1 H1
  refine g_astoreN W1 d14_4 (pc' := 5) rfl rfl (ls' := #[.val (.ref m0), .val (.null)]) rfl ?_
  refine g_aloadN W1 d14_5 (pc' := 6) rfl rfl rfl ?_
  refine g_ifnonnullN W1 d14_6 (pc' := 9) rfl ?_
  refine g_new W1 (wd_109 hw) (wd_110 hw) (wd_111 hw) (la_HashMap_Values hw) (by decide) H1 d14_9 (pc' := 12) rfl (kc' := 1) (ks' := 1) rfl rfl (by decide) (by decide) ?_
  intro T2 a2 W2 H2
  refine g_dup W2 d14_12 (pc' := 13) rfl rfl ?_
  refine g_aloadN W2 d14_13 (pc' := 14) rfl rfl rfl ?_
  refine g_callI W2 (argsL := [.ref m0]) (st := [.ref a2]) rfl (wd_112 hw) (wd_113 hw) (wd_111 hw) (wd_115 hw) (by decide) (a := a2) (c_vai l Z a0 hw n0 a2 m0 _ _ H2) pd_21 rfl rfl rfl d14_14 (pc' := 17) rfl (by decide) (Wn := 1) (Nat.le_of_eq rfl) (by decide) (kc' := 1) (ks' := 1) rfl rfl (by decide) (by decide) ?_
  intro T3 v3 W3 hp3
  obtain ⟨rfl, H3⟩ := hp3
  show Goes _ _ _ _ (State.setTop _ (mkF _ _ _ [.ref a2]))
  refine g_astoreN W3 d14_17 (pc' := 18) rfl rfl (ls' := #[.val (.ref m0), .val (.ref a2)]) rfl ?_
  refine g_aloadN W3 d14_18 (pc' := 19) rfl rfl rfl ?_
  refine g_aloadN W3 d14_19 (pc' := 20) rfl rfl rfl ?_
  refine g_putf W3 (wd_106 hw) (Via.of (wd_107 hw)) (Or.inl (wd_108 hw)) (wd_27 hw) (ty := (.object "java/util/Collection")) (by decide) rfl rfl H3 (i := 1) rfl (jx := 2) rfl d14_20 (pc' := 23) rfl (L' := ((a2, ObC Z "java/util/HashMap$Values" (fs_HashMap_Values (.ref m0))) :: (m0, ObC Z "java/util/HashMap" (fs_HashMap (.float (1061158912 : UInt32)) (.int sz) (.ref a2) (.int mc) tv (.int thr))) :: F)) rfl ?_
  intro T4 W4 H4
  refine g_aloadN W4 d14_23 (pc' := 24) rfl rfl rfl ?_
  exact g_areturn W4 rfl rfl d14_24 ⟨_, rfl, H4⟩ (by decide) (by decide)
theorem c_hi0 (l : Launch) (Z : State) (a0 : Array Value) (hw : ∀ d ∈ tables_1, d.before a0 Z = true) (n0 : Nat) (m0 : Addr) (sz mc thr : Int32) (it va : Addr) (h0 : Heap) (F : List HRow) (H00 : Hp Z n0 h0 ((it, ObC Z "java/util/HashMap$ValueIterator" (fs_HashMap_ValueIterator .null (.int (0 : Int32)) .null .null (.int (0 : Int32)))) :: (m0, ObC Z "java/util/HashMap" (fs_HashMap (.float (1061158912 : UInt32)) (.int sz) (.ref va) (.int mc) .null (.int thr))) :: F)) :
    Con l Z n0 ⟨"java/util/HashMap$HashIterator", "<init>", "(Ljava/util/HashMap;)V"⟩ [] jdk_99_method_1_code 3 none ({ frames := 1, cells := 0, slots := 0, locals := 12 } : Room) #[.ref it, .ref m0] h0 (fun v h => v = none ∧ Hp Z n0 h ((it, ObC Z "java/util/HashMap$ValueIterator" (fs_HashMap_ValueIterator (.ref m0) (.int mc) .null .null (.int (0 : Int32)))) :: (m0, ObC Z "java/util/HashMap" (fs_HashMap (.float (1061158912 : UInt32)) (.int sz) (.ref va) (.int mc) .null (.int thr))) :: F)) := by
  refine con_of pf_18 ?_
  intro p e s m below meth c T0 W0 e0
  subst e0
  have H0 := H00
  refine g_cast (ef_rr3 m it m0) ?_
  refine g_aloadN W0 d18_0 (pc' := 1) rfl rfl rfl ?_
  refine g_aloadN W0 d18_1 (pc' := 2) rfl rfl rfl ?_
  refine g_putf W0 (wd_142 hw) Via.refl (Or.inr ⟨(wd_143 hw), rfl, rfl⟩) (wd_130 hw) (ty := (.object "java/util/HashMap")) (by decide) rfl rfl H0 (i := 0) rfl (jx := 0) rfl d18_2 (pc' := 5) rfl (L' := ((it, ObC Z "java/util/HashMap$ValueIterator" (fs_HashMap_ValueIterator (.ref m0) (.int (0 : Int32)) .null .null (.int (0 : Int32)))) :: (m0, ObC Z "java/util/HashMap" (fs_HashMap (.float (1061158912 : UInt32)) (.int sz) (.ref va) (.int mc) .null (.int thr))) :: F)) rfl ?_
  intro T1 W1 H1
  refine g_aloadN W1 d18_5 (pc' := 6) rfl rfl rfl ?_
  refine g_initO W1 (wd_144 hw) (wd_20 hw) (wd_21 hw) H1 rfl d18_6 (pc' := 9) rfl (by decide) (Wn := 0) (Nat.le_of_eq rfl) (by decide) ?_
  intro T2 W2 H2
  refine g_aloadN W2 d18_9 (pc' := 10) rfl rfl rfl ?_
  refine g_aloadN W2 d18_10 (pc' := 11) rfl rfl rfl ?_
  refine g_getf W2 (wd_145 hw) Via.refl H2 (i := 1) rfl (jx := 3) rfl d18_11 (pc' := 14) rfl ?_
  intro T3 W3 H3
  refine g_putf W3 (wd_147 hw) Via.refl (Or.inl (wd_148 hw)) (wd_130 hw) (ty := .int) (by decide) rfl rfl H3 (i := 0) rfl (jx := 1) rfl d18_14 (pc' := 17) rfl (L' := ((it, ObC Z "java/util/HashMap$ValueIterator" (fs_HashMap_ValueIterator (.ref m0) (.int mc) .null .null (.int (0 : Int32)))) :: (m0, ObC Z "java/util/HashMap" (fs_HashMap (.float (1061158912 : UInt32)) (.int sz) (.ref va) (.int mc) .null (.int thr))) :: F)) rfl ?_
  intro T4 W4 H4
  refine g_aloadN W4 d18_17 (pc' := 18) rfl rfl rfl ?_
  refine g_getf W4 (wd_149 hw) Via.refl H4 (i := 1) rfl (jx := 4) rfl d18_18 (pc' := 21) rfl ?_
  intro T5 W5 H5
  refine g_astoreN W5 d18_21 (pc' := 22) rfl rfl (ls' := #[.val (.ref it), .val (.ref m0), .val (.null)]) rfl ?_
  refine g_aloadN W5 d18_22 (pc' := 23) rfl rfl rfl ?_
  refine g_aloadN W5 d18_23 (pc' := 24) rfl rfl rfl ?_
  refine g_aconst_null W5 d18_24 (pc' := 25) rfl ?_
  refine g_dup_x1 W5 d18_25 (pc' := 26) rfl rfl rfl ?_
  refine g_putf W5 (wd_151 hw) Via.refl (Or.inl (wd_152 hw)) (wd_130 hw) (ty := (.object "java/util/HashMap$Node")) (by decide) rfl rfl H5 (i := 0) rfl (jx := 2) rfl d18_26 (pc' := 29) rfl (L' := ((it, ObC Z "java/util/HashMap$ValueIterator" (fs_HashMap_ValueIterator (.ref m0) (.int mc) .null .null (.int (0 : Int32)))) :: (m0, ObC Z "java/util/HashMap" (fs_HashMap (.float (1061158912 : UInt32)) (.int sz) (.ref va) (.int mc) .null (.int thr))) :: F)) rfl ?_
  intro T6 W6 H6
  refine g_putf W6 (wd_153 hw) Via.refl (Or.inl (wd_154 hw)) (wd_130 hw) (ty := (.object "java/util/HashMap$Node")) (by decide) rfl rfl H6 (i := 0) rfl (jx := 3) rfl d18_29 (pc' := 32) rfl (L' := ((it, ObC Z "java/util/HashMap$ValueIterator" (fs_HashMap_ValueIterator (.ref m0) (.int mc) .null .null (.int (0 : Int32)))) :: (m0, ObC Z "java/util/HashMap" (fs_HashMap (.float (1061158912 : UInt32)) (.int sz) (.ref va) (.int mc) .null (.int thr))) :: F)) rfl ?_
  intro T7 W7 H7
  refine g_aloadN W7 d18_32 (pc' := 33) rfl rfl rfl ?_
  refine g_iconst W7 d18_33 (pc' := 34) rfl (v := (0 : Int32)) (by decide) ?_
  refine g_putf W7 (wd_155 hw) Via.refl (Or.inl (wd_156 hw)) (wd_130 hw) (ty := .int) (by decide) rfl rfl H7 (i := 0) rfl (jx := 4) rfl d18_34 (pc' := 37) rfl (L' := ((it, ObC Z "java/util/HashMap$ValueIterator" (fs_HashMap_ValueIterator (.ref m0) (.int mc) .null .null (.int (0 : Int32)))) :: (m0, ObC Z "java/util/HashMap" (fs_HashMap (.float (1061158912 : UInt32)) (.int sz) (.ref va) (.int mc) .null (.int thr))) :: F)) rfl ?_
  intro T8 W8 H8
  refine g_aloadN W8 d18_37 (pc' := 38) rfl rfl rfl ?_
  refine g_ifnullY W8 d18_38 (pcy := 78) (by decide) ?_
  exact g_return W8 d18_78 ⟨rfl, H8⟩ (by decide) (by decide)
set_option maxRecDepth 65536 in
set_option maxHeartbeats 40000000 in
theorem sc_init (l : Launch) (Z : State) (a0 : Array Value) (hw : ∀ d ∈ tables_1, d.before a0 Z = true) (n0 : Nat) (it m0 tb va  : Addr) (sz mc thr : Int32) (cu : Value) (vs : List Value) (hlen : vs.length.toInt32 = 16) (F : List HRow) (as0 : Array Value)
    (p : Program) (e : Env) (R : Room) (s : State) (m : MethodId) (below : List Frame) (meth : Method) (c : Code) (k j : Nat) : ∀ (r : List Value) (i : Int32) (i0 : Nat) (T : State), i.toInt = (i0 : Int) → i0 + r.length = 16 → (∀ t z, r[t]? = some z → vs[i0 + t]? = some z) → (∀ z ∈ r, z = .null ∨ ∃ nd, z = .ref nd) →
    Wk Z ⟨"java/util/HashMap$HashIterator", "<init>", "(Ljava/util/HashMap;)V"⟩ jdk_99_method_1_code 3 none n0 p l e R s m as0 below meth c T 0 0 → Hp Z n0 T.heap ((it, ObC Z "java/util/HashMap$ValueIterator" (fs_HashMap_ValueIterator (.ref m0) (.int mc) .null cu (.int i))) :: (m0, ObC Z "java/util/HashMap" (fs_HashMap (.float (1061158912 : UInt32)) (.int sz) (.ref va) (.int mc) (.ref tb) (.int thr))) :: (tb, RaC Z "java/util/HashMap$Node" vs) :: F) →
    Goes p e below (En s n0 k j (fun v h => v = none ∧ ∃ (jj : Int32) (j0 : Nat) (x : Value), jj.toInt = (j0 : Int) ∧ own_scan r i0 = (j0, x) ∧ Hp Z n0 h ((it, ObC Z "java/util/HashMap$ValueIterator" (fs_HashMap_ValueIterator (.ref m0) (.int mc) x cu (.int jj))) :: (m0, ObC Z "java/util/HashMap" (fs_HashMap (.float (1061158912 : UInt32)) (.int sz) (.ref va) (.int mc) (.ref tb) (.int thr))) :: (tb, RaC Z "java/util/HashMap$Node" vs) :: F))) (T.setTop (mkF m 48 #[.val (.ref it), .val (.ref m0), .val (.ref tb)] [])) := by
  intro r
  induction r with
  | nil =>
    intro i i0 T hi hr hrs hvs W H
    refine g_aloadN W d18_48 (pc' := 49) rfl rfl rfl ?_
    refine g_getf W (wd_155 hw) Via.refl H (i := 0) rfl (jx := 4) rfl d18_49 (pc' := 52) rfl ?_
    intro T1 W1 H1
    refine g_aloadN W1 d18_52 (pc' := 53) rfl rfl rfl ?_
    refine g_arrlenR W1 H1 (i := 2) rfl (x := (16 : Int32)) hlen d18_53 (pc' := 54) rfl ?_
    refine g_icmp W1 d18_54 (pcy := 78) (by decide) (pc' := 57) rfl (fun (_ : ¬ i < (16 : Int32)) => ?_) (fun (h : ¬ ¬ i < (16 : Int32)) => absurd (Classical.not_not.mp h) (by rw [Int32.lt_iff_toInt_lt, sc_16, hi]; simp at hr; omega))
    exact g_return W1 d18_78 ⟨rfl, i, i0, .null, hi, rfl, H1⟩ (Nat.zero_le _) (Nat.zero_le _)
  | cons z r ih =>
    intro i i0 T hi hr hrs hvs W H
    refine g_aloadN W d18_48 (pc' := 49) rfl rfl rfl ?_
    refine g_getf W (wd_155 hw) Via.refl H (i := 0) rfl (jx := 4) rfl d18_49 (pc' := 52) rfl ?_
    intro T2 W2 H2
    refine g_aloadN W2 d18_52 (pc' := 53) rfl rfl rfl ?_
    refine g_arrlenR W2 H2 (i := 2) rfl (x := (16 : Int32)) hlen d18_53 (pc' := 54) rfl ?_
    refine g_icmp W2 d18_54 (pcy := 78) (by decide) (pc' := 57) rfl (fun (h : ¬ i < (16 : Int32)) => absurd (show i < (16 : Int32) by rw [Int32.lt_iff_toInt_lt, sc_16, hi]; simp at hr; omega) h) (fun (_ : ¬ ¬ i < (16 : Int32)) => ?_)
    have hz := hvs z (List.mem_cons_self ..)
    rcases hz with rfl | ⟨nd1, rfl⟩
    · refine g_aloadN W2 d18_57 (pc' := 58) rfl rfl rfl ?_
      refine g_aloadN W2 d18_58 (pc' := 59) rfl rfl rfl ?_
      refine g_aloadN W2 d18_59 (pc' := 60) rfl rfl rfl ?_
      refine g_dup W2 d18_60 (pc' := 61) rfl rfl ?_
      refine g_getf W2 (wd_155 hw) Via.refl H2 (i := 0) rfl (jx := 4) rfl d18_61 (pc' := 64) rfl ?_
      intro T3 W3 H3
      refine g_dup_x1 W3 d18_64 (pc' := 65) rfl rfl rfl ?_
      refine g_iconst W3 d18_65 (pc' := 66) rfl (v := (1 : Int32)) (by decide) ?_
      refine g_iadd W3 d18_66 (pc' := 67) rfl rfl ?_
      refine g_putf W3 (wd_155 hw) Via.refl (Or.inl (wd_156 hw)) (wd_130 hw) (ty := .int) (by decide) rfl rfl H3 (i := 0) rfl (jx := 4) rfl d18_67 (pc' := 70) rfl (L' := ((it, ObC Z "java/util/HashMap$ValueIterator" (fs_HashMap_ValueIterator (.ref m0) (.int mc) .null cu (.int (i + (1 : Int32))))) :: (m0, ObC Z "java/util/HashMap" (fs_HashMap (.float (1061158912 : UInt32)) (.int sz) (.ref va) (.int mc) (.ref tb) (.int thr))) :: (tb, RaC Z "java/util/HashMap$Node" vs) :: F)) rfl ?_
      intro T4 W4 H4
      refine g_aaload W4 H4 (i := 2) rfl (jx := i0) hi (v := .null) (hrs 0 _ rfl) d18_70 (pc' := 71) rfl ?_
      refine g_dup_x1 W4 d18_71 (pc' := 72) rfl rfl rfl ?_
      refine g_putf W4 (wd_151 hw) Via.refl (Or.inl (wd_152 hw)) (wd_130 hw) (ty := (.object "java/util/HashMap$Node")) (by decide) rfl rfl H4 (i := 0) rfl (jx := 2) rfl d18_72 (pc' := 75) rfl (L' := ((it, ObC Z "java/util/HashMap$ValueIterator" (fs_HashMap_ValueIterator (.ref m0) (.int mc) .null cu (.int (i + (1 : Int32))))) :: (m0, ObC Z "java/util/HashMap" (fs_HashMap (.float (1061158912 : UInt32)) (.int sz) (.ref va) (.int mc) (.ref tb) (.int thr))) :: (tb, RaC Z "java/util/HashMap$Node" vs) :: F)) rfl ?_
      intro T5 W5 H5
      refine g_ifnullY W5 d18_75 (pcy := 48) (by decide) ?_
      exact ih (i + (1 : Int32)) (i0 + 1) _ (sc_i1 hi (by simp at hr; omega)) (by simp at hr ⊢; omega) (sc_tl hrs) (fun q hq => hvs q (List.mem_cons_of_mem _ hq)) W5 H5
    · refine g_aloadN W2 d18_57 (pc' := 58) rfl rfl rfl ?_
      refine g_aloadN W2 d18_58 (pc' := 59) rfl rfl rfl ?_
      refine g_aloadN W2 d18_59 (pc' := 60) rfl rfl rfl ?_
      refine g_dup W2 d18_60 (pc' := 61) rfl rfl ?_
      refine g_getf W2 (wd_155 hw) Via.refl H2 (i := 0) rfl (jx := 4) rfl d18_61 (pc' := 64) rfl ?_
      intro T6 W6 H6
      refine g_dup_x1 W6 d18_64 (pc' := 65) rfl rfl rfl ?_
      refine g_iconst W6 d18_65 (pc' := 66) rfl (v := (1 : Int32)) (by decide) ?_
      refine g_iadd W6 d18_66 (pc' := 67) rfl rfl ?_
      refine g_putf W6 (wd_155 hw) Via.refl (Or.inl (wd_156 hw)) (wd_130 hw) (ty := .int) (by decide) rfl rfl H6 (i := 0) rfl (jx := 4) rfl d18_67 (pc' := 70) rfl (L' := ((it, ObC Z "java/util/HashMap$ValueIterator" (fs_HashMap_ValueIterator (.ref m0) (.int mc) .null cu (.int (i + (1 : Int32))))) :: (m0, ObC Z "java/util/HashMap" (fs_HashMap (.float (1061158912 : UInt32)) (.int sz) (.ref va) (.int mc) (.ref tb) (.int thr))) :: (tb, RaC Z "java/util/HashMap$Node" vs) :: F)) rfl ?_
      intro T7 W7 H7
      refine g_aaload W7 H7 (i := 2) rfl (jx := i0) hi (v := .ref nd1) (hrs 0 _ rfl) d18_70 (pc' := 71) rfl ?_
      refine g_dup_x1 W7 d18_71 (pc' := 72) rfl rfl rfl ?_
      refine g_putf W7 (wd_151 hw) Via.refl (Or.inl (wd_152 hw)) (wd_130 hw) (ty := (.object "java/util/HashMap$Node")) (by decide) rfl rfl H7 (i := 0) rfl (jx := 2) rfl d18_72 (pc' := 75) rfl (L' := ((it, ObC Z "java/util/HashMap$ValueIterator" (fs_HashMap_ValueIterator (.ref m0) (.int mc) (.ref nd1) cu (.int (i + (1 : Int32))))) :: (m0, ObC Z "java/util/HashMap" (fs_HashMap (.float (1061158912 : UInt32)) (.int sz) (.ref va) (.int mc) (.ref tb) (.int thr))) :: (tb, RaC Z "java/util/HashMap$Node" vs) :: F)) rfl ?_
      intro T8 W8 H8
      refine g_ifnullN W8 d18_75 (pc' := 78) rfl ?_
      exact g_return W8 d18_78 ⟨rfl, _, i0 + 1, .ref nd1, sc_i1 hi (by simp at hr; omega), rfl, H8⟩ (Nat.zero_le _) (Nat.zero_le _)
theorem c_hi1 (l : Launch) (Z : State) (a0 : Array Value) (hw : ∀ d ∈ tables_1, d.before a0 Z = true) (n0 : Nat) (m0 : Addr) (sz mc thr : Int32) (it va : Addr) (hsz : (0 : Int32) < sz) (tb : Addr) (vs : List Value) (hlen : vs.length.toInt32 = 16) (hl16 : vs.length = 16) (hvs : ∀ z ∈ vs, z = .null ∨ ∃ nd, z = .ref nd)  (h0 : Heap) (F : List HRow) (H00 : Hp Z n0 h0 ((it, ObC Z "java/util/HashMap$ValueIterator" (fs_HashMap_ValueIterator .null (.int (0 : Int32)) .null .null (.int (0 : Int32)))) :: (m0, ObC Z "java/util/HashMap" (fs_HashMap (.float (1061158912 : UInt32)) (.int sz) (.ref va) (.int mc) (.ref tb) (.int thr))) :: (tb, RaC Z "java/util/HashMap$Node" vs) :: F)) :
    Con l Z n0 ⟨"java/util/HashMap$HashIterator", "<init>", "(Ljava/util/HashMap;)V"⟩ [] jdk_99_method_1_code 3 none ({ frames := 1, cells := 0, slots := 0, locals := 12 } : Room) #[.ref it, .ref m0] h0 (fun v h => v = none ∧ ∃ (jj : Int32) (j0 : Nat) (x : Value), jj.toInt = (j0 : Int) ∧ own_scan vs 0 = (j0, x) ∧ Hp Z n0 h ((it, ObC Z "java/util/HashMap$ValueIterator" (fs_HashMap_ValueIterator (.ref m0) (.int mc) x .null (.int jj))) :: (m0, ObC Z "java/util/HashMap" (fs_HashMap (.float (1061158912 : UInt32)) (.int sz) (.ref va) (.int mc) (.ref tb) (.int thr))) :: (tb, RaC Z "java/util/HashMap$Node" vs) :: F)) := by
  refine con_of pf_18 ?_
  intro p e s m below meth c T0 W0 e0
  subst e0
  have H0 := H00
  refine g_cast (ef_rr3 m it m0) ?_
  refine g_aloadN W0 d18_0 (pc' := 1) rfl rfl rfl ?_
  refine g_aloadN W0 d18_1 (pc' := 2) rfl rfl rfl ?_
  refine g_putf W0 (wd_142 hw) Via.refl (Or.inr ⟨(wd_143 hw), rfl, rfl⟩) (wd_130 hw) (ty := (.object "java/util/HashMap")) (by decide) rfl rfl H0 (i := 0) rfl (jx := 0) rfl d18_2 (pc' := 5) rfl (L' := ((it, ObC Z "java/util/HashMap$ValueIterator" (fs_HashMap_ValueIterator (.ref m0) (.int (0 : Int32)) .null .null (.int (0 : Int32)))) :: (m0, ObC Z "java/util/HashMap" (fs_HashMap (.float (1061158912 : UInt32)) (.int sz) (.ref va) (.int mc) (.ref tb) (.int thr))) :: (tb, RaC Z "java/util/HashMap$Node" vs) :: F)) rfl ?_
  intro T1 W1 H1
  refine g_aloadN W1 d18_5 (pc' := 6) rfl rfl rfl ?_
  refine g_initO W1 (wd_144 hw) (wd_20 hw) (wd_21 hw) H1 rfl d18_6 (pc' := 9) rfl (by decide) (Wn := 0) (Nat.le_of_eq rfl) (by decide) ?_
  intro T2 W2 H2
  refine g_aloadN W2 d18_9 (pc' := 10) rfl rfl rfl ?_
  refine g_aloadN W2 d18_10 (pc' := 11) rfl rfl rfl ?_
  refine g_getf W2 (wd_145 hw) Via.refl H2 (i := 1) rfl (jx := 3) rfl d18_11 (pc' := 14) rfl ?_
  intro T3 W3 H3
  refine g_putf W3 (wd_147 hw) Via.refl (Or.inl (wd_148 hw)) (wd_130 hw) (ty := .int) (by decide) rfl rfl H3 (i := 0) rfl (jx := 1) rfl d18_14 (pc' := 17) rfl (L' := ((it, ObC Z "java/util/HashMap$ValueIterator" (fs_HashMap_ValueIterator (.ref m0) (.int mc) .null .null (.int (0 : Int32)))) :: (m0, ObC Z "java/util/HashMap" (fs_HashMap (.float (1061158912 : UInt32)) (.int sz) (.ref va) (.int mc) (.ref tb) (.int thr))) :: (tb, RaC Z "java/util/HashMap$Node" vs) :: F)) rfl ?_
  intro T4 W4 H4
  refine g_aloadN W4 d18_17 (pc' := 18) rfl rfl rfl ?_
  refine g_getf W4 (wd_149 hw) Via.refl H4 (i := 1) rfl (jx := 4) rfl d18_18 (pc' := 21) rfl ?_
  intro T5 W5 H5
  refine g_astoreN W5 d18_21 (pc' := 22) rfl rfl (ls' := #[.val (.ref it), .val (.ref m0), .val (.ref tb)]) rfl ?_
  refine g_aloadN W5 d18_22 (pc' := 23) rfl rfl rfl ?_
  refine g_aloadN W5 d18_23 (pc' := 24) rfl rfl rfl ?_
  refine g_aconst_null W5 d18_24 (pc' := 25) rfl ?_
  refine g_dup_x1 W5 d18_25 (pc' := 26) rfl rfl rfl ?_
  refine g_putf W5 (wd_151 hw) Via.refl (Or.inl (wd_152 hw)) (wd_130 hw) (ty := (.object "java/util/HashMap$Node")) (by decide) rfl rfl H5 (i := 0) rfl (jx := 2) rfl d18_26 (pc' := 29) rfl (L' := ((it, ObC Z "java/util/HashMap$ValueIterator" (fs_HashMap_ValueIterator (.ref m0) (.int mc) .null .null (.int (0 : Int32)))) :: (m0, ObC Z "java/util/HashMap" (fs_HashMap (.float (1061158912 : UInt32)) (.int sz) (.ref va) (.int mc) (.ref tb) (.int thr))) :: (tb, RaC Z "java/util/HashMap$Node" vs) :: F)) rfl ?_
  intro T6 W6 H6
  refine g_putf W6 (wd_153 hw) Via.refl (Or.inl (wd_154 hw)) (wd_130 hw) (ty := (.object "java/util/HashMap$Node")) (by decide) rfl rfl H6 (i := 0) rfl (jx := 3) rfl d18_29 (pc' := 32) rfl (L' := ((it, ObC Z "java/util/HashMap$ValueIterator" (fs_HashMap_ValueIterator (.ref m0) (.int mc) .null .null (.int (0 : Int32)))) :: (m0, ObC Z "java/util/HashMap" (fs_HashMap (.float (1061158912 : UInt32)) (.int sz) (.ref va) (.int mc) (.ref tb) (.int thr))) :: (tb, RaC Z "java/util/HashMap$Node" vs) :: F)) rfl ?_
  intro T7 W7 H7
  refine g_aloadN W7 d18_32 (pc' := 33) rfl rfl rfl ?_
  refine g_iconst W7 d18_33 (pc' := 34) rfl (v := (0 : Int32)) (by decide) ?_
  refine g_putf W7 (wd_155 hw) Via.refl (Or.inl (wd_156 hw)) (wd_130 hw) (ty := .int) (by decide) rfl rfl H7 (i := 0) rfl (jx := 4) rfl d18_34 (pc' := 37) rfl (L' := ((it, ObC Z "java/util/HashMap$ValueIterator" (fs_HashMap_ValueIterator (.ref m0) (.int mc) .null .null (.int (0 : Int32)))) :: (m0, ObC Z "java/util/HashMap" (fs_HashMap (.float (1061158912 : UInt32)) (.int sz) (.ref va) (.int mc) (.ref tb) (.int thr))) :: (tb, RaC Z "java/util/HashMap$Node" vs) :: F)) rfl ?_
  intro T8 W8 H8
  refine g_aloadN W8 d18_37 (pc' := 38) rfl rfl rfl ?_
  refine g_ifnullN W8 d18_38 (pc' := 41) rfl ?_
  refine g_aloadN W8 d18_41 (pc' := 42) rfl rfl rfl ?_
  refine g_getf W8 (wd_377 hw) Via.refl H8 (i := 1) rfl (jx := 1) rfl d18_42 (pc' := 45) rfl ?_
  intro T9 W9 H9
  refine g_if W9 d18_45 (pcy := 78) (by decide) (pc' := 48) rfl (fun (h : ¬ (0 : Int32) < sz) => absurd hsz h) (fun (_ : ¬ ¬ (0 : Int32) < sz) => ?_)
  exact sc_init l Z a0 hw n0 it m0 tb va sz mc thr .null vs hlen F _ p e _ s m below meth c _ _ vs (0 : Int32) 0 _ (by decide) (by rw [hl16]) (fun t z q => by rw [Nat.zero_add]; exact q) hvs W9 H9
theorem c_vi0 (l : Launch) (Z : State) (a0 : Array Value) (hw : ∀ d ∈ tables_1, d.before a0 Z = true) (n0 : Nat) (m0 : Addr) (sz mc thr : Int32) (it va : Addr) (h0 : Heap) (F : List HRow) (H00 : Hp Z n0 h0 ((it, ObC Z "java/util/HashMap$ValueIterator" (fs_HashMap_ValueIterator .null (.int (0 : Int32)) .null .null (.int (0 : Int32)))) :: (m0, ObC Z "java/util/HashMap" (fs_HashMap (.float (1061158912 : UInt32)) (.int sz) (.ref va) (.int mc) .null (.int thr))) :: F)) :
    Con l Z n0 ⟨"java/util/HashMap$ValueIterator", "<init>", "(Ljava/util/HashMap;)V"⟩ [] jdk_2569_method_1_code 2 none ({ frames := 2, cells := 0, slots := 0, locals := 26 } : Room) #[.ref it, .ref m0] h0 (fun v h => v = none ∧ Hp Z n0 h ((it, ObC Z "java/util/HashMap$ValueIterator" (fs_HashMap_ValueIterator (.ref m0) (.int mc) .null .null (.int (0 : Int32)))) :: (m0, ObC Z "java/util/HashMap" (fs_HashMap (.float (1061158912 : UInt32)) (.int sz) (.ref va) (.int mc) .null (.int thr))) :: F)) := by
  refine con_of pf_17 ?_
  intro p e s m below meth c T0 W0 e0
  subst e0
  have H0 := H00
  refine g_cast (ef_rr2 m it m0) ?_
  refine g_aloadN W0 d17_0 (pc' := 1) rfl rfl rfl ?_
  refine g_aloadN W0 d17_1 (pc' := 2) rfl rfl rfl ?_
  refine g_callI W0 (argsL := [.ref m0]) (st := []) rfl (wd_136 hw) (wd_137 hw) (wd_140 hw) (wd_141 hw) (by decide) (a := it) (c_hi0 l Z a0 hw n0 m0 sz mc thr it va _ _ H0) pd_21 rfl rfl rfl d17_2 (pc' := 5) rfl (by decide) (Wn := 0) (Nat.le_of_eq rfl) (by decide) (kc' := 0) (ks' := 0) rfl rfl (by decide) (by decide) ?_
  intro T1 v1 W1 hp1
  obtain ⟨rfl, H1⟩ := hp1
  show Goes _ _ _ _ (State.setTop _ (mkF _ _ _ []))
  exact g_return W1 d17_5 ⟨rfl, H1⟩ (by decide) (by decide)
theorem c_vi1 (l : Launch) (Z : State) (a0 : Array Value) (hw : ∀ d ∈ tables_1, d.before a0 Z = true) (n0 : Nat) (m0 : Addr) (sz mc thr : Int32) (it va : Addr) (hsz : (0 : Int32) < sz) (tb : Addr) (vs : List Value) (hlen : vs.length.toInt32 = 16) (hl16 : vs.length = 16) (hvs : ∀ z ∈ vs, z = .null ∨ ∃ nd, z = .ref nd)  (h0 : Heap) (F : List HRow) (H00 : Hp Z n0 h0 ((it, ObC Z "java/util/HashMap$ValueIterator" (fs_HashMap_ValueIterator .null (.int (0 : Int32)) .null .null (.int (0 : Int32)))) :: (m0, ObC Z "java/util/HashMap" (fs_HashMap (.float (1061158912 : UInt32)) (.int sz) (.ref va) (.int mc) (.ref tb) (.int thr))) :: (tb, RaC Z "java/util/HashMap$Node" vs) :: F)) :
    Con l Z n0 ⟨"java/util/HashMap$ValueIterator", "<init>", "(Ljava/util/HashMap;)V"⟩ [] jdk_2569_method_1_code 2 none ({ frames := 2, cells := 0, slots := 0, locals := 26 } : Room) #[.ref it, .ref m0] h0 (fun v h => v = none ∧ ∃ (jj : Int32) (j0 : Nat) (x : Value), jj.toInt = (j0 : Int) ∧ own_scan vs 0 = (j0, x) ∧ Hp Z n0 h ((it, ObC Z "java/util/HashMap$ValueIterator" (fs_HashMap_ValueIterator (.ref m0) (.int mc) x .null (.int jj))) :: (m0, ObC Z "java/util/HashMap" (fs_HashMap (.float (1061158912 : UInt32)) (.int sz) (.ref va) (.int mc) (.ref tb) (.int thr))) :: (tb, RaC Z "java/util/HashMap$Node" vs) :: F)) := by
  refine con_of pf_17 ?_
  intro p e s m below meth c T0 W0 e0
  subst e0
  have H0 := H00
  refine g_cast (ef_rr2 m it m0) ?_
  refine g_aloadN W0 d17_0 (pc' := 1) rfl rfl rfl ?_
  refine g_aloadN W0 d17_1 (pc' := 2) rfl rfl rfl ?_
  refine g_callI W0 (argsL := [.ref m0]) (st := []) rfl (wd_136 hw) (wd_137 hw) (wd_140 hw) (wd_141 hw) (by decide) (a := it) (c_hi1 l Z a0 hw n0 m0 sz mc thr it va hsz tb vs hlen hl16 hvs _ _ H0) pd_21 rfl rfl rfl d17_2 (pc' := 5) rfl (by decide) (Wn := 0) (Nat.le_of_eq rfl) (by decide) (kc' := 0) (ks' := 0) rfl rfl (by decide) (by decide) ?_
  intro T1 v1 W1 hp1
  obtain ⟨rfl, jj1, j1, x1, hj1, hs1, H1⟩ := hp1
  show Goes _ _ _ _ (State.setTop _ (mkF _ _ _ []))
  exact g_return W1 d17_5 ⟨rfl, _, _, _, hj1, hs1, H1⟩ (by decide) (by decide)
theorem c_it0 (l : Launch) (Z : State) (a0 : Array Value) (hw : ∀ d ∈ tables_1, d.before a0 Z = true) (n0 : Nat) (m0 : Addr) (sz mc thr : Int32) (va : Addr) (h0 : Heap) (F : List HRow) (H00 : Hp Z n0 h0 ((va, ObC Z "java/util/HashMap$Values" (fs_HashMap_Values (.ref m0))) :: (m0, ObC Z "java/util/HashMap" (fs_HashMap (.float (1061158912 : UInt32)) (.int sz) (.ref va) (.int mc) .null (.int thr))) :: F)) :
    Con l Z n0 ⟨"java/util/HashMap$Values", "iterator", "()Ljava/util/Iterator;"⟩ [] jdk_2571_method_4_code 1 (some (.object "java/util/Iterator")) ({ frames := 3, cells := 1, slots := 5, locals := 40 } : Room) #[.ref va] h0 (fun v h => ∃ it, v = some (.ref it) ∧ Hp Z n0 h ((it, ObC Z "java/util/HashMap$ValueIterator" (fs_HashMap_ValueIterator (.ref m0) (.int mc) .null .null (.int (0 : Int32)))) :: (m0, ObC Z "java/util/HashMap" (fs_HashMap (.float (1061158912 : UInt32)) (.int sz) (.ref va) (.int mc) .null (.int thr))) :: (va, ObC Z "java/util/HashMap$Values" (fs_HashMap_Values (.ref m0))) :: F)) := by
  refine con_of pf_16 ?_
  intro p e s m below meth c T0 W0 e0
  subst e0
  have H0 := H00
  refine g_cast (ef_r1 m va) ?_
  refine g_new W0 (wd_129 hw) (wd_130 hw) (wd_131 hw) (la_HashMap_ValueIterator hw) (by decide) H0 d16_0 (pc' := 3) rfl (kc' := 1) (ks' := 5) rfl rfl (by decide) (by decide) ?_
  intro T1 a1 W1 H1
  refine g_dup W1 d16_3 (pc' := 4) rfl rfl ?_
  refine g_aloadN W1 d16_4 (pc' := 5) rfl rfl rfl ?_
  refine g_getf W1 (wd_116 hw) Via.refl H1 (i := 1) rfl (jx := 0) rfl d16_5 (pc' := 8) rfl ?_
  intro T2 W2 H2
  have H3f := Hp.fr2 H2
  have H4f := Hp.fr1 H3f
  refine g_callI W2 (argsL := [.ref m0]) (st := [.ref a1]) rfl (wd_132 hw) (wd_133 hw) (wd_131 hw) (wd_135 hw) (by decide) (a := a1) (c_vi0 l Z a0 hw n0 m0 sz mc thr a1 va _ _ H4f) pd_21 rfl rfl rfl d16_8 (pc' := 11) rfl (by decide) (Wn := 1) (Nat.le_of_eq rfl) (by decide) (kc' := 1) (ks' := 5) rfl rfl (by decide) (by decide) ?_
  intro T5 v5 W5 hp5
  obtain ⟨rfl, H5⟩ := hp5
  show Goes _ _ _ _ (State.setTop _ (mkF _ _ _ [.ref a1]))
  exact g_areturn W5 rfl rfl d16_11 ⟨_, rfl, H5⟩ (by decide) (by decide)
theorem c_it1 (l : Launch) (Z : State) (a0 : Array Value) (hw : ∀ d ∈ tables_1, d.before a0 Z = true) (n0 : Nat) (m0 : Addr) (sz mc thr : Int32) (va : Addr) (hsz : (0 : Int32) < sz) (tb : Addr) (vs : List Value) (hlen : vs.length.toInt32 = 16) (hl16 : vs.length = 16) (hvs : ∀ z ∈ vs, z = .null ∨ ∃ nd, z = .ref nd)  (h0 : Heap) (F : List HRow) (H00 : Hp Z n0 h0 ((va, ObC Z "java/util/HashMap$Values" (fs_HashMap_Values (.ref m0))) :: (m0, ObC Z "java/util/HashMap" (fs_HashMap (.float (1061158912 : UInt32)) (.int sz) (.ref va) (.int mc) (.ref tb) (.int thr))) :: (tb, RaC Z "java/util/HashMap$Node" vs) :: F)) :
    Con l Z n0 ⟨"java/util/HashMap$Values", "iterator", "()Ljava/util/Iterator;"⟩ [] jdk_2571_method_4_code 1 (some (.object "java/util/Iterator")) ({ frames := 3, cells := 1, slots := 5, locals := 40 } : Room) #[.ref va] h0 (fun v h => ∃ it, v = some (.ref it) ∧ ∃ (jj : Int32) (j0 : Nat) (x : Value), jj.toInt = (j0 : Int) ∧ own_scan vs 0 = (j0, x) ∧ Hp Z n0 h ((it, ObC Z "java/util/HashMap$ValueIterator" (fs_HashMap_ValueIterator (.ref m0) (.int mc) x .null (.int jj))) :: (m0, ObC Z "java/util/HashMap" (fs_HashMap (.float (1061158912 : UInt32)) (.int sz) (.ref va) (.int mc) (.ref tb) (.int thr))) :: (tb, RaC Z "java/util/HashMap$Node" vs) :: (va, ObC Z "java/util/HashMap$Values" (fs_HashMap_Values (.ref m0))) :: F)) := by
  refine con_of pf_16 ?_
  intro p e s m below meth c T0 W0 e0
  subst e0
  have H0 := H00
  refine g_cast (ef_r1 m va) ?_
  refine g_new W0 (wd_129 hw) (wd_130 hw) (wd_131 hw) (la_HashMap_ValueIterator hw) (by decide) H0 d16_0 (pc' := 3) rfl (kc' := 1) (ks' := 5) rfl rfl (by decide) (by decide) ?_
  intro T1 a1 W1 H1
  refine g_dup W1 d16_3 (pc' := 4) rfl rfl ?_
  refine g_aloadN W1 d16_4 (pc' := 5) rfl rfl rfl ?_
  refine g_getf W1 (wd_116 hw) Via.refl H1 (i := 1) rfl (jx := 0) rfl d16_5 (pc' := 8) rfl ?_
  intro T2 W2 H2
  have H3f := Hp.fr3 H2
  have H4f := Hp.fr3 H3f
  have H5f := Hp.fr2 H4f
  refine g_callI W2 (argsL := [.ref m0]) (st := [.ref a1]) rfl (wd_132 hw) (wd_133 hw) (wd_131 hw) (wd_135 hw) (by decide) (a := a1) (c_vi1 l Z a0 hw n0 m0 sz mc thr a1 va hsz tb vs hlen hl16 hvs _ _ H5f) pd_21 rfl rfl rfl d16_8 (pc' := 11) rfl (by decide) (Wn := 1) (Nat.le_of_eq rfl) (by decide) (kc' := 1) (ks' := 5) rfl rfl (by decide) (by decide) ?_
  intro T6 v6 W6 hp6
  obtain ⟨rfl, jj1, j1, x1, hj1, hs1, H6⟩ := hp6
  show Goes _ _ _ _ (State.setTop _ (mkF _ _ _ [.ref a1]))
  exact g_areturn W6 rfl rfl d16_11 ⟨_, rfl, _, _, _, hj1, hs1, H6⟩ (by decide) (by decide)
theorem c_hn0 (l : Launch) (Z : State) (a0 : Array Value) (hw : ∀ d ∈ tables_1, d.before a0 Z = true) (n0 : Nat) (it m0 nd : Addr) (mc i : Int32) (cu : Value) (h0 : Heap) (F : List HRow) (H00 : Hp Z n0 h0 ((it, ObC Z "java/util/HashMap$ValueIterator" (fs_HashMap_ValueIterator (.ref m0) (.int mc) .null cu (.int i))) :: F)) :
    Con l Z n0 ⟨"java/util/HashMap$HashIterator", "hasNext", "()Z"⟩ [] jdk_99_method_2_code 1 (some .boolean) ({ frames := 0, cells := 0, slots := 0, locals := 0 } : Room) #[.ref it] h0 (fun v h => v = some (.int 0) ∧ Hp Z n0 h ((it, ObC Z "java/util/HashMap$ValueIterator" (fs_HashMap_ValueIterator (.ref m0) (.int mc) .null cu (.int i))) :: F)) := by
  refine con_of pf_19 ?_
  intro p e s m below meth c T0 W0 e0
  subst e0
  have H0 := H00
  refine g_cast (ef_r1 m it) ?_
  refine g_aloadN W0 d19_0 (pc' := 1) rfl rfl rfl ?_
  refine g_getf W0 (wd_151 hw) Via.refl H0 (i := 0) rfl (jx := 2) rfl d19_1 (pc' := 4) rfl ?_
  intro T1 W1 H1
  refine g_ifnullY W1 d19_4 (pcy := 11) (by decide) ?_
  refine g_iconst W1 d19_11 (pc' := 12) rfl (v := (0 : Int32)) (by decide) ?_
  exact g_zreturn W1 (by decide) d19_12 ⟨rfl, H1⟩ (by decide) (by decide)
theorem c_hn1 (l : Launch) (Z : State) (a0 : Array Value) (hw : ∀ d ∈ tables_1, d.before a0 Z = true) (n0 : Nat) (it m0 nd : Addr) (mc i : Int32) (cu : Value) (h0 : Heap) (F : List HRow) (H00 : Hp Z n0 h0 ((it, ObC Z "java/util/HashMap$ValueIterator" (fs_HashMap_ValueIterator (.ref m0) (.int mc) (.ref nd) cu (.int i))) :: F)) :
    Con l Z n0 ⟨"java/util/HashMap$HashIterator", "hasNext", "()Z"⟩ [] jdk_99_method_2_code 1 (some .boolean) ({ frames := 0, cells := 0, slots := 0, locals := 0 } : Room) #[.ref it] h0 (fun v h => v = some (.int 1) ∧ Hp Z n0 h ((it, ObC Z "java/util/HashMap$ValueIterator" (fs_HashMap_ValueIterator (.ref m0) (.int mc) (.ref nd) cu (.int i))) :: F)) := by
  refine con_of pf_19 ?_
  intro p e s m below meth c T0 W0 e0
  subst e0
  have H0 := H00
  refine g_cast (ef_r1 m it) ?_
  refine g_aloadN W0 d19_0 (pc' := 1) rfl rfl rfl ?_
  refine g_getf W0 (wd_151 hw) Via.refl H0 (i := 0) rfl (jx := 2) rfl d19_1 (pc' := 4) rfl ?_
  intro T1 W1 H1
  refine g_ifnullN W1 d19_4 (pc' := 7) rfl ?_
  refine g_iconst W1 d19_7 (pc' := 8) rfl (v := (1 : Int32)) (by decide) ?_
  refine g_goto W1 d19_8 (pc' := 12) (by decide) ?_
  exact g_zreturn W1 (by decide) d19_12 ⟨rfl, H1⟩ (by decide) (by decide)
set_option maxRecDepth 65536 in
set_option maxHeartbeats 40000000 in
theorem sc_next (l : Launch) (Z : State) (a0 : Array Value) (hw : ∀ d ∈ tables_1, d.before a0 Z = true) (n0 : Nat) (it m0 tb va nd : Addr) (sz mc thr : Int32) (cu : Value) (vs : List Value) (hlen : vs.length.toInt32 = 16) (F : List HRow) (as0 : Array Value)
    (p : Program) (e : Env) (R : Room) (s : State) (m : MethodId) (below : List Frame) (meth : Method) (c : Code) (k j : Nat) : ∀ (r : List Value) (i : Int32) (i0 : Nat) (T : State), i.toInt = (i0 : Int) → i0 + r.length = 16 → (∀ t z, r[t]? = some z → vs[i0 + t]? = some z) → (∀ z ∈ r, z = .null ∨ ∃ nd, z = .ref nd) →
    Wk Z ⟨"java/util/HashMap$HashIterator", "nextNode", "()Ljava/util/HashMap$Node;"⟩ jdk_99_method_3_code 3 (some (.object "java/util/HashMap$Node")) n0 p l e R s m as0 below meth c T 0 0 → Hp Z n0 T.heap ((it, ObC Z "java/util/HashMap$ValueIterator" (fs_HashMap_ValueIterator (.ref m0) (.int mc) .null cu (.int i))) :: (m0, ObC Z "java/util/HashMap" (fs_HashMap (.float (1061158912 : UInt32)) (.int sz) (.ref va) (.int mc) (.ref tb) (.int thr))) :: (tb, RaC Z "java/util/HashMap$Node" vs) :: F) →
    Goes p e below (En s n0 k j (fun v h => v = some (.ref nd) ∧ ∃ (jj : Int32) (j0 : Nat) (x : Value), jj.toInt = (j0 : Int) ∧ own_scan r i0 = (j0, x) ∧ Hp Z n0 h ((it, ObC Z "java/util/HashMap$ValueIterator" (fs_HashMap_ValueIterator (.ref m0) (.int mc) x cu (.int jj))) :: (m0, ObC Z "java/util/HashMap" (fs_HashMap (.float (1061158912 : UInt32)) (.int sz) (.ref va) (.int mc) (.ref tb) (.int thr))) :: (tb, RaC Z "java/util/HashMap$Node" vs) :: F))) (T.setTop (mkF m 68 #[.val (.ref it), .val (.ref tb), .val (.ref nd)] [])) := by
  intro r
  induction r with
  | nil =>
    intro i i0 T hi hr hrs hvs W H
    refine g_aloadN W d54_68 (pc' := 69) rfl rfl rfl ?_
    refine g_getf W (wd_155 hw) Via.refl H (i := 0) rfl (jx := 4) rfl d54_69 (pc' := 72) rfl ?_
    intro T1 W1 H1
    refine g_aloadN W1 d54_72 (pc' := 73) rfl rfl rfl ?_
    refine g_arrlenR W1 H1 (i := 2) rfl (x := (16 : Int32)) hlen d54_73 (pc' := 74) rfl ?_
    refine g_icmp W1 d54_74 (pcy := 98) (by decide) (pc' := 77) rfl (fun (_ : ¬ i < (16 : Int32)) => ?_) (fun (h : ¬ ¬ i < (16 : Int32)) => absurd (Classical.not_not.mp h) (by rw [Int32.lt_iff_toInt_lt, sc_16, hi]; simp at hr; omega))
    refine g_aloadN W1 d54_98 (pc' := 99) rfl rfl rfl ?_
    exact g_areturn W1 rfl rfl d54_99 ⟨rfl, i, i0, .null, hi, rfl, H1⟩ (Nat.zero_le _) (Nat.zero_le _)
  | cons z r ih =>
    intro i i0 T hi hr hrs hvs W H
    refine g_aloadN W d54_68 (pc' := 69) rfl rfl rfl ?_
    refine g_getf W (wd_155 hw) Via.refl H (i := 0) rfl (jx := 4) rfl d54_69 (pc' := 72) rfl ?_
    intro T2 W2 H2
    refine g_aloadN W2 d54_72 (pc' := 73) rfl rfl rfl ?_
    refine g_arrlenR W2 H2 (i := 2) rfl (x := (16 : Int32)) hlen d54_73 (pc' := 74) rfl ?_
    refine g_icmp W2 d54_74 (pcy := 98) (by decide) (pc' := 77) rfl (fun (h : ¬ i < (16 : Int32)) => absurd (show i < (16 : Int32) by rw [Int32.lt_iff_toInt_lt, sc_16, hi]; simp at hr; omega) h) (fun (_ : ¬ ¬ i < (16 : Int32)) => ?_)
    have hz := hvs z (List.mem_cons_self ..)
    rcases hz with rfl | ⟨nd1, rfl⟩
    · refine g_aloadN W2 d54_77 (pc' := 78) rfl rfl rfl ?_
      refine g_aloadN W2 d54_78 (pc' := 79) rfl rfl rfl ?_
      refine g_aloadN W2 d54_79 (pc' := 80) rfl rfl rfl ?_
      refine g_dup W2 d54_80 (pc' := 81) rfl rfl ?_
      refine g_getf W2 (wd_155 hw) Via.refl H2 (i := 0) rfl (jx := 4) rfl d54_81 (pc' := 84) rfl ?_
      intro T3 W3 H3
      refine g_dup_x1 W3 d54_84 (pc' := 85) rfl rfl rfl ?_
      refine g_iconst W3 d54_85 (pc' := 86) rfl (v := (1 : Int32)) (by decide) ?_
      refine g_iadd W3 d54_86 (pc' := 87) rfl rfl ?_
      refine g_putf W3 (wd_155 hw) Via.refl (Or.inl (wd_156 hw)) (wd_130 hw) (ty := .int) (by decide) rfl rfl H3 (i := 0) rfl (jx := 4) rfl d54_87 (pc' := 90) rfl (L' := ((it, ObC Z "java/util/HashMap$ValueIterator" (fs_HashMap_ValueIterator (.ref m0) (.int mc) .null cu (.int (i + (1 : Int32))))) :: (m0, ObC Z "java/util/HashMap" (fs_HashMap (.float (1061158912 : UInt32)) (.int sz) (.ref va) (.int mc) (.ref tb) (.int thr))) :: (tb, RaC Z "java/util/HashMap$Node" vs) :: F)) rfl ?_
      intro T4 W4 H4
      refine g_aaload W4 H4 (i := 2) rfl (jx := i0) hi (v := .null) (hrs 0 _ rfl) d54_90 (pc' := 91) rfl ?_
      refine g_dup_x1 W4 d54_91 (pc' := 92) rfl rfl rfl ?_
      refine g_putf W4 (wd_151 hw) Via.refl (Or.inl (wd_152 hw)) (wd_130 hw) (ty := (.object "java/util/HashMap$Node")) (by decide) rfl rfl H4 (i := 0) rfl (jx := 2) rfl d54_92 (pc' := 95) rfl (L' := ((it, ObC Z "java/util/HashMap$ValueIterator" (fs_HashMap_ValueIterator (.ref m0) (.int mc) .null cu (.int (i + (1 : Int32))))) :: (m0, ObC Z "java/util/HashMap" (fs_HashMap (.float (1061158912 : UInt32)) (.int sz) (.ref va) (.int mc) (.ref tb) (.int thr))) :: (tb, RaC Z "java/util/HashMap$Node" vs) :: F)) rfl ?_
      intro T5 W5 H5
      refine g_ifnullY W5 d54_95 (pcy := 68) (by decide) ?_
      exact ih (i + (1 : Int32)) (i0 + 1) _ (sc_i1 hi (by simp at hr; omega)) (by simp at hr ⊢; omega) (sc_tl hrs) (fun q hq => hvs q (List.mem_cons_of_mem _ hq)) W5 H5
    · refine g_aloadN W2 d54_77 (pc' := 78) rfl rfl rfl ?_
      refine g_aloadN W2 d54_78 (pc' := 79) rfl rfl rfl ?_
      refine g_aloadN W2 d54_79 (pc' := 80) rfl rfl rfl ?_
      refine g_dup W2 d54_80 (pc' := 81) rfl rfl ?_
      refine g_getf W2 (wd_155 hw) Via.refl H2 (i := 0) rfl (jx := 4) rfl d54_81 (pc' := 84) rfl ?_
      intro T6 W6 H6
      refine g_dup_x1 W6 d54_84 (pc' := 85) rfl rfl rfl ?_
      refine g_iconst W6 d54_85 (pc' := 86) rfl (v := (1 : Int32)) (by decide) ?_
      refine g_iadd W6 d54_86 (pc' := 87) rfl rfl ?_
      refine g_putf W6 (wd_155 hw) Via.refl (Or.inl (wd_156 hw)) (wd_130 hw) (ty := .int) (by decide) rfl rfl H6 (i := 0) rfl (jx := 4) rfl d54_87 (pc' := 90) rfl (L' := ((it, ObC Z "java/util/HashMap$ValueIterator" (fs_HashMap_ValueIterator (.ref m0) (.int mc) .null cu (.int (i + (1 : Int32))))) :: (m0, ObC Z "java/util/HashMap" (fs_HashMap (.float (1061158912 : UInt32)) (.int sz) (.ref va) (.int mc) (.ref tb) (.int thr))) :: (tb, RaC Z "java/util/HashMap$Node" vs) :: F)) rfl ?_
      intro T7 W7 H7
      refine g_aaload W7 H7 (i := 2) rfl (jx := i0) hi (v := .ref nd1) (hrs 0 _ rfl) d54_90 (pc' := 91) rfl ?_
      refine g_dup_x1 W7 d54_91 (pc' := 92) rfl rfl rfl ?_
      refine g_putf W7 (wd_151 hw) Via.refl (Or.inl (wd_152 hw)) (wd_130 hw) (ty := (.object "java/util/HashMap$Node")) (by decide) rfl rfl H7 (i := 0) rfl (jx := 2) rfl d54_92 (pc' := 95) rfl (L' := ((it, ObC Z "java/util/HashMap$ValueIterator" (fs_HashMap_ValueIterator (.ref m0) (.int mc) (.ref nd1) cu (.int (i + (1 : Int32))))) :: (m0, ObC Z "java/util/HashMap" (fs_HashMap (.float (1061158912 : UInt32)) (.int sz) (.ref va) (.int mc) (.ref tb) (.int thr))) :: (tb, RaC Z "java/util/HashMap$Node" vs) :: F)) rfl ?_
      intro T8 W8 H8
      refine g_ifnullN W8 d54_95 (pc' := 98) rfl ?_
      refine g_aloadN W8 d54_98 (pc' := 99) rfl rfl rfl ?_
      exact g_areturn W8 rfl rfl d54_99 ⟨rfl, _, i0 + 1, .ref nd1, sc_i1 hi (by simp at hr; omega), rfl, H8⟩ (Nat.zero_le _) (Nat.zero_le _)
theorem c_nn (l : Launch) (Z : State) (a0 : Array Value) (hw : ∀ d ∈ tables_1, d.before a0 Z = true) (n0 : Nat) (tb : Addr) (vs : List Value) (hlen : vs.length.toInt32 = 16) (m0 : Addr) (sz mc thr : Int32) (it va : Addr) (F : List HRow) (nd ky ia : Addr) (q i : Int32) (cu : Value) (i0 : Nat) (hi : i.toInt = (i0 : Int)) (r : List Value) (hr : i0 + r.length = 16) (hrs : ∀ t z, r[t]? = some z → vs[i0 + t]? = some z) (hvr : ∀ z ∈ r, z = .null ∨ ∃ nd, z = .ref nd) (hn : (nd, ObC Z "java/util/HashMap$Node" (fs_HashMap_Node (.int q) (.ref ky) (.ref ia) .null)) ∈ F)  (h0 : Heap) (H00 : Hp Z n0 h0 ((it, ObC Z "java/util/HashMap$ValueIterator" (fs_HashMap_ValueIterator (.ref m0) (.int mc) (.ref nd) cu (.int i))) :: (m0, ObC Z "java/util/HashMap" (fs_HashMap (.float (1061158912 : UInt32)) (.int sz) (.ref va) (.int mc) (.ref tb) (.int thr))) :: (tb, RaC Z "java/util/HashMap$Node" vs) :: F)) :
    Con l Z n0 ⟨"java/util/HashMap$HashIterator", "nextNode", "()Ljava/util/HashMap$Node;"⟩ [] jdk_99_method_3_code 3 (some (.object "java/util/HashMap$Node")) ({ frames := 0, cells := 0, slots := 0, locals := 0 } : Room) #[.ref it] h0 (fun v h => v = some (.ref nd) ∧ ∃ (jj : Int32) (j0 : Nat) (x : Value), jj.toInt = (j0 : Int) ∧ own_scan r i0 = (j0, x) ∧ Hp Z n0 h ((it, ObC Z "java/util/HashMap$ValueIterator" (fs_HashMap_ValueIterator (.ref m0) (.int mc) x (.ref nd) (.int jj))) :: (m0, ObC Z "java/util/HashMap" (fs_HashMap (.float (1061158912 : UInt32)) (.int sz) (.ref va) (.int mc) (.ref tb) (.int thr))) :: (tb, RaC Z "java/util/HashMap$Node" vs) :: F)) := by
  refine con_of pf_54 ?_
  intro p e s m below meth c T0 W0 e0
  subst e0
  have H0 := H00
  refine g_cast (ef_r3 m it) ?_
  refine g_aloadN W0 d54_0 (pc' := 1) rfl rfl rfl ?_
  refine g_getf W0 (wd_151 hw) Via.refl H0 (i := 0) rfl (jx := 2) rfl d54_1 (pc' := 4) rfl ?_
  intro T1 W1 H1
  refine g_astoreN W1 d54_4 (pc' := 5) rfl rfl (ls' := #[.val (.ref it), .unset, .val (.ref nd)]) rfl ?_
  refine g_aloadN W1 d54_5 (pc' := 6) rfl rfl rfl ?_
  refine g_getf W1 (wd_142 hw) Via.refl H1 (i := 0) rfl (jx := 0) rfl d54_6 (pc' := 9) rfl ?_
  intro T2 W2 H2
  refine g_getf W2 (wd_145 hw) Via.refl H2 (i := 1) rfl (jx := 3) rfl d54_9 (pc' := 12) rfl ?_
  intro T3 W3 H3
  refine g_aloadN W3 d54_12 (pc' := 13) rfl rfl rfl ?_
  refine g_getf W3 (wd_147 hw) Via.refl H3 (i := 0) rfl (jx := 1) rfl d54_13 (pc' := 16) rfl ?_
  intro T4 W4 H4
  refine g_icmp W4 d54_16 (pcy := 27) (by decide) (pc' := 19) rfl (fun (_ : mc = mc) => ?_) (fun (h : ¬ mc = mc) => absurd rfl h)
  refine g_aloadN W4 d54_27 (pc' := 28) rfl rfl rfl ?_
  refine g_ifnonnullY W4 d54_28 (pcy := 39) (by decide) ?_
  refine g_aloadN W4 d54_39 (pc' := 40) rfl rfl rfl ?_
  refine g_aloadN W4 d54_40 (pc' := 41) rfl rfl rfl ?_
  refine g_aloadN W4 d54_41 (pc' := 42) rfl rfl rfl ?_
  refine g_dup_x1 W4 d54_42 (pc' := 43) rfl rfl rfl ?_
  refine g_putf W4 (wd_153 hw) Via.refl (Or.inl (wd_154 hw)) (wd_130 hw) (ty := (.object "java/util/HashMap$Node")) (by decide) rfl rfl H4 (i := 0) rfl (jx := 3) rfl d54_43 (pc' := 46) rfl (L' := ((it, ObC Z "java/util/HashMap$ValueIterator" (fs_HashMap_ValueIterator (.ref m0) (.int mc) (.ref nd) (.ref nd) (.int i))) :: (m0, ObC Z "java/util/HashMap" (fs_HashMap (.float (1061158912 : UInt32)) (.int sz) (.ref va) (.int mc) (.ref tb) (.int thr))) :: (tb, RaC Z "java/util/HashMap$Node" vs) :: F)) rfl ?_
  intro T5 W5 H5
  refine g_getfF W5 (wd_392 hw) Via.refl H5 (H5.fldm (mc3 hn) (jx := 3) rfl) d54_46 (pc' := 49) rfl ?_
  intro T6 W6 _ H6
  refine g_dup_x1 W6 d54_49 (pc' := 50) rfl rfl rfl ?_
  refine g_putf W6 (wd_151 hw) Via.refl (Or.inl (wd_152 hw)) (wd_130 hw) (ty := (.object "java/util/HashMap$Node")) (by decide) rfl rfl H6 (i := 0) rfl (jx := 2) rfl d54_50 (pc' := 53) rfl (L' := ((it, ObC Z "java/util/HashMap$ValueIterator" (fs_HashMap_ValueIterator (.ref m0) (.int mc) .null (.ref nd) (.int i))) :: (m0, ObC Z "java/util/HashMap" (fs_HashMap (.float (1061158912 : UInt32)) (.int sz) (.ref va) (.int mc) (.ref tb) (.int thr))) :: (tb, RaC Z "java/util/HashMap$Node" vs) :: F)) rfl ?_
  intro T7 W7 H7
  refine g_ifnonnullN W7 d54_53 (pc' := 56) rfl ?_
  refine g_aloadN W7 d54_56 (pc' := 57) rfl rfl rfl ?_
  refine g_getf W7 (wd_142 hw) Via.refl H7 (i := 0) rfl (jx := 0) rfl d54_57 (pc' := 60) rfl ?_
  intro T8 W8 H8
  refine g_getf W8 (wd_149 hw) Via.refl H8 (i := 1) rfl (jx := 4) rfl d54_60 (pc' := 63) rfl ?_
  intro T9 W9 H9
  refine g_dup W9 d54_63 (pc' := 64) rfl rfl ?_
  refine g_astoreN W9 d54_64 (pc' := 65) rfl rfl (ls' := #[.val (.ref it), .val (.ref tb), .val (.ref nd)]) rfl ?_
  refine g_ifnullN W9 d54_65 (pc' := 68) rfl ?_
  exact sc_next l Z a0 hw n0 it m0 tb va nd sz mc thr (.ref nd) vs hlen F _ p e _ s m below meth c _ _ r i i0 _ hi hr hrs hvr W9 H9
theorem c_next (l : Launch) (Z : State) (a0 : Array Value) (hw : ∀ d ∈ tables_1, d.before a0 Z = true) (n0 : Nat) (tb : Addr) (vs : List Value) (hlen : vs.length.toInt32 = 16) (m0 : Addr) (sz mc thr : Int32) (it va : Addr) (F : List HRow) (nd ky ia : Addr) (q i : Int32) (cu : Value) (i0 : Nat) (hi : i.toInt = (i0 : Int)) (r : List Value) (hr : i0 + r.length = 16) (hrs : ∀ t z, r[t]? = some z → vs[i0 + t]? = some z) (hvr : ∀ z ∈ r, z = .null ∨ ∃ nd, z = .ref nd) (hn : (nd, ObC Z "java/util/HashMap$Node" (fs_HashMap_Node (.int q) (.ref ky) (.ref ia) .null)) ∈ F)  (h0 : Heap) (H00 : Hp Z n0 h0 ((it, ObC Z "java/util/HashMap$ValueIterator" (fs_HashMap_ValueIterator (.ref m0) (.int mc) (.ref nd) cu (.int i))) :: (m0, ObC Z "java/util/HashMap" (fs_HashMap (.float (1061158912 : UInt32)) (.int sz) (.ref va) (.int mc) (.ref tb) (.int thr))) :: (tb, RaC Z "java/util/HashMap$Node" vs) :: F)) :
    Con l Z n0 ⟨"java/util/HashMap$ValueIterator", "next", "()Ljava/lang/Object;"⟩ [] jdk_2569_method_2_code 1 (some (.object "java/lang/Object")) ({ frames := 1, cells := 0, slots := 0, locals := 14 } : Room) #[.ref it] h0 (fun v h => v = some (.ref ia) ∧ ∃ (jj : Int32) (j0 : Nat) (x : Value), jj.toInt = (j0 : Int) ∧ own_scan r i0 = (j0, x) ∧ Hp Z n0 h ((it, ObC Z "java/util/HashMap$ValueIterator" (fs_HashMap_ValueIterator (.ref m0) (.int mc) x (.ref nd) (.int jj))) :: (m0, ObC Z "java/util/HashMap" (fs_HashMap (.float (1061158912 : UInt32)) (.int sz) (.ref va) (.int mc) (.ref tb) (.int thr))) :: (tb, RaC Z "java/util/HashMap$Node" vs) :: F)) := by
  refine con_of pf_53 ?_
  intro p e s m below meth c T0 W0 e0
  subst e0
  have H0 := H00
  refine g_cast (ef_r1 m it) ?_
  refine g_aloadN W0 d53_0 (pc' := 1) rfl rfl rfl ?_
  refine g_callVU W0 (argsL := []) (st := []) (wd_386 hw) (wd_387 hw) (wd_388 hw) (wd_390 hw) (wd_389 hw) (wd_140 hw) (wd_391 hw) (by decide) (a := it) (H0.exa (i := 0) rfl) (c_nn l Z a0 hw n0 tb vs hlen m0 sz mc thr it va _ nd ky ia q i cu i0 hi r hr hrs hvr hn _ H0) pd_22 rfl rfl rfl d53_1 (pc' := 4) rfl (by decide) (Wn := 0) (Nat.le_of_eq rfl) (by decide) (kc' := 0) (ks' := 0) rfl rfl (by decide) (by decide) ?_
  intro T1 v1 W1 hp1
  obtain ⟨rfl, jj1, j1, x1, hj1, hs1, H1⟩ := hp1
  show Goes _ _ _ _ (State.setTop _ (mkF _ _ _ [.ref nd]))
  refine g_getfF W1 (wd_393 hw) Via.refl H1 (H1.fldm (mc3 hn) (jx := 2) rfl) d53_4 (pc' := 7) rfl ?_
  intro T2 W2 _ H2
  exact g_areturn W2 rfl rfl d53_7 ⟨rfl, _, _, _, hj1, hs1, H2⟩ (by decide) (by decide)

theorem so_m1 {i : Int32} {i0 : Nat} (h : i.toInt = ((i0 + 1 : Nat) : Int)) : (i + (-1 : Int32)).toInt = (i0 : Int) := by
  have e1 : (-1 : Int32).toInt = -1 := by decide
  have := i.toInt_lt
  rw [Int32.toInt_add, e1, h, Kit.bmod32 (by omega) (by omega)]; omega
theorem so_mp {i : Int32} {i0 : Nat} (h : i.toInt = (i0 : Int)) : ((i + (-1 : Int32)) + (1 : Int32)).toInt = (i0 : Int) := by
  rw [Int32.add_assoc, show (-1 : Int32) + 1 = 0 by decide, Int32.add_zero]; exact h
theorem so_s1 {i : Int32} {i0 : Nat} (h : i.toInt = ((i0 + 1 : Nat) : Int)) : (i - (1 : Int32)).toInt = (i0 : Int) := by
  have e1 : (1 : Int32).toInt = 1 := by decide
  have := i.toInt_lt
  rw [Int32.toInt_sub, e1, h, Kit.bmod32 (by omega) (by omega)]; omega
theorem so_0 : (0 : Int32).toInt = 0 := by decide

set_option maxRecDepth 65536 in
set_option maxHeartbeats 40000000 in
theorem so_loop (l : Launch) (Z : State) (a0 : Array Value) (hw : ∀ d ∈ tables_1, d.before a0 Z = true) (n0 : Nat) (a : Addr) (hi : Int32) (n : Nat) (hhi : hi.toInt = (n : Int)) (hn : n < 1000000) (F : List HRow) (as0 : Array Value)
    (p : Program) (e : Env) (R : Room) (s : State) (m : MethodId) (below : List Frame) (meth : Method) (c : Code) (k0 j0 : Nat) : ∀ (dd : Nat) (k : Int32) (kk : Nat) (s3 s5 : Slot) (ws : List Int32) (T : State), n ≤ kk + 1 + dd → k.toInt = (kk : Int) → kk ≤ n → (s3 = .unset ∨ ∃ v, s3 = .val (.int v)) → (s5 = .unset ∨ ∃ v, s5 = .val (.int v)) → ws.length = n →
    Wk Z ⟨"java/util/DualPivotQuicksort", "insertionSort", "([III)V"⟩ jdk_2529_method_6_code 6 none n0 p l e R s m as0 below meth c T 0 0 → Hp Z n0 T.heap ((a, IaC Z ws) :: F) → Goes p e below (En s n0 k0 j0 (fun v h => v = none ∧ ∃ zs : List Int32, zs.length = n ∧ Hp Z n0 h ((a, IaC Z zs) :: F))) (T.setTop (mkF m 3 #[.val (.ref a), .val (.int (0 : Int32)), .val (.int hi), s3, .val (.int k), s5] [])) := by
  intro dd
  induction dd with
  | zero =>
    intro k kk s3 s5 ws T hdd hk hkn hs3 hs5 hws W H
    have hk1 := sc_i1 hk (by omega)
    refine g_iinc W d24_3 (pc' := 6) rfl rfl (v := (k + (1 : Int32))) (by rfl) (ls' := #[.val (.ref a), .val (.int (0 : Int32)), .val (.int hi), s3, .val (.int (k + (1 : Int32))), s5]) rfl ?_
    refine g_iload W d24_6 (pc' := 8) rfl rfl ?_
    refine g_iloadN W d24_8 (pc' := 9) rfl rfl ?_
    refine g_icmp W d24_9 (pcy := 67) (by decide) (pc' := 12) rfl (fun (_ : ¬ (k + (1 : Int32)) < hi) => ?_) (fun (h : ¬ ¬ (k + (1 : Int32)) < hi) => absurd (Classical.not_not.mp h) (by rw [Int32.lt_iff_toInt_lt, hk1, hhi]; omega))
    exact g_return W d24_67 ⟨rfl, ws, hws, H⟩ (Nat.zero_le _) (Nat.zero_le _)
  | succ dd ih =>
    intro k kk s3 s5 ws T hdd hk hkn hs3 hs5 hws W H
    have hk1 := sc_i1 hk (by omega)
    refine g_iinc W d24_3 (pc' := 6) rfl rfl (v := (k + (1 : Int32))) (by rfl) (ls' := #[.val (.ref a), .val (.int (0 : Int32)), .val (.int hi), s3, .val (.int (k + (1 : Int32))), s5]) rfl ?_
    refine g_iload W d24_6 (pc' := 8) rfl rfl ?_
    refine g_iloadN W d24_8 (pc' := 9) rfl rfl ?_
    refine g_icmp W d24_9 (pcy := 67) (by decide) (pc' := 12) rfl (fun (c1 : ¬ (k + (1 : Int32)) < hi) => ?_) (fun (c1 : ¬ ¬ (k + (1 : Int32)) < hi) => ?_)
    · exact g_return W d24_67 ⟨rfl, ws, hws, H⟩ (Nat.zero_le _) (Nat.zero_le _)
    · replace c1 := Classical.not_not.mp c1
      have hkl : kk + 1 < n := by have q := c1; rw [Int32.lt_iff_toInt_lt, hk1, hhi] at q; omega
      obtain ⟨x1, hx1⟩ : ∃ u, ws[kk + 1]? = some u := ⟨_, List.getElem?_eq_getElem (by omega)⟩
      obtain ⟨x0, hx0⟩ : ∃ u, ws[kk]? = some u := ⟨_, List.getElem?_eq_getElem (by omega)⟩
      refine g_aloadN W d24_12 (pc' := 13) rfl rfl rfl ?_
      refine g_iload W d24_13 (pc' := 15) rfl rfl ?_
      refine g_dup W d24_15 (pc' := 16) rfl rfl ?_
      refine g_istoreN W d24_16 (pc' := 17) rfl (ls' := #[.val (.ref a), .val (.int (0 : Int32)), .val (.int hi), .val (.int (k + (1 : Int32))), .val (.int (k + (1 : Int32))), s5]) (by rcases hs3 with rfl | ⟨_, rfl⟩ <;> rfl) ?_
      refine g_ialoadI W H (i := 0) rfl (jx := (kk + 1)) hk1 (u := x1) hx1 d24_17 (pc' := 18) rfl ?_
      refine g_istore W d24_18 (pc' := 20) rfl (ls' := #[.val (.ref a), .val (.int (0 : Int32)), .val (.int hi), .val (.int (k + (1 : Int32))), .val (.int (k + (1 : Int32))), .val (.int x1)]) (by rcases hs5 with rfl | ⟨_, rfl⟩ <;> rfl) ?_
      refine g_iload W d24_20 (pc' := 22) rfl rfl ?_
      refine g_aloadN W d24_22 (pc' := 23) rfl rfl rfl ?_
      refine g_iloadN W d24_23 (pc' := 24) rfl rfl ?_
      refine g_iconst W d24_24 (pc' := 25) rfl (v := (1 : Int32)) (by decide) ?_
      refine g_isub W d24_25 (pc' := 26) rfl rfl ?_
      refine g_ialoadI W H (i := 0) rfl (jx := kk) (so_s1 hk1) (u := x0) hx0 d24_26 (pc' := 27) rfl ?_
      refine g_icmp W d24_27 (pcy := 64) (by decide) (pc' := 30) rfl (fun (c2 : ¬ x1 < x0) => ?_) (fun (c2 : ¬ ¬ x1 < x0) => ?_)
      · refine g_goto W d24_64 (pc' := 3) (by decide) ?_
        exact ih (k + (1 : Int32)) (kk + 1) _ _ ws _ (by omega) hk1 (by omega) (Or.inr ⟨_, rfl⟩) (Or.inr ⟨_, rfl⟩) hws W H
      · replace c2 := Classical.not_not.mp c2
        have inner : ∀ (i0 : Nat) (i : Int32) (us : List Int32) (TI : State), i.toInt = (i0 : Int) → i0 < n → us.length = n → Wk Z ⟨"java/util/DualPivotQuicksort", "insertionSort", "([III)V"⟩ jdk_2529_method_6_code 6 none n0 p l e R s m as0 below meth c TI 0 0 → Hp Z n0 TI.heap ((a, IaC Z us) :: F) → Goes p e below (En s n0 k0 j0 (fun v h => v = none ∧ ∃ zs : List Int32, zs.length = n ∧ Hp Z n0 h ((a, IaC Z zs) :: F))) (TI.setTop (mkF m 30 #[.val (.ref a), .val (.int (0 : Int32)), .val (.int hi), .val (.int i), .val (.int (k + (1 : Int32))), .val (.int x1)] [])) := by
          intro i0
          induction i0 with
          | zero =>
            intro i us TI hi0 hin hus WI HI
            have him : (i + (-1 : Int32)).toInt = -1 := by rw [Int32.toInt_add, hi0, show (-1 : Int32).toInt = -1 by decide, Kit.bmod32 (by omega) (by omega)]; omega
            refine g_iinc WI d24_30 (pc' := 33) rfl rfl (v := (i + (-1 : Int32))) (by rfl) (ls' := #[.val (.ref a), .val (.int (0 : Int32)), .val (.int hi), .val (.int (i + (-1 : Int32))), .val (.int (k + (1 : Int32))), .val (.int x1)]) rfl ?_
            refine g_iloadN WI d24_33 (pc' := 34) rfl rfl ?_
            refine g_iloadN WI d24_34 (pc' := 35) rfl rfl ?_
            refine g_icmp WI d24_35 (pcy := 57) (by decide) (pc' := 38) rfl (fun (_ : (i + (-1 : Int32)) < (0 : Int32)) => ?_) (fun (h : ¬ (i + (-1 : Int32)) < (0 : Int32)) => absurd (show (i + (-1 : Int32)) < (0 : Int32) by rw [Int32.lt_iff_toInt_lt, him, so_0]; omega) h)
            refine g_aloadN WI d24_57 (pc' := 58) rfl rfl rfl ?_
            refine g_iloadN WI d24_58 (pc' := 59) rfl rfl ?_
            refine g_iconst WI d24_59 (pc' := 60) rfl (v := (1 : Int32)) (by decide) ?_
            refine g_iadd WI d24_60 (pc' := 61) rfl rfl ?_
            refine g_iload WI d24_61 (pc' := 63) rfl rfl ?_
            refine g_iastoreI WI HI (i := 0) rfl (jx := 0) (so_mp hi0) (by omega) d24_63 (pc' := 64) rfl (L' := ((a, IaC Z (us.set 0 x1)) :: F)) rfl ?_
            intro T3 W3 H3
            refine g_goto W3 d24_64 (pc' := 3) (by decide) ?_
            exact ih (k + (1 : Int32)) (kk + 1) _ _ (us.set 0 x1) _ (by omega) hk1 (by omega) (Or.inr ⟨_, rfl⟩) (Or.inr ⟨_, rfl⟩) (by rw [List.length_set]; exact hus) W3 H3
          | succ i0 ihi =>
            intro i us TI hi0 hin hus WI HI
            obtain ⟨u0, hu0⟩ : ∃ u, us[i0]? = some u := ⟨_, List.getElem?_eq_getElem (by omega)⟩
            refine g_iinc WI d24_30 (pc' := 33) rfl rfl (v := (i + (-1 : Int32))) (by rfl) (ls' := #[.val (.ref a), .val (.int (0 : Int32)), .val (.int hi), .val (.int (i + (-1 : Int32))), .val (.int (k + (1 : Int32))), .val (.int x1)]) rfl ?_
            refine g_iloadN WI d24_33 (pc' := 34) rfl rfl ?_
            refine g_iloadN WI d24_34 (pc' := 35) rfl rfl ?_
            refine g_icmp WI d24_35 (pcy := 57) (by decide) (pc' := 38) rfl (fun (h : (i + (-1 : Int32)) < (0 : Int32)) => absurd h (by rw [Int32.lt_iff_toInt_lt, so_m1 hi0, so_0]; omega)) (fun (_ : ¬ (i + (-1 : Int32)) < (0 : Int32)) => ?_)
            refine g_iload WI d24_38 (pc' := 40) rfl rfl ?_
            refine g_aloadN WI d24_40 (pc' := 41) rfl rfl rfl ?_
            refine g_iloadN WI d24_41 (pc' := 42) rfl rfl ?_
            refine g_ialoadI WI HI (i := 0) rfl (jx := i0) (so_m1 hi0) (u := u0) hu0 d24_42 (pc' := 43) rfl ?_
            refine g_icmp WI d24_43 (pcy := 57) (by decide) (pc' := 46) rfl (fun (c4 : ¬ x1 < u0) => ?_) (fun (c4 : ¬ ¬ x1 < u0) => ?_)
            · refine g_aloadN WI d24_57 (pc' := 58) rfl rfl rfl ?_
              refine g_iloadN WI d24_58 (pc' := 59) rfl rfl ?_
              refine g_iconst WI d24_59 (pc' := 60) rfl (v := (1 : Int32)) (by decide) ?_
              refine g_iadd WI d24_60 (pc' := 61) rfl rfl ?_
              refine g_iload WI d24_61 (pc' := 63) rfl rfl ?_
              refine g_iastoreI WI HI (i := 0) rfl (jx := (i0 + 1)) (so_mp hi0) (by omega) d24_63 (pc' := 64) rfl (L' := ((a, IaC Z (us.set (i0 + 1) x1)) :: F)) rfl ?_
              intro T5 W5 H5
              refine g_goto W5 d24_64 (pc' := 3) (by decide) ?_
              exact ih (k + (1 : Int32)) (kk + 1) _ _ (us.set (i0 + 1) x1) _ (by omega) hk1 (by omega) (Or.inr ⟨_, rfl⟩) (Or.inr ⟨_, rfl⟩) (by rw [List.length_set]; exact hus) W5 H5
            · replace c4 := Classical.not_not.mp c4
              refine g_aloadN WI d24_46 (pc' := 47) rfl rfl rfl ?_
              refine g_iloadN WI d24_47 (pc' := 48) rfl rfl ?_
              refine g_iconst WI d24_48 (pc' := 49) rfl (v := (1 : Int32)) (by decide) ?_
              refine g_iadd WI d24_49 (pc' := 50) rfl rfl ?_
              refine g_aloadN WI d24_50 (pc' := 51) rfl rfl rfl ?_
              refine g_iloadN WI d24_51 (pc' := 52) rfl rfl ?_
              refine g_ialoadI WI HI (i := 0) rfl (jx := i0) (so_m1 hi0) (u := u0) hu0 d24_52 (pc' := 53) rfl ?_
              refine g_iastoreI WI HI (i := 0) rfl (jx := (i0 + 1)) (so_mp hi0) (by omega) d24_53 (pc' := 54) rfl (L' := ((a, IaC Z (us.set (i0 + 1) u0)) :: F)) rfl ?_
              intro T6 W6 H6
              refine g_goto W6 d24_54 (pc' := 30) (by decide) ?_
              exact ihi (i + (-1 : Int32)) (us.set (i0 + 1) u0) _ (so_m1 hi0) (by omega) (by rw [List.length_set]; exact hus) W6 H6
        exact inner (kk + 1) (k + (1 : Int32)) ws _ hk1 (by omega) hws W H
theorem c_ins (l : Launch) (Z : State) (a0 : Array Value) (hw : ∀ d ∈ tables_1, d.before a0 Z = true) (n0 : Nat) (a : Addr) (hi : Int32) (n : Nat) (hhi : hi.toInt = (n : Int)) (hn : n < 1000000) (ws : List Int32) (hws : ws.length = n) (h0 : Heap) (F : List HRow) (H00 : Hp Z n0 h0 ((a, IaC Z ws) :: F)) :
    Con l Z n0 ⟨"java/util/DualPivotQuicksort", "insertionSort", "([III)V"⟩ [] jdk_2529_method_6_code 6 none ({ frames := 0, cells := 0, slots := 0, locals := 0 } : Room) #[.ref a, .int (0 : Int32), .int hi] h0 (fun v h => v = none ∧ ∃ zs : List Int32, zs.length = n ∧ Hp Z n0 h ((a, IaC Z zs) :: F)) := by
  refine con_of pf_24 ?_
  intro p e s m below meth c T0 W0 e0
  subst e0
  have H0 := H00
  refine g_cast (ef_rii6 m a (0 : Int32) hi) ?_
  refine g_iloadN W0 d24_0 (pc' := 1) rfl rfl ?_
  refine g_istore W0 d24_1 (pc' := 3) rfl (ls' := #[.val (.ref a), .val (.int (0 : Int32)), .val (.int hi), .unset, .val (.int (0 : Int32)), .unset]) rfl ?_
  exact so_loop l Z a0 hw n0 a hi n hhi hn F _ p e _ s m below meth c _ _ n (0 : Int32) 0 .unset .unset ws _ (by omega) (by decide) (Nat.zero_le _) (Or.inl rfl) (Or.inl rfl) hws W0 H0
theorem c_dp4 (l : Launch) (Z : State) (a0 : Array Value) (hw : ∀ d ∈ tables_1, d.before a0 Z = true) (n0 : Nat) (a : Addr) (hi : Int32) (n : Nat) (hhi : hi.toInt = (n : Int)) (hn : n < 40) (ws : List Int32) (hws : ws.length = n) (h0 : Heap) (F : List HRow) (H00 : Hp Z n0 h0 ((a, IaC Z ws) :: F)) :
    Con l Z n0 ⟨"java/util/DualPivotQuicksort", "sort", "(Ljava/util/DualPivotQuicksort$Sorter;[IIII)V"⟩ [] jdk_2529_method_4_code 21 none ({ frames := 1, cells := 0, slots := 0, locals := 17 } : Room) #[.null, .ref a, .int (0 : Int32), .int (0 : Int32), .int hi] h0 (fun v h => v = none ∧ ∃ zs : List Int32, zs.length = n ∧ Hp Z n0 h ((a, IaC Z zs) :: F)) := by
  refine con_of pf_23 ?_
  intro p e s m below meth c T0 W0 e0
  subst e0
  have H0 := H00
  refine g_cast (ef_nriii21 m a (0 : Int32) (0 : Int32) hi) ?_
  refine g_iload W0 d23_0 (pc' := 2) rfl rfl ?_
  refine g_iconst W0 d23_2 (pc' := 3) rfl (v := (1 : Int32)) (by decide) ?_
  refine g_isub W0 d23_3 (pc' := 4) rfl rfl ?_
  refine g_istore W0 d23_4 (pc' := 6) rfl (ls' := #[.val (.null), .val (.ref a), .val (.int (0 : Int32)), .val (.int (0 : Int32)), .val (.int hi), .val (.int (hi - (1 : Int32))), .unset, .unset, .unset, .unset, .unset, .unset, .unset, .unset, .unset, .unset, .unset, .unset, .unset, .unset, .unset]) rfl ?_
  refine g_iload W0 d23_6 (pc' := 8) rfl rfl ?_
  refine g_iloadN W0 d23_8 (pc' := 9) rfl rfl ?_
  refine g_isub W0 d23_9 (pc' := 10) rfl rfl ?_
  refine g_istore W0 d23_10 (pc' := 12) rfl (ls' := #[.val (.null), .val (.ref a), .val (.int (0 : Int32)), .val (.int (0 : Int32)), .val (.int hi), .val (.int (hi - (1 : Int32))), .val (.int (hi - (0 : Int32))), .unset, .unset, .unset, .unset, .unset, .unset, .unset, .unset, .unset, .unset, .unset, .unset, .unset, .unset]) rfl ?_
  rw [Int32.sub_zero]
  refine g_iload W0 d23_12 (pc' := 14) rfl rfl ?_
  refine g_bipush W0 d23_14 (pc' := 16) rfl (v := (65 : Int32)) (by decide) ?_
  refine g_iloadN W0 d23_16 (pc' := 17) rfl rfl ?_
  refine g_iadd W0 d23_17 (pc' := 18) rfl (v := (65 : Int32)) (by decide) ?_
  refine g_icmp W0 d23_18 (pcy := 46) (by decide) (pc' := 21) rfl (fun (h : ¬ hi < (65 : Int32)) => absurd (show hi < (65 : Int32) by rw [Int32.lt_iff_toInt_lt, hhi, show (65 : Int32).toInt = 65 by decide]; omega) h) (fun (_ : ¬ ¬ hi < (65 : Int32)) => ?_)
  refine g_iloadN W0 d23_21 (pc' := 22) rfl rfl ?_
  refine g_iconst W0 d23_22 (pc' := 23) rfl (v := (1 : Int32)) (by decide) ?_
  refine g_iand W0 d23_23 (pc' := 24) rfl (v := (0 : Int32)) (by decide) ?_
  refine g_if W0 d23_24 (pcy := 46) (by decide) (pc' := 27) rfl (fun _ => ?_) (fun (h : ¬ ¬ (0 : Int32) < (0 : Int32)) => absurd h (by decide))
  refine g_iload W0 d23_46 (pc' := 48) rfl rfl ?_
  refine g_bipush W0 d23_48 (pc' := 50) rfl (v := (44 : Int32)) (by decide) ?_
  refine g_icmp W0 d23_50 (pcy := 61) (by decide) (pc' := 53) rfl (fun (h : ¬ hi < (44 : Int32)) => absurd (show hi < (44 : Int32) by rw [Int32.lt_iff_toInt_lt, hhi, show (44 : Int32).toInt = 44 by decide]; omega) h) (fun (_ : ¬ ¬ hi < (44 : Int32)) => ?_)
  refine g_aloadN W0 d23_53 (pc' := 54) rfl rfl rfl ?_
  refine g_iloadN W0 d23_54 (pc' := 55) rfl rfl ?_
  refine g_iload W0 d23_55 (pc' := 57) rfl rfl ?_
  refine g_callS W0 (argsL := [.ref a, .int (0 : Int32), .int hi]) (st := []) (wd_191 hw) (wd_192 hw) (wd_186 hw) (wd_193 hw) (by decide) (c_ins l Z a0 hw n0 a hi n hhi (by omega) ws hws _ _ H0) pd_23 rfl rfl rfl d23_57 (pc' := 60) rfl (by decide) (Wn := 0) (Nat.le_of_eq rfl) (by decide) (kc' := 0) (ks' := 0) rfl rfl (by decide) (by decide) ?_
  intro T1 v1 W1 hp1
  obtain ⟨rfl, zs, hzs, H1⟩ := hp1
  show Goes _ _ _ _ (State.setTop _ (mkF _ _ _ []))
  exact g_return W1 d23_60 ⟨rfl, zs, hzs, H1⟩ (by decide) (by decide)
theorem c_dp3 (l : Launch) (Z : State) (a0 : Array Value) (hw : ∀ d ∈ tables_1, d.before a0 Z = true) (n0 : Nat) (a : Addr) (hi : Int32) (n : Nat) (hhi : hi.toInt = (n : Int)) (hn : n < 40) (ws : List Int32) (hws : ws.length = n) (h0 : Heap) (F : List HRow) (H00 : Hp Z n0 h0 ((a, IaC Z ws) :: F)) :
    Con l Z n0 ⟨"java/util/DualPivotQuicksort", "sort", "([IIII)V"⟩ [] jdk_2529_method_3_code 7 none ({ frames := 2, cells := 0, slots := 0, locals := 49 } : Room) #[.ref a, .int (0 : Int32), .int (0 : Int32), .int hi] h0 (fun v h => v = none ∧ ∃ zs : List Int32, zs.length = n ∧ Hp Z n0 h ((a, IaC Z zs) :: F)) := by
  refine con_of pf_22 ?_
  intro p e s m below meth c T0 W0 e0
  subst e0
  have H0 := H00
  refine g_cast (ef_riii7 m a (0 : Int32) (0 : Int32) hi) ?_
  refine g_iloadN W0 d22_0 (pc' := 1) rfl rfl ?_
  refine g_iloadN W0 d22_1 (pc' := 2) rfl rfl ?_
  refine g_isub W0 d22_2 (pc' := 3) rfl rfl ?_
  refine g_istore W0 d22_3 (pc' := 5) rfl (ls' := #[.val (.ref a), .val (.int (0 : Int32)), .val (.int (0 : Int32)), .val (.int hi), .val (.int (hi - (0 : Int32))), .unset, .unset]) rfl ?_
  refine g_iloadN W0 d22_5 (pc' := 6) rfl rfl ?_
  refine g_iconst W0 d22_6 (pc' := 7) rfl (v := (1 : Int32)) (by decide) ?_
  refine g_icmp W0 d22_7 (pcy := 68) (by decide) (pc' := 10) rfl (fun _ => ?_) (fun (h : ¬ ¬ (1 : Int32) < (0 : Int32)) => absurd h (by decide))
  refine g_aconst_null W0 d22_68 (pc' := 69) rfl ?_
  refine g_aloadN W0 d22_69 (pc' := 70) rfl rfl rfl ?_
  refine g_iconst W0 d22_70 (pc' := 71) rfl (v := (0 : Int32)) (by decide) ?_
  refine g_iloadN W0 d22_71 (pc' := 72) rfl rfl ?_
  refine g_iloadN W0 d22_72 (pc' := 73) rfl rfl ?_
  refine g_callS W0 (argsL := [.null, .ref a, .int (0 : Int32), .int (0 : Int32), .int hi]) (st := []) (wd_188 hw) (wd_189 hw) (wd_186 hw) (wd_190 hw) (by decide) (c_dp4 l Z a0 hw n0 a hi n hhi hn ws hws _ _ H0) pd_24 rfl rfl rfl d22_73 (pc' := 76) rfl (by decide) (Wn := 0) (Nat.le_of_eq rfl) (by decide) (kc' := 0) (ks' := 0) rfl rfl (by decide) (by decide) ?_
  intro T1 v1 W1 hp1
  obtain ⟨rfl, zs, hzs, H1⟩ := hp1
  show Goes _ _ _ _ (State.setTop _ (mkF _ _ _ []))
  exact g_return W1 d22_76 ⟨rfl, zs, hzs, H1⟩ (by decide) (by decide)
theorem c_sort (l : Launch) (Z : State) (a0 : Array Value) (hw : ∀ d ∈ tables_1, d.before a0 Z = true) (n0 : Nat) (a : Addr) (hi : Int32) (n : Nat) (hhi : hi.toInt = (n : Int)) (hn : n < 40) (ws : List Int32) (hws : ws.length = n) (hlen : ws.length.toInt32 = hi) (h0 : Heap) (F : List HRow) (H00 : Hp Z n0 h0 ((a, IaC Z ws) :: F)) :
    Con l Z n0 ⟨"java/util/Arrays", "sort", "([I)V"⟩ [] jdk_65_method_2_code 1 none ({ frames := 3, cells := 0, slots := 0, locals := 67 } : Room) #[.ref a] h0 (fun v h => v = none ∧ ∃ zs : List Int32, zs.length = n ∧ Hp Z n0 h ((a, IaC Z zs) :: F)) := by
  refine con_of pf_21 ?_
  intro p e s m below meth c T0 W0 e0
  subst e0
  have H0 := H00
  refine g_cast (ef_r1 m a) ?_
  refine g_aloadN W0 d21_0 (pc' := 1) rfl rfl rfl ?_
  refine g_iconst W0 d21_1 (pc' := 2) rfl (v := (0 : Int32)) (by decide) ?_
  refine g_iconst W0 d21_2 (pc' := 3) rfl (v := (0 : Int32)) (by decide) ?_
  refine g_aloadN W0 d21_3 (pc' := 4) rfl rfl rfl ?_
  refine g_arrlenI W0 H0 (i := 0) rfl (x := hi) hlen d21_4 (pc' := 5) rfl ?_
  refine g_callS W0 (argsL := [.ref a, .int (0 : Int32), .int (0 : Int32), .int hi]) (st := []) (wd_184 hw) (wd_185 hw) (wd_186 hw) (wd_187 hw) (by decide) (c_dp3 l Z a0 hw n0 a hi n hhi hn ws hws _ _ H0) pd_25 rfl rfl rfl d21_5 (pc' := 8) rfl (by decide) (Wn := 0) (Nat.le_of_eq rfl) (by decide) (kc' := 0) (ks' := 0) rfl rfl (by decide) (by decide) ?_
  intro T1 v1 W1 hp1
  obtain ⟨rfl, zs, hzs, H1⟩ := hp1
  show Goes _ _ _ _ (State.setTop _ (mkF _ _ _ []))
  exact g_return W1 d21_8 ⟨rfl, zs, hzs, H1⟩ (by decide) (by decide)
set_option maxRecDepth 65536 in
set_option maxHeartbeats 40000000 in
theorem rv_loop (l : Launch) (Z : State) (a0 : Array Value) (hw : ∀ d ∈ tables_1, d.before a0 Z = true) (n0 : Nat) (a : Addr) (n : Nat) (hn : n < 1000000) (F : List HRow) (as0 : Array Value)
    (p : Program) (e : Env) (R : Room) (s : State) (m : MethodId) (below : List Frame) (meth : Method) (c : Code) (k0 j0 : Nat) : ∀ (jj : Nat) (i j : Int32) (ii : Nat) (s3 : Slot) (ws : List Int32) (T : State), i.toInt = (ii : Int) → j.toInt = (jj : Int) - 1 → jj ≤ n → ii ≤ n → (s3 = .unset ∨ ∃ v, s3 = .val (.int v)) → ws.length = n →
    Wk Z ⟨"com/example/inq2/inq2/JudgedRanking", "reverse", "([I)V"⟩ prog_8_method_11_code 4 none n0 p l e R s m as0 below meth c T 0 0 → Hp Z n0 T.heap ((a, IaC Z ws) :: F) → Goes p e below (En s n0 k0 j0 (fun v h => v = none ∧ ∃ zs : List Int32, zs.length = n ∧ Hp Z n0 h ((a, IaC Z zs) :: F))) (T.setTop (mkF m 7 #[.val (.ref a), .val (.int i), .val (.int j), s3] [])) := by
  intro jj
  induction jj with
  | zero =>
    intro i j ii s3 ws T hi hj hjn hin hs3 hws W H
    refine g_iloadN W d25_7 (pc' := 8) rfl rfl ?_
    refine g_iloadN W d25_8 (pc' := 9) rfl rfl ?_
    refine g_icmp W d25_9 (pcy := 35) (by decide) (pc' := 12) rfl (fun (_ : ¬ i < j) => ?_) (fun (h : ¬ ¬ i < j) => absurd (Classical.not_not.mp h) (by rw [Int32.lt_iff_toInt_lt, hi, hj]; omega))
    exact g_return W d25_35 ⟨rfl, ws, hws, H⟩ (Nat.zero_le _) (Nat.zero_le _)
  | succ jj ih =>
    intro i j ii s3 ws T hi hj hjn hin hs3 hws W H
    have hj' : j.toInt = (jj : Int) := by omega
    refine g_iloadN W d25_7 (pc' := 8) rfl rfl ?_
    refine g_iloadN W d25_8 (pc' := 9) rfl rfl ?_
    refine g_icmp W d25_9 (pcy := 35) (by decide) (pc' := 12) rfl (fun (c1 : ¬ i < j) => ?_) (fun (c1 : ¬ ¬ i < j) => ?_)
    · exact g_return W d25_35 ⟨rfl, ws, hws, H⟩ (Nat.zero_le _) (Nat.zero_le _)
    · replace c1 := Classical.not_not.mp c1
      have hij : ii < jj := by have q := c1; rw [Int32.lt_iff_toInt_lt, hi, hj'] at q; omega
      obtain ⟨x0, hx0⟩ : ∃ u, ws[ii]? = some u := ⟨_, List.getElem?_eq_getElem (by omega)⟩
      obtain ⟨x1, hx1⟩ : ∃ u, ws[jj]? = some u := ⟨_, List.getElem?_eq_getElem (by omega)⟩
      refine g_aloadN W d25_12 (pc' := 13) rfl rfl rfl ?_
      refine g_iloadN W d25_13 (pc' := 14) rfl rfl ?_
      refine g_ialoadI W H (i := 0) rfl (jx := ii) hi (u := x0) hx0 d25_14 (pc' := 15) rfl ?_
      refine g_istoreN W d25_15 (pc' := 16) rfl (ls' := #[.val (.ref a), .val (.int i), .val (.int j), .val (.int x0)]) (by rcases hs3 with rfl | ⟨_, rfl⟩ <;> rfl) ?_
      refine g_aloadN W d25_16 (pc' := 17) rfl rfl rfl ?_
      refine g_iloadN W d25_17 (pc' := 18) rfl rfl ?_
      refine g_aloadN W d25_18 (pc' := 19) rfl rfl rfl ?_
      refine g_iloadN W d25_19 (pc' := 20) rfl rfl ?_
      refine g_ialoadI W H (i := 0) rfl (jx := jj) hj' (u := x1) hx1 d25_20 (pc' := 21) rfl ?_
      refine g_iastoreI W H (i := 0) rfl (jx := ii) hi (by omega) d25_21 (pc' := 22) rfl (L' := ((a, IaC Z (ws.set ii x1)) :: F)) rfl ?_
      intro T2 W2 H2
      refine g_aloadN W2 d25_22 (pc' := 23) rfl rfl rfl ?_
      refine g_iloadN W2 d25_23 (pc' := 24) rfl rfl ?_
      refine g_iloadN W2 d25_24 (pc' := 25) rfl rfl ?_
      refine g_iastoreI W2 H2 (i := 0) rfl (jx := jj) hj' (by rw [List.length_set]; omega) d25_25 (pc' := 26) rfl (L' := ((a, IaC Z ((ws.set ii x1).set jj x0)) :: F)) rfl ?_
      intro T3 W3 H3
      refine g_iinc W3 d25_26 (pc' := 29) rfl rfl (v := (i + (1 : Int32))) (by rfl) (ls' := #[.val (.ref a), .val (.int (i + (1 : Int32))), .val (.int j), .val (.int x0)]) rfl ?_
      refine g_iinc W3 d25_29 (pc' := 32) rfl rfl (v := (j + (-1 : Int32))) (by rfl) (ls' := #[.val (.ref a), .val (.int (i + (1 : Int32))), .val (.int (j + (-1 : Int32))), .val (.int x0)]) rfl ?_
      refine g_goto W3 d25_32 (pc' := 7) (by decide) ?_
      exact ih _ _ (ii + 1) _ _ _ (sc_i1 hi (by omega)) (by rw [Int32.toInt_add, show (-1 : Int32).toInt = -1 by decide, hj', Kit.bmod32 (by omega) (by omega)]; omega) (by omega) (by omega) (Or.inr ⟨_, rfl⟩) (by rw [List.length_set, List.length_set]; exact hws) W3 H3
theorem c_rev (l : Launch) (Z : State) (a0 : Array Value) (hw : ∀ d ∈ tables_1, d.before a0 Z = true) (n0 : Nat) (a : Addr) (hi : Int32) (n : Nat) (hhi : hi.toInt = (n : Int)) (hn : n < 40) (ws : List Int32) (hws : ws.length = n) (hlen : ws.length.toInt32 = hi) (h0 : Heap) (F : List HRow) (H00 : Hp Z n0 h0 ((a, IaC Z ws) :: F)) :
    Con l Z n0 ⟨"com/example/inq2/inq2/JudgedRanking", "reverse", "([I)V"⟩ [] prog_8_method_11_code 4 none ({ frames := 0, cells := 0, slots := 0, locals := 0 } : Room) #[.ref a] h0 (fun v h => v = none ∧ ∃ zs : List Int32, zs.length = n ∧ Hp Z n0 h ((a, IaC Z zs) :: F)) := by
  refine con_of (plainFor_of_name pn_JudgedRanking) ?_
  intro p e s m below meth c T0 W0 e0
  subst e0
  have H0 := H00
  refine g_cast (ef_r4 m a) ?_
  refine g_iconst W0 d25_0 (pc' := 1) rfl (v := (0 : Int32)) (by decide) ?_
  refine g_istoreN W0 d25_1 (pc' := 2) rfl (ls' := #[.val (.ref a), .val (.int (0 : Int32)), .unset, .unset]) rfl ?_
  refine g_aloadN W0 d25_2 (pc' := 3) rfl rfl rfl ?_
  refine g_arrlenI W0 H0 (i := 0) rfl (x := hi) hlen d25_3 (pc' := 4) rfl ?_
  refine g_iconst W0 d25_4 (pc' := 5) rfl (v := (1 : Int32)) (by decide) ?_
  refine g_isub W0 d25_5 (pc' := 6) rfl rfl ?_
  refine g_istoreN W0 d25_6 (pc' := 7) rfl (ls' := #[.val (.ref a), .val (.int (0 : Int32)), .val (.int (hi - (1 : Int32))), .unset]) rfl ?_
  exact rv_loop l Z a0 hw n0 a n (by omega) F _ p e _ s m below meth c _ _ n _ _ 0 .unset ws _ (by decide) (by rw [Int32.toInt_sub, show (1 : Int32).toInt = 1 by decide, hhi, Kit.bmod32 (by omega) (by omega)]) (Nat.le_refl _) (Nat.zero_le _) (Or.inl rfl) hws W0 H0
theorem c_min (l : Launch) (Z : State) (a0 : Array Value) (hw : ∀ d ∈ tables_1, d.before a0 Z = true) (n0 : Nat) (x y : Int32) (h0 : Heap) (F : List HRow) (H00 : Hp Z n0 h0 F) :
    Con l Z n0 ⟨"java/lang/Math", "min", "(II)I"⟩ [] jdk_29_method_69_code 2 (some .int) ({ frames := 0, cells := 0, slots := 0, locals := 0 } : Room) #[.int x, .int y] h0 (fun v h => v = some (.int (if y < x then y else x)) ∧ Hp Z n0 h F) := by
  refine con_of pf_57 ?_
  intro p e s m below meth c T0 W0 e0
  subst e0
  have H0 := H00
  refine g_cast (ef_ii2 m x y) ?_
  refine g_iloadN W0 d57_0 (pc' := 1) rfl rfl ?_
  refine g_iloadN W0 d57_1 (pc' := 2) rfl rfl ?_
  refine g_icmp W0 d57_2 (pcy := 9) (by decide) (pc' := 5) rfl (fun (c1 : y < x) => ?_) (fun (c1 : ¬ y < x) => ?_)
  · refine g_iloadN W0 d57_9 (pc' := 10) rfl rfl ?_
    exact g_ireturn W0 d57_10 ⟨by rw [if_pos c1], H0⟩ (by decide) (by decide)
  · refine g_iloadN W0 d57_5 (pc' := 6) rfl rfl ?_
    refine g_goto W0 d57_6 (pc' := 10) (by decide) ?_
    exact g_ireturn W0 d57_10 ⟨by rw [if_neg c1], H0⟩ (by decide) (by decide)
theorem c_copy (l : Launch) (Z : State) (a0 : Array Value) (hw : ∀ d ∈ tables_1, d.before a0 Z = true) (n0 : Nat) (a : Addr) (ct hi : Int32) (k0 : Nat) (xs : List Int32) (hct : ct.toInt = (k0 : Int)) (hhi : hi.toInt = (xs.length : Int)) (hlen : xs.length.toInt32 = hi) (hk : k0 ≤ xs.length) (hx4 : xs.length ≤ 4) (h0 : Heap) (F : List HRow) (H00 : Hp Z n0 h0 ((a, IaC Z xs) :: F)) :
    Con l Z n0 ⟨"java/util/Arrays", "copyOf", "([II)[I"⟩ [] jdk_65_method_123_code 3 (some (.array .int)) ({ frames := 1, cells := 1, slots := 4, locals := 60 } : Room) #[.ref a, .int ct] h0 (fun v h => ∃ (b : Addr) (ws : List Int32), v = some (.ref b) ∧ ws.length = k0 ∧ Hp Z n0 h ((b, IaC Z ws) :: (a, IaC Z xs) :: F)) := by
  refine con_of pf_20 ?_
  intro p e s m below meth c T0 W0 e0
  subst e0
  have H0 := H00
  refine g_cast (ef_ri3 m a ct) ?_
  refine g_iloadN W0 d20_0 (pc' := 1) rfl rfl ?_
  refine g_aloadN W0 d20_1 (pc' := 2) rfl rfl rfl ?_
  refine g_arrlenI W0 H0 (i := 0) rfl (x := hi) hlen d20_2 (pc' := 3) rfl ?_
  refine g_icmp W0 d20_3 (pcy := 14) (by decide) (pc' := 6) rfl (fun (c1 : ¬ ct = hi) => ?_) (fun (c1 : ¬ ¬ ct = hi) => ?_)
  · refine g_iloadN W0 d20_14 (pc' := 15) rfl rfl ?_
    refine g_newarrI W0 (wd_84 hw) H0 (by rw [Int32.lt_iff_toInt_lt, hct, so_0]; omega) (n := k0) (by simp only [Int32.toNatClampNeg, hct]; omega) (cap := 4) (by omega) (by decide) d20_15 (pc' := 17) rfl (kc' := 1) (ks' := 4) rfl rfl (by decide) (by decide) ?_
    intro T2 a2 W2 H2
    refine g_astoreN W2 d20_17 (pc' := 18) rfl rfl (ls' := #[.val (.ref a), .val (.int ct), .val (.ref a2)]) rfl ?_
    refine g_aloadN W2 d20_18 (pc' := 19) rfl rfl rfl ?_
    refine g_iconst W2 d20_19 (pc' := 20) rfl (v := (0 : Int32)) (by decide) ?_
    refine g_aloadN W2 d20_20 (pc' := 21) rfl rfl rfl ?_
    refine g_iconst W2 d20_21 (pc' := 22) rfl (v := (0 : Int32)) (by decide) ?_
    refine g_aloadN W2 d20_22 (pc' := 23) rfl rfl rfl ?_
    refine g_arrlenI W2 H2 (i := 1) rfl (x := hi) hlen d20_23 (pc' := 24) rfl ?_
    refine g_iloadN W2 d20_24 (pc' := 25) rfl rfl ?_
    refine g_callS W2 (argsL := [.int hi, .int ct]) (st := [.int (0 : Int32), .ref a2, .int (0 : Int32), .ref a]) (wd_406 hw) (wd_407 hw) (wd_317 hw) (wd_408 hw) (by decide) (c_min l Z a0 hw n0 hi ct _ _ H2) pd_7 rfl rfl rfl d20_25 (pc' := 28) rfl (by decide) (Wn := 4) (Nat.le_of_eq rfl) (by decide) (kc' := 1) (ks' := 4) rfl rfl (by decide) (by decide) ?_
    intro T3 v3 W3 hp3
    obtain ⟨rfl, H3⟩ := hp3
    show Goes _ _ _ _ (State.setTop _ (mkF _ _ _ [.int (if ct < hi then ct else hi), .int (0 : Int32), .ref a2, .int (0 : Int32), .ref a]))
    rw [show (if ct < hi then ct else hi) = ct from if_pos (by rw [Int32.lt_iff_toInt_lt, hct, hhi]; have q : ct.toInt ≠ hi.toInt := fun z => c1 (Int32.toInt_inj.mp z); omega)]
    refine g_acopyI W3 (wd_409 hw) (wd_412 hw) (wd_410 hw) (wd_411 hw) H3 (i := 1) rfl (ib := 0) rfl (k0 := k0) hct hk (by rw [List.length_replicate]; omega) rfl d20_28 (pc' := 31) rfl (by decide) (Wn := 0) (by decide) (by decide) ?_
    intro T4 ws W4 hws H4
    replace H4 : Hp Z n0 T4.heap ((a2, IaC Z ws) :: (a, IaC Z xs) :: F) := H4
    show Goes _ _ _ _ (State.setTop _ (mkF _ _ _ []))
    refine g_aloadN W4 d20_31 (pc' := 32) rfl rfl rfl ?_
    exact g_areturn W4 rfl rfl d20_32 ⟨_, ws, rfl, by rw [hws, List.length_replicate], H4⟩ (by decide) (by decide)
  · replace c1 := Classical.not_not.mp c1
    refine g_aloadN W0 d20_6 (pc' := 7) rfl rfl rfl ?_
    refine g_cloneI W0 (wd_170 hw) (wd_171 hw) (wd_175 hw) (wd_173 hw) (wd_174 hw) (wd_176 hw) H0 (i := 0) rfl rfl d20_7 (pc' := 10) rfl (by decide) (Wn := 0) (by decide) (by decide) (cap := 4) (by omega) (kc' := 1) (ks' := 4) rfl rfl (by decide) (by decide) ?_
    intro T5 b1 W5 H5
    refine g_cast1 W5 (wd_177 hw) (Ins.self (by obtain ⟨-, cl, q1, q2⟩ := H5.get (i := 0) rfl; exact q2.exa q1)) H5 d20_10 (pc' := 13) rfl ?_
    intro T6 W6 _ H6
    exact g_areturn W6 rfl rfl d20_13 ⟨_, xs, rfl, by have q := congrArg Int32.toInt c1; rw [hct, hhi] at q; omega, H6⟩ (by decide) (by decide)

def own_pos : List (Option Int32) → Nat
  | [] => 0
  | none :: r => own_pos r
  | some x :: r => (if x < 1 then 0 else 1) + own_pos r
def own_refs : List (Option Int32) → Nat
  | [] => 0
  | none :: r => own_refs r
  | some _ :: r => 1 + own_refs r
theorem own_pos_le : ∀ bs, own_pos bs ≤ own_refs bs
  | [] => Nat.le_refl _
  | none :: r => own_pos_le r
  | some x :: r => by
    have := own_pos_le r
    simp only [own_pos, own_refs]; split <;> omega
def NodeR (Z : State) (n0 : Nat) (F : List HRow) (nd : Addr) (x : Int32) : Prop := ∃ (q : Int32) (ky ia : Addr), (nd, ObC Z "java/util/HashMap$Node" (fs_HashMap_Node (.int q) (.ref ky) (.ref ia) .null)) ∈ F ∧ IntF Z n0 F ia x
def RelE (Z : State) (n0 : Nat) (F : List HRow) (v : Value) (b : Option Int32) : Prop := (v = .null ∧ b = none) ∨ ∃ nd x, v = .ref nd ∧ b = some x ∧ NodeR Z n0 F nd x
def Rel (Z : State) (n0 : Nat) (F : List HRow) : List Value → List (Option Int32) → Prop
  | [], [] => True
  | v :: vs, b :: bs => RelE Z n0 F v b ∧ Rel Z n0 F vs bs
  | [], _ :: _ => False
  | _ :: _, [] => False
theorem rel_nn {Z : State} {n0 : Nat} {F : List HRow} : Rel Z n0 F [] [] := trivial
theorem rel_cc {Z : State} {n0 : Nat} {F : List HRow} {v : Value} {b : Option Int32} {vs : List Value} {bs : List (Option Int32)} : Rel Z n0 F (v :: vs) (b :: bs) ↔ (RelE Z n0 F v b ∧ Rel Z n0 F vs bs) := Iff.rfl
theorem rel_nc {Z : State} {n0 : Nat} {F : List HRow} {b : Option Int32} {bs : List (Option Int32)} (h : Rel Z n0 F [] (b :: bs)) : False := h
theorem rel_cn {Z : State} {n0 : Nat} {F : List HRow} {v : Value} {vs : List Value} (h : Rel Z n0 F (v :: vs) []) : False := h
theorem NodeR.mono {Z : State} {n0 : Nat} {F F' : List HRow} {nd : Addr} {x : Int32} (h : NodeR Z n0 F nd x) (q : ∀ r ∈ F, r ∈ F') : NodeR Z n0 F' nd x := by
  obtain ⟨a, b, c, h1, h2⟩ := h
  exact ⟨a, b, c, q _ h1, h2.mono q⟩
theorem RelE.mono {Z : State} {n0 : Nat} {F F' : List HRow} {v : Value} {b : Option Int32} (h : RelE Z n0 F v b) (q : ∀ r ∈ F, r ∈ F') : RelE Z n0 F' v b := by
  rcases h with h | ⟨nd, x, h1, h2, h3⟩
  · exact Or.inl h
  · exact Or.inr ⟨nd, x, h1, h2, h3.mono q⟩
theorem Rel.mono {Z : State} {n0 : Nat} {F F' : List HRow} {vs : List Value} {bs : List (Option Int32)} (h : Rel Z n0 F vs bs) (q : ∀ r ∈ F, r ∈ F') : Rel Z n0 F' vs bs := by
  induction vs generalizing bs with
  | nil =>
    cases bs with
    | nil => exact rel_nn
    | cons b bs => exact (rel_nc h).elim
  | cons v vs ih =>
    cases bs with
    | nil => exact (rel_cn h).elim
    | cons b bs => exact rel_cc.mpr ⟨(rel_cc.mp h).1.mono q, ih (rel_cc.mp h).2⟩
theorem Rel.val {Z : State} {n0 : Nat} {F : List HRow} {vs : List Value} {bs : List (Option Int32)} (h : Rel Z n0 F vs bs) : ∀ z ∈ vs, z = .null ∨ ∃ nd, z = .ref nd := by
  induction vs generalizing bs with
  | nil => intro z hz; cases hz
  | cons v vs ih =>
    cases bs with
    | nil => exact (rel_cn h).elim
    | cons b bs =>
      intro z hz
      rcases List.mem_cons.mp hz with hz | hz
      · subst hz
        rcases (rel_cc.mp h).1 with ⟨h1, -⟩ | ⟨nd, x, h1, -⟩
        · exact Or.inl h1
        · exact Or.inr ⟨nd, h1⟩
      · exact ih (rel_cc.mp h).2 z hz
/-- what a scan leaves -/
theorem Rel.scan {Z : State} {n0 : Nat} {F : List HRow} {vs : List Value} {bs : List (Option Int32)} (h : Rel Z n0 F vs bs) : ∀ (i0 j0 : Nat) (x : Value), own_scan vs i0 = (j0, x) →
    (x = .null ∧ own_refs bs = 0 ∧ own_pos bs = 0) ∨ ∃ nd y r bs2, x = .ref nd ∧ NodeR Z n0 F nd y ∧ Rel Z n0 F r bs2 ∧ j0 + r.length = i0 + vs.length ∧ (∀ ws : List Value, (∀ t z, vs[t]? = some z → ws[i0 + t]? = some z) → ∀ t z, r[t]? = some z → ws[j0 + t]? = some z) ∧ own_pos bs = (if y < 1 then 0 else 1) + own_pos bs2 ∧ own_refs bs = 1 + own_refs bs2 := by
  induction vs generalizing bs with
  | nil =>
    cases bs with
    | nil => intro i0 j0 x e; cases e; exact Or.inl ⟨rfl, rfl, rfl⟩
    | cons b bs => exact (rel_nc h).elim
  | cons v vs ih =>
    cases bs with
    | nil => exact (rel_cn h).elim
    | cons b bs =>
      obtain ⟨hv, ht⟩ := rel_cc.mp h
      intro i0 j0 x e
      rcases hv with ⟨rfl, rfl⟩ | ⟨nd, y, rfl, rfl, hn⟩
      · rcases ih ht (i0 + 1) j0 x e with ⟨h1, h2, h3⟩ | ⟨nd, y, r, bs2, h1, h2, h3, h4, h5, h6, h7⟩
        · exact Or.inl ⟨h1, h2, h3⟩
        · exact Or.inr ⟨nd, y, r, bs2, h1, h2, h3, by simp only [List.length_cons]; omega, fun ws q => h5 ws (sc_tl q), h6, h7⟩
      · cases e
        exact Or.inr ⟨_, _, _, _, rfl, hn, ht, by simp only [List.length_cons]; omega, fun ws q => sc_tl q, rfl, rfl⟩

theorem c_sdi (l : Launch) (Z : State) (a0 : Array Value) (hw : ∀ d ∈ tables_1, d.before a0 Z = true) (n0 : Nat) (d sk : Addr) (sc : UInt64) (h0 : Heap) (F : List HRow) (H00 : Hp Z n0 h0 ((d, ObC Z "com/example/inq2/inq2/ScoredDocument" (fs_ScoredDocument .null (.double 0))) :: F)) :
    Con l Z n0 ⟨"com/example/inq2/inq2/ScoredDocument", "<init>", "(Ljava/lang/String;D)V"⟩ [] prog_19_method_1_code 4 none ({ frames := 1, cells := 0, slots := 0, locals := 12 } : Room) #[.ref d, .ref sk, .double sc] h0 (fun v h => v = none ∧ Hp Z n0 h ((d, ObC Z "com/example/inq2/inq2/ScoredDocument" (fs_ScoredDocument (.ref sk) (.double sc))) :: F)) := by
  refine con_of (plainFor_of_name pn_ScoredDocument) ?_
  intro p e s m below meth c T0 W0 e0
  subst e0
  have H0 := H00
  refine g_cast (ef_rrd4 m d sk sc) ?_
  refine g_aloadN W0 d39_0 (pc' := 1) rfl rfl rfl ?_
  refine g_initO W0 (wd_288 hw) (wd_20 hw) (wd_21 hw) H0 rfl d39_1 (pc' := 4) rfl (by decide) (Wn := 0) (Nat.le_of_eq rfl) (by decide) ?_
  intro T1 W1 H1
  refine g_aloadN W1 d39_4 (pc' := 5) rfl rfl rfl ?_
  refine g_aloadN W1 d39_5 (pc' := 6) rfl rfl rfl ?_
  refine g_putf W1 (wd_289 hw) Via.refl (Or.inr ⟨(wd_290 hw), rfl, rfl⟩) (wd_282 hw) (ty := (.object "java/lang/String")) (by decide) rfl rfl H1 (i := 0) rfl (jx := 0) rfl d39_6 (pc' := 9) rfl (L' := ((d, ObC Z "com/example/inq2/inq2/ScoredDocument" (fs_ScoredDocument (.ref sk) (.double 0))) :: F)) rfl ?_
  intro T2 W2 H2
  refine g_aloadN W2 d39_9 (pc' := 10) rfl rfl rfl ?_
  refine g_dloadN W2 d39_10 (pc' := 11) rfl rfl ?_
  refine g_putf W2 (wd_291 hw) Via.refl (Or.inr ⟨(wd_292 hw), rfl, rfl⟩) (wd_282 hw) (ty := .double) (by decide) rfl rfl H2 (i := 0) rfl (jx := 1) rfl d39_11 (pc' := 14) rfl (L' := ((d, ObC Z "com/example/inq2/inq2/ScoredDocument" (fs_ScoredDocument (.ref sk) (.double sc))) :: F)) rfl ?_
  intro T3 W3 H3
  exact g_return W3 d39_14 ⟨rfl, H3⟩ (by decide) (by decide)
theorem c_doc (l : Launch) (Z : State) (a0 : Array Value) (hw : ∀ d ∈ tables_1, d.before a0 Z = true) (n0 : Nat) (d sk : Addr) (sc : UInt64) (F : List HRow) (hd : (d, ObC Z "com/example/inq2/inq2/ScoredDocument" (fs_ScoredDocument (.ref sk) (.double sc))) ∈ F) (h0 : Heap) (H00 : Hp Z n0 h0 F) :
    Con l Z n0 ⟨"com/example/inq2/inq2/ScoredDocument", "document", "()Ljava/lang/String;"⟩ [] prog_19_method_2_code 1 (some (.object "java/lang/String")) ({ frames := 0, cells := 0, slots := 0, locals := 0 } : Room) #[.ref d] h0 (fun v h => v = some (.ref sk) ∧ Hp Z n0 h F) := by
  refine con_of (plainFor_of_name pn_ScoredDocument) ?_
  intro p e s m below meth c T0 W0 e0
  subst e0
  have H0 := H00
  refine g_cast (ef_r1 m d) ?_
  refine g_aloadN W0 d49_0 (pc' := 1) rfl rfl rfl ?_
  refine g_getfF W0 (wd_289 hw) Via.refl H0 (H0.fldm hd (jx := 0) rfl) d49_1 (pc' := 4) rfl ?_
  intro T1 W1 _ H1
  exact g_areturn W1 rfl rfl d49_4 ⟨rfl, H1⟩ (by decide) (by decide)

def JX (Z : State) (n0 : Nat) (F : List HRow) (vs : List Value) (C n N c0 : Nat) (x : Value) (j0 : Nat) : Prop := (x = .null ∧ c0 = C) ∨ ∃ nd y r bs2, x = .ref nd ∧ NodeR Z n0 F nd y ∧ Rel Z n0 F r bs2 ∧ j0 + r.length = 16 ∧ (∀ t z, r[t]? = some z → vs[j0 + t]? = some z) ∧ c0 + ((if y < 1 then 0 else 1) + own_pos bs2) = C ∧ c0 + (1 + own_refs bs2) ≤ n ∧ 1 + own_refs bs2 ≤ N
theorem JX.of {Z : State} {n0 : Nat} {F : List HRow} {vs r : List Value} {bs2 : List (Option Int32)} {C n N c1 i0 j1 : Nat} {x1 : Value} (hrel : Rel Z n0 F r bs2) (h16 : i0 + r.length = 16) (hrs : ∀ t z, r[t]? = some z → vs[i0 + t]? = some z) (hs : own_scan r i0 = (j1, x1)) (e1 : c1 + own_pos bs2 = C) (e2 : c1 + own_refs bs2 ≤ n) (e3 : own_refs bs2 ≤ N) : JX Z n0 F vs C n N c1 x1 j1 := by
  rcases hrel.scan _ _ _ hs with ⟨h1, h2, h3⟩ | ⟨nd, y, r2, b2, h1, h2, h3, h4, h5, h6, h7⟩
  · exact Or.inl ⟨h1, by omega⟩
  · exact Or.inr ⟨nd, y, r2, b2, h1, h2, h3, by omega, h5 _ hrs, by omega, by omega, by omega⟩

set_option maxRecDepth 65536 in
set_option maxHeartbeats 40000000 in
theorem jl_loop (l : Launch) (Z : State) (a0 : Array Value) (hw : ∀ d ∈ tables_1, d.before a0 Z = true) (n0 : Nat) (jr a m0 arr it tb va : Addr) (sz mc thr : Int32) (vs : List Value) (hlen : vs.length.toInt32 = 16) (F : List HRow) (as0 : Array Value)
    (p : Program) (e : Env) (R : Room) (s : State) (m : MethodId) (below : List Frame) (meth : Method) (c : Code) (E : Option Value → State → List Loc → Prop) (kc ks : Nat) (hRf : 6 ≤ R.frames) (hRl : 100 ≤ R.locals) (hRc : kc ≤ R.cells) (hRs : ks ≤ R.slots) (C n : Nat) (hn : n < 1000)
    (K : ∀ (T : State) (ct : Int32) (ws : List Int32) (x cu : Value) (jj : Int32) (s6 : Slot), ct.toInt = (C : Int) → ws.length = n → (s6 = .unset ∨ ∃ v, s6 = .val (.int v)) → Wk Z ⟨"com/example/inq2/inq2/JudgedRanking", "<init>", "(Ljava/util/List;Ljava/util/Map;)V"⟩ prog_8_method_1_code 7 none n0 p l e R s m as0 below meth c T kc ks → Hp Z n0 T.heap ((it, ObC Z "java/util/HashMap$ValueIterator" (fs_HashMap_ValueIterator (.ref m0) (.int mc) x cu (.int jj))) :: (m0, ObC Z "java/util/HashMap" (fs_HashMap (.float (1061158912 : UInt32)) (.int sz) (.ref va) (.int mc) (.ref tb) (.int thr))) :: (tb, RaC Z "java/util/HashMap$Node" vs) :: (arr, IaC Z ws) :: F) → Goes p e below E (T.setTop (mkF m 136 #[.val (.ref jr), .val (.ref a), .val (.ref m0), .val (.ref arr), .val (.int ct), .val (.ref it), s6] []))) :
    ∀ (N : Nat) (x cu : Value) (jj : Int32) (j0 : Nat) (ct : Int32) (c0 : Nat) (ws : List Int32) (s6 : Slot) (T : State), JX Z n0 F vs C n N c0 x j0 → jj.toInt = (j0 : Int) → ct.toInt = (c0 : Int) → ws.length = n → (s6 = .unset ∨ ∃ v, s6 = .val (.int v)) → Wk Z ⟨"com/example/inq2/inq2/JudgedRanking", "<init>", "(Ljava/util/List;Ljava/util/Map;)V"⟩ prog_8_method_1_code 7 none n0 p l e R s m as0 below meth c T kc ks → Hp Z n0 T.heap ((it, ObC Z "java/util/HashMap$ValueIterator" (fs_HashMap_ValueIterator (.ref m0) (.int mc) x cu (.int jj))) :: (m0, ObC Z "java/util/HashMap" (fs_HashMap (.float (1061158912 : UInt32)) (.int sz) (.ref va) (.int mc) (.ref tb) (.int thr))) :: (tb, RaC Z "java/util/HashMap$Node" vs) :: (arr, IaC Z ws) :: F) → Goes p e below E (T.setTop (mkF m 93 #[.val (.ref jr), .val (.ref a), .val (.ref m0), .val (.ref arr), .val (.int ct), .val (.ref it), s6] [])) := by
  intro N
  induction N with
    | zero =>
      intro x cu jj j0 ct c0 ws s6 T hx hjj hct hws hs6 W H
      rcases hx with ⟨hx0, hc0⟩ | ⟨nd, y, r, bs2, h1, h2, h3, h4, h5, h6, h7, h8⟩
      · subst hx0
        refine g_aload W d11_93 (pc' := 95) rfl rfl rfl ?_
        refine g_callF W (argsL := []) (st := []) (wd_157 hw) (wd_158 hw) (fun _ _ hZ => mvT hZ (wd_159 hw)) (wd_160 hw) (wd_161 hw) (wd_162 hw) (wd_163 hw) (wd_164 hw) (wd_140 hw) (wd_165 hw) (by decide) (a := it) (H.exa (i := 0) rfl) (c_hn0 l Z a0 hw n0 it m0 it mc jj cu _ _ H) pd_3 rfl rfl rfl d11_95 (pc' := 100) rfl (Nat.le_trans (by decide) hRf) (Wn := 0) (Nat.le_of_eq rfl) (Nat.le_trans (by decide) hRl) (kc' := kc) (ks' := ks) rfl rfl hRc hRs ?_
        intro T1 v1 W1 hp1
        obtain ⟨rfl, H1⟩ := hp1
        show Goes _ _ _ _ (State.setTop _ (mkF _ _ _ [.int (0 : Int32)]))
        refine g_if W1 d11_100 (pcy := 136) (by decide) (pc' := 103) rfl (fun _ => ?_) (fun (h : ¬ (0 : Int32) = (0 : Int32)) => absurd h (by decide))
        exact K _ ct ws .null cu jj s6 (by rw [hct, hc0]) hws hs6 W1 H1
      · omega
    | succ N ih =>
      intro x cu jj j0 ct c0 ws s6 T hx hjj hct hws hs6 W H
      rcases hx with ⟨hx0, hc0⟩ | ⟨nd, y, r, bs2, h1, ⟨q, ky, ia, hnd, hI⟩, h3, h4, h5, h6, h7, h8⟩
      · subst hx0
        refine g_aload W d11_93 (pc' := 95) rfl rfl rfl ?_
        refine g_callF W (argsL := []) (st := []) (wd_157 hw) (wd_158 hw) (fun _ _ hZ => mvT hZ (wd_159 hw)) (wd_160 hw) (wd_161 hw) (wd_162 hw) (wd_163 hw) (wd_164 hw) (wd_140 hw) (wd_165 hw) (by decide) (a := it) (H.exa (i := 0) rfl) (c_hn0 l Z a0 hw n0 it m0 it mc jj cu _ _ H) pd_3 rfl rfl rfl d11_95 (pc' := 100) rfl (Nat.le_trans (by decide) hRf) (Wn := 0) (Nat.le_of_eq rfl) (Nat.le_trans (by decide) hRl) (kc' := kc) (ks' := ks) rfl rfl hRc hRs ?_
        intro T2 v2 W2 hp2
        obtain ⟨rfl, H2⟩ := hp2
        show Goes _ _ _ _ (State.setTop _ (mkF _ _ _ [.int (0 : Int32)]))
        refine g_if W2 d11_100 (pcy := 136) (by decide) (pc' := 103) rfl (fun _ => ?_) (fun (h : ¬ (0 : Int32) = (0 : Int32)) => absurd h (by decide))
        exact K _ ct ws .null cu jj s6 (by rw [hct, hc0]) hws hs6 W2 H2
      · subst h1
        refine g_aload W d11_93 (pc' := 95) rfl rfl rfl ?_
        refine g_callF W (argsL := []) (st := []) (wd_157 hw) (wd_158 hw) (fun _ _ hZ => mvT hZ (wd_159 hw)) (wd_160 hw) (wd_161 hw) (wd_162 hw) (wd_163 hw) (wd_164 hw) (wd_140 hw) (wd_165 hw) (by decide) (a := it) (H.exa (i := 0) rfl) (c_hn1 l Z a0 hw n0 it m0 nd mc jj cu _ _ H) pd_3 rfl rfl rfl d11_95 (pc' := 100) rfl (Nat.le_trans (by decide) hRf) (Wn := 0) (Nat.le_of_eq rfl) (Nat.le_trans (by decide) hRl) (kc' := kc) (ks' := ks) rfl rfl hRc hRs ?_
        intro T3 v3 W3 hp3
        obtain ⟨rfl, H3⟩ := hp3
        show Goes _ _ _ _ (State.setTop _ (mkF _ _ _ [.int (1 : Int32)]))
        refine g_if W3 d11_100 (pcy := 136) (by decide) (pc' := 103) rfl (fun (h : (1 : Int32) = (0 : Int32)) => absurd h (by decide)) (fun _ => ?_)
        refine g_aload W3 d11_103 (pc' := 105) rfl rfl rfl ?_
        refine g_callF W3 (argsL := []) (st := []) (wd_378 hw) (wd_379 hw) (fun _ _ hZ => mvT hZ (wd_380 hw)) (wd_381 hw) (wd_382 hw) (wd_383 hw) (wd_384 hw) (wd_164 hw) (wd_131 hw) (wd_385 hw) (by decide) (a := it) (H3.exa (i := 0) rfl) (c_next l Z a0 hw n0 tb vs hlen m0 sz mc thr it va _ nd ky ia q jj cu j0 hjj r h4 h5 h3.val (List.mem_cons_of_mem _ hnd) _ H3) pd_26 rfl rfl rfl d11_105 (pc' := 110) rfl (Nat.le_trans (by decide) hRf) (Wn := 0) (Nat.le_of_eq rfl) (Nat.le_trans (by decide) hRl) (kc' := kc) (ks' := ks) rfl rfl hRc hRs ?_
        intro T4 v4 W4 hp4
        obtain ⟨rfl, jj1, j1, x1, hj1, hs1, H4⟩ := hp4
        show Goes _ _ _ _ (State.setTop _ (mkF _ _ _ [.ref ia]))
        refine g_cast1 W4 (wd_368 hw) (Ins.self (hI _ _ H4 (fun r hr => (mc4 hr))).1) H4 d11_110 (pc' := 113) rfl ?_
        intro T5 W5 _ H5
        refine g_callVE W5 (argsL := []) (st := []) (wd_370 hw) (wd_371 hw) (wd_373 hw) (wd_372 hw) (wd_209 hw) (wd_374 hw) (fun _ hZ => notFace_of_selects (args := #[]) (mvT hZ (wd_373 hw))) (by decide) (a := ia) (hI _ _ H5 (fun r hr => (mc4 hr))).1 (c_intv l Z a0 hw n0 ia y _ (hI.mono (fun r hr => (mc4 hr))) _ H5) pd_5 rfl rfl rfl d11_113 (pc' := 116) rfl (Nat.le_trans (by decide) hRf) (Wn := 0) (Nat.le_of_eq rfl) (Nat.le_trans (by decide) hRl) (kc' := kc) (ks' := ks) rfl rfl hRc hRs ?_
        intro T6 v6 W6 hp6
        obtain ⟨rfl, H6⟩ := hp6
        show Goes _ _ _ _ (State.setTop _ (mkF _ _ _ [.int y]))
        refine g_istore W6 d11_116 (pc' := 118) rfl (ls' := #[.val (.ref jr), .val (.ref a), .val (.ref m0), .val (.ref arr), .val (.int ct), .val (.ref it), .val (.int y)]) (by rcases hs6 with rfl | ⟨_, rfl⟩ <;> rfl) ?_
        refine g_iload W6 d11_118 (pc' := 120) rfl rfl ?_
        refine g_iconst W6 d11_120 (pc' := 121) rfl (v := (1 : Int32)) (by decide) ?_
        refine g_icmp W6 d11_121 (pcy := 133) (by decide) (pc' := 124) rfl (fun (c7 : y < (1 : Int32)) => ?_) (fun (c7 : ¬ y < (1 : Int32)) => ?_)
        · refine g_goto W6 d11_133 (pc' := 93) (by decide) ?_
          exact ih x1 (.ref nd) jj1 j1 ct c0 ws _ _ (JX.of h3 h4 h5 hs1 (by rw [if_pos c7] at h6; omega) (by omega) (by omega)) hj1 hct hws (Or.inr ⟨_, rfl⟩) W6 H6
        · refine g_aloadN W6 d11_124 (pc' := 125) rfl rfl rfl ?_
          refine g_iload W6 d11_125 (pc' := 127) rfl rfl ?_
          refine g_iinc W6 d11_127 (pc' := 130) rfl rfl (v := (ct + (1 : Int32))) (by rfl) (ls' := #[.val (.ref jr), .val (.ref a), .val (.ref m0), .val (.ref arr), .val (.int (ct + (1 : Int32))), .val (.ref it), .val (.int y)]) rfl ?_
          refine g_iload W6 d11_130 (pc' := 132) rfl rfl ?_
          refine g_iastoreI W6 H6 (i := 3) rfl (jx := c0) hct (by omega) d11_132 (pc' := 133) rfl (L' := ((it, ObC Z "java/util/HashMap$ValueIterator" (fs_HashMap_ValueIterator (.ref m0) (.int mc) x1 (.ref nd) (.int jj1))) :: (m0, ObC Z "java/util/HashMap" (fs_HashMap (.float (1061158912 : UInt32)) (.int sz) (.ref va) (.int mc) (.ref tb) (.int thr))) :: (tb, RaC Z "java/util/HashMap$Node" vs) :: (arr, IaC Z (ws.set c0 y)) :: F)) rfl ?_
          intro T8 W8 H8
          refine g_goto W8 d11_133 (pc' := 93) (by decide) ?_
          exact ih x1 (.ref nd) jj1 j1 (ct + (1 : Int32)) (c0 + 1) (ws.set c0 y) _ _ (JX.of h3 h4 h5 hs1 (by rw [if_neg c7] at h6; omega) (by omega) (by omega)) hj1 (sc_i1 hct (by omega)) (by rw [List.length_set]; exact hws) (Or.inr ⟨_, rfl⟩) W8 H8

theorem i32_ex (zs : List Int32) (h : zs.length ≤ 4) : ∃ hi : Int32, hi.toInt = (zs.length : Int) ∧ zs.length.toInt32 = hi := by
  refine ⟨_, ?_, rfl⟩
  generalize zs.length = n at h
  have : n = 0 ∨ n = 1 ∨ n = 2 ∨ n = 3 ∨ n = 4 := by omega
  rcases this with rfl | rfl | rfl | rfl | rfl <;> decide
theorem i32_len {ws : List Int32} {n : Nat} {sz : Int32} (hw : ws.length = n) (hs : sz.toInt = (n : Int)) (h4 : n ≤ 4) : ws.length.toInt32 = sz := by
  obtain ⟨hi, h1, h2⟩ := i32_ex ws (by omega)
  rw [h2]; exact Int32.toInt_inj.mp (by rw [h1, hs, hw])


def JB (Z : State) (n0 : Nat) (F : List HRow) (v : Option Value) (q : Int32) (sk : Addr) (x : Int32) : Prop := (v = some .null ∧ x = 0) ∨ ∃ nd ia, v = some (.ref nd) ∧ (nd, ObC Z "java/util/HashMap$Node" (fs_HashMap_Node (.int q) (.ref sk) (.ref ia) .null)) ∈ F ∧ IntF Z n0 F ia x
theorem JB.mono {Z : State} {n0 : Nat} {F F' : List HRow} {v : Option Value} {q : Int32} {sk : Addr} {x : Int32} (h : JB Z n0 F v q sk x) (w : ∀ r ∈ F, r ∈ F') : JB Z n0 F' v q sk x := by
  rcases h with h | ⟨nd, ia, h1, h2, h3⟩
  · exact Or.inl h
  · exact Or.inr ⟨nd, ia, h1, w _ h2, h3.mono w⟩

theorem jr_turnz (l : Launch) (Z : State) (a0 : Array Value) (hw : HW Z a0) (n0 : Nat) (cs : Int32) (hS : Sta Z Z.heap "java/lang/String" "COMPACT_STRINGS" "Z" (.int cs)) (hcs : ¬ cs = 0) (ca : Addr) (cc : Cell) (hH : Sta Z Z.heap "java/lang/Integer$IntegerCache" "high" "I" (.int 127)) (hCa : Sta Z Z.heap "java/lang/Integer$IntegerCache" "cache" "[Ljava/lang/Integer;" (.ref ca)) (hB : Bxs Z ca cc "java/lang/Integer" "I" (256 : Int32) (fun j => .int (j - 128))) (jr a el m0 rra sk d : Addr) (mcL mc N ii i2 x : Int32) (lv : List Value) (ws ws2 : List Int32) (i0 : Nat) (sc : UInt64) (F : List HRow) (hii : ii.toInt = (i0 : Int)) (hi2 : ii + (1 : Int32) = i2) (hi0 : ¬ ii < 0) (hlt : ii < N) (hN : ws.length.toInt32 = N) (hiw : i0 < ws.length) (hws : ws.set i0 x = ws2) (hl : lv[i0]? = some (.ref d)) (hd : (d, ObC Z "com/example/inq2/inq2/ScoredDocument" (fs_ScoredDocument (.ref sk) (.double sc))) ∈ F) (hb : x = 0) (as0 : Array Value)
    (p : Program) (e : Env) (R : Room) (s : State) (m : MethodId) (below : List Frame) (meth : Method) (c : Code) (E : Option Value → State → List Loc → Prop) (kc ks : Nat) (hRf : 4 ≤ R.frames) (hRl : 54 ≤ R.locals) (hRc : kc + 1 ≤ R.cells) (hRs : ks + 1 ≤ R.slots)
    (K : ∀ (T : State) (G : List HRow), Wk Z ⟨"com/example/inq2/inq2/JudgedRanking", "<init>", "(Ljava/util/List;Ljava/util/Map;)V"⟩ prog_8_method_1_code 7 none n0 p l e R s m as0 below meth c T (kc + 1) (ks + 1) → Hp Z n0 T.heap ((jr, ObC Z "com/example/inq2/inq2/JudgedRanking" (fs_JudgedRanking (.ref rra) .null)) :: (a, ObC Z "java/util/ArrayList" (fs_ArrayList (.int mcL) (.ref el) (.int N))) :: (el, RaC Z "java/lang/Object" lv) :: (m0, ObC Z "java/util/HashMap" (fs_HashMap (.float (1061158912 : UInt32)) (.int (0 : Int32)) .null (.int mc) .null (.int (0 : Int32)))) :: (rra, IaC Z ws2) :: (G ++ F)) → Goes p e below E (T.setTop (mkF m 18 #[.val (.ref jr), .val (.ref a), .val (.ref m0), .val (.int i2), .unset, .unset, .unset] []))) (T : State) (W : Wk Z ⟨"com/example/inq2/inq2/JudgedRanking", "<init>", "(Ljava/util/List;Ljava/util/Map;)V"⟩ prog_8_method_1_code 7 none n0 p l e R s m as0 below meth c T kc ks) (H : Hp Z n0 T.heap ((jr, ObC Z "com/example/inq2/inq2/JudgedRanking" (fs_JudgedRanking (.ref rra) .null)) :: (a, ObC Z "java/util/ArrayList" (fs_ArrayList (.int mcL) (.ref el) (.int N))) :: (el, RaC Z "java/lang/Object" lv) :: (m0, ObC Z "java/util/HashMap" (fs_HashMap (.float (1061158912 : UInt32)) (.int (0 : Int32)) .null (.int mc) .null (.int (0 : Int32)))) :: (rra, IaC Z ws) :: F)) : Goes p e below E (T.setTop (mkF m 18 #[.val (.ref jr), .val (.ref a), .val (.ref m0), .val (.int ii), .unset, .unset, .unset] [])) := by
  refine g_iloadN W d11_18 (pc' := 19) rfl rfl ?_
  refine g_aloadN W d11_19 (pc' := 20) rfl rfl rfl ?_
  refine g_getf W (wd_85 hw) Via.refl H (i := 0) rfl (jx := 0) rfl d11_20 (pc' := 23) rfl ?_
  intro T1 W1 H1
  refine g_arrlenI W1 H1 (i := 4) rfl (x := N) hN d11_23 (pc' := 24) rfl ?_
  refine g_icmp W1 d11_24 (pcy := 68) (by decide) (pc' := 27) rfl (fun (h : ¬ ii < N) => absurd hlt h) (fun (_ : ¬ ¬ ii < N) => ?_)
  refine g_aloadN W1 d11_27 (pc' := 28) rfl rfl rfl ?_
  refine g_getf W1 (wd_85 hw) Via.refl H1 (i := 0) rfl (jx := 0) rfl d11_28 (pc' := 31) rfl ?_
  intro T2 W2 H2
  refine g_iloadN W2 d11_31 (pc' := 32) rfl rfl ?_
  refine g_aloadN W2 d11_32 (pc' := 33) rfl rfl rfl ?_
  refine g_aloadN W2 d11_33 (pc' := 34) rfl rfl rfl ?_
  refine g_iloadN W2 d11_34 (pc' := 35) rfl rfl ?_
  have H3f := Hp.fr2 H2
  have H4f := Hp.fr2 H3f
  refine g_callF W2 (argsL := [.int ii]) (st := [.ref m0, .int ii, .ref rra]) (wd_323 hw) (wd_324 hw) (fun _ _ hZ => mvT hZ (wd_325 hw)) (wd_326 hw) (wd_327 hw) (wd_328 hw) (wd_329 hw) (wd_80 hw) (wd_44 hw) (wd_330 hw) (by decide) (a := a) (H4f.exa (i := 0) rfl) (c_get l Z a0 hw n0 a el mcL N ii lv d i0 hii hl hi0 hlt _ _ H4f) pd_12 rfl rfl rfl d11_35 (pc' := 40) rfl (Nat.le_trans (by decide) hRf) (Wn := 3) (Nat.le_of_eq rfl) (Nat.le_trans (by decide) hRl) (kc' := kc) (ks' := ks) rfl rfl (by omega) (by omega) ?_
  intro T5 v5 W5 hp5
  obtain ⟨rfl, H5⟩ := hp5
  show Goes _ _ _ _ (State.setTop _ (mkF _ _ _ [.ref d, .ref m0, .int ii, .ref rra]))
  refine g_cast1 W5 (wd_344 hw) (Ins.self (H5.exam (mc5 hd))) H5 d11_40 (pc' := 43) rfl ?_
  intro T6 W6 _ H6
  refine g_callVE W6 (argsL := []) (st := [.ref m0, .int ii, .ref rra]) (wd_346 hw) (wd_347 hw) (wd_349 hw) (wd_348 hw) (wd_283 hw) (wd_350 hw) (fun _ hZ => notFace_of_selects (args := #[]) (mvT hZ (wd_349 hw))) (by decide) (a := d) (H6.exam (mc5 hd)) (c_doc l Z a0 hw n0 d sk sc _ (mc5 hd) _ H6) pd_27 rfl rfl rfl d11_43 (pc' := 46) rfl (Nat.le_trans (by decide) hRf) (Wn := 3) (Nat.le_of_eq rfl) (Nat.le_trans (by decide) hRl) (kc' := kc) (ks' := ks) rfl rfl (by omega) (by omega) ?_
  intro T7 v7 W7 hp7
  obtain ⟨rfl, H7⟩ := hp7
  show Goes _ _ _ _ (State.setTop _ (mkF _ _ _ [.ref sk, .ref m0, .int ii, .ref rra]))
  refine g_iconst W7 d11_46 (pc' := 47) rfl (v := (0 : Int32)) (by decide) ?_
  refine g_callS W7 (argsL := [.int (0 : Int32)]) (st := [.ref sk, .ref m0, .int ii, .ref rra]) (wd_351 hw) (wd_208 hw) (wd_209 hw) (wd_210 hw) (by decide) (c_ival l Z a0 hw n0 ca cc hH hCa hB (0 : Int32) _ _ H7) pd_28 rfl rfl rfl d11_47 (pc' := 50) rfl (Nat.le_trans (by decide) hRf) (Wn := 4) (Nat.le_of_eq rfl) (Nat.le_trans (by decide) hRl) (kc' := (kc + 1)) (ks' := (ks + 1)) rfl rfl (by omega) (by omega) ?_
  intro T8 v8 W8 hp8
  obtain ⟨ix, G, rfl, H8, hI⟩ := hp8
  show Goes _ _ _ _ (State.setTop _ (mkF _ _ _ [.ref ix, .ref sk, .ref m0, .int ii, .ref rra]))
  replace H8 := Hp.sk5 H8
  have H9f := Hp.fr3 H8
  refine g_callF W8 (argsL := [.ref sk, .ref ix]) (st := [.int ii, .ref rra]) (wd_352 hw) (wd_353 hw) (fun _ _ hZ => mvT hZ (wd_354 hw)) (wd_355 hw) (wd_356 hw) (wd_357 hw) (wd_358 hw) (wd_94 hw) (wd_28 hw) (wd_359 hw) (by decide) (a := m0) (H9f.exa (i := 0) rfl) (c_gd0 l Z a0 hw n0 m0 sk ix (0 : Int32) mc (0 : Int32) _ _ H9f) pd_29 rfl rfl rfl d11_50 (pc' := 55) rfl (Nat.le_trans (by decide) hRf) (Wn := 2) (Nat.le_of_eq rfl) (Nat.le_trans (by decide) hRl) (kc' := (kc + 1)) (ks' := (ks + 1)) rfl rfl (by omega) (by omega) ?_
  intro T10 v10 W10 hp10
  obtain ⟨rfl, H10⟩ := hp10
  show Goes _ _ _ _ (State.setTop _ (mkF _ _ _ [.ref ix, .int ii, .ref rra]))
  have hJ : IntF Z n0 G ix x := by rw [hb]; exact hI
  refine g_cast1 W10 (wd_368 hw) (Ins.self (hJ _ _ H10 (fun r hr => (mc5 (List.mem_append_left _ hr)))).1) H10 d11_55 (pc' := 58) rfl ?_
  intro T11 W11 _ H11
  refine g_callVE W11 (argsL := []) (st := [.int ii, .ref rra]) (wd_370 hw) (wd_371 hw) (wd_373 hw) (wd_372 hw) (wd_209 hw) (wd_374 hw) (fun _ hZ => notFace_of_selects (args := #[]) (mvT hZ (wd_373 hw))) (by decide) (a := ix) (hJ _ _ H11 (fun r hr => (mc5 (List.mem_append_left _ hr)))).1 (c_intv l Z a0 hw n0 ix x _ (hJ.mono (fun r hr => (mc5 (List.mem_append_left _ hr)))) _ H11) pd_5 rfl rfl rfl d11_58 (pc' := 61) rfl (Nat.le_trans (by decide) hRf) (Wn := 2) (Nat.le_of_eq rfl) (Nat.le_trans (by decide) hRl) (kc' := (kc + 1)) (ks' := (ks + 1)) rfl rfl (by omega) (by omega) ?_
  intro T12 v12 W12 hp12
  obtain ⟨rfl, H12⟩ := hp12
  show Goes _ _ _ _ (State.setTop _ (mkF _ _ _ [.int x, .int ii, .ref rra]))
  refine g_iastoreI W12 H12 (i := 4) rfl (jx := i0) hii hiw d11_61 (pc' := 62) rfl (L' := ((m0, ObC Z "java/util/HashMap" (fs_HashMap (.float (1061158912 : UInt32)) (.int (0 : Int32)) .null (.int mc) .null (.int (0 : Int32)))) :: (a, ObC Z "java/util/ArrayList" (fs_ArrayList (.int mcL) (.ref el) (.int N))) :: (el, RaC Z "java/lang/Object" lv) :: (jr, ObC Z "com/example/inq2/inq2/JudgedRanking" (fs_JudgedRanking (.ref rra) .null)) :: (rra, IaC Z (ws.set i0 x)) :: (G ++ F))) rfl ?_
  intro T13 W13 H13
  refine g_iinc W13 d11_62 (pc' := 65) rfl rfl (v := (ii + (1 : Int32))) (by rfl) (ls' := #[.val (.ref jr), .val (.ref a), .val (.ref m0), .val (.int (ii + (1 : Int32))), .unset, .unset, .unset]) rfl ?_
  rw [hi2]
  refine g_goto W13 d11_65 (pc' := 18) (by decide) ?_
  have H14f := Hp.fr4 H13
  have H15f := Hp.fr1 H14f
  have H16f := Hp.fr3 H15f
  have H17f := Hp.fr3 H16f
  have H18f := Hp.fr4 H17f
  rw [hws] at H18f
  exact K _ G W13 H18f
theorem jr_secz (l : Launch) (Z : State) (a0 : Array Value) (hw : HW Z a0) (n0 : Nat) (jr a m0 tb rra : Addr) (sz mc thr ii : Int32) (vs : List Value) (bs : List (Option Int32)) (ws : List Int32) (F : List HRow)  (as0 : Array Value)
    (p : Program) (e : Env) (R : Room) (s : State) (m : MethodId) (below : List Frame) (meth : Method) (c : Code) (kc ks : Nat) (hRf : 6 ≤ R.frames) (hRl : 100 ≤ R.locals) (hRc : kc + 4 ≤ R.cells) (hRs : ks + 14 ≤ R.slots)
    (T : State) (W : Wk Z ⟨"com/example/inq2/inq2/JudgedRanking", "<init>", "(Ljava/util/List;Ljava/util/Map;)V"⟩ prog_8_method_1_code 7 none n0 p l e R s m as0 below meth c T kc ks) (H : Hp Z n0 T.heap ((m0, ObC Z "java/util/HashMap" (fs_HashMap (.float (1061158912 : UInt32)) (.int (0 : Int32)) .null (.int mc) .null (.int (0 : Int32)))) :: (jr, ObC Z "com/example/inq2/inq2/JudgedRanking" (fs_JudgedRanking (.ref rra) .null)) :: (rra, IaC Z ws) :: F)) : Goes p e below (En s n0 R.cells R.slots (fun v h => ∃ (ra bi : Addr) (zs : List Int32) (J : List HRow), v = none ∧ zs.length = 0 ∧ Hp Z n0 h ((jr, ObC Z "com/example/inq2/inq2/JudgedRanking" (fs_JudgedRanking (.ref ra) (.ref bi))) :: (ra, IaC Z ws) :: (bi, IaC Z zs) :: J))) (T.setTop (mkF m 68 #[.val (.ref jr), .val (.ref a), .val (.ref m0), .val (.int ii), .unset, .unset, .unset] [])) := by
  refine g_aloadN W d11_68 (pc' := 69) rfl rfl rfl ?_
  refine g_callF W (argsL := []) (st := []) (wd_87 hw) (wd_88 hw) (fun _ _ hZ => mvT hZ (wd_89 hw)) (wd_90 hw) (wd_91 hw) (wd_92 hw) (wd_93 hw) (wd_94 hw) (wd_28 hw) (wd_95 hw) (by decide) (a := m0) (H.exa (i := 0) rfl) (c_msz l Z a0 hw n0 m0 (0 : Int32) mc (0 : Int32) .null _ _ H) pd_5 rfl rfl rfl d11_69 (pc' := 74) rfl (Nat.le_trans (by decide) hRf) (Wn := 0) (Nat.le_of_eq rfl) (Nat.le_trans (by decide) hRl) (kc' := kc) (ks' := ks) rfl rfl (by omega) (by omega) ?_
  intro T1 v1 W1 hp1
  obtain ⟨rfl, H1⟩ := hp1
  show Goes _ _ _ _ (State.setTop _ (mkF _ _ _ [.int (0 : Int32)]))
  refine g_newarrI W1 (wd_84 hw) H1 (by decide) (n := 0) (by decide) (cap := 4) (by decide) (by decide) d11_74 (pc' := 76) rfl (kc' := (kc + 1)) (ks' := (ks + 4)) rfl rfl (by omega) (by omega) ?_
  intro T2 a2 W2 H2
  refine g_astoreN W2 d11_76 (pc' := 77) rfl rfl (ls' := #[.val (.ref jr), .val (.ref a), .val (.ref m0), .val (.ref a2), .unset, .unset, .unset]) rfl ?_
  refine g_iconst W2 d11_77 (pc' := 78) rfl (v := (0 : Int32)) (by decide) ?_
  refine g_istore W2 d11_78 (pc' := 80) rfl (ls' := #[.val (.ref jr), .val (.ref a), .val (.ref m0), .val (.ref a2), .val (.int (0 : Int32)), .unset, .unset]) rfl ?_
  refine g_aloadN W2 d11_80 (pc' := 81) rfl rfl rfl ?_
  have H3f := Hp.fr1 H2
  refine g_callF W2 (argsL := []) (st := []) (wd_98 hw) (wd_99 hw) (fun _ _ hZ => mvT hZ (wd_100 hw)) (wd_101 hw) (wd_102 hw) (wd_103 hw) (wd_104 hw) (wd_94 hw) (wd_28 hw) (wd_105 hw) (by decide) (a := m0) (H3f.exa (i := 0) rfl) (c_vals l Z a0 hw n0 m0 (0 : Int32) mc (0 : Int32) .null _ _ H3f) pd_30 rfl rfl rfl d11_81 (pc' := 86) rfl (Nat.le_trans (by decide) hRf) (Wn := 0) (Nat.le_of_eq rfl) (Nat.le_trans (by decide) hRl) (kc' := (kc + 2)) (ks' := (ks + 5)) rfl rfl (by omega) (by omega) ?_
  intro T4 v4 W4 hp4
  obtain ⟨va1, rfl, H4⟩ := hp4
  show Goes _ _ _ _ (State.setTop _ (mkF _ _ _ [.ref va1]))
  have H5f := Hp.fr1 H4
  have H6f := Hp.fr1 H5f
  refine g_callF W4 (argsL := []) (st := []) (wd_120 hw) (wd_121 hw) (fun _ _ hZ => mvT hZ (wd_122 hw)) (wd_123 hw) (wd_124 hw) (wd_125 hw) (wd_126 hw) (wd_127 hw) (wd_111 hw) (wd_128 hw) (by decide) (a := va1) (H6f.exa (i := 0) rfl) (c_it0 l Z a0 hw n0 m0 (0 : Int32) mc (0 : Int32) va1 _ _ H6f) pd_31 rfl rfl rfl d11_86 (pc' := 91) rfl (Nat.le_trans (by decide) hRf) (Wn := 0) (Nat.le_of_eq rfl) (Nat.le_trans (by decide) hRl) (kc' := (kc + 3)) (ks' := (ks + 10)) rfl rfl (by omega) (by omega) ?_
  intro T7 v7 W7 hp7
  obtain ⟨it1, rfl, H7⟩ := hp7
  show Goes _ _ _ _ (State.setTop _ (mkF _ _ _ [.ref it1]))
  refine g_astore W7 d11_91 (pc' := 93) rfl rfl (ls' := #[.val (.ref jr), .val (.ref a), .val (.ref m0), .val (.ref a2), .val (.int (0 : Int32)), .val (.ref it1), .unset]) rfl ?_
  refine g_aload W7 d11_93 (pc' := 95) rfl rfl rfl ?_
  refine g_callF W7 (argsL := []) (st := []) (wd_157 hw) (wd_158 hw) (fun _ _ hZ => mvT hZ (wd_159 hw)) (wd_160 hw) (wd_161 hw) (wd_162 hw) (wd_163 hw) (wd_164 hw) (wd_140 hw) (wd_165 hw) (by decide) (a := it1) (H7.exa (i := 0) rfl) (c_hn0 l Z a0 hw n0 it1 m0 it1 mc (0 : Int32) .null _ _ H7) pd_3 rfl rfl rfl d11_95 (pc' := 100) rfl (Nat.le_trans (by decide) hRf) (Wn := 0) (Nat.le_of_eq rfl) (Nat.le_trans (by decide) hRl) (kc' := (kc + 3)) (ks' := (ks + 10)) rfl rfl (by omega) (by omega) ?_
  intro T8 v8 W8 hp8
  obtain ⟨rfl, H8⟩ := hp8
  show Goes _ _ _ _ (State.setTop _ (mkF _ _ _ [.int (0 : Int32)]))
  refine g_if W8 d11_100 (pcy := 136) (by decide) (pc' := 103) rfl (fun _ => ?_) (fun (h : ¬ (0 : Int32) = (0 : Int32)) => absurd h (by decide))
  refine g_aloadN W8 d11_136 (pc' := 137) rfl rfl rfl ?_
  refine g_aloadN W8 d11_137 (pc' := 138) rfl rfl rfl ?_
  refine g_iload W8 d11_138 (pc' := 140) rfl rfl ?_
  have H9f := Hp.fr3 H8
  refine g_callS W8 (argsL := [.ref a2, .int (0 : Int32)]) (st := [.ref jr]) (wd_166 hw) (wd_167 hw) (wd_168 hw) (wd_169 hw) (by decide) (c_copy l Z a0 hw n0 a2 (0 : Int32) (0 : Int32) 0 (List.replicate 0 0) (by decide) (by decide) (by decide) (by decide) (by decide) _ _ H9f) pd_32 rfl rfl rfl d11_140 (pc' := 143) rfl (Nat.le_trans (by decide) hRf) (Wn := 1) (Nat.le_of_eq rfl) (Nat.le_trans (by decide) hRl) (kc' := (kc + 4)) (ks' := (ks + 14)) rfl rfl (by omega) (by omega) ?_
  intro T10 v10 W10 hp10
  obtain ⟨bi, zs0, rfl, hz0, H10⟩ := hp10
  show Goes _ _ _ _ (State.setTop _ (mkF _ _ _ [.ref bi, .ref jr]))
  refine g_putf W10 (wd_179 hw) Via.refl (Or.inr ⟨(wd_180 hw), rfl, rfl⟩) (wd_67 hw) (ty := (.array .int)) (by decide) rfl rfl H10 (i := 5) rfl (jx := 1) rfl d11_143 (pc' := 146) rfl (L' := ((bi, IaC Z zs0) :: (a2, IaC Z (List.replicate 0 0)) :: (it1, ObC Z "java/util/HashMap$ValueIterator" (fs_HashMap_ValueIterator (.ref m0) (.int mc) .null .null (.int (0 : Int32)))) :: (m0, ObC Z "java/util/HashMap" (fs_HashMap (.float (1061158912 : UInt32)) (.int (0 : Int32)) (.ref va1) (.int mc) .null (.int (0 : Int32)))) :: (va1, ObC Z "java/util/HashMap$Values" (fs_HashMap_Values (.ref m0))) :: (jr, ObC Z "com/example/inq2/inq2/JudgedRanking" (fs_JudgedRanking (.ref rra) (.ref bi))) :: (rra, IaC Z ws) :: F)) rfl ?_
  intro T11 W11 H11
  refine g_aloadN W11 d11_146 (pc' := 147) rfl rfl rfl ?_
  refine g_getf W11 (wd_179 hw) Via.refl H11 (i := 5) rfl (jx := 1) rfl d11_147 (pc' := 150) rfl ?_
  intro T12 W12 H12
  obtain ⟨hi3, hh3, hl3⟩ : ∃ hi : Int32, hi.toInt = (zs0.length : Int) ∧ zs0.length.toInt32 = hi := i32_ex zs0 (by rw [hz0]; exact (by decide))
  refine g_callS W12 (argsL := [.ref bi]) (st := []) (wd_181 hw) (wd_182 hw) (wd_168 hw) (wd_183 hw) (by decide) (c_sort l Z a0 hw n0 bi hi3 zs0.length hh3 (by rw [hz0]; decide) zs0 rfl hl3 _ _ H12) pd_33 rfl rfl rfl d11_150 (pc' := 153) rfl (Nat.le_trans (by decide) hRf) (Wn := 0) (Nat.le_of_eq rfl) (Nat.le_trans (by decide) hRl) (kc' := (kc + 4)) (ks' := (ks + 14)) rfl rfl (by omega) (by omega) ?_
  intro T13 v13 W13 hp13
  obtain ⟨rfl, zs1, hz1, H13⟩ := hp13
  show Goes _ _ _ _ (State.setTop _ (mkF _ _ _ []))
  refine g_aloadN W13 d11_153 (pc' := 154) rfl rfl rfl ?_
  refine g_getf W13 (wd_179 hw) Via.refl H13 (i := 5) rfl (jx := 1) rfl d11_154 (pc' := 157) rfl ?_
  intro T14 W14 H14
  refine g_callS W14 (argsL := [.ref bi]) (st := []) (wd_194 hw) (wd_195 hw) (wd_68 hw) (wd_196 hw) (by decide) (c_rev l Z a0 hw n0 bi hi3 zs0.length hh3 (by rw [hz0]; decide) zs1 hz1 (by rw [hz1]; exact hl3) _ _ H14) pd_33 rfl rfl rfl d11_157 (pc' := 160) rfl (Nat.le_trans (by decide) hRf) (Wn := 0) (Nat.le_of_eq rfl) (Nat.le_trans (by decide) hRl) (kc' := (kc + 4)) (ks' := (ks + 14)) rfl rfl (by omega) (by omega) ?_
  intro T15 v15 W15 hp15
  obtain ⟨rfl, zs2, hz2, H15⟩ := hp15
  show Goes _ _ _ _ (State.setTop _ (mkF _ _ _ []))
  have H16f := Hp.fr6 H15
  have H17f := Hp.fr6 H16f
  exact g_return W15 d11_160 ⟨_, _, zs2, _, rfl, by rw [hz2, hz0], H17f⟩ (by omega) (by omega)
theorem jr_turnt (l : Launch) (Z : State) (a0 : Array Value) (hw : HW Z a0) (n0 : Nat) (cs : Int32) (hS : Sta Z Z.heap "java/lang/String" "COMPACT_STRINGS" "Z" (.int cs)) (hcs : ¬ cs = 0) (ca : Addr) (cc : Cell) (hH : Sta Z Z.heap "java/lang/Integer$IntegerCache" "high" "I" (.int 127)) (hCa : Sta Z Z.heap "java/lang/Integer$IntegerCache" "cache" "[Ljava/lang/Integer;" (.ref ca)) (hB : Bxs Z ca cc "java/lang/Integer" "I" (256 : Int32) (fun j => .int (j - 128))) (jr a el m0 rra sk d : Addr) (mcL mc N ii i2 x : Int32) (lv : List Value) (ws ws2 : List Int32) (i0 : Nat) (sc : UInt64) (F : List HRow) (hii : ii.toInt = (i0 : Int)) (hi2 : ii + (1 : Int32) = i2) (hi0 : ¬ ii < 0) (hlt : ii < N) (hN : ws.length.toInt32 = N) (hiw : i0 < ws.length) (hws : ws.set i0 x = ws2) (hl : lv[i0]? = some (.ref d)) (hd : (d, ObC Z "com/example/inq2/inq2/ScoredDocument" (fs_ScoredDocument (.ref sk) (.double sc))) ∈ F) (tb bk : Addr) (sz thr q hv : Int32) (vs : List Value) (jx : Nat) (hq : KeyOk q) (hh : hv = 0 ∨ hv = q) (hlen : vs.length.toInt32 = 16) (hjx : ((15 : Int32) &&& q).toInt = (jx : Int)) (hj16 : jx < 16) (hb : JB Z n0 F vs[jx]? q sk x) (as0 : Array Value)
    (p : Program) (e : Env) (R : Room) (s : State) (m : MethodId) (below : List Frame) (meth : Method) (c : Code) (E : Option Value → State → List Loc → Prop) (kc ks : Nat) (hRf : 5 ≤ R.frames) (hRl : 76 ≤ R.locals) (hRc : kc + 1 ≤ R.cells) (hRs : ks + 1 ≤ R.slots)
    (K : ∀ (T : State) (G : List HRow), Wk Z ⟨"com/example/inq2/inq2/JudgedRanking", "<init>", "(Ljava/util/List;Ljava/util/Map;)V"⟩ prog_8_method_1_code 7 none n0 p l e R s m as0 below meth c T (kc + 1) (ks + 1) → Hp Z n0 T.heap ((jr, ObC Z "com/example/inq2/inq2/JudgedRanking" (fs_JudgedRanking (.ref rra) .null)) :: (a, ObC Z "java/util/ArrayList" (fs_ArrayList (.int mcL) (.ref el) (.int N))) :: (el, RaC Z "java/lang/Object" lv) :: (m0, ObC Z "java/util/HashMap" (fs_HashMap (.float (1061158912 : UInt32)) (.int sz) .null (.int mc) (.ref tb) (.int thr))) :: (tb, RaC Z "java/util/HashMap$Node" vs) :: (sk, ObC Z "java/lang/String" (fs_String (.ref bk) (.int (0 : Int32)) (.int q) (.int (0 : Int32)))) :: (bk, ArC Z .byte [.int q]) :: (rra, IaC Z ws2) :: (G ++ F)) → Goes p e below E (T.setTop (mkF m 18 #[.val (.ref jr), .val (.ref a), .val (.ref m0), .val (.int i2), .unset, .unset, .unset] []))) (T : State) (W : Wk Z ⟨"com/example/inq2/inq2/JudgedRanking", "<init>", "(Ljava/util/List;Ljava/util/Map;)V"⟩ prog_8_method_1_code 7 none n0 p l e R s m as0 below meth c T kc ks) (H : Hp Z n0 T.heap ((jr, ObC Z "com/example/inq2/inq2/JudgedRanking" (fs_JudgedRanking (.ref rra) .null)) :: (a, ObC Z "java/util/ArrayList" (fs_ArrayList (.int mcL) (.ref el) (.int N))) :: (el, RaC Z "java/lang/Object" lv) :: (m0, ObC Z "java/util/HashMap" (fs_HashMap (.float (1061158912 : UInt32)) (.int sz) .null (.int mc) (.ref tb) (.int thr))) :: (tb, RaC Z "java/util/HashMap$Node" vs) :: (sk, ObC Z "java/lang/String" (fs_String (.ref bk) (.int (0 : Int32)) (.int hv) (.int (0 : Int32)))) :: (bk, ArC Z .byte [.int q]) :: (rra, IaC Z ws) :: F)) : Goes p e below E (T.setTop (mkF m 18 #[.val (.ref jr), .val (.ref a), .val (.ref m0), .val (.int ii), .unset, .unset, .unset] [])) := by
  refine g_iloadN W d11_18 (pc' := 19) rfl rfl ?_
  refine g_aloadN W d11_19 (pc' := 20) rfl rfl rfl ?_
  refine g_getf W (wd_85 hw) Via.refl H (i := 0) rfl (jx := 0) rfl d11_20 (pc' := 23) rfl ?_
  intro T1 W1 H1
  refine g_arrlenI W1 H1 (i := 7) rfl (x := N) hN d11_23 (pc' := 24) rfl ?_
  refine g_icmp W1 d11_24 (pcy := 68) (by decide) (pc' := 27) rfl (fun (h : ¬ ii < N) => absurd hlt h) (fun (_ : ¬ ¬ ii < N) => ?_)
  refine g_aloadN W1 d11_27 (pc' := 28) rfl rfl rfl ?_
  refine g_getf W1 (wd_85 hw) Via.refl H1 (i := 0) rfl (jx := 0) rfl d11_28 (pc' := 31) rfl ?_
  intro T2 W2 H2
  refine g_iloadN W2 d11_31 (pc' := 32) rfl rfl ?_
  refine g_aloadN W2 d11_32 (pc' := 33) rfl rfl rfl ?_
  refine g_aloadN W2 d11_33 (pc' := 34) rfl rfl rfl ?_
  refine g_iloadN W2 d11_34 (pc' := 35) rfl rfl ?_
  have H3f := Hp.fr2 H2
  have H4f := Hp.fr2 H3f
  refine g_callF W2 (argsL := [.int ii]) (st := [.ref m0, .int ii, .ref rra]) (wd_323 hw) (wd_324 hw) (fun _ _ hZ => mvT hZ (wd_325 hw)) (wd_326 hw) (wd_327 hw) (wd_328 hw) (wd_329 hw) (wd_80 hw) (wd_44 hw) (wd_330 hw) (by decide) (a := a) (H4f.exa (i := 0) rfl) (c_get l Z a0 hw n0 a el mcL N ii lv d i0 hii hl hi0 hlt _ _ H4f) pd_12 rfl rfl rfl d11_35 (pc' := 40) rfl (Nat.le_trans (by decide) hRf) (Wn := 3) (Nat.le_of_eq rfl) (Nat.le_trans (by decide) hRl) (kc' := kc) (ks' := ks) rfl rfl (by omega) (by omega) ?_
  intro T5 v5 W5 hp5
  obtain ⟨rfl, H5⟩ := hp5
  show Goes _ _ _ _ (State.setTop _ (mkF _ _ _ [.ref d, .ref m0, .int ii, .ref rra]))
  refine g_cast1 W5 (wd_344 hw) (Ins.self (H5.exam (mc8 hd))) H5 d11_40 (pc' := 43) rfl ?_
  intro T6 W6 _ H6
  refine g_callVE W6 (argsL := []) (st := [.ref m0, .int ii, .ref rra]) (wd_346 hw) (wd_347 hw) (wd_349 hw) (wd_348 hw) (wd_283 hw) (wd_350 hw) (fun _ hZ => notFace_of_selects (args := #[]) (mvT hZ (wd_349 hw))) (by decide) (a := d) (H6.exam (mc8 hd)) (c_doc l Z a0 hw n0 d sk sc _ (mc8 hd) _ H6) pd_27 rfl rfl rfl d11_43 (pc' := 46) rfl (Nat.le_trans (by decide) hRf) (Wn := 3) (Nat.le_of_eq rfl) (Nat.le_trans (by decide) hRl) (kc' := kc) (ks' := ks) rfl rfl (by omega) (by omega) ?_
  intro T7 v7 W7 hp7
  obtain ⟨rfl, H7⟩ := hp7
  show Goes _ _ _ _ (State.setTop _ (mkF _ _ _ [.ref sk, .ref m0, .int ii, .ref rra]))
  refine g_iconst W7 d11_46 (pc' := 47) rfl (v := (0 : Int32)) (by decide) ?_
  refine g_callS W7 (argsL := [.int (0 : Int32)]) (st := [.ref sk, .ref m0, .int ii, .ref rra]) (wd_351 hw) (wd_208 hw) (wd_209 hw) (wd_210 hw) (by decide) (c_ival l Z a0 hw n0 ca cc hH hCa hB (0 : Int32) _ _ H7) pd_28 rfl rfl rfl d11_47 (pc' := 50) rfl (Nat.le_trans (by decide) hRf) (Wn := 4) (Nat.le_of_eq rfl) (Nat.le_trans (by decide) hRl) (kc' := (kc + 1)) (ks' := (ks + 1)) rfl rfl (by omega) (by omega) ?_
  intro T8 v8 W8 hp8
  obtain ⟨ix, G, rfl, H8, hI⟩ := hp8
  show Goes _ _ _ _ (State.setTop _ (mkF _ _ _ [.ref ix, .ref sk, .ref m0, .int ii, .ref rra]))
  replace H8 := Hp.sk8 H8
  have H9f := Hp.fr6 H8
  have H10f := Hp.fr6 H9f
  have H11f := Hp.fr6 H10f
  have H12f := Hp.fr6 H11f
  rcases hb with ⟨hvn, hx0⟩ | ⟨nd, ia, hvn, hn, hIa⟩
  · refine g_callF W8 (argsL := [.ref sk, .ref ix]) (st := [.int ii, .ref rra]) (wd_352 hw) (wd_353 hw) (fun _ _ hZ => mvT hZ (wd_354 hw)) (wd_355 hw) (wd_356 hw) (wd_357 hw) (wd_358 hw) (wd_94 hw) (wd_28 hw) (wd_359 hw) (by decide) (a := m0) (H12f.exa (i := 0) rfl) (c_gd1 l Z a0 hw n0 cs hS hcs m0 sk tb q sz mc thr vs hlen jx hjx hj16 bk hv hq hh hvn ix _ _ H12f) pd_29 rfl rfl rfl d11_50 (pc' := 55) rfl (Nat.le_trans (by decide) hRf) (Wn := 2) (Nat.le_of_eq rfl) (Nat.le_trans (by decide) hRl) (kc' := (kc + 1)) (ks' := (ks + 1)) rfl rfl (by omega) (by omega) ?_
    intro T13 v13 W13 hp13
    obtain ⟨rfl, H13⟩ := hp13
    show Goes _ _ _ _ (State.setTop _ (mkF _ _ _ [.ref ix, .int ii, .ref rra]))
    have hJ : IntF Z n0 G ix x := by rw [hx0]; exact hI
    refine g_cast1 W13 (wd_368 hw) (Ins.self (hJ _ _ H13 (fun r hr => (mc8 (List.mem_append_left _ hr)))).1) H13 d11_55 (pc' := 58) rfl ?_
    intro T14 W14 _ H14
    refine g_callVE W14 (argsL := []) (st := [.int ii, .ref rra]) (wd_370 hw) (wd_371 hw) (wd_373 hw) (wd_372 hw) (wd_209 hw) (wd_374 hw) (fun _ hZ => notFace_of_selects (args := #[]) (mvT hZ (wd_373 hw))) (by decide) (a := ix) (hJ _ _ H14 (fun r hr => (mc8 (List.mem_append_left _ hr)))).1 (c_intv l Z a0 hw n0 ix x _ (hJ.mono (fun r hr => (mc8 (List.mem_append_left _ hr)))) _ H14) pd_5 rfl rfl rfl d11_58 (pc' := 61) rfl (Nat.le_trans (by decide) hRf) (Wn := 2) (Nat.le_of_eq rfl) (Nat.le_trans (by decide) hRl) (kc' := (kc + 1)) (ks' := (ks + 1)) rfl rfl (by omega) (by omega) ?_
    intro T15 v15 W15 hp15
    obtain ⟨rfl, H15⟩ := hp15
    show Goes _ _ _ _ (State.setTop _ (mkF _ _ _ [.int x, .int ii, .ref rra]))
    refine g_iastoreI W15 H15 (i := 7) rfl (jx := i0) hii hiw d11_61 (pc' := 62) rfl (L' := ((m0, ObC Z "java/util/HashMap" (fs_HashMap (.float (1061158912 : UInt32)) (.int sz) .null (.int mc) (.ref tb) (.int thr))) :: (tb, RaC Z "java/util/HashMap$Node" vs) :: (sk, ObC Z "java/lang/String" (fs_String (.ref bk) (.int (0 : Int32)) (.int q) (.int (0 : Int32)))) :: (bk, ArC Z .byte [.int q]) :: (a, ObC Z "java/util/ArrayList" (fs_ArrayList (.int mcL) (.ref el) (.int N))) :: (el, RaC Z "java/lang/Object" lv) :: (jr, ObC Z "com/example/inq2/inq2/JudgedRanking" (fs_JudgedRanking (.ref rra) .null)) :: (rra, IaC Z (ws.set i0 x)) :: (G ++ F))) rfl ?_
    intro T16 W16 H16
    refine g_iinc W16 d11_62 (pc' := 65) rfl rfl (v := (ii + (1 : Int32))) (by rfl) (ls' := #[.val (.ref jr), .val (.ref a), .val (.ref m0), .val (.int (ii + (1 : Int32))), .unset, .unset, .unset]) rfl ?_
    rw [hi2]
    refine g_goto W16 d11_65 (pc' := 18) (by decide) ?_
    have H17f := Hp.fr7 H16
    have H18f := Hp.fr4 H17f
    have H19f := Hp.fr4 H18f
    have H20f := Hp.fr4 H19f
    have H21f := Hp.fr4 H20f
    have H22f := Hp.fr6 H21f
    have H23f := Hp.fr6 H22f
    have H24f := Hp.fr7 H23f
    rw [hws] at H24f
    exact K _ G W16 H24f
  · refine g_callF W8 (argsL := [.ref sk, .ref ix]) (st := [.int ii, .ref rra]) (wd_352 hw) (wd_353 hw) (fun _ _ hZ => mvT hZ (wd_354 hw)) (wd_355 hw) (wd_356 hw) (wd_357 hw) (wd_358 hw) (wd_94 hw) (wd_28 hw) (wd_359 hw) (by decide) (a := m0) (H12f.exa (i := 0) rfl) (c_gd2 l Z a0 hw n0 cs hS hcs m0 sk tb q sz mc thr vs hlen jx hjx hj16 bk hv hq hh _ nd ia hvn (mc4 (List.mem_append_right G hn)) ix _ H12f) pd_29 rfl rfl rfl d11_50 (pc' := 55) rfl (Nat.le_trans (by decide) hRf) (Wn := 2) (Nat.le_of_eq rfl) (Nat.le_trans (by decide) hRl) (kc' := (kc + 1)) (ks' := (ks + 1)) rfl rfl (by omega) (by omega) ?_
    intro T25 v25 W25 hp25
    obtain ⟨rfl, H25⟩ := hp25
    show Goes _ _ _ _ (State.setTop _ (mkF _ _ _ [.ref ia, .int ii, .ref rra]))
    refine g_cast1 W25 (wd_368 hw) (Ins.self (hIa _ _ H25 (fun r hr => (mc8 (List.mem_append_right G hr)))).1) H25 d11_55 (pc' := 58) rfl ?_
    intro T26 W26 _ H26
    refine g_callVE W26 (argsL := []) (st := [.int ii, .ref rra]) (wd_370 hw) (wd_371 hw) (wd_373 hw) (wd_372 hw) (wd_209 hw) (wd_374 hw) (fun _ hZ => notFace_of_selects (args := #[]) (mvT hZ (wd_373 hw))) (by decide) (a := ia) (hIa _ _ H26 (fun r hr => (mc8 (List.mem_append_right G hr)))).1 (c_intv l Z a0 hw n0 ia x _ (hIa.mono (fun r hr => (mc8 (List.mem_append_right G hr)))) _ H26) pd_5 rfl rfl rfl d11_58 (pc' := 61) rfl (Nat.le_trans (by decide) hRf) (Wn := 2) (Nat.le_of_eq rfl) (Nat.le_trans (by decide) hRl) (kc' := (kc + 1)) (ks' := (ks + 1)) rfl rfl (by omega) (by omega) ?_
    intro T27 v27 W27 hp27
    obtain ⟨rfl, H27⟩ := hp27
    show Goes _ _ _ _ (State.setTop _ (mkF _ _ _ [.int x, .int ii, .ref rra]))
    refine g_iastoreI W27 H27 (i := 7) rfl (jx := i0) hii hiw d11_61 (pc' := 62) rfl (L' := ((m0, ObC Z "java/util/HashMap" (fs_HashMap (.float (1061158912 : UInt32)) (.int sz) .null (.int mc) (.ref tb) (.int thr))) :: (tb, RaC Z "java/util/HashMap$Node" vs) :: (sk, ObC Z "java/lang/String" (fs_String (.ref bk) (.int (0 : Int32)) (.int q) (.int (0 : Int32)))) :: (bk, ArC Z .byte [.int q]) :: (a, ObC Z "java/util/ArrayList" (fs_ArrayList (.int mcL) (.ref el) (.int N))) :: (el, RaC Z "java/lang/Object" lv) :: (jr, ObC Z "com/example/inq2/inq2/JudgedRanking" (fs_JudgedRanking (.ref rra) .null)) :: (rra, IaC Z (ws.set i0 x)) :: (G ++ F))) rfl ?_
    intro T28 W28 H28
    refine g_iinc W28 d11_62 (pc' := 65) rfl rfl (v := (ii + (1 : Int32))) (by rfl) (ls' := #[.val (.ref jr), .val (.ref a), .val (.ref m0), .val (.int (ii + (1 : Int32))), .unset, .unset, .unset]) rfl ?_
    rw [hi2]
    refine g_goto W28 d11_65 (pc' := 18) (by decide) ?_
    have H29f := Hp.fr7 H28
    have H30f := Hp.fr4 H29f
    have H31f := Hp.fr4 H30f
    have H32f := Hp.fr4 H31f
    have H33f := Hp.fr4 H32f
    have H34f := Hp.fr6 H33f
    have H35f := Hp.fr6 H34f
    have H36f := Hp.fr7 H35f
    rw [hws] at H36f
    exact K _ G W28 H36f
theorem jr_sect (l : Launch) (Z : State) (a0 : Array Value) (hw : HW Z a0) (n0 : Nat) (jr a m0 tb rra : Addr) (sz mc thr ii : Int32) (vs : List Value) (bs : List (Option Int32)) (ws : List Int32) (F : List HRow) (hlen : vs.length.toInt32 = 16) (hl16 : vs.length = 16) (hrel : Rel Z n0 F vs bs) (hszn : sz.toInt = (own_refs bs : Int)) (hsz4 : own_refs bs ≤ 4) (hszp : (0 : Int32) < sz) (as0 : Array Value)
    (p : Program) (e : Env) (R : Room) (s : State) (m : MethodId) (below : List Frame) (meth : Method) (c : Code) (kc ks : Nat) (hRf : 6 ≤ R.frames) (hRl : 100 ≤ R.locals) (hRc : kc + 4 ≤ R.cells) (hRs : ks + 14 ≤ R.slots)
    (T : State) (W : Wk Z ⟨"com/example/inq2/inq2/JudgedRanking", "<init>", "(Ljava/util/List;Ljava/util/Map;)V"⟩ prog_8_method_1_code 7 none n0 p l e R s m as0 below meth c T kc ks) (H : Hp Z n0 T.heap ((m0, ObC Z "java/util/HashMap" (fs_HashMap (.float (1061158912 : UInt32)) (.int sz) .null (.int mc) (.ref tb) (.int thr))) :: (tb, RaC Z "java/util/HashMap$Node" vs) :: (jr, ObC Z "com/example/inq2/inq2/JudgedRanking" (fs_JudgedRanking (.ref rra) .null)) :: (rra, IaC Z ws) :: F)) : Goes p e below (En s n0 R.cells R.slots (fun v h => ∃ (ra bi : Addr) (zs : List Int32) (J : List HRow), v = none ∧ zs.length = own_pos bs ∧ Hp Z n0 h ((jr, ObC Z "com/example/inq2/inq2/JudgedRanking" (fs_JudgedRanking (.ref ra) (.ref bi))) :: (ra, IaC Z ws) :: (bi, IaC Z zs) :: J))) (T.setTop (mkF m 68 #[.val (.ref jr), .val (.ref a), .val (.ref m0), .val (.int ii), .unset, .unset, .unset] [])) := by
  refine g_aloadN W d11_68 (pc' := 69) rfl rfl rfl ?_
  refine g_callF W (argsL := []) (st := []) (wd_87 hw) (wd_88 hw) (fun _ _ hZ => mvT hZ (wd_89 hw)) (wd_90 hw) (wd_91 hw) (wd_92 hw) (wd_93 hw) (wd_94 hw) (wd_28 hw) (wd_95 hw) (by decide) (a := m0) (H.exa (i := 0) rfl) (c_msz l Z a0 hw n0 m0 sz mc thr (.ref tb) _ _ H) pd_5 rfl rfl rfl d11_69 (pc' := 74) rfl (Nat.le_trans (by decide) hRf) (Wn := 0) (Nat.le_of_eq rfl) (Nat.le_trans (by decide) hRl) (kc' := kc) (ks' := ks) rfl rfl (by omega) (by omega) ?_
  intro T1 v1 W1 hp1
  obtain ⟨rfl, H1⟩ := hp1
  show Goes _ _ _ _ (State.setTop _ (mkF _ _ _ [.int sz]))
  refine g_newarrI W1 (wd_84 hw) H1 (by rw [Int32.lt_iff_toInt_lt, hszn, so_0]; omega) (n := own_refs bs) (by simp only [Int32.toNatClampNeg, hszn]; omega) (cap := 4) hsz4 (by decide) d11_74 (pc' := 76) rfl (kc' := (kc + 1)) (ks' := (ks + 4)) rfl rfl (by omega) (by omega) ?_
  intro T2 a2 W2 H2
  refine g_astoreN W2 d11_76 (pc' := 77) rfl rfl (ls' := #[.val (.ref jr), .val (.ref a), .val (.ref m0), .val (.ref a2), .unset, .unset, .unset]) rfl ?_
  refine g_iconst W2 d11_77 (pc' := 78) rfl (v := (0 : Int32)) (by decide) ?_
  refine g_istore W2 d11_78 (pc' := 80) rfl (ls' := #[.val (.ref jr), .val (.ref a), .val (.ref m0), .val (.ref a2), .val (.int (0 : Int32)), .unset, .unset]) rfl ?_
  refine g_aloadN W2 d11_80 (pc' := 81) rfl rfl rfl ?_
  have H3f := Hp.fr1 H2
  refine g_callF W2 (argsL := []) (st := []) (wd_98 hw) (wd_99 hw) (fun _ _ hZ => mvT hZ (wd_100 hw)) (wd_101 hw) (wd_102 hw) (wd_103 hw) (wd_104 hw) (wd_94 hw) (wd_28 hw) (wd_105 hw) (by decide) (a := m0) (H3f.exa (i := 0) rfl) (c_vals l Z a0 hw n0 m0 sz mc thr (.ref tb) _ _ H3f) pd_30 rfl rfl rfl d11_81 (pc' := 86) rfl (Nat.le_trans (by decide) hRf) (Wn := 0) (Nat.le_of_eq rfl) (Nat.le_trans (by decide) hRl) (kc' := (kc + 2)) (ks' := (ks + 5)) rfl rfl (by omega) (by omega) ?_
  intro T4 v4 W4 hp4
  obtain ⟨va1, rfl, H4⟩ := hp4
  show Goes _ _ _ _ (State.setTop _ (mkF _ _ _ [.ref va1]))
  have H5f := Hp.fr3 H4
  have H6f := Hp.fr2 H5f
  have H7f := Hp.fr2 H6f
  refine g_callF W4 (argsL := []) (st := []) (wd_120 hw) (wd_121 hw) (fun _ _ hZ => mvT hZ (wd_122 hw)) (wd_123 hw) (wd_124 hw) (wd_125 hw) (wd_126 hw) (wd_127 hw) (wd_111 hw) (wd_128 hw) (by decide) (a := va1) (H7f.exa (i := 0) rfl) (c_it1 l Z a0 hw n0 m0 sz mc thr va1 hszp tb vs hlen hl16 hrel.val _ _ H7f) pd_31 rfl rfl rfl d11_86 (pc' := 91) rfl (Nat.le_trans (by decide) hRf) (Wn := 0) (Nat.le_of_eq rfl) (Nat.le_trans (by decide) hRl) (kc' := (kc + 3)) (ks' := (ks + 10)) rfl rfl (by omega) (by omega) ?_
  intro T8 v8 W8 hp8
  obtain ⟨it1, rfl, jj1, j1, x1, hj1, hs1, H8⟩ := hp8
  show Goes _ _ _ _ (State.setTop _ (mkF _ _ _ [.ref it1]))
  refine g_astore W8 d11_91 (pc' := 93) rfl rfl (ls' := #[.val (.ref jr), .val (.ref a), .val (.ref m0), .val (.ref a2), .val (.int (0 : Int32)), .val (.ref it1), .unset]) rfl ?_
  have H9f := Hp.fr4 H8
  have H10f := Hp.fr3 H9f
  have H11f := Hp.fr3 H10f
  have H12f := Hp.fr3 H11f
  refine jl_loop l Z a0 hw n0 jr a m0 a2 it1 tb va1 sz mc thr vs hlen _ _ p e _ s m below meth c _ (kc + 3) (ks + 10) (Nat.le_trans (by decide) hRf) (Nat.le_trans (by decide) hRl) (by omega) (by omega) (own_pos bs) (own_refs bs) (by omega) ?_ (own_refs bs) x1 .null jj1 j1 (0 : Int32) 0 _ .unset _ (JX.of (hrel.mono (fun r hr => (mc3 hr))) (by rw [hl16]) (fun t z q => by rw [Nat.zero_add]; exact q) hs1 (by omega) (by omega) (Nat.le_refl _)) hj1 (by decide) (by rw [List.length_replicate]) (Or.inl rfl) W8 H12f
  · intro TK ct2 ws2 x2 cu2 jj2 s62 hct hws hs6 WK HK
    refine g_aloadN WK d11_136 (pc' := 137) rfl rfl rfl ?_
    refine g_aloadN WK d11_137 (pc' := 138) rfl rfl rfl ?_
    refine g_iload WK d11_138 (pc' := 140) rfl rfl ?_
    have H13f := Hp.fr3 HK
    refine g_callS WK (argsL := [.ref a2, .int ct2]) (st := [.ref jr]) (wd_166 hw) (wd_167 hw) (wd_168 hw) (wd_169 hw) (by decide) (c_copy l Z a0 hw n0 a2 ct2 sz (own_pos bs) ws2 hct (by rw [hws]; exact hszn) (i32_len hws hszn hsz4) (by rw [hws]; exact own_pos_le bs) (by rw [hws]; exact hsz4) _ _ H13f) pd_32 rfl rfl rfl d11_140 (pc' := 143) rfl (Nat.le_trans (by decide) hRf) (Wn := 1) (Nat.le_of_eq rfl) (Nat.le_trans (by decide) hRl) (kc' := (kc + 4)) (ks' := (ks + 14)) rfl rfl (by omega) (by omega) ?_
    intro T14 v14 W14 hp14
    obtain ⟨bi, zs0, rfl, hz0, H14⟩ := hp14
    show Goes _ _ _ _ (State.setTop _ (mkF _ _ _ [.ref bi, .ref jr]))
    refine g_putf W14 (wd_179 hw) Via.refl (Or.inr ⟨(wd_180 hw), rfl, rfl⟩) (wd_67 hw) (ty := (.array .int)) (by decide) rfl rfl H14 (i := 6) rfl (jx := 1) rfl d11_143 (pc' := 146) rfl (L' := ((bi, IaC Z zs0) :: (a2, IaC Z ws2) :: (it1, ObC Z "java/util/HashMap$ValueIterator" (fs_HashMap_ValueIterator (.ref m0) (.int mc) x2 cu2 (.int jj2))) :: (m0, ObC Z "java/util/HashMap" (fs_HashMap (.float (1061158912 : UInt32)) (.int sz) (.ref va1) (.int mc) (.ref tb) (.int thr))) :: (tb, RaC Z "java/util/HashMap$Node" vs) :: (va1, ObC Z "java/util/HashMap$Values" (fs_HashMap_Values (.ref m0))) :: (jr, ObC Z "com/example/inq2/inq2/JudgedRanking" (fs_JudgedRanking (.ref rra) (.ref bi))) :: (rra, IaC Z ws) :: F)) rfl ?_
    intro T15 W15 H15
    refine g_aloadN W15 d11_146 (pc' := 147) rfl rfl rfl ?_
    refine g_getf W15 (wd_179 hw) Via.refl H15 (i := 6) rfl (jx := 1) rfl d11_147 (pc' := 150) rfl ?_
    intro T16 W16 H16
    obtain ⟨hi3, hh3, hl3⟩ : ∃ hi : Int32, hi.toInt = (zs0.length : Int) ∧ zs0.length.toInt32 = hi := i32_ex zs0 (by rw [hz0]; exact Nat.le_trans (own_pos_le bs) hsz4)
    refine g_callS W16 (argsL := [.ref bi]) (st := []) (wd_181 hw) (wd_182 hw) (wd_168 hw) (wd_183 hw) (by decide) (c_sort l Z a0 hw n0 bi hi3 zs0.length hh3 (by rw [hz0]; have := own_pos_le bs; omega) zs0 rfl hl3 _ _ H16) pd_33 rfl rfl rfl d11_150 (pc' := 153) rfl (Nat.le_trans (by decide) hRf) (Wn := 0) (Nat.le_of_eq rfl) (Nat.le_trans (by decide) hRl) (kc' := (kc + 4)) (ks' := (ks + 14)) rfl rfl (by omega) (by omega) ?_
    intro T17 v17 W17 hp17
    obtain ⟨rfl, zs1, hz1, H17⟩ := hp17
    show Goes _ _ _ _ (State.setTop _ (mkF _ _ _ []))
    refine g_aloadN W17 d11_153 (pc' := 154) rfl rfl rfl ?_
    refine g_getf W17 (wd_179 hw) Via.refl H17 (i := 6) rfl (jx := 1) rfl d11_154 (pc' := 157) rfl ?_
    intro T18 W18 H18
    refine g_callS W18 (argsL := [.ref bi]) (st := []) (wd_194 hw) (wd_195 hw) (wd_68 hw) (wd_196 hw) (by decide) (c_rev l Z a0 hw n0 bi hi3 zs0.length hh3 (by rw [hz0]; have := own_pos_le bs; omega) zs1 hz1 (by rw [hz1]; exact hl3) _ _ H18) pd_33 rfl rfl rfl d11_157 (pc' := 160) rfl (Nat.le_trans (by decide) hRf) (Wn := 0) (Nat.le_of_eq rfl) (Nat.le_trans (by decide) hRl) (kc' := (kc + 4)) (ks' := (ks + 14)) rfl rfl (by omega) (by omega) ?_
    intro T19 v19 W19 hp19
    obtain ⟨rfl, zs2, hz2, H19⟩ := hp19
    show Goes _ _ _ _ (State.setTop _ (mkF _ _ _ []))
    have H20f := Hp.fr7 H19
    have H21f := Hp.fr7 H20f
    exact g_return W19 d11_160 ⟨_, _, zs2, _, rfl, by rw [hz2, hz0], H21f⟩ (by omega) (by omega)
theorem c_jr0z (l : Launch) (Z : State) (a0 : Array Value) (hw : ∀ d ∈ tables_1, d.before a0 Z = true) (n0 : Nat) (cs : Int32) (hS : Sta Z Z.heap "java/lang/String" "COMPACT_STRINGS" "Z" (.int cs)) (hcs : ¬ cs = 0) (ca : Addr) (cc : Cell) (hH : Sta Z Z.heap "java/lang/Integer$IntegerCache" "high" "I" (.int 127)) (hCa : Sta Z Z.heap "java/lang/Integer$IntegerCache" "cache" "[Ljava/lang/Integer;" (.ref ca)) (hB : Bxs Z ca cc "java/lang/Integer" "I" (256 : Int32) (fun j => .int (j - 128))) (jr a de m0 tb : Addr) (mcL sz mc thr : Int32) (lv vs : List Value) (bs : List (Option Int32)) (F : List HRow)  (h0 : Heap) (H00 : Hp Z n0 h0 ((jr, ObC Z "com/example/inq2/inq2/JudgedRanking" (fs_JudgedRanking .null .null)) :: (a, ObC Z "java/util/ArrayList" (fs_ArrayList (.int mcL) (.ref de) (.int (0 : Int32)))) :: (m0, ObC Z "java/util/HashMap" (fs_HashMap (.float (1061158912 : UInt32)) (.int (0 : Int32)) .null (.int mc) .null (.int (0 : Int32)))) :: F)) :
    Con l Z n0 ⟨"com/example/inq2/inq2/JudgedRanking", "<init>", "(Ljava/util/List;Ljava/util/Map;)V"⟩ [] prog_8_method_1_code 7 none ({ frames := 6, cells := 5, slots := 18, locals := 100 } : Room) #[.ref jr, .ref a, .ref m0] h0 (fun v h => ∃ (ra bi : Addr) (zs : List Int32) (J : List HRow), v = none ∧ zs.length = 0 ∧ Hp Z n0 h ((jr, ObC Z "com/example/inq2/inq2/JudgedRanking" (fs_JudgedRanking (.ref ra) (.ref bi))) :: (ra, IaC Z ([] : List Int32)) :: (bi, IaC Z zs) :: J)) := by
  refine con_of (plainFor_of_name pn_JudgedRanking) ?_
  intro p e s m below meth c T0 W0 e0
  subst e0
  have H0 := H00
  refine g_cast (ef_rrr7 m jr a m0) ?_
  refine g_aloadN W0 d11_0 (pc' := 1) rfl rfl rfl ?_
  refine g_initO W0 (wd_72 hw) (wd_20 hw) (wd_21 hw) H0 rfl d11_1 (pc' := 4) rfl (by decide) (Wn := 0) (Nat.le_of_eq rfl) (by decide) ?_
  intro T1 W1 H1
  refine g_aloadN W1 d11_4 (pc' := 5) rfl rfl rfl ?_
  refine g_aloadN W1 d11_5 (pc' := 6) rfl rfl rfl ?_
  have H2f := Hp.fr1 H1
  refine g_callF W1 (argsL := []) (st := [.ref jr]) (wd_73 hw) (wd_74 hw) (fun _ _ hZ => mvT hZ (wd_75 hw)) (wd_76 hw) (wd_77 hw) (wd_78 hw) (wd_79 hw) (wd_80 hw) (wd_44 hw) (wd_81 hw) (by decide) (a := a) (H2f.exa (i := 0) rfl) (c_size l Z a0 hw n0 a de mcL (0 : Int32) _ _ H2f) pd_5 rfl rfl rfl d11_6 (pc' := 11) rfl (by decide) (Wn := 1) (Nat.le_of_eq rfl) (by decide) (kc' := 0) (ks' := 0) rfl rfl (by decide) (by decide) ?_
  intro T3 v3 W3 hp3
  obtain ⟨rfl, H3⟩ := hp3
  show Goes _ _ _ _ (State.setTop _ (mkF _ _ _ [.int (0 : Int32), .ref jr]))
  refine g_newarrI W3 (wd_84 hw) H3 (by decide) (n := 0) (by decide) (cap := 4) (by decide) (by decide) d11_11 (pc' := 13) rfl (kc' := 1) (ks' := 4) rfl rfl (by decide) (by decide) ?_
  intro T4 a4 W4 H4
  refine g_putf W4 (wd_85 hw) Via.refl (Or.inr ⟨(wd_86 hw), rfl, rfl⟩) (wd_67 hw) (ty := (.array .int)) (by decide) rfl rfl H4 (i := 2) rfl (jx := 0) rfl d11_13 (pc' := 16) rfl (L' := ((a4, IaC Z (List.replicate 0 0)) :: (a, ObC Z "java/util/ArrayList" (fs_ArrayList (.int mcL) (.ref de) (.int (0 : Int32)))) :: (jr, ObC Z "com/example/inq2/inq2/JudgedRanking" (fs_JudgedRanking (.ref a4) .null)) :: (m0, ObC Z "java/util/HashMap" (fs_HashMap (.float (1061158912 : UInt32)) (.int (0 : Int32)) .null (.int mc) .null (.int (0 : Int32)))) :: F)) rfl ?_
  intro T5 W5 H5
  refine g_iconst W5 d11_16 (pc' := 17) rfl (v := (0 : Int32)) (by decide) ?_
  refine g_istoreN W5 d11_17 (pc' := 18) rfl (ls' := #[.val (.ref jr), .val (.ref a), .val (.ref m0), .val (.int (0 : Int32)), .unset, .unset, .unset]) rfl ?_
  refine g_iloadN W5 d11_18 (pc' := 19) rfl rfl ?_
  refine g_aloadN W5 d11_19 (pc' := 20) rfl rfl rfl ?_
  refine g_getf W5 (wd_85 hw) Via.refl H5 (i := 2) rfl (jx := 0) rfl d11_20 (pc' := 23) rfl ?_
  intro T6 W6 H6
  refine g_arrlenI W6 H6 (i := 0) rfl (x := (0 : Int32)) rfl d11_23 (pc' := 24) rfl ?_
  refine g_icmp W6 d11_24 (pcy := 68) (by decide) (pc' := 27) rfl (fun _ => ?_) (fun (h : ¬ ¬ (0 : Int32) < (0 : Int32)) => absurd h (by decide))
  have H7f := Hp.fr2 H6
  have H8f := Hp.fr3 H7f
  exact jr_secz l Z a0 hw n0 jr a m0 tb a4 sz mc thr (0 : Int32) vs bs ([] : List Int32) _ _ p e _ s m below meth c _ _ (by decide) (by decide) (by decide) (by decide) _ W6 H8f
theorem c_jr0t (l : Launch) (Z : State) (a0 : Array Value) (hw : ∀ d ∈ tables_1, d.before a0 Z = true) (n0 : Nat) (cs : Int32) (hS : Sta Z Z.heap "java/lang/String" "COMPACT_STRINGS" "Z" (.int cs)) (hcs : ¬ cs = 0) (ca : Addr) (cc : Cell) (hH : Sta Z Z.heap "java/lang/Integer$IntegerCache" "high" "I" (.int 127)) (hCa : Sta Z Z.heap "java/lang/Integer$IntegerCache" "cache" "[Ljava/lang/Integer;" (.ref ca)) (hB : Bxs Z ca cc "java/lang/Integer" "I" (256 : Int32) (fun j => .int (j - 128))) (jr a de m0 tb : Addr) (mcL sz mc thr : Int32) (lv vs : List Value) (bs : List (Option Int32)) (F : List HRow) (hlen : vs.length.toInt32 = 16) (hl16 : vs.length = 16) (hrel : Rel Z n0 F vs bs) (hszn : sz.toInt = (own_refs bs : Int)) (hsz4 : own_refs bs ≤ 4) (hszp : (0 : Int32) < sz)  (h0 : Heap) (H00 : Hp Z n0 h0 ((jr, ObC Z "com/example/inq2/inq2/JudgedRanking" (fs_JudgedRanking .null .null)) :: (a, ObC Z "java/util/ArrayList" (fs_ArrayList (.int mcL) (.ref de) (.int (0 : Int32)))) :: (m0, ObC Z "java/util/HashMap" (fs_HashMap (.float (1061158912 : UInt32)) (.int sz) .null (.int mc) (.ref tb) (.int thr))) :: (tb, RaC Z "java/util/HashMap$Node" vs) :: F)) :
    Con l Z n0 ⟨"com/example/inq2/inq2/JudgedRanking", "<init>", "(Ljava/util/List;Ljava/util/Map;)V"⟩ [] prog_8_method_1_code 7 none ({ frames := 6, cells := 5, slots := 18, locals := 100 } : Room) #[.ref jr, .ref a, .ref m0] h0 (fun v h => ∃ (ra bi : Addr) (zs : List Int32) (J : List HRow), v = none ∧ zs.length = own_pos bs ∧ Hp Z n0 h ((jr, ObC Z "com/example/inq2/inq2/JudgedRanking" (fs_JudgedRanking (.ref ra) (.ref bi))) :: (ra, IaC Z ([] : List Int32)) :: (bi, IaC Z zs) :: J)) := by
  refine con_of (plainFor_of_name pn_JudgedRanking) ?_
  intro p e s m below meth c T0 W0 e0
  subst e0
  have H0 := H00
  refine g_cast (ef_rrr7 m jr a m0) ?_
  refine g_aloadN W0 d11_0 (pc' := 1) rfl rfl rfl ?_
  refine g_initO W0 (wd_72 hw) (wd_20 hw) (wd_21 hw) H0 rfl d11_1 (pc' := 4) rfl (by decide) (Wn := 0) (Nat.le_of_eq rfl) (by decide) ?_
  intro T1 W1 H1
  refine g_aloadN W1 d11_4 (pc' := 5) rfl rfl rfl ?_
  refine g_aloadN W1 d11_5 (pc' := 6) rfl rfl rfl ?_
  have H2f := Hp.fr1 H1
  refine g_callF W1 (argsL := []) (st := [.ref jr]) (wd_73 hw) (wd_74 hw) (fun _ _ hZ => mvT hZ (wd_75 hw)) (wd_76 hw) (wd_77 hw) (wd_78 hw) (wd_79 hw) (wd_80 hw) (wd_44 hw) (wd_81 hw) (by decide) (a := a) (H2f.exa (i := 0) rfl) (c_size l Z a0 hw n0 a de mcL (0 : Int32) _ _ H2f) pd_5 rfl rfl rfl d11_6 (pc' := 11) rfl (by decide) (Wn := 1) (Nat.le_of_eq rfl) (by decide) (kc' := 0) (ks' := 0) rfl rfl (by decide) (by decide) ?_
  intro T3 v3 W3 hp3
  obtain ⟨rfl, H3⟩ := hp3
  show Goes _ _ _ _ (State.setTop _ (mkF _ _ _ [.int (0 : Int32), .ref jr]))
  refine g_newarrI W3 (wd_84 hw) H3 (by decide) (n := 0) (by decide) (cap := 4) (by decide) (by decide) d11_11 (pc' := 13) rfl (kc' := 1) (ks' := 4) rfl rfl (by decide) (by decide) ?_
  intro T4 a4 W4 H4
  refine g_putf W4 (wd_85 hw) Via.refl (Or.inr ⟨(wd_86 hw), rfl, rfl⟩) (wd_67 hw) (ty := (.array .int)) (by decide) rfl rfl H4 (i := 2) rfl (jx := 0) rfl d11_13 (pc' := 16) rfl (L' := ((a4, IaC Z (List.replicate 0 0)) :: (a, ObC Z "java/util/ArrayList" (fs_ArrayList (.int mcL) (.ref de) (.int (0 : Int32)))) :: (jr, ObC Z "com/example/inq2/inq2/JudgedRanking" (fs_JudgedRanking (.ref a4) .null)) :: (m0, ObC Z "java/util/HashMap" (fs_HashMap (.float (1061158912 : UInt32)) (.int sz) .null (.int mc) (.ref tb) (.int thr))) :: (tb, RaC Z "java/util/HashMap$Node" vs) :: F)) rfl ?_
  intro T5 W5 H5
  refine g_iconst W5 d11_16 (pc' := 17) rfl (v := (0 : Int32)) (by decide) ?_
  refine g_istoreN W5 d11_17 (pc' := 18) rfl (ls' := #[.val (.ref jr), .val (.ref a), .val (.ref m0), .val (.int (0 : Int32)), .unset, .unset, .unset]) rfl ?_
  refine g_iloadN W5 d11_18 (pc' := 19) rfl rfl ?_
  refine g_aloadN W5 d11_19 (pc' := 20) rfl rfl rfl ?_
  refine g_getf W5 (wd_85 hw) Via.refl H5 (i := 2) rfl (jx := 0) rfl d11_20 (pc' := 23) rfl ?_
  intro T6 W6 H6
  refine g_arrlenI W6 H6 (i := 0) rfl (x := (0 : Int32)) rfl d11_23 (pc' := 24) rfl ?_
  refine g_icmp W6 d11_24 (pcy := 68) (by decide) (pc' := 27) rfl (fun _ => ?_) (fun (h : ¬ ¬ (0 : Int32) < (0 : Int32)) => absurd h (by decide))
  have H7f := Hp.fr2 H6
  have H8f := Hp.fr4 H7f
  have H9f := Hp.fr4 H8f
  exact jr_sect l Z a0 hw n0 jr a m0 tb a4 sz mc thr (0 : Int32) vs bs ([] : List Int32) _ hlen hl16 (hrel.mono (fun r hr => (mc1 hr))) hszn hsz4 hszp _ p e _ s m below meth c _ _ (by decide) (by decide) (by decide) (by decide) _ W6 H9f
theorem c_jr1z (l : Launch) (Z : State) (a0 : Array Value) (hw : ∀ d ∈ tables_1, d.before a0 Z = true) (n0 : Nat) (cs : Int32) (hS : Sta Z Z.heap "java/lang/String" "COMPACT_STRINGS" "Z" (.int cs)) (hcs : ¬ cs = 0) (ca : Addr) (cc : Cell) (hH : Sta Z Z.heap "java/lang/Integer$IntegerCache" "high" "I" (.int 127)) (hCa : Sta Z Z.heap "java/lang/Integer$IntegerCache" "cache" "[Ljava/lang/Integer;" (.ref ca)) (hB : Bxs Z ca cc "java/lang/Integer" "I" (256 : Int32) (fun j => .int (j - 128))) (jr a el m0 tb : Addr) (mcL sz mc thr : Int32) (lv vs : List Value) (bs : List (Option Int32)) (F : List HRow) (sk0 bk0 d0 : Addr) (sc0 : UInt64) (hv0 r0 : Int32) (hl0 : lv[0]? = some (.ref d0)) (hd0 : (d0, ObC Z "com/example/inq2/inq2/ScoredDocument" (fs_ScoredDocument (.ref sk0) (.double sc0))) ∈ F) (hh0 : hv0 = 0 ∨ hv0 = (97 : Int32)) (hb0 : r0 = 0)  (h0 : Heap) (H00 : Hp Z n0 h0 ((jr, ObC Z "com/example/inq2/inq2/JudgedRanking" (fs_JudgedRanking .null .null)) :: (a, ObC Z "java/util/ArrayList" (fs_ArrayList (.int mcL) (.ref el) (.int (1 : Int32)))) :: (el, RaC Z "java/lang/Object" lv) :: (m0, ObC Z "java/util/HashMap" (fs_HashMap (.float (1061158912 : UInt32)) (.int (0 : Int32)) .null (.int mc) .null (.int (0 : Int32)))) :: (sk0, ObC Z "java/lang/String" (fs_String (.ref bk0) (.int (0 : Int32)) (.int hv0) (.int (0 : Int32)))) :: (bk0, ArC Z .byte [.int (97 : Int32)]) :: F)) :
    Con l Z n0 ⟨"com/example/inq2/inq2/JudgedRanking", "<init>", "(Ljava/util/List;Ljava/util/Map;)V"⟩ [] prog_8_method_1_code 7 none ({ frames := 6, cells := 6, slots := 19, locals := 100 } : Room) #[.ref jr, .ref a, .ref m0] h0 (fun v h => ∃ (ra bi : Addr) (zs : List Int32) (J : List HRow), v = none ∧ zs.length = 0 ∧ Hp Z n0 h ((jr, ObC Z "com/example/inq2/inq2/JudgedRanking" (fs_JudgedRanking (.ref ra) (.ref bi))) :: (ra, IaC Z ([r0] : List Int32)) :: (bi, IaC Z zs) :: J)) := by
  refine con_of (plainFor_of_name pn_JudgedRanking) ?_
  intro p e s m below meth c T0 W0 e0
  subst e0
  have H0 := H00
  refine g_cast (ef_rrr7 m jr a m0) ?_
  refine g_aloadN W0 d11_0 (pc' := 1) rfl rfl rfl ?_
  refine g_initO W0 (wd_72 hw) (wd_20 hw) (wd_21 hw) H0 rfl d11_1 (pc' := 4) rfl (by decide) (Wn := 0) (Nat.le_of_eq rfl) (by decide) ?_
  intro T1 W1 H1
  refine g_aloadN W1 d11_4 (pc' := 5) rfl rfl rfl ?_
  refine g_aloadN W1 d11_5 (pc' := 6) rfl rfl rfl ?_
  have H2f := Hp.fr1 H1
  refine g_callF W1 (argsL := []) (st := [.ref jr]) (wd_73 hw) (wd_74 hw) (fun _ _ hZ => mvT hZ (wd_75 hw)) (wd_76 hw) (wd_77 hw) (wd_78 hw) (wd_79 hw) (wd_80 hw) (wd_44 hw) (wd_81 hw) (by decide) (a := a) (H2f.exa (i := 0) rfl) (c_size l Z a0 hw n0 a el mcL (1 : Int32) _ _ H2f) pd_5 rfl rfl rfl d11_6 (pc' := 11) rfl (by decide) (Wn := 1) (Nat.le_of_eq rfl) (by decide) (kc' := 0) (ks' := 0) rfl rfl (by decide) (by decide) ?_
  intro T3 v3 W3 hp3
  obtain ⟨rfl, H3⟩ := hp3
  show Goes _ _ _ _ (State.setTop _ (mkF _ _ _ [.int (1 : Int32), .ref jr]))
  refine g_newarrI W3 (wd_84 hw) H3 (by decide) (n := 1) (by decide) (cap := 4) (by decide) (by decide) d11_11 (pc' := 13) rfl (kc' := 1) (ks' := 4) rfl rfl (by decide) (by decide) ?_
  intro T4 a4 W4 H4
  refine g_putf W4 (wd_85 hw) Via.refl (Or.inr ⟨(wd_86 hw), rfl, rfl⟩) (wd_67 hw) (ty := (.array .int)) (by decide) rfl rfl H4 (i := 2) rfl (jx := 0) rfl d11_13 (pc' := 16) rfl (L' := ((a4, IaC Z (List.replicate 1 0)) :: (a, ObC Z "java/util/ArrayList" (fs_ArrayList (.int mcL) (.ref el) (.int (1 : Int32)))) :: (jr, ObC Z "com/example/inq2/inq2/JudgedRanking" (fs_JudgedRanking (.ref a4) .null)) :: (el, RaC Z "java/lang/Object" lv) :: (m0, ObC Z "java/util/HashMap" (fs_HashMap (.float (1061158912 : UInt32)) (.int (0 : Int32)) .null (.int mc) .null (.int (0 : Int32)))) :: (sk0, ObC Z "java/lang/String" (fs_String (.ref bk0) (.int (0 : Int32)) (.int hv0) (.int (0 : Int32)))) :: (bk0, ArC Z .byte [.int (97 : Int32)]) :: F)) rfl ?_
  intro T5 W5 H5
  refine g_iconst W5 d11_16 (pc' := 17) rfl (v := (0 : Int32)) (by decide) ?_
  refine g_istoreN W5 d11_17 (pc' := 18) rfl (ls' := #[.val (.ref jr), .val (.ref a), .val (.ref m0), .val (.int (0 : Int32)), .unset, .unset, .unset]) rfl ?_
  have H6f := Hp.fr4 H5
  have H7f := Hp.fr4 H6f
  have H8f := Hp.fr3 H7f
  have H9f := Hp.fr4 H8f
  refine jr_turnz l Z a0 hw n0 cs hS hcs ca cc hH hCa hB jr a el m0 a4 sk0 d0 mcL mc (1 : Int32) (0 : Int32) (1 : Int32) r0 lv ([0] : List Int32) ([r0] : List Int32) 0 sc0 _ (by decide) (by decide) (by decide) (by decide) rfl (by exact (by decide : 0 < 1)) rfl hl0 (mc2 hd0) hb0 _ p e _ s m below meth c _ _ _ (by decide) (by decide) (by decide) (by decide) ?_ _ W5 H9f
  intro T10 G0 W10 H10
  replace H10 := sw5_2 H10
  refine g_iloadN W10 d11_18 (pc' := 19) rfl rfl ?_
  refine g_aloadN W10 d11_19 (pc' := 20) rfl rfl rfl ?_
  refine g_getf W10 (wd_85 hw) Via.refl H10 (i := 0) rfl (jx := 0) rfl d11_20 (pc' := 23) rfl ?_
  intro T11 W11 H11
  refine g_arrlenI W11 H11 (i := 4) rfl (x := (1 : Int32)) rfl d11_23 (pc' := 24) rfl ?_
  refine g_icmp W11 d11_24 (pcy := 68) (by decide) (pc' := 27) rfl (fun _ => ?_) (fun (h : ¬ ¬ (1 : Int32) < (1 : Int32)) => absurd h (by decide))
  have H12f := Hp.fr4 H11
  have H13f := Hp.fr1 H12f
  have H14f := Hp.fr4 H13f
  exact jr_secz l Z a0 hw n0 jr a m0 tb a4 sz mc thr (1 : Int32) vs bs ([r0] : List Int32) _ _ p e _ s m below meth c _ _ (by decide) (by decide) (by decide) (by decide) _ W11 H14f
theorem c_jr1t (l : Launch) (Z : State) (a0 : Array Value) (hw : ∀ d ∈ tables_1, d.before a0 Z = true) (n0 : Nat) (cs : Int32) (hS : Sta Z Z.heap "java/lang/String" "COMPACT_STRINGS" "Z" (.int cs)) (hcs : ¬ cs = 0) (ca : Addr) (cc : Cell) (hH : Sta Z Z.heap "java/lang/Integer$IntegerCache" "high" "I" (.int 127)) (hCa : Sta Z Z.heap "java/lang/Integer$IntegerCache" "cache" "[Ljava/lang/Integer;" (.ref ca)) (hB : Bxs Z ca cc "java/lang/Integer" "I" (256 : Int32) (fun j => .int (j - 128))) (jr a el m0 tb : Addr) (mcL sz mc thr : Int32) (lv vs : List Value) (bs : List (Option Int32)) (F : List HRow) (sk0 bk0 d0 : Addr) (sc0 : UInt64) (hv0 r0 : Int32) (hl0 : lv[0]? = some (.ref d0)) (hd0 : (d0, ObC Z "com/example/inq2/inq2/ScoredDocument" (fs_ScoredDocument (.ref sk0) (.double sc0))) ∈ F) (hh0 : hv0 = 0 ∨ hv0 = (97 : Int32)) (hb0 : JB Z n0 F vs[1]? (97 : Int32) sk0 r0) (hlen : vs.length.toInt32 = 16) (hl16 : vs.length = 16) (hrel : Rel Z n0 F vs bs) (hszn : sz.toInt = (own_refs bs : Int)) (hsz4 : own_refs bs ≤ 4) (hszp : (0 : Int32) < sz)  (h0 : Heap) (H00 : Hp Z n0 h0 ((jr, ObC Z "com/example/inq2/inq2/JudgedRanking" (fs_JudgedRanking .null .null)) :: (a, ObC Z "java/util/ArrayList" (fs_ArrayList (.int mcL) (.ref el) (.int (1 : Int32)))) :: (el, RaC Z "java/lang/Object" lv) :: (m0, ObC Z "java/util/HashMap" (fs_HashMap (.float (1061158912 : UInt32)) (.int sz) .null (.int mc) (.ref tb) (.int thr))) :: (tb, RaC Z "java/util/HashMap$Node" vs) :: (sk0, ObC Z "java/lang/String" (fs_String (.ref bk0) (.int (0 : Int32)) (.int hv0) (.int (0 : Int32)))) :: (bk0, ArC Z .byte [.int (97 : Int32)]) :: F)) :
    Con l Z n0 ⟨"com/example/inq2/inq2/JudgedRanking", "<init>", "(Ljava/util/List;Ljava/util/Map;)V"⟩ [] prog_8_method_1_code 7 none ({ frames := 6, cells := 6, slots := 19, locals := 100 } : Room) #[.ref jr, .ref a, .ref m0] h0 (fun v h => ∃ (ra bi : Addr) (zs : List Int32) (J : List HRow), v = none ∧ zs.length = own_pos bs ∧ Hp Z n0 h ((jr, ObC Z "com/example/inq2/inq2/JudgedRanking" (fs_JudgedRanking (.ref ra) (.ref bi))) :: (ra, IaC Z ([r0] : List Int32)) :: (bi, IaC Z zs) :: J)) := by
  refine con_of (plainFor_of_name pn_JudgedRanking) ?_
  intro p e s m below meth c T0 W0 e0
  subst e0
  have H0 := H00
  refine g_cast (ef_rrr7 m jr a m0) ?_
  refine g_aloadN W0 d11_0 (pc' := 1) rfl rfl rfl ?_
  refine g_initO W0 (wd_72 hw) (wd_20 hw) (wd_21 hw) H0 rfl d11_1 (pc' := 4) rfl (by decide) (Wn := 0) (Nat.le_of_eq rfl) (by decide) ?_
  intro T1 W1 H1
  refine g_aloadN W1 d11_4 (pc' := 5) rfl rfl rfl ?_
  refine g_aloadN W1 d11_5 (pc' := 6) rfl rfl rfl ?_
  have H2f := Hp.fr1 H1
  refine g_callF W1 (argsL := []) (st := [.ref jr]) (wd_73 hw) (wd_74 hw) (fun _ _ hZ => mvT hZ (wd_75 hw)) (wd_76 hw) (wd_77 hw) (wd_78 hw) (wd_79 hw) (wd_80 hw) (wd_44 hw) (wd_81 hw) (by decide) (a := a) (H2f.exa (i := 0) rfl) (c_size l Z a0 hw n0 a el mcL (1 : Int32) _ _ H2f) pd_5 rfl rfl rfl d11_6 (pc' := 11) rfl (by decide) (Wn := 1) (Nat.le_of_eq rfl) (by decide) (kc' := 0) (ks' := 0) rfl rfl (by decide) (by decide) ?_
  intro T3 v3 W3 hp3
  obtain ⟨rfl, H3⟩ := hp3
  show Goes _ _ _ _ (State.setTop _ (mkF _ _ _ [.int (1 : Int32), .ref jr]))
  refine g_newarrI W3 (wd_84 hw) H3 (by decide) (n := 1) (by decide) (cap := 4) (by decide) (by decide) d11_11 (pc' := 13) rfl (kc' := 1) (ks' := 4) rfl rfl (by decide) (by decide) ?_
  intro T4 a4 W4 H4
  refine g_putf W4 (wd_85 hw) Via.refl (Or.inr ⟨(wd_86 hw), rfl, rfl⟩) (wd_67 hw) (ty := (.array .int)) (by decide) rfl rfl H4 (i := 2) rfl (jx := 0) rfl d11_13 (pc' := 16) rfl (L' := ((a4, IaC Z (List.replicate 1 0)) :: (a, ObC Z "java/util/ArrayList" (fs_ArrayList (.int mcL) (.ref el) (.int (1 : Int32)))) :: (jr, ObC Z "com/example/inq2/inq2/JudgedRanking" (fs_JudgedRanking (.ref a4) .null)) :: (el, RaC Z "java/lang/Object" lv) :: (m0, ObC Z "java/util/HashMap" (fs_HashMap (.float (1061158912 : UInt32)) (.int sz) .null (.int mc) (.ref tb) (.int thr))) :: (tb, RaC Z "java/util/HashMap$Node" vs) :: (sk0, ObC Z "java/lang/String" (fs_String (.ref bk0) (.int (0 : Int32)) (.int hv0) (.int (0 : Int32)))) :: (bk0, ArC Z .byte [.int (97 : Int32)]) :: F)) rfl ?_
  intro T5 W5 H5
  refine g_iconst W5 d11_16 (pc' := 17) rfl (v := (0 : Int32)) (by decide) ?_
  refine g_istoreN W5 d11_17 (pc' := 18) rfl (ls' := #[.val (.ref jr), .val (.ref a), .val (.ref m0), .val (.int (0 : Int32)), .unset, .unset, .unset]) rfl ?_
  have H6f := Hp.fr7 H5
  have H7f := Hp.fr7 H6f
  have H8f := Hp.fr7 H7f
  have H9f := Hp.fr7 H8f
  have H10f := Hp.fr7 H9f
  have H11f := Hp.fr6 H10f
  have H12f := Hp.fr7 H11f
  refine jr_turnt l Z a0 hw n0 cs hS hcs ca cc hH hCa hB jr a el m0 a4 sk0 d0 mcL mc (1 : Int32) (0 : Int32) (1 : Int32) r0 lv ([0] : List Int32) ([r0] : List Int32) 0 sc0 _ (by decide) (by decide) (by decide) (by decide) rfl (by exact (by decide : 0 < 1)) rfl hl0 hd0 tb bk0 sz thr (97 : Int32) hv0 vs 1 keyA hh0 hlen (by decide) (by decide) (hb0.mono (fun r hr => hr)) _ p e _ s m below meth c _ _ _ (by decide) (by decide) (by decide) (by decide) ?_ _ W5 H12f
  intro T13 G0 W13 H13
  refine g_iloadN W13 d11_18 (pc' := 19) rfl rfl ?_
  refine g_aloadN W13 d11_19 (pc' := 20) rfl rfl rfl ?_
  refine g_getf W13 (wd_85 hw) Via.refl H13 (i := 0) rfl (jx := 0) rfl d11_20 (pc' := 23) rfl ?_
  intro T14 W14 H14
  refine g_arrlenI W14 H14 (i := 7) rfl (x := (1 : Int32)) rfl d11_23 (pc' := 24) rfl ?_
  refine g_icmp W14 d11_24 (pcy := 68) (by decide) (pc' := 27) rfl (fun _ => ?_) (fun (h : ¬ ¬ (1 : Int32) < (1 : Int32)) => absurd h (by decide))
  have H15f := Hp.fr7 H14
  have H16f := Hp.fr1 H15f
  have H17f := Hp.fr5 H16f
  have H18f := Hp.fr5 H17f
  exact jr_sect l Z a0 hw n0 jr a m0 tb a4 sz mc thr (1 : Int32) vs bs ([r0] : List Int32) _ hlen hl16 (hrel.mono (fun r hr => (mc4 (List.mem_append_right G0 hr)))) hszn hsz4 hszp _ p e _ s m below meth c _ _ (by decide) (by decide) (by decide) (by decide) _ W14 H18f
theorem c_jr2z (l : Launch) (Z : State) (a0 : Array Value) (hw : ∀ d ∈ tables_1, d.before a0 Z = true) (n0 : Nat) (cs : Int32) (hS : Sta Z Z.heap "java/lang/String" "COMPACT_STRINGS" "Z" (.int cs)) (hcs : ¬ cs = 0) (ca : Addr) (cc : Cell) (hH : Sta Z Z.heap "java/lang/Integer$IntegerCache" "high" "I" (.int 127)) (hCa : Sta Z Z.heap "java/lang/Integer$IntegerCache" "cache" "[Ljava/lang/Integer;" (.ref ca)) (hB : Bxs Z ca cc "java/lang/Integer" "I" (256 : Int32) (fun j => .int (j - 128))) (jr a el m0 tb : Addr) (mcL sz mc thr : Int32) (lv vs : List Value) (bs : List (Option Int32)) (F : List HRow) (sk0 bk0 d0 : Addr) (sc0 : UInt64) (hv0 r0 : Int32) (hl0 : lv[0]? = some (.ref d0)) (hd0 : (d0, ObC Z "com/example/inq2/inq2/ScoredDocument" (fs_ScoredDocument (.ref sk0) (.double sc0))) ∈ F) (hh0 : hv0 = 0 ∨ hv0 = (97 : Int32)) (hb0 : r0 = 0) (sk1 bk1 d1 : Addr) (sc1 : UInt64) (hv1 r1 : Int32) (hl1 : lv[1]? = some (.ref d1)) (hd1 : (d1, ObC Z "com/example/inq2/inq2/ScoredDocument" (fs_ScoredDocument (.ref sk1) (.double sc1))) ∈ F) (hh1 : hv1 = 0 ∨ hv1 = (98 : Int32)) (hb1 : r1 = 0)  (h0 : Heap) (H00 : Hp Z n0 h0 ((jr, ObC Z "com/example/inq2/inq2/JudgedRanking" (fs_JudgedRanking .null .null)) :: (a, ObC Z "java/util/ArrayList" (fs_ArrayList (.int mcL) (.ref el) (.int (2 : Int32)))) :: (el, RaC Z "java/lang/Object" lv) :: (m0, ObC Z "java/util/HashMap" (fs_HashMap (.float (1061158912 : UInt32)) (.int (0 : Int32)) .null (.int mc) .null (.int (0 : Int32)))) :: (sk0, ObC Z "java/lang/String" (fs_String (.ref bk0) (.int (0 : Int32)) (.int hv0) (.int (0 : Int32)))) :: (bk0, ArC Z .byte [.int (97 : Int32)]) :: (sk1, ObC Z "java/lang/String" (fs_String (.ref bk1) (.int (0 : Int32)) (.int hv1) (.int (0 : Int32)))) :: (bk1, ArC Z .byte [.int (98 : Int32)]) :: F)) :
    Con l Z n0 ⟨"com/example/inq2/inq2/JudgedRanking", "<init>", "(Ljava/util/List;Ljava/util/Map;)V"⟩ [] prog_8_method_1_code 7 none ({ frames := 6, cells := 7, slots := 20, locals := 100 } : Room) #[.ref jr, .ref a, .ref m0] h0 (fun v h => ∃ (ra bi : Addr) (zs : List Int32) (J : List HRow), v = none ∧ zs.length = 0 ∧ Hp Z n0 h ((jr, ObC Z "com/example/inq2/inq2/JudgedRanking" (fs_JudgedRanking (.ref ra) (.ref bi))) :: (ra, IaC Z ([r0, r1] : List Int32)) :: (bi, IaC Z zs) :: J)) := by
  refine con_of (plainFor_of_name pn_JudgedRanking) ?_
  intro p e s m below meth c T0 W0 e0
  subst e0
  have H0 := H00
  refine g_cast (ef_rrr7 m jr a m0) ?_
  refine g_aloadN W0 d11_0 (pc' := 1) rfl rfl rfl ?_
  refine g_initO W0 (wd_72 hw) (wd_20 hw) (wd_21 hw) H0 rfl d11_1 (pc' := 4) rfl (by decide) (Wn := 0) (Nat.le_of_eq rfl) (by decide) ?_
  intro T1 W1 H1
  refine g_aloadN W1 d11_4 (pc' := 5) rfl rfl rfl ?_
  refine g_aloadN W1 d11_5 (pc' := 6) rfl rfl rfl ?_
  have H2f := Hp.fr1 H1
  refine g_callF W1 (argsL := []) (st := [.ref jr]) (wd_73 hw) (wd_74 hw) (fun _ _ hZ => mvT hZ (wd_75 hw)) (wd_76 hw) (wd_77 hw) (wd_78 hw) (wd_79 hw) (wd_80 hw) (wd_44 hw) (wd_81 hw) (by decide) (a := a) (H2f.exa (i := 0) rfl) (c_size l Z a0 hw n0 a el mcL (2 : Int32) _ _ H2f) pd_5 rfl rfl rfl d11_6 (pc' := 11) rfl (by decide) (Wn := 1) (Nat.le_of_eq rfl) (by decide) (kc' := 0) (ks' := 0) rfl rfl (by decide) (by decide) ?_
  intro T3 v3 W3 hp3
  obtain ⟨rfl, H3⟩ := hp3
  show Goes _ _ _ _ (State.setTop _ (mkF _ _ _ [.int (2 : Int32), .ref jr]))
  refine g_newarrI W3 (wd_84 hw) H3 (by decide) (n := 2) (by decide) (cap := 4) (by decide) (by decide) d11_11 (pc' := 13) rfl (kc' := 1) (ks' := 4) rfl rfl (by decide) (by decide) ?_
  intro T4 a4 W4 H4
  refine g_putf W4 (wd_85 hw) Via.refl (Or.inr ⟨(wd_86 hw), rfl, rfl⟩) (wd_67 hw) (ty := (.array .int)) (by decide) rfl rfl H4 (i := 2) rfl (jx := 0) rfl d11_13 (pc' := 16) rfl (L' := ((a4, IaC Z (List.replicate 2 0)) :: (a, ObC Z "java/util/ArrayList" (fs_ArrayList (.int mcL) (.ref el) (.int (2 : Int32)))) :: (jr, ObC Z "com/example/inq2/inq2/JudgedRanking" (fs_JudgedRanking (.ref a4) .null)) :: (el, RaC Z "java/lang/Object" lv) :: (m0, ObC Z "java/util/HashMap" (fs_HashMap (.float (1061158912 : UInt32)) (.int (0 : Int32)) .null (.int mc) .null (.int (0 : Int32)))) :: (sk0, ObC Z "java/lang/String" (fs_String (.ref bk0) (.int (0 : Int32)) (.int hv0) (.int (0 : Int32)))) :: (bk0, ArC Z .byte [.int (97 : Int32)]) :: (sk1, ObC Z "java/lang/String" (fs_String (.ref bk1) (.int (0 : Int32)) (.int hv1) (.int (0 : Int32)))) :: (bk1, ArC Z .byte [.int (98 : Int32)]) :: F)) rfl ?_
  intro T5 W5 H5
  refine g_iconst W5 d11_16 (pc' := 17) rfl (v := (0 : Int32)) (by decide) ?_
  refine g_istoreN W5 d11_17 (pc' := 18) rfl (ls' := #[.val (.ref jr), .val (.ref a), .val (.ref m0), .val (.int (0 : Int32)), .unset, .unset, .unset]) rfl ?_
  have H6f := Hp.fr4 H5
  have H7f := Hp.fr4 H6f
  have H8f := Hp.fr3 H7f
  have H9f := Hp.fr4 H8f
  refine jr_turnz l Z a0 hw n0 cs hS hcs ca cc hH hCa hB jr a el m0 a4 sk0 d0 mcL mc (2 : Int32) (0 : Int32) (1 : Int32) r0 lv ([0, 0] : List Int32) ([r0, 0] : List Int32) 0 sc0 _ (by decide) (by decide) (by decide) (by decide) rfl (by exact (by decide : 0 < 2)) rfl hl0 (mc4 hd0) hb0 _ p e _ s m below meth c _ _ _ (by decide) (by decide) (by decide) (by decide) ?_ _ W5 H9f
  intro T10 G0 W10 H10
  replace H10 := sw5_4 H10
  have H11f := Hp.fr4 H10
  have H12f := Hp.fr4 H11f
  have H13f := Hp.fr4 H12f
  have H14f := Hp.fr4 H13f
  have H15f := Hp.fr4 H14f
  refine jr_turnz l Z a0 hw n0 cs hS hcs ca cc hH hCa hB jr a el m0 a4 sk1 d1 mcL mc (2 : Int32) (1 : Int32) (2 : Int32) r1 lv ([r0, 0] : List Int32) ([r0, r1] : List Int32) 1 sc1 _ (by decide) (by decide) (by decide) (by decide) rfl (by exact (by decide : 1 < 2)) rfl hl1 (mc4 (List.mem_append_right G0 hd1)) hb1 _ p e _ s m below meth c _ _ _ (by decide) (by decide) (by decide) (by decide) ?_ _ W10 H15f
  intro T16 G1 W16 H16
  replace H16 := sw5_4 H16
  refine g_iloadN W16 d11_18 (pc' := 19) rfl rfl ?_
  refine g_aloadN W16 d11_19 (pc' := 20) rfl rfl rfl ?_
  refine g_getf W16 (wd_85 hw) Via.refl H16 (i := 0) rfl (jx := 0) rfl d11_20 (pc' := 23) rfl ?_
  intro T17 W17 H17
  refine g_arrlenI W17 H17 (i := 4) rfl (x := (2 : Int32)) rfl d11_23 (pc' := 24) rfl ?_
  refine g_icmp W17 d11_24 (pcy := 68) (by decide) (pc' := 27) rfl (fun _ => ?_) (fun (h : ¬ ¬ (2 : Int32) < (2 : Int32)) => absurd h (by decide))
  have H18f := Hp.fr4 H17
  have H19f := Hp.fr1 H18f
  have H20f := Hp.fr4 H19f
  exact jr_secz l Z a0 hw n0 jr a m0 tb a4 sz mc thr (2 : Int32) vs bs ([r0, r1] : List Int32) _ _ p e _ s m below meth c _ _ (by decide) (by decide) (by decide) (by decide) _ W17 H20f
theorem c_jr2t (l : Launch) (Z : State) (a0 : Array Value) (hw : ∀ d ∈ tables_1, d.before a0 Z = true) (n0 : Nat) (cs : Int32) (hS : Sta Z Z.heap "java/lang/String" "COMPACT_STRINGS" "Z" (.int cs)) (hcs : ¬ cs = 0) (ca : Addr) (cc : Cell) (hH : Sta Z Z.heap "java/lang/Integer$IntegerCache" "high" "I" (.int 127)) (hCa : Sta Z Z.heap "java/lang/Integer$IntegerCache" "cache" "[Ljava/lang/Integer;" (.ref ca)) (hB : Bxs Z ca cc "java/lang/Integer" "I" (256 : Int32) (fun j => .int (j - 128))) (jr a el m0 tb : Addr) (mcL sz mc thr : Int32) (lv vs : List Value) (bs : List (Option Int32)) (F : List HRow) (sk0 bk0 d0 : Addr) (sc0 : UInt64) (hv0 r0 : Int32) (hl0 : lv[0]? = some (.ref d0)) (hd0 : (d0, ObC Z "com/example/inq2/inq2/ScoredDocument" (fs_ScoredDocument (.ref sk0) (.double sc0))) ∈ F) (hh0 : hv0 = 0 ∨ hv0 = (97 : Int32)) (hb0 : JB Z n0 F vs[1]? (97 : Int32) sk0 r0) (sk1 bk1 d1 : Addr) (sc1 : UInt64) (hv1 r1 : Int32) (hl1 : lv[1]? = some (.ref d1)) (hd1 : (d1, ObC Z "com/example/inq2/inq2/ScoredDocument" (fs_ScoredDocument (.ref sk1) (.double sc1))) ∈ F) (hh1 : hv1 = 0 ∨ hv1 = (98 : Int32)) (hb1 : JB Z n0 F vs[2]? (98 : Int32) sk1 r1) (hlen : vs.length.toInt32 = 16) (hl16 : vs.length = 16) (hrel : Rel Z n0 F vs bs) (hszn : sz.toInt = (own_refs bs : Int)) (hsz4 : own_refs bs ≤ 4) (hszp : (0 : Int32) < sz)  (h0 : Heap) (H00 : Hp Z n0 h0 ((jr, ObC Z "com/example/inq2/inq2/JudgedRanking" (fs_JudgedRanking .null .null)) :: (a, ObC Z "java/util/ArrayList" (fs_ArrayList (.int mcL) (.ref el) (.int (2 : Int32)))) :: (el, RaC Z "java/lang/Object" lv) :: (m0, ObC Z "java/util/HashMap" (fs_HashMap (.float (1061158912 : UInt32)) (.int sz) .null (.int mc) (.ref tb) (.int thr))) :: (tb, RaC Z "java/util/HashMap$Node" vs) :: (sk0, ObC Z "java/lang/String" (fs_String (.ref bk0) (.int (0 : Int32)) (.int hv0) (.int (0 : Int32)))) :: (bk0, ArC Z .byte [.int (97 : Int32)]) :: (sk1, ObC Z "java/lang/String" (fs_String (.ref bk1) (.int (0 : Int32)) (.int hv1) (.int (0 : Int32)))) :: (bk1, ArC Z .byte [.int (98 : Int32)]) :: F)) :
    Con l Z n0 ⟨"com/example/inq2/inq2/JudgedRanking", "<init>", "(Ljava/util/List;Ljava/util/Map;)V"⟩ [] prog_8_method_1_code 7 none ({ frames := 6, cells := 7, slots := 20, locals := 100 } : Room) #[.ref jr, .ref a, .ref m0] h0 (fun v h => ∃ (ra bi : Addr) (zs : List Int32) (J : List HRow), v = none ∧ zs.length = own_pos bs ∧ Hp Z n0 h ((jr, ObC Z "com/example/inq2/inq2/JudgedRanking" (fs_JudgedRanking (.ref ra) (.ref bi))) :: (ra, IaC Z ([r0, r1] : List Int32)) :: (bi, IaC Z zs) :: J)) := by
  refine con_of (plainFor_of_name pn_JudgedRanking) ?_
  intro p e s m below meth c T0 W0 e0
  subst e0
  have H0 := H00
  refine g_cast (ef_rrr7 m jr a m0) ?_
  refine g_aloadN W0 d11_0 (pc' := 1) rfl rfl rfl ?_
  refine g_initO W0 (wd_72 hw) (wd_20 hw) (wd_21 hw) H0 rfl d11_1 (pc' := 4) rfl (by decide) (Wn := 0) (Nat.le_of_eq rfl) (by decide) ?_
  intro T1 W1 H1
  refine g_aloadN W1 d11_4 (pc' := 5) rfl rfl rfl ?_
  refine g_aloadN W1 d11_5 (pc' := 6) rfl rfl rfl ?_
  have H2f := Hp.fr1 H1
  refine g_callF W1 (argsL := []) (st := [.ref jr]) (wd_73 hw) (wd_74 hw) (fun _ _ hZ => mvT hZ (wd_75 hw)) (wd_76 hw) (wd_77 hw) (wd_78 hw) (wd_79 hw) (wd_80 hw) (wd_44 hw) (wd_81 hw) (by decide) (a := a) (H2f.exa (i := 0) rfl) (c_size l Z a0 hw n0 a el mcL (2 : Int32) _ _ H2f) pd_5 rfl rfl rfl d11_6 (pc' := 11) rfl (by decide) (Wn := 1) (Nat.le_of_eq rfl) (by decide) (kc' := 0) (ks' := 0) rfl rfl (by decide) (by decide) ?_
  intro T3 v3 W3 hp3
  obtain ⟨rfl, H3⟩ := hp3
  show Goes _ _ _ _ (State.setTop _ (mkF _ _ _ [.int (2 : Int32), .ref jr]))
  refine g_newarrI W3 (wd_84 hw) H3 (by decide) (n := 2) (by decide) (cap := 4) (by decide) (by decide) d11_11 (pc' := 13) rfl (kc' := 1) (ks' := 4) rfl rfl (by decide) (by decide) ?_
  intro T4 a4 W4 H4
  refine g_putf W4 (wd_85 hw) Via.refl (Or.inr ⟨(wd_86 hw), rfl, rfl⟩) (wd_67 hw) (ty := (.array .int)) (by decide) rfl rfl H4 (i := 2) rfl (jx := 0) rfl d11_13 (pc' := 16) rfl (L' := ((a4, IaC Z (List.replicate 2 0)) :: (a, ObC Z "java/util/ArrayList" (fs_ArrayList (.int mcL) (.ref el) (.int (2 : Int32)))) :: (jr, ObC Z "com/example/inq2/inq2/JudgedRanking" (fs_JudgedRanking (.ref a4) .null)) :: (el, RaC Z "java/lang/Object" lv) :: (m0, ObC Z "java/util/HashMap" (fs_HashMap (.float (1061158912 : UInt32)) (.int sz) .null (.int mc) (.ref tb) (.int thr))) :: (tb, RaC Z "java/util/HashMap$Node" vs) :: (sk0, ObC Z "java/lang/String" (fs_String (.ref bk0) (.int (0 : Int32)) (.int hv0) (.int (0 : Int32)))) :: (bk0, ArC Z .byte [.int (97 : Int32)]) :: (sk1, ObC Z "java/lang/String" (fs_String (.ref bk1) (.int (0 : Int32)) (.int hv1) (.int (0 : Int32)))) :: (bk1, ArC Z .byte [.int (98 : Int32)]) :: F)) rfl ?_
  intro T5 W5 H5
  refine g_iconst W5 d11_16 (pc' := 17) rfl (v := (0 : Int32)) (by decide) ?_
  refine g_istoreN W5 d11_17 (pc' := 18) rfl (ls' := #[.val (.ref jr), .val (.ref a), .val (.ref m0), .val (.int (0 : Int32)), .unset, .unset, .unset]) rfl ?_
  have H6f := Hp.fr7 H5
  have H7f := Hp.fr7 H6f
  have H8f := Hp.fr7 H7f
  have H9f := Hp.fr7 H8f
  have H10f := Hp.fr7 H9f
  have H11f := Hp.fr6 H10f
  have H12f := Hp.fr7 H11f
  refine jr_turnt l Z a0 hw n0 cs hS hcs ca cc hH hCa hB jr a el m0 a4 sk0 d0 mcL mc (2 : Int32) (0 : Int32) (1 : Int32) r0 lv ([0, 0] : List Int32) ([r0, 0] : List Int32) 0 sc0 _ (by decide) (by decide) (by decide) (by decide) rfl (by exact (by decide : 0 < 2)) rfl hl0 (mc2 hd0) tb bk0 sz thr (97 : Int32) hv0 vs 1 keyA hh0 hlen (by decide) (by decide) (hb0.mono (fun r hr => (mc2 hr))) _ p e _ s m below meth c _ _ _ (by decide) (by decide) (by decide) (by decide) ?_ _ W5 H12f
  intro T13 G0 W13 H13
  replace H13 := sw8_2 H13
  have H14f := Hp.fr7 H13
  have H15f := Hp.fr9 H14f
  have H16f := Hp.fr9 H15f
  have H17f := Hp.fr7 H16f
  have H18f := Hp.fr7 H17f
  have H19f := Hp.fr7 H18f
  have H20f := Hp.fr7 H19f
  have H21f := Hp.fr7 H20f
  refine jr_turnt l Z a0 hw n0 cs hS hcs ca cc hH hCa hB jr a el m0 a4 sk1 d1 mcL mc (2 : Int32) (1 : Int32) (2 : Int32) r1 lv ([r0, 0] : List Int32) ([r0, r1] : List Int32) 1 sc1 _ (by decide) (by decide) (by decide) (by decide) rfl (by exact (by decide : 1 < 2)) rfl hl1 (mc2 (List.mem_append_right G0 hd1)) tb bk1 sz thr (98 : Int32) hv1 vs 2 keyB hh1 hlen (by decide) (by decide) (hb1.mono (fun r hr => (mc2 (List.mem_append_right G0 hr)))) _ p e _ s m below meth c _ _ _ (by decide) (by decide) (by decide) (by decide) ?_ _ W13 H21f
  intro T22 G1 W22 H22
  replace H22 := sw8_2 H22
  refine g_iloadN W22 d11_18 (pc' := 19) rfl rfl ?_
  refine g_aloadN W22 d11_19 (pc' := 20) rfl rfl rfl ?_
  refine g_getf W22 (wd_85 hw) Via.refl H22 (i := 0) rfl (jx := 0) rfl d11_20 (pc' := 23) rfl ?_
  intro T23 W23 H23
  refine g_arrlenI W23 H23 (i := 7) rfl (x := (2 : Int32)) rfl d11_23 (pc' := 24) rfl ?_
  refine g_icmp W23 d11_24 (pcy := 68) (by decide) (pc' := 27) rfl (fun _ => ?_) (fun (h : ¬ ¬ (2 : Int32) < (2 : Int32)) => absurd h (by decide))
  have H24f := Hp.fr7 H23
  have H25f := Hp.fr1 H24f
  have H26f := Hp.fr5 H25f
  have H27f := Hp.fr5 H26f
  exact jr_sect l Z a0 hw n0 jr a m0 tb a4 sz mc thr (2 : Int32) vs bs ([r0, r1] : List Int32) _ hlen hl16 (hrel.mono (fun r hr => (mc6 (List.mem_append_right G1 (List.mem_append_right G0 hr))))) hszn hsz4 hszp _ p e _ s m below meth c _ _ (by decide) (by decide) (by decide) (by decide) _ W23 H27f
theorem c_jr3z (l : Launch) (Z : State) (a0 : Array Value) (hw : ∀ d ∈ tables_1, d.before a0 Z = true) (n0 : Nat) (cs : Int32) (hS : Sta Z Z.heap "java/lang/String" "COMPACT_STRINGS" "Z" (.int cs)) (hcs : ¬ cs = 0) (ca : Addr) (cc : Cell) (hH : Sta Z Z.heap "java/lang/Integer$IntegerCache" "high" "I" (.int 127)) (hCa : Sta Z Z.heap "java/lang/Integer$IntegerCache" "cache" "[Ljava/lang/Integer;" (.ref ca)) (hB : Bxs Z ca cc "java/lang/Integer" "I" (256 : Int32) (fun j => .int (j - 128))) (jr a el m0 tb : Addr) (mcL sz mc thr : Int32) (lv vs : List Value) (bs : List (Option Int32)) (F : List HRow) (sk0 bk0 d0 : Addr) (sc0 : UInt64) (hv0 r0 : Int32) (hl0 : lv[0]? = some (.ref d0)) (hd0 : (d0, ObC Z "com/example/inq2/inq2/ScoredDocument" (fs_ScoredDocument (.ref sk0) (.double sc0))) ∈ F) (hh0 : hv0 = 0 ∨ hv0 = (97 : Int32)) (hb0 : r0 = 0) (sk1 bk1 d1 : Addr) (sc1 : UInt64) (hv1 r1 : Int32) (hl1 : lv[1]? = some (.ref d1)) (hd1 : (d1, ObC Z "com/example/inq2/inq2/ScoredDocument" (fs_ScoredDocument (.ref sk1) (.double sc1))) ∈ F) (hh1 : hv1 = 0 ∨ hv1 = (98 : Int32)) (hb1 : r1 = 0) (sk2 bk2 d2 : Addr) (sc2 : UInt64) (hv2 r2 : Int32) (hl2 : lv[2]? = some (.ref d2)) (hd2 : (d2, ObC Z "com/example/inq2/inq2/ScoredDocument" (fs_ScoredDocument (.ref sk2) (.double sc2))) ∈ F) (hh2 : hv2 = 0 ∨ hv2 = (99 : Int32)) (hb2 : r2 = 0)  (h0 : Heap) (H00 : Hp Z n0 h0 ((jr, ObC Z "com/example/inq2/inq2/JudgedRanking" (fs_JudgedRanking .null .null)) :: (a, ObC Z "java/util/ArrayList" (fs_ArrayList (.int mcL) (.ref el) (.int (3 : Int32)))) :: (el, RaC Z "java/lang/Object" lv) :: (m0, ObC Z "java/util/HashMap" (fs_HashMap (.float (1061158912 : UInt32)) (.int (0 : Int32)) .null (.int mc) .null (.int (0 : Int32)))) :: (sk0, ObC Z "java/lang/String" (fs_String (.ref bk0) (.int (0 : Int32)) (.int hv0) (.int (0 : Int32)))) :: (bk0, ArC Z .byte [.int (97 : Int32)]) :: (sk1, ObC Z "java/lang/String" (fs_String (.ref bk1) (.int (0 : Int32)) (.int hv1) (.int (0 : Int32)))) :: (bk1, ArC Z .byte [.int (98 : Int32)]) :: (sk2, ObC Z "java/lang/String" (fs_String (.ref bk2) (.int (0 : Int32)) (.int hv2) (.int (0 : Int32)))) :: (bk2, ArC Z .byte [.int (99 : Int32)]) :: F)) :
    Con l Z n0 ⟨"com/example/inq2/inq2/JudgedRanking", "<init>", "(Ljava/util/List;Ljava/util/Map;)V"⟩ [] prog_8_method_1_code 7 none ({ frames := 6, cells := 8, slots := 21, locals := 100 } : Room) #[.ref jr, .ref a, .ref m0] h0 (fun v h => ∃ (ra bi : Addr) (zs : List Int32) (J : List HRow), v = none ∧ zs.length = 0 ∧ Hp Z n0 h ((jr, ObC Z "com/example/inq2/inq2/JudgedRanking" (fs_JudgedRanking (.ref ra) (.ref bi))) :: (ra, IaC Z ([r0, r1, r2] : List Int32)) :: (bi, IaC Z zs) :: J)) := by
  refine con_of (plainFor_of_name pn_JudgedRanking) ?_
  intro p e s m below meth c T0 W0 e0
  subst e0
  have H0 := H00
  refine g_cast (ef_rrr7 m jr a m0) ?_
  refine g_aloadN W0 d11_0 (pc' := 1) rfl rfl rfl ?_
  refine g_initO W0 (wd_72 hw) (wd_20 hw) (wd_21 hw) H0 rfl d11_1 (pc' := 4) rfl (by decide) (Wn := 0) (Nat.le_of_eq rfl) (by decide) ?_
  intro T1 W1 H1
  refine g_aloadN W1 d11_4 (pc' := 5) rfl rfl rfl ?_
  refine g_aloadN W1 d11_5 (pc' := 6) rfl rfl rfl ?_
  have H2f := Hp.fr1 H1
  refine g_callF W1 (argsL := []) (st := [.ref jr]) (wd_73 hw) (wd_74 hw) (fun _ _ hZ => mvT hZ (wd_75 hw)) (wd_76 hw) (wd_77 hw) (wd_78 hw) (wd_79 hw) (wd_80 hw) (wd_44 hw) (wd_81 hw) (by decide) (a := a) (H2f.exa (i := 0) rfl) (c_size l Z a0 hw n0 a el mcL (3 : Int32) _ _ H2f) pd_5 rfl rfl rfl d11_6 (pc' := 11) rfl (by decide) (Wn := 1) (Nat.le_of_eq rfl) (by decide) (kc' := 0) (ks' := 0) rfl rfl (by decide) (by decide) ?_
  intro T3 v3 W3 hp3
  obtain ⟨rfl, H3⟩ := hp3
  show Goes _ _ _ _ (State.setTop _ (mkF _ _ _ [.int (3 : Int32), .ref jr]))
  refine g_newarrI W3 (wd_84 hw) H3 (by decide) (n := 3) (by decide) (cap := 4) (by decide) (by decide) d11_11 (pc' := 13) rfl (kc' := 1) (ks' := 4) rfl rfl (by decide) (by decide) ?_
  intro T4 a4 W4 H4
  refine g_putf W4 (wd_85 hw) Via.refl (Or.inr ⟨(wd_86 hw), rfl, rfl⟩) (wd_67 hw) (ty := (.array .int)) (by decide) rfl rfl H4 (i := 2) rfl (jx := 0) rfl d11_13 (pc' := 16) rfl (L' := ((a4, IaC Z (List.replicate 3 0)) :: (a, ObC Z "java/util/ArrayList" (fs_ArrayList (.int mcL) (.ref el) (.int (3 : Int32)))) :: (jr, ObC Z "com/example/inq2/inq2/JudgedRanking" (fs_JudgedRanking (.ref a4) .null)) :: (el, RaC Z "java/lang/Object" lv) :: (m0, ObC Z "java/util/HashMap" (fs_HashMap (.float (1061158912 : UInt32)) (.int (0 : Int32)) .null (.int mc) .null (.int (0 : Int32)))) :: (sk0, ObC Z "java/lang/String" (fs_String (.ref bk0) (.int (0 : Int32)) (.int hv0) (.int (0 : Int32)))) :: (bk0, ArC Z .byte [.int (97 : Int32)]) :: (sk1, ObC Z "java/lang/String" (fs_String (.ref bk1) (.int (0 : Int32)) (.int hv1) (.int (0 : Int32)))) :: (bk1, ArC Z .byte [.int (98 : Int32)]) :: (sk2, ObC Z "java/lang/String" (fs_String (.ref bk2) (.int (0 : Int32)) (.int hv2) (.int (0 : Int32)))) :: (bk2, ArC Z .byte [.int (99 : Int32)]) :: F)) rfl ?_
  intro T5 W5 H5
  refine g_iconst W5 d11_16 (pc' := 17) rfl (v := (0 : Int32)) (by decide) ?_
  refine g_istoreN W5 d11_17 (pc' := 18) rfl (ls' := #[.val (.ref jr), .val (.ref a), .val (.ref m0), .val (.int (0 : Int32)), .unset, .unset, .unset]) rfl ?_
  have H6f := Hp.fr4 H5
  have H7f := Hp.fr4 H6f
  have H8f := Hp.fr3 H7f
  have H9f := Hp.fr4 H8f
  refine jr_turnz l Z a0 hw n0 cs hS hcs ca cc hH hCa hB jr a el m0 a4 sk0 d0 mcL mc (3 : Int32) (0 : Int32) (1 : Int32) r0 lv ([0, 0, 0] : List Int32) ([r0, 0, 0] : List Int32) 0 sc0 _ (by decide) (by decide) (by decide) (by decide) rfl (by exact (by decide : 0 < 3)) rfl hl0 (mc6 hd0) hb0 _ p e _ s m below meth c _ _ _ (by decide) (by decide) (by decide) (by decide) ?_ _ W5 H9f
  intro T10 G0 W10 H10
  replace H10 := sw5_6 H10
  have H11f := Hp.fr4 H10
  have H12f := Hp.fr4 H11f
  have H13f := Hp.fr4 H12f
  have H14f := Hp.fr4 H13f
  have H15f := Hp.fr4 H14f
  refine jr_turnz l Z a0 hw n0 cs hS hcs ca cc hH hCa hB jr a el m0 a4 sk1 d1 mcL mc (3 : Int32) (1 : Int32) (2 : Int32) r1 lv ([r0, 0, 0] : List Int32) ([r0, r1, 0] : List Int32) 1 sc1 _ (by decide) (by decide) (by decide) (by decide) rfl (by exact (by decide : 1 < 3)) rfl hl1 (mc6 (List.mem_append_right G0 hd1)) hb1 _ p e _ s m below meth c _ _ _ (by decide) (by decide) (by decide) (by decide) ?_ _ W10 H15f
  intro T16 G1 W16 H16
  replace H16 := sw5_6 H16
  have H17f := Hp.fr4 H16
  have H18f := Hp.fr4 H17f
  have H19f := Hp.fr4 H18f
  have H20f := Hp.fr4 H19f
  have H21f := Hp.fr4 H20f
  refine jr_turnz l Z a0 hw n0 cs hS hcs ca cc hH hCa hB jr a el m0 a4 sk2 d2 mcL mc (3 : Int32) (2 : Int32) (3 : Int32) r2 lv ([r0, r1, 0] : List Int32) ([r0, r1, r2] : List Int32) 2 sc2 _ (by decide) (by decide) (by decide) (by decide) rfl (by exact (by decide : 2 < 3)) rfl hl2 (mc6 (List.mem_append_right G1 (List.mem_append_right G0 hd2))) hb2 _ p e _ s m below meth c _ _ _ (by decide) (by decide) (by decide) (by decide) ?_ _ W16 H21f
  intro T22 G2 W22 H22
  replace H22 := sw5_6 H22
  refine g_iloadN W22 d11_18 (pc' := 19) rfl rfl ?_
  refine g_aloadN W22 d11_19 (pc' := 20) rfl rfl rfl ?_
  refine g_getf W22 (wd_85 hw) Via.refl H22 (i := 0) rfl (jx := 0) rfl d11_20 (pc' := 23) rfl ?_
  intro T23 W23 H23
  refine g_arrlenI W23 H23 (i := 4) rfl (x := (3 : Int32)) rfl d11_23 (pc' := 24) rfl ?_
  refine g_icmp W23 d11_24 (pcy := 68) (by decide) (pc' := 27) rfl (fun _ => ?_) (fun (h : ¬ ¬ (3 : Int32) < (3 : Int32)) => absurd h (by decide))
  have H24f := Hp.fr4 H23
  have H25f := Hp.fr1 H24f
  have H26f := Hp.fr4 H25f
  exact jr_secz l Z a0 hw n0 jr a m0 tb a4 sz mc thr (3 : Int32) vs bs ([r0, r1, r2] : List Int32) _ _ p e _ s m below meth c _ _ (by decide) (by decide) (by decide) (by decide) _ W23 H26f
theorem c_jr3t (l : Launch) (Z : State) (a0 : Array Value) (hw : ∀ d ∈ tables_1, d.before a0 Z = true) (n0 : Nat) (cs : Int32) (hS : Sta Z Z.heap "java/lang/String" "COMPACT_STRINGS" "Z" (.int cs)) (hcs : ¬ cs = 0) (ca : Addr) (cc : Cell) (hH : Sta Z Z.heap "java/lang/Integer$IntegerCache" "high" "I" (.int 127)) (hCa : Sta Z Z.heap "java/lang/Integer$IntegerCache" "cache" "[Ljava/lang/Integer;" (.ref ca)) (hB : Bxs Z ca cc "java/lang/Integer" "I" (256 : Int32) (fun j => .int (j - 128))) (jr a el m0 tb : Addr) (mcL sz mc thr : Int32) (lv vs : List Value) (bs : List (Option Int32)) (F : List HRow) (sk0 bk0 d0 : Addr) (sc0 : UInt64) (hv0 r0 : Int32) (hl0 : lv[0]? = some (.ref d0)) (hd0 : (d0, ObC Z "com/example/inq2/inq2/ScoredDocument" (fs_ScoredDocument (.ref sk0) (.double sc0))) ∈ F) (hh0 : hv0 = 0 ∨ hv0 = (97 : Int32)) (hb0 : JB Z n0 F vs[1]? (97 : Int32) sk0 r0) (sk1 bk1 d1 : Addr) (sc1 : UInt64) (hv1 r1 : Int32) (hl1 : lv[1]? = some (.ref d1)) (hd1 : (d1, ObC Z "com/example/inq2/inq2/ScoredDocument" (fs_ScoredDocument (.ref sk1) (.double sc1))) ∈ F) (hh1 : hv1 = 0 ∨ hv1 = (98 : Int32)) (hb1 : JB Z n0 F vs[2]? (98 : Int32) sk1 r1) (sk2 bk2 d2 : Addr) (sc2 : UInt64) (hv2 r2 : Int32) (hl2 : lv[2]? = some (.ref d2)) (hd2 : (d2, ObC Z "com/example/inq2/inq2/ScoredDocument" (fs_ScoredDocument (.ref sk2) (.double sc2))) ∈ F) (hh2 : hv2 = 0 ∨ hv2 = (99 : Int32)) (hb2 : JB Z n0 F vs[3]? (99 : Int32) sk2 r2) (hlen : vs.length.toInt32 = 16) (hl16 : vs.length = 16) (hrel : Rel Z n0 F vs bs) (hszn : sz.toInt = (own_refs bs : Int)) (hsz4 : own_refs bs ≤ 4) (hszp : (0 : Int32) < sz)  (h0 : Heap) (H00 : Hp Z n0 h0 ((jr, ObC Z "com/example/inq2/inq2/JudgedRanking" (fs_JudgedRanking .null .null)) :: (a, ObC Z "java/util/ArrayList" (fs_ArrayList (.int mcL) (.ref el) (.int (3 : Int32)))) :: (el, RaC Z "java/lang/Object" lv) :: (m0, ObC Z "java/util/HashMap" (fs_HashMap (.float (1061158912 : UInt32)) (.int sz) .null (.int mc) (.ref tb) (.int thr))) :: (tb, RaC Z "java/util/HashMap$Node" vs) :: (sk0, ObC Z "java/lang/String" (fs_String (.ref bk0) (.int (0 : Int32)) (.int hv0) (.int (0 : Int32)))) :: (bk0, ArC Z .byte [.int (97 : Int32)]) :: (sk1, ObC Z "java/lang/String" (fs_String (.ref bk1) (.int (0 : Int32)) (.int hv1) (.int (0 : Int32)))) :: (bk1, ArC Z .byte [.int (98 : Int32)]) :: (sk2, ObC Z "java/lang/String" (fs_String (.ref bk2) (.int (0 : Int32)) (.int hv2) (.int (0 : Int32)))) :: (bk2, ArC Z .byte [.int (99 : Int32)]) :: F)) :
    Con l Z n0 ⟨"com/example/inq2/inq2/JudgedRanking", "<init>", "(Ljava/util/List;Ljava/util/Map;)V"⟩ [] prog_8_method_1_code 7 none ({ frames := 6, cells := 8, slots := 21, locals := 100 } : Room) #[.ref jr, .ref a, .ref m0] h0 (fun v h => ∃ (ra bi : Addr) (zs : List Int32) (J : List HRow), v = none ∧ zs.length = own_pos bs ∧ Hp Z n0 h ((jr, ObC Z "com/example/inq2/inq2/JudgedRanking" (fs_JudgedRanking (.ref ra) (.ref bi))) :: (ra, IaC Z ([r0, r1, r2] : List Int32)) :: (bi, IaC Z zs) :: J)) := by
  refine con_of (plainFor_of_name pn_JudgedRanking) ?_
  intro p e s m below meth c T0 W0 e0
  subst e0
  have H0 := H00
  refine g_cast (ef_rrr7 m jr a m0) ?_
  refine g_aloadN W0 d11_0 (pc' := 1) rfl rfl rfl ?_
  refine g_initO W0 (wd_72 hw) (wd_20 hw) (wd_21 hw) H0 rfl d11_1 (pc' := 4) rfl (by decide) (Wn := 0) (Nat.le_of_eq rfl) (by decide) ?_
  intro T1 W1 H1
  refine g_aloadN W1 d11_4 (pc' := 5) rfl rfl rfl ?_
  refine g_aloadN W1 d11_5 (pc' := 6) rfl rfl rfl ?_
  have H2f := Hp.fr1 H1
  refine g_callF W1 (argsL := []) (st := [.ref jr]) (wd_73 hw) (wd_74 hw) (fun _ _ hZ => mvT hZ (wd_75 hw)) (wd_76 hw) (wd_77 hw) (wd_78 hw) (wd_79 hw) (wd_80 hw) (wd_44 hw) (wd_81 hw) (by decide) (a := a) (H2f.exa (i := 0) rfl) (c_size l Z a0 hw n0 a el mcL (3 : Int32) _ _ H2f) pd_5 rfl rfl rfl d11_6 (pc' := 11) rfl (by decide) (Wn := 1) (Nat.le_of_eq rfl) (by decide) (kc' := 0) (ks' := 0) rfl rfl (by decide) (by decide) ?_
  intro T3 v3 W3 hp3
  obtain ⟨rfl, H3⟩ := hp3
  show Goes _ _ _ _ (State.setTop _ (mkF _ _ _ [.int (3 : Int32), .ref jr]))
  refine g_newarrI W3 (wd_84 hw) H3 (by decide) (n := 3) (by decide) (cap := 4) (by decide) (by decide) d11_11 (pc' := 13) rfl (kc' := 1) (ks' := 4) rfl rfl (by decide) (by decide) ?_
  intro T4 a4 W4 H4
  refine g_putf W4 (wd_85 hw) Via.refl (Or.inr ⟨(wd_86 hw), rfl, rfl⟩) (wd_67 hw) (ty := (.array .int)) (by decide) rfl rfl H4 (i := 2) rfl (jx := 0) rfl d11_13 (pc' := 16) rfl (L' := ((a4, IaC Z (List.replicate 3 0)) :: (a, ObC Z "java/util/ArrayList" (fs_ArrayList (.int mcL) (.ref el) (.int (3 : Int32)))) :: (jr, ObC Z "com/example/inq2/inq2/JudgedRanking" (fs_JudgedRanking (.ref a4) .null)) :: (el, RaC Z "java/lang/Object" lv) :: (m0, ObC Z "java/util/HashMap" (fs_HashMap (.float (1061158912 : UInt32)) (.int sz) .null (.int mc) (.ref tb) (.int thr))) :: (tb, RaC Z "java/util/HashMap$Node" vs) :: (sk0, ObC Z "java/lang/String" (fs_String (.ref bk0) (.int (0 : Int32)) (.int hv0) (.int (0 : Int32)))) :: (bk0, ArC Z .byte [.int (97 : Int32)]) :: (sk1, ObC Z "java/lang/String" (fs_String (.ref bk1) (.int (0 : Int32)) (.int hv1) (.int (0 : Int32)))) :: (bk1, ArC Z .byte [.int (98 : Int32)]) :: (sk2, ObC Z "java/lang/String" (fs_String (.ref bk2) (.int (0 : Int32)) (.int hv2) (.int (0 : Int32)))) :: (bk2, ArC Z .byte [.int (99 : Int32)]) :: F)) rfl ?_
  intro T5 W5 H5
  refine g_iconst W5 d11_16 (pc' := 17) rfl (v := (0 : Int32)) (by decide) ?_
  refine g_istoreN W5 d11_17 (pc' := 18) rfl (ls' := #[.val (.ref jr), .val (.ref a), .val (.ref m0), .val (.int (0 : Int32)), .unset, .unset, .unset]) rfl ?_
  have H6f := Hp.fr7 H5
  have H7f := Hp.fr7 H6f
  have H8f := Hp.fr7 H7f
  have H9f := Hp.fr7 H8f
  have H10f := Hp.fr7 H9f
  have H11f := Hp.fr6 H10f
  have H12f := Hp.fr7 H11f
  refine jr_turnt l Z a0 hw n0 cs hS hcs ca cc hH hCa hB jr a el m0 a4 sk0 d0 mcL mc (3 : Int32) (0 : Int32) (1 : Int32) r0 lv ([0, 0, 0] : List Int32) ([r0, 0, 0] : List Int32) 0 sc0 _ (by decide) (by decide) (by decide) (by decide) rfl (by exact (by decide : 0 < 3)) rfl hl0 (mc4 hd0) tb bk0 sz thr (97 : Int32) hv0 vs 1 keyA hh0 hlen (by decide) (by decide) (hb0.mono (fun r hr => (mc4 hr))) _ p e _ s m below meth c _ _ _ (by decide) (by decide) (by decide) (by decide) ?_ _ W5 H12f
  intro T13 G0 W13 H13
  replace H13 := sw8_4 H13
  have H14f := Hp.fr7 H13
  have H15f := Hp.fr9 H14f
  have H16f := Hp.fr9 H15f
  have H17f := Hp.fr7 H16f
  have H18f := Hp.fr7 H17f
  have H19f := Hp.fr7 H18f
  have H20f := Hp.fr7 H19f
  have H21f := Hp.fr7 H20f
  refine jr_turnt l Z a0 hw n0 cs hS hcs ca cc hH hCa hB jr a el m0 a4 sk1 d1 mcL mc (3 : Int32) (1 : Int32) (2 : Int32) r1 lv ([r0, 0, 0] : List Int32) ([r0, r1, 0] : List Int32) 1 sc1 _ (by decide) (by decide) (by decide) (by decide) rfl (by exact (by decide : 1 < 3)) rfl hl1 (mc4 (List.mem_append_right G0 hd1)) tb bk1 sz thr (98 : Int32) hv1 vs 2 keyB hh1 hlen (by decide) (by decide) (hb1.mono (fun r hr => (mc4 (List.mem_append_right G0 hr)))) _ p e _ s m below meth c _ _ _ (by decide) (by decide) (by decide) (by decide) ?_ _ W13 H21f
  intro T22 G1 W22 H22
  replace H22 := sw8_4 H22
  have H23f := Hp.fr7 H22
  have H24f := Hp.fr11 H23f
  have H25f := Hp.fr11 H24f
  have H26f := Hp.fr7 H25f
  have H27f := Hp.fr7 H26f
  have H28f := Hp.fr7 H27f
  have H29f := Hp.fr7 H28f
  have H30f := Hp.fr7 H29f
  refine jr_turnt l Z a0 hw n0 cs hS hcs ca cc hH hCa hB jr a el m0 a4 sk2 d2 mcL mc (3 : Int32) (2 : Int32) (3 : Int32) r2 lv ([r0, r1, 0] : List Int32) ([r0, r1, r2] : List Int32) 2 sc2 _ (by decide) (by decide) (by decide) (by decide) rfl (by exact (by decide : 2 < 3)) rfl hl2 (mc4 (List.mem_append_right G1 (List.mem_append_right G0 hd2))) tb bk2 sz thr (99 : Int32) hv2 vs 3 keyC hh2 hlen (by decide) (by decide) (hb2.mono (fun r hr => (mc4 (List.mem_append_right G1 (List.mem_append_right G0 hr))))) _ p e _ s m below meth c _ _ _ (by decide) (by decide) (by decide) (by decide) ?_ _ W22 H30f
  intro T31 G2 W31 H31
  replace H31 := sw8_4 H31
  refine g_iloadN W31 d11_18 (pc' := 19) rfl rfl ?_
  refine g_aloadN W31 d11_19 (pc' := 20) rfl rfl rfl ?_
  refine g_getf W31 (wd_85 hw) Via.refl H31 (i := 0) rfl (jx := 0) rfl d11_20 (pc' := 23) rfl ?_
  intro T32 W32 H32
  refine g_arrlenI W32 H32 (i := 7) rfl (x := (3 : Int32)) rfl d11_23 (pc' := 24) rfl ?_
  refine g_icmp W32 d11_24 (pcy := 68) (by decide) (pc' := 27) rfl (fun _ => ?_) (fun (h : ¬ ¬ (3 : Int32) < (3 : Int32)) => absurd h (by decide))
  have H33f := Hp.fr7 H32
  have H34f := Hp.fr1 H33f
  have H35f := Hp.fr5 H34f
  have H36f := Hp.fr5 H35f
  exact jr_sect l Z a0 hw n0 jr a m0 tb a4 sz mc thr (3 : Int32) vs bs ([r0, r1, r2] : List Int32) _ hlen hl16 (hrel.mono (fun r hr => (mc8 (List.mem_append_right G2 (List.mem_append_right G1 (List.mem_append_right G0 hr)))))) hszn hsz4 hszp _ p e _ s m below meth c _ _ (by decide) (by decide) (by decide) (by decide) _ W32 H36f

def own_vs (x0 x1 x2 x3 : Value) : List Value := [.null, x0, x1, x2, x3, .null, .null, .null, .null, .null, .null, .null, .null, .null, .null, .null]
def own_bs (j0 j1 j2 j3 : Option Int32) : List (Option Int32) := [none, j0, j1, j2, j3, none, none, none, none, none, none, none, none, none, none, none]
theorem vs_16 (x0 x1 x2 x3 : Value) : (own_vs x0 x1 x2 x3).length = 16 := rfl
theorem vs_len (x0 x1 x2 x3 : Value) : (own_vs x0 x1 x2 x3).length.toInt32 = 16 := by rw [vs_16] <;> decide
/-- what the law puts into the map under a key: b its bit, r its value -/
def own_j (b r : Int32) : Option Int32 := if b = 0 then none else some r
theorem own_j0 {b r : Int32} (h : b = 0) : own_j b r = none := if_pos h
theorem own_j1 {b r : Int32} (h : ¬ b = 0) : own_j b r = some r := if_neg h
def own_g : Option Int32 → Int32
  | none => 0
  | some x => x
theorem own_g0 {b r : Int32} (h : b = 0) : own_g (own_j b r) = 0 := by rw [own_j0 h] <;> rfl
def own_p : Option Int32 → Nat
  | none => 0
  | some x => if x < 1 then 0 else 1
theorem own_pn : own_p none = 0 := rfl
theorem own_p0 {x : Int32} (h : x < 1) : own_p (some x) = 0 := if_pos h
theorem own_p1 {x : Int32} (h : ¬ x < 1) : own_p (some x) = 1 := if_neg h
theorem own_ple (j : Option Int32) : own_p j ≤ 1 := by
  cases j with
  | none => exact Nat.zero_le _
  | some x => by_cases h : x < 1 <;> simp [own_p, h]
theorem own_pg (j : Option Int32) : (if own_g j < 1 then 0 else 1) = own_p j := by
  cases j with
  | none => exact if_pos (by decide)
  | some x => rfl
theorem refs4 (j0 j1 j2 j3 : Option Int32) : own_refs (own_bs j0 j1 j2 j3) ≤ 4 := by
  cases j0 <;> cases j1 <;> cases j2 <;> cases j3 <;> simp [own_bs, own_refs]
theorem refs_z0 {x : Int32} : own_refs (own_bs (some x) none none none) = 1 := rfl
theorem refs_z1 {x : Int32} : own_refs (own_bs none (some x) none none) = 1 := rfl
theorem refs_z2 {x : Int32} : own_refs (own_bs none none (some x) none) = 1 := rfl
theorem refs_z3 {x : Int32} : own_refs (own_bs none none none (some x)) = 1 := rfl
theorem refs_s1 {j0 : Option Int32} {x : Int32} : own_refs (own_bs j0 (some x) none none) = own_refs (own_bs j0 none none none) + 1 := by
  cases j0 <;> rfl
theorem refs_s2 {j0 j1 : Option Int32} {x : Int32} : own_refs (own_bs j0 j1 (some x) none) = own_refs (own_bs j0 j1 none none) + 1 := by
  cases j0 <;> cases j1 <;> rfl
theorem refs_s3 {j0 j1 j2 : Option Int32} {x : Int32} : own_refs (own_bs j0 j1 j2 (some x)) = own_refs (own_bs j0 j1 j2 none) + 1 := by
  cases j0 <;> cases j1 <;> cases j2 <;> rfl
theorem pos_eq (j0 j1 j2 j3 : Option Int32) : own_pos (own_bs j0 j1 j2 j3) = own_p j0 + own_p j1 + own_p j2 + own_p j3 := by
  cases j0 <;> cases j1 <;> cases j2 <;> cases j3 <;> simp only [own_bs, own_pos, own_p] <;> omega
theorem own_12 {sz : Int32} {n : Nat} (h : sz.toInt = (n : Int)) (h4 : n ≤ 4) : ¬ (12 : Int32) < sz + (1 : Int32) := by
  rw [Int32.lt_iff_toInt_lt, sc_i1 h (by omega), show (12 : Int32).toInt = 12 by decide]; omega
theorem own_gt0 {sz : Int32} {n : Nat} (h : sz.toInt = (n : Int)) (hn : 0 < n) : (0 : Int32) < sz := by
  rw [Int32.lt_iff_toInt_lt, h, so_0]; omega
/-- what stands in a bucket -/
def Bk (Z : State) (n0 : Nat) (G : List HRow) (q : Int32) (sk : Addr) (v : Value) (j : Option Int32) : Prop := (v = .null ∧ j = none) ∨ ∃ (nd ia : Addr) (x : Int32), v = .ref nd ∧ j = some x ∧ (nd, ObC Z "java/util/HashMap$Node" (fs_HashMap_Node (.int q) (.ref sk) (.ref ia) .null)) ∈ G ∧ IntF Z n0 G ia x
theorem Bk.mono {Z : State} {n0 : Nat} {G G' : List HRow} {q : Int32} {sk : Addr} {v : Value} {j : Option Int32} (h : Bk Z n0 G q sk v j) (s : ∀ r ∈ G, r ∈ G') : Bk Z n0 G' q sk v j := by
  rcases h with h | ⟨nd, ia, x, h1, h2, h3, h4⟩
  · exact Or.inl h
  · exact Or.inr ⟨nd, ia, x, h1, h2, s _ h3, h4.mono s⟩
theorem Bk.hb {Z : State} {n0 : Nat} {G F : List HRow} {q : Int32} {sk : Addr} {v : Value} {j : Option Int32} {vs : List Value} {k : Nat} (h : Bk Z n0 G q sk v j) (hk : vs[k]? = some v) (s : ∀ r ∈ G, r ∈ F) : JB Z n0 F vs[k]? q sk (own_g j) := by
  rcases h with ⟨rfl, rfl⟩ | ⟨nd, ia, x, rfl, rfl, h3, h4⟩
  · exact Or.inl ⟨hk, rfl⟩
  · exact Or.inr ⟨nd, ia, hk, s _ h3, h4.mono s⟩
theorem Bk.rel {Z : State} {n0 : Nat} {G : List HRow} {q : Int32} {sk : Addr} {v : Value} {j : Option Int32} (h : Bk Z n0 G q sk v j) : RelE Z n0 G v j := by
  rcases h with h | ⟨nd, ia, x, h1, h2, h3, h4⟩
  · exact Or.inl h
  · exact Or.inr ⟨nd, x, h1, h2, q, sk, ia, h3, h4⟩
theorem Rel.cons {Z : State} {n0 : Nat} {F : List HRow} {v : Value} {b : Option Int32} {vs : List Value} {bs : List (Option Int32)} (h : RelE Z n0 F v b) (t : Rel Z n0 F vs bs) : Rel Z n0 F (v :: vs) (b :: bs) := rel_cc.mpr ⟨h, t⟩
theorem Rel.nul {Z : State} {n0 : Nat} {F : List HRow} {vs : List Value} {bs : List (Option Int32)} (t : Rel Z n0 F vs bs) : Rel Z n0 F (.null :: vs) (Option.none :: bs) := rel_cc.mpr ⟨Or.inl ⟨rfl, rfl⟩, t⟩
theorem own_rel {Z : State} {n0 : Nat} {G : List HRow} {q0 q1 q2 q3 : Int32} {s0 s1 s2 s3 : Addr} {x0 x1 x2 x3 : Value} {j0 j1 j2 j3 : Option Int32} (h0 : Bk Z n0 G q0 s0 x0 j0) (h1 : Bk Z n0 G q1 s1 x1 j1) (h2 : Bk Z n0 G q2 s2 x2 j2) (h3 : Bk Z n0 G q3 s3 x3 j3) : Rel Z n0 G (own_vs x0 x1 x2 x3) (own_bs j0 j1 j2 j3) :=
  Rel.nul (Rel.cons h0.rel (Rel.cons h1.rel (Rel.cons h2.rel (Rel.cons h3.rel (Rel.nul (Rel.nul (Rel.nul (Rel.nul (Rel.nul (Rel.nul (Rel.nul (Rel.nul (Rel.nul (Rel.nul (Rel.nul rel_nn)))))))))))))))
/-- the list at the constructor's call -/
def LS (Z : State) (ela de s0 s1 s2 : Addr) (D : List HRow) (nn : Int32) : Prop := (nn = 0 ∧ ela = de) ∨ (∃ (lv : List Value) (D1 : List HRow) (d0 : Addr) (sc0 : UInt64), nn = 1 ∧ D = (ela, RaC Z "java/lang/Object" lv) :: D1 ∧ lv[0]? = some (.ref d0) ∧ (d0, ObC Z "com/example/inq2/inq2/ScoredDocument" (fs_ScoredDocument (.ref s0) (.double sc0))) ∈ D1) ∨ (∃ (lv : List Value) (D1 : List HRow) (d0 : Addr) (sc0 : UInt64) (d1 : Addr) (sc1 : UInt64), nn = 2 ∧ D = (ela, RaC Z "java/lang/Object" lv) :: D1 ∧ lv[0]? = some (.ref d0) ∧ (d0, ObC Z "com/example/inq2/inq2/ScoredDocument" (fs_ScoredDocument (.ref s0) (.double sc0))) ∈ D1 ∧ lv[1]? = some (.ref d1) ∧ (d1, ObC Z "com/example/inq2/inq2/ScoredDocument" (fs_ScoredDocument (.ref s1) (.double sc1))) ∈ D1) ∨ (∃ (lv : List Value) (D1 : List HRow) (d0 : Addr) (sc0 : UInt64) (d1 : Addr) (sc1 : UInt64) (d2 : Addr) (sc2 : UInt64), nn = 3 ∧ D = (ela, RaC Z "java/lang/Object" lv) :: D1 ∧ lv[0]? = some (.ref d0) ∧ (d0, ObC Z "com/example/inq2/inq2/ScoredDocument" (fs_ScoredDocument (.ref s0) (.double sc0))) ∈ D1 ∧ lv[1]? = some (.ref d1) ∧ (d1, ObC Z "com/example/inq2/inq2/ScoredDocument" (fs_ScoredDocument (.ref s1) (.double sc1))) ∈ D1 ∧ lv[2]? = some (.ref d2) ∧ (d2, ObC Z "com/example/inq2/inq2/ScoredDocument" (fs_ScoredDocument (.ref s2) (.double sc2))) ∈ D1)

theorem c_relv (l : Launch) (Z : State) (a0 : Array Value) (hw : ∀ d ∈ tables_1, d.before a0 Z = true) (n0 : Nat) (jr rra bi : Addr) (zs : List Int32) (h0 : Heap) (F : List HRow) (H00 : Hp Z n0 h0 ((jr, ObC Z "com/example/inq2/inq2/JudgedRanking" (fs_JudgedRanking (.ref rra) (.ref bi))) :: (bi, IaC Z zs) :: F)) :
    Con l Z n0 ⟨"com/example/inq2/inq2/JudgedRanking", "relevant", "()I"⟩ [] prog_8_method_3_code 1 (some .int) ({ frames := 0, cells := 0, slots := 0, locals := 0 } : Room) #[.ref jr] h0 (fun v h => v = some (.int (zs.length.toInt32)) ∧ Hp Z n0 h ((jr, ObC Z "com/example/inq2/inq2/JudgedRanking" (fs_JudgedRanking (.ref rra) (.ref bi))) :: (bi, IaC Z zs) :: F)) := by
  refine con_of (plainFor_of_name pn_JudgedRanking) ?_
  intro p e s m below meth c T0 W0 e0
  subst e0
  have H0 := H00
  refine g_cast (ef_r1 m jr) ?_
  refine g_aloadN W0 d27_0 (pc' := 1) rfl rfl rfl ?_
  refine g_getf W0 (wd_179 hw) Via.refl H0 (i := 0) rfl (jx := 1) rfl d27_1 (pc' := 4) rfl ?_
  intro T1 W1 H1
  refine g_arrlenI W1 H1 (i := 1) rfl (x := (zs.length.toInt32)) rfl d27_4 (pc' := 5) rfl ?_
  exact g_ireturn W1 d27_5 ⟨rfl, H1⟩ (by decide) (by decide)

theorem sc_tlI {r vs : List Int32} {v : Int32} {i0 : Nat} (h : ∀ t z, (v :: r)[t]? = some z → vs[i0 + t]? = some z) : ∀ t z, r[t]? = some z → vs[i0 + 1 + t]? = some z := fun t z q => by
  have := h (t + 1) z (by simpa using q)
  rwa [show i0 + (t + 1) = i0 + 1 + t by omega] at this
theorem own_nz {r : Int32} (h : ¬ r = 0) : r ≠ 0 := h
theorem own_dnz {r : Int32} (hr : r ≠ 0) : NoNaN64 (FP.i2d r) := (i2d_fin r).noNaN


theorem own_q {k : UInt64} {r : Int32} (hk : Mag64 1056 k) (hr : ¬ r = 0) : Mag64 1100 (FP.ddiv k (FP.i2d r)) := by
  have hb : Big64 1023 (FP.i2d r) := by rw [i2d_w]; exact l2d_big (fun q => hr (Int32.toInt_inj.mp (by have := congrArg Int64.toInt q; rwa [Int32.toInt_toInt64] at this)))
  exact (ddiv_mag hk hb (by decide) (by decide)).mono (by decide)
theorem own_m0 : Mag64 1100 0 := by unfold Mag64; decide
theorem own_i1 : FP.i2d 1 = (4607182418800017408 : UInt64) := by decide +kernel
theorem own_i2 : FP.i2d 2 = (4611686018427387904 : UInt64) := by decide +kernel
theorem own_i3 : FP.i2d 3 = (4613937818241073152 : UInt64) := by decide +kernel
theorem own_madd {K K' : Nat} {a b : UInt64} (ha : Mag64 K a) (hb : Mag64 1100 b) (h1 : 1100 ≤ K) (hK : K ≤ 1500) (h : K + 2 ≤ K') : Mag64 K' (FP.dadd a b) := (dadd_mag ha (hb.mono h1) (by omega)).mono h
theorem own_nn {K : Nat} {a : UInt64} (h : Mag64 K a) (hK : K ≤ 2047) : NoNaN64 a := (h.fin hK).noNaN
theorem own_div {K : Nat} {a : UInt64} {r : Int32} (ha : Mag64 K a) (hK : K ≤ 1200) (hr : ¬ r = 0) : NoNaN64 (FP.ddiv a (FP.i2d r)) := by
  refine ddiv_out (own_nn ha (by omega)) (i2d_fin r) ?_
  exact nz64_core.mpr (fun q => absurd ((Jvm.FP.Core.zero_bits2 _).mp q) (Jvm.FP.Core.i2d_ne_zero hr))
theorem own_d0 {v : Int32} : Mag64 1100 (FP.ddiv (FP.i2d v) (4607182418800017408 : UInt64)) := by rw [← own_i1]; exact own_q (i2d_mag v) (by decide)
theorem own_d1 {v : Int32} : Mag64 1100 (FP.ddiv (FP.i2d v) (4611686018427387904 : UInt64)) := by rw [← own_i2]; exact own_q (i2d_mag v) (by decide)
theorem own_d2 {v : Int32} : Mag64 1100 (FP.ddiv (FP.i2d v) (4613937818241073152 : UInt64)) := by rw [← own_i3]; exact own_q (i2d_mag v) (by decide)
/-- one document: w says whether it counts -/
def stp (w : Int32) (d : UInt64) (n : Int32) (t : UInt64) : Int32 × UInt64 := if w = 0 then (n, t) else (n + 1, FP.dadd t (FP.ddiv (FP.i2d (n + 1)) d))
theorem stp0 {w n : Int32} {d t : UInt64} (h : w = 0) : stp w d n t = (n, t) := if_pos h
theorem stp1 {w n : Int32} {d t : UInt64} (h : ¬ w = 0) : stp w d n t = (n + 1, FP.dadd t (FP.ddiv (FP.i2d (n + 1)) d)) := if_neg h
def own_f (r : Int32) : Int32 := if r < 1 then 0 else 1
def own_ap : List Int32 → Int32 → Int32 → UInt64 → UInt64
  | [], _, _, t => t
  | r :: rs, i, n, t => own_ap rs (i + 1) (stp (own_f r) (FP.i2d (i + 1)) n t).1 (stp (own_f r) (FP.i2d (i + 1)) n t).2
theorem own_ap0 {r i n : Int32} {rs : List Int32} {t : UInt64} (h : r < 1) : own_ap (r :: rs) i n t = own_ap rs (i + 1) n t := by
  show own_ap rs (i + 1) (stp (own_f r) (FP.i2d (i + 1)) n t).1 (stp (own_f r) (FP.i2d (i + 1)) n t).2 = _
  rw [stp0 (show own_f r = 0 from if_pos h)]
theorem own_ap1 {r i n : Int32} {rs : List Int32} {t : UInt64} (h : ¬ r < 1) : own_ap (r :: rs) i n t = own_ap rs (i + 1) (n + 1) (FP.dadd t (FP.ddiv (FP.i2d (n + 1)) (FP.i2d (i + 1)))) := by
  show own_ap rs (i + 1) (stp (own_f r) (FP.i2d (i + 1)) n t).1 (stp (own_f r) (FP.i2d (i + 1)) n t).2 = _
  rw [stp1 (show ¬ own_f r = 0 from fun q => by rw [show own_f r = 1 from if_neg h] at q; exact absurd q (by decide))]
def RecOk (g : UInt64) (t : Nat) (S : UInt64) : Prop := (t = 0 ∧ g = 0) ∨ (t ≠ 0 ∧ ∃ tt : Int32, tt.toInt = (t : Int) ∧ g = FP.ddiv S (FP.i2d tt))

theorem ap_loop (l : Launch) (Z : State) (a0 : Array Value) (hw : HW Z a0) (n0 : Nat) (jr rra bi : Addr) (rs zs : List Int32) (hr4 : rs.length ≤ 4) (hz4 : zs.length ≤ 4) (S : UInt64) (F : List HRow) (as0 : Array Value)
    (p : Program) (e : Env) (R : Room) (s : State) (m : MethodId) (below : List Frame) (meth : Method) (c : Code) (k0 j0 : Nat) (hRf : 2 ≤ R.frames) (hRl : 40 ≤ R.locals) : ∀ (r : List Int32) (i ct : Int32) (i0 : Nat) (sm : UInt64) (T : State), i.toInt = (i0 : Int) → i0 + r.length = rs.length → (∀ t z, r[t]? = some z → rs[i0 + t]? = some z) → Mag64 (1100 + 2 * i0) sm → own_ap r i ct sm = S →
    Wk Z ⟨"com/example/inq2/inq2/JudgedRanking", "averagePrecision", "()D"⟩ prog_8_method_5_code 5 (some .double) n0 p l e R s m as0 below meth c T 0 0 → Hp Z n0 T.heap ((jr, ObC Z "com/example/inq2/inq2/JudgedRanking" (fs_JudgedRanking (.ref rra) (.ref bi))) :: (rra, IaC Z rs) :: (bi, IaC Z zs) :: F) → Goes p e below (En s n0 k0 j0 (fun v h => ∃ g : UInt64, v = some (.double g) ∧ RecOk g zs.length S ∧ Hp Z n0 h ((jr, ObC Z "com/example/inq2/inq2/JudgedRanking" (fs_JudgedRanking (.ref rra) (.ref bi))) :: (rra, IaC Z rs) :: (bi, IaC Z zs) :: F))) (T.setTop (mkF m 7 #[.val (.ref jr), .val (.double sm), .second, .val (.int ct), .val (.int i)] [])) := by
  intro r
  have hn : (rs.length.toInt32).toInt = (rs.length : Int) := len_toInt (by omega)
  have hzi : (zs.length.toInt32).toInt = (zs.length : Int) := len_toInt (by omega)
  induction r with
  | nil =>
    intro i ct i0 sm T hi hr hrs hm hS W H
    have hr0 : i0 = rs.length := by simpa using hr
    have hS0 : sm = S := hS
    refine g_iload W d26_7 (pc' := 9) rfl rfl ?_
    refine g_aloadN W d26_9 (pc' := 10) rfl rfl rfl ?_
    refine g_getf W (wd_85 hw) Via.refl H (i := 0) rfl (jx := 0) rfl d26_10 (pc' := 13) rfl ?_
    intro T1 W1 H1
    refine g_arrlenI W1 H1 (i := 1) rfl (x := (rs.length.toInt32)) rfl d26_13 (pc' := 14) rfl ?_
    refine g_icmp W1 d26_14 (pcy := 48) (by decide) (pc' := 17) rfl (fun (_ : ¬ i < (rs.length.toInt32)) => ?_) (fun (h : ¬ ¬ i < (rs.length.toInt32)) => absurd (Classical.not_not.mp h) (by rw [Int32.lt_iff_toInt_lt, hi, hn]; omega))
    refine g_aloadN W1 d26_48 (pc' := 49) rfl rfl rfl ?_
    have H2f := Hp.fr2 H1
    have H3f := Hp.fr1 H2f
    refine g_callV W1 (argsL := []) (st := []) (wd_202 hw) (wd_203 hw) (wd_205 hw) (wd_204 hw) (wd_68 hw) (wd_206 hw) (by decide) (a := jr) H3f (i := 0) rfl (c_relv l Z a0 hw n0 jr rra bi zs _ _ H3f) pd_5 rfl rfl rfl d26_49 (pc' := 52) rfl (Nat.le_trans (by decide) hRf) (Wn := 0) (Nat.le_of_eq rfl) (Nat.le_trans (by decide) hRl) (kc' := 0) (ks' := 0) rfl rfl (Nat.zero_le _) (Nat.zero_le _) ?_
    intro T4 v4 W4 hp4
    obtain ⟨rfl, H4⟩ := hp4
    show Goes _ _ _ _ (State.setTop _ (mkF _ _ _ [.int (zs.length.toInt32)]))
    refine g_if W4 d26_52 (pcy := 59) (by decide) (pc' := 55) rfl (fun (c5 : ¬ (zs.length.toInt32) = (0 : Int32)) => ?_) (fun (c5 : ¬ ¬ (zs.length.toInt32) = (0 : Int32)) => ?_)
    · refine g_dloadN W4 d26_59 (pc' := 60) rfl rfl ?_
      refine g_aloadN W4 d26_60 (pc' := 61) rfl rfl rfl ?_
      have H6f := Hp.fr1 H4
      have H7f := Hp.fr1 H6f
      refine g_callV W4 (argsL := []) (st := [.double sm]) (wd_202 hw) (wd_203 hw) (wd_205 hw) (wd_204 hw) (wd_68 hw) (wd_206 hw) (by decide) (a := jr) H7f (i := 0) rfl (c_relv l Z a0 hw n0 jr rra bi zs _ _ H7f) pd_5 rfl rfl rfl d26_61 (pc' := 64) rfl (Nat.le_trans (by decide) hRf) (Wn := 2) (Nat.le_of_eq rfl) (Nat.le_trans (by decide) hRl) (kc' := 0) (ks' := 0) rfl rfl (Nat.zero_le _) (Nat.zero_le _) ?_
      intro T8 v8 W8 hp8
      obtain ⟨rfl, H8⟩ := hp8
      show Goes _ _ _ _ (State.setTop _ (mkF _ _ _ [.int (zs.length.toInt32), .double sm]))
      refine g_i2d W8 d26_64 (pc' := 65) rfl rfl ?_
      refine g_ddiv W8 d26_65 (pc' := 66) rfl rfl (own_div hm (by omega) c5) ?_
      have H9f := Hp.fr1 H8
      have H10f := Hp.fr2 H9f
      have H11f := Hp.fr2 H10f
      exact g_dreturn W8 d26_66 ⟨_, rfl, Or.inr ⟨fun q => c5 (Int32.toInt_inj.mp (by rw [hzi, q]; decide)), (zs.length.toInt32), hzi, by rw [hS0]⟩, H11f⟩ (Nat.zero_le _) (Nat.zero_le _)
    · replace c5 := Classical.not_not.mp c5
      refine g_dconst0 W4 d26_55 (pc' := 56) rfl ?_
      refine g_goto W4 d26_56 (pc' := 66) (by decide) ?_
      have H12f := Hp.fr1 H4
      have H13f := Hp.fr2 H12f
      have H14f := Hp.fr2 H13f
      exact g_dreturn W4 d26_66 ⟨_, rfl, Or.inl ⟨by have q := congrArg Int32.toInt c5; rw [hzi, so_0] at q; omega, rfl⟩, H14f⟩ (Nat.zero_le _) (Nat.zero_le _)
  | cons z r ih =>
    intro i ct i0 sm T hi hr hrs hm hS W H
    have hr1 : i0 + 1 + r.length = rs.length := by simp only [List.length_cons] at hr; omega
    have hz : rs[i0]? = some z := hrs 0 z rfl
    have hi1 := sc_i1 hi (by omega)
    have hiz : ¬ i + (1 : Int32) = 0 := fun q => by rw [q, so_0] at hi1; omega
    refine g_iload W d26_7 (pc' := 9) rfl rfl ?_
    refine g_aloadN W d26_9 (pc' := 10) rfl rfl rfl ?_
    refine g_getf W (wd_85 hw) Via.refl H (i := 0) rfl (jx := 0) rfl d26_10 (pc' := 13) rfl ?_
    intro T15 W15 H15
    refine g_arrlenI W15 H15 (i := 1) rfl (x := (rs.length.toInt32)) rfl d26_13 (pc' := 14) rfl ?_
    refine g_icmp W15 d26_14 (pcy := 48) (by decide) (pc' := 17) rfl (fun (h : ¬ i < (rs.length.toInt32)) => absurd (show i < (rs.length.toInt32) by rw [Int32.lt_iff_toInt_lt, hi, hn]; omega) h) (fun (_ : ¬ ¬ i < (rs.length.toInt32)) => ?_)
    refine g_aloadN W15 d26_17 (pc' := 18) rfl rfl rfl ?_
    refine g_getf W15 (wd_85 hw) Via.refl H15 (i := 0) rfl (jx := 0) rfl d26_18 (pc' := 21) rfl ?_
    intro T16 W16 H16
    refine g_iload W16 d26_21 (pc' := 23) rfl rfl ?_
    refine g_ialoadI W16 H16 (i := 1) rfl (jx := i0) hi (u := z) hz d26_23 (pc' := 24) rfl ?_
    refine g_iconst W16 d26_24 (pc' := 25) rfl (v := (1 : Int32)) (by decide) ?_
    refine g_icmp W16 d26_25 (pcy := 42) (by decide) (pc' := 28) rfl (fun (c17 : z < (1 : Int32)) => ?_) (fun (c17 : ¬ z < (1 : Int32)) => ?_)
    · refine g_iinc W16 d26_42 (pc' := 45) rfl rfl (v := (i + (1 : Int32))) (by rfl) (ls' := #[.val (.ref jr), .val (.double sm), .second, .val (.int ct), .val (.int (i + (1 : Int32)))]) rfl ?_
      refine g_goto W16 d26_45 (pc' := 7) (by decide) ?_
      exact ih (i + (1 : Int32)) ct (i0 + 1) sm _ hi1 hr1 (sc_tlI hrs) (hm.mono (by omega)) (by rw [own_ap0 c17] at hS; exact hS) W16 H16
    · refine g_iinc W16 d26_28 (pc' := 31) rfl rfl (v := (ct + (1 : Int32))) (by rfl) (ls' := #[.val (.ref jr), .val (.double sm), .second, .val (.int (ct + (1 : Int32))), .val (.int i)]) rfl ?_
      refine g_dloadN W16 d26_31 (pc' := 32) rfl rfl ?_
      refine g_iloadN W16 d26_32 (pc' := 33) rfl rfl ?_
      refine g_i2d W16 d26_33 (pc' := 34) rfl rfl ?_
      refine g_iload W16 d26_34 (pc' := 36) rfl rfl ?_
      refine g_iconst W16 d26_36 (pc' := 37) rfl (v := (1 : Int32)) (by decide) ?_
      refine g_iadd W16 d26_37 (pc' := 38) rfl rfl ?_
      refine g_i2d W16 d26_38 (pc' := 39) rfl rfl ?_
      refine g_ddiv W16 d26_39 (pc' := 40) rfl rfl (own_div (i2d_mag _) (by decide) hiz) ?_
      refine g_dadd W16 d26_40 (pc' := 41) rfl rfl (own_nn (own_madd hm (own_q (i2d_mag _) hiz) (by omega) (by omega) (Nat.le_refl _)) (by omega)) ?_
      refine g_dstoreN W16 d26_41 (pc' := 42) rfl (ls' := #[.val (.ref jr), .val (.double (FP.dadd sm (FP.ddiv (FP.i2d (ct + (1 : Int32))) (FP.i2d (i + (1 : Int32)))))), .second, .val (.int (ct + (1 : Int32))), .val (.int i)]) rfl ?_
      refine g_iinc W16 d26_42 (pc' := 45) rfl rfl (v := (i + (1 : Int32))) (by rfl) (ls' := #[.val (.ref jr), .val (.double (FP.dadd sm (FP.ddiv (FP.i2d (ct + (1 : Int32))) (FP.i2d (i + (1 : Int32)))))), .second, .val (.int (ct + (1 : Int32))), .val (.int (i + (1 : Int32)))]) rfl ?_
      refine g_goto W16 d26_45 (pc' := 7) (by decide) ?_
      exact ih (i + (1 : Int32)) (ct + (1 : Int32)) (i0 + 1) _ _ hi1 hr1 (sc_tlI hrs) (own_madd hm (own_q (i2d_mag _) hiz) (by omega) (by omega) (by omega)) (by rw [own_ap1 c17] at hS; exact hS) W16 H16
theorem c_ap (l : Launch) (Z : State) (a0 : Array Value) (hw : ∀ d ∈ tables_1, d.before a0 Z = true) (n0 : Nat) (jr rra bi : Addr) (rs zs : List Int32) (hr4 : rs.length ≤ 4) (hz4 : zs.length ≤ 4) (h0 : Heap) (F : List HRow) (H00 : Hp Z n0 h0 ((jr, ObC Z "com/example/inq2/inq2/JudgedRanking" (fs_JudgedRanking (.ref rra) (.ref bi))) :: (rra, IaC Z rs) :: (bi, IaC Z zs) :: F)) :
    Con l Z n0 ⟨"com/example/inq2/inq2/JudgedRanking", "averagePrecision", "()D"⟩ [] prog_8_method_5_code 5 (some .double) ({ frames := 2, cells := 0, slots := 0, locals := 40 } : Room) #[.ref jr] h0 (fun v h => ∃ g : UInt64, v = some (.double g) ∧ RecOk g zs.length (own_ap rs 0 0 0) ∧ Hp Z n0 h ((jr, ObC Z "com/example/inq2/inq2/JudgedRanking" (fs_JudgedRanking (.ref rra) (.ref bi))) :: (rra, IaC Z rs) :: (bi, IaC Z zs) :: F)) := by
  refine con_of (plainFor_of_name pn_JudgedRanking) ?_
  intro p e s m below meth c T0 W0 e0
  subst e0
  have H0 := H00
  refine g_cast (ef_r5 m jr) ?_
  refine g_dconst0 W0 d26_0 (pc' := 1) rfl ?_
  refine g_dstoreN W0 d26_1 (pc' := 2) rfl (ls' := #[.val (.ref jr), .val (.double 0), .second, .unset, .unset]) rfl ?_
  refine g_iconst W0 d26_2 (pc' := 3) rfl (v := (0 : Int32)) (by decide) ?_
  refine g_istoreN W0 d26_3 (pc' := 4) rfl (ls' := #[.val (.ref jr), .val (.double 0), .second, .val (.int (0 : Int32)), .unset]) rfl ?_
  refine g_iconst W0 d26_4 (pc' := 5) rfl (v := (0 : Int32)) (by decide) ?_
  refine g_istore W0 d26_5 (pc' := 7) rfl (ls' := #[.val (.ref jr), .val (.double 0), .second, .val (.int (0 : Int32)), .val (.int (0 : Int32))]) rfl ?_
  exact ap_loop l Z a0 hw n0 jr rra bi rs zs hr4 hz4 _ F _ p e _ s m below meth c _ _ (by decide) (by decide) rs (0 : Int32) (0 : Int32) 0 0 _ (by decide) (Nat.zero_add _) (fun t z q => by rw [Nat.zero_add]; exact q) own_m0 rfl W0 H0

theorem own_nb0 {nn : Int32} (hn4 : nn = 0 ∨ nn = 1 ∨ nn = 2 ∨ nn = 3) (h0 : ¬ (0 : Int32) < nn) : nn = 0 := by
  revert h0; rcases hn4 with rfl | rfl | rfl | rfl <;> decide
theorem own_nb1 {nn : Int32} (hn4 : nn = 0 ∨ nn = 1 ∨ nn = 2 ∨ nn = 3) (h0 : (0 : Int32) < nn) (h1 : ¬ (1 : Int32) < nn) : nn = 1 := by
  revert h0 h1; rcases hn4 with rfl | rfl | rfl | rfl <;> decide
theorem own_nb2 {nn : Int32} (hn4 : nn = 0 ∨ nn = 1 ∨ nn = 2 ∨ nn = 3) (h0 : (0 : Int32) < nn) (h1 : (1 : Int32) < nn) (h2 : ¬ (2 : Int32) < nn) : nn = 2 := by
  revert h0 h1 h2; rcases hn4 with rfl | rfl | rfl | rfl <;> decide
theorem own_nb3 {nn : Int32} (hn4 : nn = 0 ∨ nn = 1 ∨ nn = 2 ∨ nn = 3) (h0 : (0 : Int32) < nn) (h1 : (1 : Int32) < nn) (h2 : (2 : Int32) < nn) : nn = 3 := by
  revert h0 h1 h2; rcases hn4 with rfl | rfl | rfl | rfl <;> decide
theorem own_add {u v : Int32} {a b : Int} (hu : u.toInt = a) (hv : v.toInt = b) (ha : 0 ≤ a) (ha2 : a ≤ 100) (hb : 0 ≤ b) (hb2 : b ≤ 100) : (u + v).toInt = a + b := by
  rw [Int32.toInt_add, hu, hv]; exact Kit.bmod32 (by omega) (by omega)
theorem own_uf {u : Int32} {j : Option Int32} (h : u.toInt = ((own_p j : Nat) : Int)) : u = own_f (own_g j) := by
  refine Int32.toInt_inj.mp (h.trans ?_)
  rw [← own_pg]
  by_cases q : own_g j < 1
  · rw [if_pos q, show own_f (own_g j) = 0 from if_pos q]; decide
  · rw [if_neg q, show own_f (own_g j) = 1 from if_neg q]; decide
theorem own_sum {nn u0 u1 u2 w0 w1 w2 n1 n2 n3 : Int32} {m1 m2 m3 : UInt64} {rs : List Int32} {j0 j1 j2 : Option Int32} (hrs : (nn = 0 ∧ rs = []) ∨ (nn = 1 ∧ rs = [own_g j0]) ∨ (nn = 2 ∧ rs = [own_g j0, own_g j1]) ∨ (nn = 3 ∧ rs = [own_g j0, own_g j1, own_g j2])) (b0 : u0.toInt = ((own_p j0 : Nat) : Int)) (b1 : u1.toInt = ((own_p j1 : Nat) : Int)) (b2 : u2.toInt = ((own_p j2 : Nat) : Int))
    (v0 : (if (0 : Int32) < nn then u0 else (0 : Int32)) = w0) (v1 : (if (1 : Int32) < nn then u1 else (0 : Int32)) = w1) (v2 : (if (2 : Int32) < nn then u2 else (0 : Int32)) = w2) (s1 : stp w0 (4607182418800017408 : UInt64) 0 0 = (n1, m1)) (s2 : stp w1 (4611686018427387904 : UInt64) n1 m1 = (n2, m2)) (s3 : stp w2 (4613937818241073152 : UInt64) n2 m2 = (n3, m3)) : m3 = own_ap rs 0 0 0 := by
  have f0 := own_uf b0
  have f1 := own_uf b1
  have f2 := own_uf b2
  have e1 : (0 : Int32) + 1 = 1 := by decide
  have e2 : (1 : Int32) + 1 = 2 := by decide
  have e3 : (2 : Int32) + 1 = 3 := by decide
  rcases hrs with ⟨rfl, rfl⟩ | ⟨rfl, rfl⟩ | ⟨rfl, rfl⟩ | ⟨rfl, rfl⟩
  · rw [if_neg (by decide)] at v0 v1 v2
    subst v0 v1 v2
    cases (stp0 rfl).symm.trans s1
    cases (stp0 rfl).symm.trans s2
    cases (stp0 rfl).symm.trans s3
    rfl
  · rw [if_pos (by decide)] at v0
    rw [if_neg (by decide)] at v1 v2
    subst v0 v1 v2
    cases (stp0 rfl).symm.trans s2
    cases (stp0 rfl).symm.trans s3
    simp only [own_ap]
    rw [← f0, e1, own_i1, s1]
  · rw [if_pos (by decide)] at v0 v1
    rw [if_neg (by decide)] at v2
    subst v0 v1 v2
    cases (stp0 rfl).symm.trans s3
    simp only [own_ap]
    rw [← f0, ← f1, e1, e2, own_i1, own_i2, s1]
    simp only []
    rw [s2]
  · rw [if_pos (by decide)] at v0 v1 v2
    subst v0 v1 v2
    simp only [own_ap]
    rw [← f0, ← f1, ← f2, e1, e2, e3, own_i1, own_i2, own_i3, s1]
    simp only []
    rw [s2]
    simp only []
    rw [s3]
theorem own_law {g m3 : UInt64} {u0 u1 u2 u3 : Int32} {rs zs : List Int32} {j0 j1 j2 j3 : Option Int32} (hrec : RecOk g zs.length (own_ap rs 0 0 0)) (hzs : zs.length = own_pos (own_bs j0 j1 j2 j3)) (hm : m3 = own_ap rs 0 0 0)
    (b0 : u0.toInt = ((own_p j0 : Nat) : Int)) (b1 : u1.toInt = ((own_p j1 : Nat) : Int)) (b2 : u2.toInt = ((own_p j2 : Nat) : Int)) (b3 : u3.toInt = ((own_p j3 : Nat) : Int)) :
    ((((u0 + u1) + u2) + u3) = 0 → g = 0) ∧ (¬ (((u0 + u1) + u2) + u3) = 0 → g = FP.ddiv m3 (FP.i2d (((u0 + u1) + u2) + u3))) := by
  have l0 := own_ple j0
  have l1 := own_ple j1
  have l2 := own_ple j2
  have l3 := own_ple j3
  have hT : (((u0 + u1) + u2) + u3).toInt = (zs.length : Int) := by
    rw [hzs, pos_eq, own_add (own_add (own_add b0 b1 (by omega) (by omega) (by omega) (by omega)) b2 (by omega) (by omega) (by omega) (by omega)) b3 (by omega) (by omega) (by omega) (by omega)]; omega
  constructor
  · intro h
    rcases hrec with ⟨-, h2⟩ | ⟨h1, -⟩
    · exact h2
    · rw [h, so_0] at hT; omega
  · intro h
    rcases hrec with ⟨h1, -⟩ | ⟨h1, tt, h3, h4⟩
    · exact absurd (Int32.toInt_inj.mp (by rw [hT, h1, so_0]; rfl)) h
    · rw [h4, hm, show tt = (((u0 + u1) + u2) + u3) from Int32.toInt_inj.mp (by rw [h3, hT])]

theorem law_con (l : Launch) (Z : State) (a0 : Array Value) (hw : ∀ d ∈ tables_1, d.before a0 Z = true) (n0 : Nat) (cs : Int32) (hS : Sta Z Z.heap "java/lang/String" "COMPACT_STRINGS" "Z" (.int cs)) (hcs : ¬ cs = 0) (de : Addr) (dc : Cell) (hD : Sta Z Z.heap "java/util/ArrayList" "DEFAULTCAPACITY_EMPTY_ELEMENTDATA" "[Ljava/lang/Object;" (.ref de)) (hA : Arr Z Z.heap de dc (.object "java/lang/Object")) (hA0 : dc.slots.size.toInt32 = 0) (ca : Addr) (cc : Cell) (hH : Sta Z Z.heap "java/lang/Integer$IntegerCache" "high" "I" (.int 127)) (hCa : Sta Z Z.heap "java/lang/Integer$IntegerCache" "cache" "[Ljava/lang/Integer;" (.ref ca)) (hB : Bxs Z ca cc "java/lang/Integer" "I" (256 : Int32) (fun j => .int (j - 128))) (r0 r1 r2 r3 sh : Int32) (h0 : Heap) (H00 : Hp Z n0 h0 []) :
    Con l Z n0 x tables_1 code maxLocals ret room_1 #[.int r0, .int r1, .int r2, .int r3, .int sh] h0 (fun v _ => v = some (.int 1)) := by
  refine con_of (plainFor_of_name pn_JudgedRankingAveragePrecisionPinLaw) ?_
  intro p e s m below meth c T0 W0 e0
  subst e0
  have H0 := H00
  refine g_cast (ef_0 m r0 r1 r2 r3 sh) ?_
  refine g_iload W0 at_0 (pc' := 2) rfl rfl ?_
  refine g_iconst W0 at_2 (pc' := 3) rfl (v := (3 : Int32)) (by decide) ?_
  refine g_iand W0 at_3 (pc' := 4) rfl rfl ?_
  refine g_istore W0 at_4 (pc' := 6) rfl (ls' := #[.val (.int r0), .val (.int r1), .val (.int r2), .val (.int r3), .val (.int sh), .val (.int (sh &&& (3 : Int32))), .unset, .unset, .unset, .unset, .unset, .unset, .unset, .unset, .unset, .unset, .unset, .unset, .unset, .unset, .unset, .unset, .unset, .unset, .unset, .unset, .unset, .unset, .unset, .unset, .unset, .unset]) rfl ?_
  generalize h_nn : (sh &&& (3 : Int32)) = nn
  have hn4 : nn = 0 ∨ nn = 1 ∨ nn = 2 ∨ nn = 3 := by rw [← h_nn]; exact and3 sh
  refine g_iload W0 at_6 (pc' := 8) rfl rfl ?_
  refine g_iconst W0 at_8 (pc' := 9) rfl (v := (2 : Int32)) (by decide) ?_
  refine g_iushr W0 at_9 (pc' := 10) rfl rfl ?_
  refine g_bipush W0 at_10 (pc' := 12) rfl (v := (15 : Int32)) (by decide) ?_
  refine g_iand W0 at_12 (pc' := 13) rfl rfl ?_
  refine g_istore W0 at_13 (pc' := 15) rfl (ls' := #[.val (.int r0), .val (.int r1), .val (.int r2), .val (.int r3), .val (.int sh), .val (.int nn), .val (.int ((XT.ushr sh (2 : Int32)) &&& (15 : Int32))), .unset, .unset, .unset, .unset, .unset, .unset, .unset, .unset, .unset, .unset, .unset, .unset, .unset, .unset, .unset, .unset, .unset, .unset, .unset, .unset, .unset, .unset, .unset, .unset, .unset]) rfl ?_
  generalize h_jg : ((XT.ushr sh (2 : Int32)) &&& (15 : Int32)) = jg
  refine g_iload W0 at_15 (pc' := 17) rfl rfl ?_
  refine g_iconst W0 at_17 (pc' := 18) rfl (v := (1 : Int32)) (by decide) ?_
  refine g_iand W0 at_18 (pc' := 19) rfl rfl ?_
  have S1 : ∀ (TJS1 : State) (ja : Int32), Wk Z x code maxLocals ret n0 p l e room_1 s m #[.int r0, .int r1, .int r2, .int r3, .int sh] below meth c TJS1 0 0 → Hp Z n0 TJS1.heap [] → Goes p e below (En s n0 (Room.cells room_1) (Room.slots room_1) (fun v _ => v = some (.int 1))) (TJS1.setTop (mkF m 27 #[.val (.int r0), .val (.int r1), .val (.int r2), .val (.int r3), .val (.int sh), .val (.int nn), .val (.int jg), .unset, .unset, .unset, .unset, .unset, .unset, .unset, .unset, .unset, .unset, .unset, .unset, .unset, .unset, .unset, .unset, .unset, .unset, .unset, .unset, .unset, .unset, .unset, .unset, .unset] [.int ja])) := by
    intro TJS1 ja WJS1 HJS1
    refine g_istore WJS1 at_27 (pc' := 29) rfl (ls' := #[.val (.int r0), .val (.int r1), .val (.int r2), .val (.int r3), .val (.int sh), .val (.int nn), .val (.int jg), .val (.int ja), .unset, .unset, .unset, .unset, .unset, .unset, .unset, .unset, .unset, .unset, .unset, .unset, .unset, .unset, .unset, .unset, .unset, .unset, .unset, .unset, .unset, .unset, .unset, .unset]) rfl ?_
    refine g_iload WJS1 at_29 (pc' := 31) rfl rfl ?_
    refine g_iconst WJS1 at_31 (pc' := 32) rfl (v := (2 : Int32)) (by decide) ?_
    refine g_iand WJS1 at_32 (pc' := 33) rfl rfl ?_
    have S2 : ∀ (TJS2 : State) (jb : Int32), Wk Z x code maxLocals ret n0 p l e room_1 s m #[.int r0, .int r1, .int r2, .int r3, .int sh] below meth c TJS2 0 0 → Hp Z n0 TJS2.heap [] → Goes p e below (En s n0 (Room.cells room_1) (Room.slots room_1) (fun v _ => v = some (.int 1))) (TJS2.setTop (mkF m 41 #[.val (.int r0), .val (.int r1), .val (.int r2), .val (.int r3), .val (.int sh), .val (.int nn), .val (.int jg), .val (.int ja), .unset, .unset, .unset, .unset, .unset, .unset, .unset, .unset, .unset, .unset, .unset, .unset, .unset, .unset, .unset, .unset, .unset, .unset, .unset, .unset, .unset, .unset, .unset, .unset] [.int jb])) := by
      intro TJS2 jb WJS2 HJS2
      refine g_istore WJS2 at_41 (pc' := 43) rfl (ls' := #[.val (.int r0), .val (.int r1), .val (.int r2), .val (.int r3), .val (.int sh), .val (.int nn), .val (.int jg), .val (.int ja), .val (.int jb), .unset, .unset, .unset, .unset, .unset, .unset, .unset, .unset, .unset, .unset, .unset, .unset, .unset, .unset, .unset, .unset, .unset, .unset, .unset, .unset, .unset, .unset, .unset]) rfl ?_
      refine g_iload WJS2 at_43 (pc' := 45) rfl rfl ?_
      refine g_iconst WJS2 at_45 (pc' := 46) rfl (v := (4 : Int32)) (by decide) ?_
      refine g_iand WJS2 at_46 (pc' := 47) rfl rfl ?_
      have S3 : ∀ (TJS3 : State) (jc : Int32), Wk Z x code maxLocals ret n0 p l e room_1 s m #[.int r0, .int r1, .int r2, .int r3, .int sh] below meth c TJS3 0 0 → Hp Z n0 TJS3.heap [] → Goes p e below (En s n0 (Room.cells room_1) (Room.slots room_1) (fun v _ => v = some (.int 1))) (TJS3.setTop (mkF m 55 #[.val (.int r0), .val (.int r1), .val (.int r2), .val (.int r3), .val (.int sh), .val (.int nn), .val (.int jg), .val (.int ja), .val (.int jb), .unset, .unset, .unset, .unset, .unset, .unset, .unset, .unset, .unset, .unset, .unset, .unset, .unset, .unset, .unset, .unset, .unset, .unset, .unset, .unset, .unset, .unset, .unset] [.int jc])) := by
        intro TJS3 jc WJS3 HJS3
        refine g_istore WJS3 at_55 (pc' := 57) rfl (ls' := #[.val (.int r0), .val (.int r1), .val (.int r2), .val (.int r3), .val (.int sh), .val (.int nn), .val (.int jg), .val (.int ja), .val (.int jb), .val (.int jc), .unset, .unset, .unset, .unset, .unset, .unset, .unset, .unset, .unset, .unset, .unset, .unset, .unset, .unset, .unset, .unset, .unset, .unset, .unset, .unset, .unset, .unset]) rfl ?_
        refine g_iload WJS3 at_57 (pc' := 59) rfl rfl ?_
        refine g_bipush WJS3 at_59 (pc' := 61) rfl (v := (8 : Int32)) (by decide) ?_
        refine g_iand WJS3 at_61 (pc' := 62) rfl rfl ?_
        have S4 : ∀ (TJS4 : State) (jd : Int32), Wk Z x code maxLocals ret n0 p l e room_1 s m #[.int r0, .int r1, .int r2, .int r3, .int sh] below meth c TJS4 0 0 → Hp Z n0 TJS4.heap [] → Goes p e below (En s n0 (Room.cells room_1) (Room.slots room_1) (fun v _ => v = some (.int 1))) (TJS4.setTop (mkF m 70 #[.val (.int r0), .val (.int r1), .val (.int r2), .val (.int r3), .val (.int sh), .val (.int nn), .val (.int jg), .val (.int ja), .val (.int jb), .val (.int jc), .unset, .unset, .unset, .unset, .unset, .unset, .unset, .unset, .unset, .unset, .unset, .unset, .unset, .unset, .unset, .unset, .unset, .unset, .unset, .unset, .unset, .unset] [.int jd])) := by
          intro TJS4 jd WJS4 HJS4
          refine g_istore WJS4 at_70 (pc' := 72) rfl (ls' := #[.val (.int r0), .val (.int r1), .val (.int r2), .val (.int r3), .val (.int sh), .val (.int nn), .val (.int jg), .val (.int ja), .val (.int jb), .val (.int jc), .val (.int jd), .unset, .unset, .unset, .unset, .unset, .unset, .unset, .unset, .unset, .unset, .unset, .unset, .unset, .unset, .unset, .unset, .unset, .unset, .unset, .unset, .unset]) rfl ?_
          refine g_bipush WJS4 at_72 (pc' := 74) rfl (v := (97 : Int32)) (by decide) ?_
          refine g_callS WJS4 (argsL := [.int (97 : Int32)]) (st := []) (wd_0 hw) (wd_1 hw) (wd_2 hw) (wd_3 hw) (by decide) (c_sval l Z a0 hw n0 cs hS hcs (97 : Int32) keyA _ _ HJS4) pd_34 rfl rfl rfl at_74 (pc' := 77) rfl (by decide) (Wn := 0) (Nat.le_of_eq rfl) (by decide) (kc' := 2) (ks' := 5) rfl rfl (by decide) (by decide) ?_
          intro T1 v1 W1 hp1
          obtain ⟨s0, b0, rfl, H1⟩ := hp1
          show Goes _ _ _ _ (State.setTop _ (mkF _ _ _ [.ref s0]))
          refine g_astore W1 at_77 (pc' := 79) rfl rfl (ls' := #[.val (.int r0), .val (.int r1), .val (.int r2), .val (.int r3), .val (.int sh), .val (.int nn), .val (.int jg), .val (.int ja), .val (.int jb), .val (.int jc), .val (.int jd), .val (.ref s0), .unset, .unset, .unset, .unset, .unset, .unset, .unset, .unset, .unset, .unset, .unset, .unset, .unset, .unset, .unset, .unset, .unset, .unset, .unset, .unset]) rfl ?_
          refine g_bipush W1 at_79 (pc' := 81) rfl (v := (98 : Int32)) (by decide) ?_
          refine g_callS W1 (argsL := [.int (98 : Int32)]) (st := []) (wd_0 hw) (wd_1 hw) (wd_2 hw) (wd_3 hw) (by decide) (c_sval l Z a0 hw n0 cs hS hcs (98 : Int32) keyB _ _ H1) pd_34 rfl rfl rfl at_81 (pc' := 84) rfl (by decide) (Wn := 0) (Nat.le_of_eq rfl) (by decide) (kc' := 4) (ks' := 10) rfl rfl (by decide) (by decide) ?_
          intro T2 v2 W2 hp2
          obtain ⟨s1, b1, rfl, H2⟩ := hp2
          show Goes _ _ _ _ (State.setTop _ (mkF _ _ _ [.ref s1]))
          refine g_astore W2 at_84 (pc' := 86) rfl rfl (ls' := #[.val (.int r0), .val (.int r1), .val (.int r2), .val (.int r3), .val (.int sh), .val (.int nn), .val (.int jg), .val (.int ja), .val (.int jb), .val (.int jc), .val (.int jd), .val (.ref s0), .val (.ref s1), .unset, .unset, .unset, .unset, .unset, .unset, .unset, .unset, .unset, .unset, .unset, .unset, .unset, .unset, .unset, .unset, .unset, .unset, .unset]) rfl ?_
          refine g_bipush W2 at_86 (pc' := 88) rfl (v := (99 : Int32)) (by decide) ?_
          refine g_callS W2 (argsL := [.int (99 : Int32)]) (st := []) (wd_0 hw) (wd_1 hw) (wd_2 hw) (wd_3 hw) (by decide) (c_sval l Z a0 hw n0 cs hS hcs (99 : Int32) keyC _ _ H2) pd_34 rfl rfl rfl at_88 (pc' := 91) rfl (by decide) (Wn := 0) (Nat.le_of_eq rfl) (by decide) (kc' := 6) (ks' := 15) rfl rfl (by decide) (by decide) ?_
          intro T3 v3 W3 hp3
          obtain ⟨s2, b2, rfl, H3⟩ := hp3
          show Goes _ _ _ _ (State.setTop _ (mkF _ _ _ [.ref s2]))
          refine g_astore W3 at_91 (pc' := 93) rfl rfl (ls' := #[.val (.int r0), .val (.int r1), .val (.int r2), .val (.int r3), .val (.int sh), .val (.int nn), .val (.int jg), .val (.int ja), .val (.int jb), .val (.int jc), .val (.int jd), .val (.ref s0), .val (.ref s1), .val (.ref s2), .unset, .unset, .unset, .unset, .unset, .unset, .unset, .unset, .unset, .unset, .unset, .unset, .unset, .unset, .unset, .unset, .unset, .unset]) rfl ?_
          refine g_bipush W3 at_93 (pc' := 95) rfl (v := (100 : Int32)) (by decide) ?_
          refine g_callS W3 (argsL := [.int (100 : Int32)]) (st := []) (wd_0 hw) (wd_1 hw) (wd_2 hw) (wd_3 hw) (by decide) (c_sval l Z a0 hw n0 cs hS hcs (100 : Int32) keyD _ _ H3) pd_34 rfl rfl rfl at_95 (pc' := 98) rfl (by decide) (Wn := 0) (Nat.le_of_eq rfl) (by decide) (kc' := 8) (ks' := 20) rfl rfl (by decide) (by decide) ?_
          intro T4 v4 W4 hp4
          obtain ⟨s3, b3, rfl, H4⟩ := hp4
          show Goes _ _ _ _ (State.setTop _ (mkF _ _ _ [.ref s3]))
          refine g_astore W4 at_98 (pc' := 100) rfl rfl (ls' := #[.val (.int r0), .val (.int r1), .val (.int r2), .val (.int r3), .val (.int sh), .val (.int nn), .val (.int jg), .val (.int ja), .val (.int jb), .val (.int jc), .val (.int jd), .val (.ref s0), .val (.ref s1), .val (.ref s2), .val (.ref s3), .unset, .unset, .unset, .unset, .unset, .unset, .unset, .unset, .unset, .unset, .unset, .unset, .unset, .unset, .unset, .unset, .unset]) rfl ?_
          refine g_new W4 (wd_26 hw) (wd_27 hw) (wd_28 hw) (la_HashMap hw) (by decide) H4 at_100 (pc' := 103) rfl (kc' := 9) (ks' := 28) rfl rfl (by decide) (by decide) ?_
          intro T5 a5 W5 H5
          refine g_dup W5 at_103 (pc' := 104) rfl rfl ?_
          refine g_callI W5 (argsL := []) (st := [.ref a5]) rfl (wd_29 hw) (wd_30 hw) (wd_28 hw) (wd_31 hw) (by decide) (a := a5) (c_hmini l Z a0 hw n0 a5 _ _ H5) pd_6 rfl rfl rfl at_104 (pc' := 107) rfl (by decide) (Wn := 1) (Nat.le_of_eq rfl) (by decide) (kc' := 9) (ks' := 28) rfl rfl (by decide) (by decide) ?_
          intro T6 v6 W6 hp6
          obtain ⟨rfl, H6⟩ := hp6
          show Goes _ _ _ _ (State.setTop _ (mkF _ _ _ [.ref a5]))
          refine g_astore W6 at_107 (pc' := 109) rfl rfl (ls' := #[.val (.int r0), .val (.int r1), .val (.int r2), .val (.int r3), .val (.int sh), .val (.int nn), .val (.int jg), .val (.int ja), .val (.int jb), .val (.int jc), .val (.int jd), .val (.ref s0), .val (.ref s1), .val (.ref s2), .val (.ref s3), .val (.ref a5), .unset, .unset, .unset, .unset, .unset, .unset, .unset, .unset, .unset, .unset, .unset, .unset, .unset, .unset, .unset, .unset]) rfl ?_
          have RJ : ∀ (TJRJ : State) (alx : Addr) (jr rra bi : Addr) (rs zs : List Int32) (JF : List HRow) (hrs : (nn = 0 ∧ rs = []) ∨ (nn = 1 ∧ rs = [own_g (own_j ja r0)]) ∨ (nn = 2 ∧ rs = [own_g (own_j ja r0), own_g (own_j jb r1)]) ∨ (nn = 3 ∧ rs = [own_g (own_j ja r0), own_g (own_j jb r1), own_g (own_j jc r2)])) (hzs : zs.length = own_pos (own_bs (own_j ja r0) (own_j jb r1) (own_j jc r2) (own_j jd r3))), Wk Z x code maxLocals ret n0 p l e room_1 s m #[.int r0, .int r1, .int r2, .int r3, .int sh] below meth c TJRJ 72 320 → Hp Z n0 TJRJ.heap ((jr, ObC Z "com/example/inq2/inq2/JudgedRanking" (fs_JudgedRanking (.ref rra) (.ref bi))) :: (rra, IaC Z rs) :: (bi, IaC Z zs) :: JF) → Goes p e below (En s n0 (Room.cells room_1) (Room.slots room_1) (fun v _ => v = some (.int 1))) (TJRJ.setTop (mkF m 266 #[.val (.int r0), .val (.int r1), .val (.int r2), .val (.int r3), .val (.int sh), .val (.int nn), .val (.int jg), .val (.int ja), .val (.int jb), .val (.int jc), .val (.int jd), .val (.ref s0), .val (.ref s1), .val (.ref s2), .val (.ref s3), .val (.ref a5), .val (.ref alx), .unset, .unset, .unset, .unset, .unset, .unset, .unset, .unset, .unset, .unset, .unset, .unset, .unset, .unset, .unset] [.ref jr])) := by
            intro TJRJ alx jr rra bi rs zs JF hrs hzs WJRJ HJRJ
            have hr4 : rs.length ≤ 4 := by rcases hrs with ⟨_, h⟩ | ⟨_, h⟩ | ⟨_, h⟩ | ⟨_, h⟩ <;> simp [h]
            refine g_callV WJRJ (argsL := []) (st := []) (wd_197 hw) (wd_198 hw) (wd_200 hw) (wd_199 hw) (wd_68 hw) (wd_201 hw) (by decide) (a := jr) HJRJ (i := 0) rfl (c_ap l Z a0 hw n0 jr rra bi rs zs hr4 (by rw [hzs]; exact Nat.le_trans (own_pos_le _) (refs4 _ _ _ _)) _ _ HJRJ) pd_35 rfl rfl rfl at_266 (pc' := 269) rfl (by decide) (Wn := 0) (Nat.le_of_eq rfl) (by decide) (kc' := 72) (ks' := 320) rfl rfl (by decide) (by decide) ?_
            intro T7 v7 W7 hp7
            obtain ⟨g, rfl, hrec, H7⟩ := hp7
            show Goes _ _ _ _ (State.setTop _ (mkF _ _ _ [.double g]))
            refine g_dstore W7 at_269 (pc' := 271) rfl (ls' := #[.val (.int r0), .val (.int r1), .val (.int r2), .val (.int r3), .val (.int sh), .val (.int nn), .val (.int jg), .val (.int ja), .val (.int jb), .val (.int jc), .val (.int jd), .val (.ref s0), .val (.ref s1), .val (.ref s2), .val (.ref s3), .val (.ref a5), .val (.ref alx), .val (.double g), .second, .unset, .unset, .unset, .unset, .unset, .unset, .unset, .unset, .unset, .unset, .unset, .unset, .unset]) rfl ?_
            refine g_iload W7 at_271 (pc' := 273) rfl rfl ?_
            have S5 : ∀ (TJS5 : State) (u0 : Int32) (ua0 : u0 = 0 ∨ u0 = 1) (ub0 : u0.toInt = ((own_p (own_j ja r0) : Nat) : Int)), Wk Z x code maxLocals ret n0 p l e room_1 s m #[.int r0, .int r1, .int r2, .int r3, .int sh] below meth c TJS5 72 320 → Hp Z n0 TJS5.heap ((jr, ObC Z "com/example/inq2/inq2/JudgedRanking" (fs_JudgedRanking (.ref rra) (.ref bi))) :: (rra, IaC Z rs) :: (bi, IaC Z zs) :: JF) → Goes p e below (En s n0 (Room.cells room_1) (Room.slots room_1) (fun v _ => v = some (.int 1))) (TJS5.setTop (mkF m 286 #[.val (.int r0), .val (.int r1), .val (.int r2), .val (.int r3), .val (.int sh), .val (.int nn), .val (.int jg), .val (.int ja), .val (.int jb), .val (.int jc), .val (.int jd), .val (.ref s0), .val (.ref s1), .val (.ref s2), .val (.ref s3), .val (.ref a5), .val (.ref alx), .val (.double g), .second, .unset, .unset, .unset, .unset, .unset, .unset, .unset, .unset, .unset, .unset, .unset, .unset, .unset] [.int u0])) := by
              intro TJS5 u0 ua0 ub0 WJS5 HJS5
              refine g_istore WJS5 at_286 (pc' := 288) rfl (ls' := #[.val (.int r0), .val (.int r1), .val (.int r2), .val (.int r3), .val (.int sh), .val (.int nn), .val (.int jg), .val (.int ja), .val (.int jb), .val (.int jc), .val (.int jd), .val (.ref s0), .val (.ref s1), .val (.ref s2), .val (.ref s3), .val (.ref a5), .val (.ref alx), .val (.double g), .second, .val (.int u0), .unset, .unset, .unset, .unset, .unset, .unset, .unset, .unset, .unset, .unset, .unset, .unset]) rfl ?_
              refine g_iload WJS5 at_288 (pc' := 290) rfl rfl ?_
              have S6 : ∀ (TJS6 : State) (u1 : Int32) (ua1 : u1 = 0 ∨ u1 = 1) (ub1 : u1.toInt = ((own_p (own_j jb r1) : Nat) : Int)), Wk Z x code maxLocals ret n0 p l e room_1 s m #[.int r0, .int r1, .int r2, .int r3, .int sh] below meth c TJS6 72 320 → Hp Z n0 TJS6.heap ((jr, ObC Z "com/example/inq2/inq2/JudgedRanking" (fs_JudgedRanking (.ref rra) (.ref bi))) :: (rra, IaC Z rs) :: (bi, IaC Z zs) :: JF) → Goes p e below (En s n0 (Room.cells room_1) (Room.slots room_1) (fun v _ => v = some (.int 1))) (TJS6.setTop (mkF m 303 #[.val (.int r0), .val (.int r1), .val (.int r2), .val (.int r3), .val (.int sh), .val (.int nn), .val (.int jg), .val (.int ja), .val (.int jb), .val (.int jc), .val (.int jd), .val (.ref s0), .val (.ref s1), .val (.ref s2), .val (.ref s3), .val (.ref a5), .val (.ref alx), .val (.double g), .second, .val (.int u0), .unset, .unset, .unset, .unset, .unset, .unset, .unset, .unset, .unset, .unset, .unset, .unset] [.int u1])) := by
                intro TJS6 u1 ua1 ub1 WJS6 HJS6
                refine g_istore WJS6 at_303 (pc' := 305) rfl (ls' := #[.val (.int r0), .val (.int r1), .val (.int r2), .val (.int r3), .val (.int sh), .val (.int nn), .val (.int jg), .val (.int ja), .val (.int jb), .val (.int jc), .val (.int jd), .val (.ref s0), .val (.ref s1), .val (.ref s2), .val (.ref s3), .val (.ref a5), .val (.ref alx), .val (.double g), .second, .val (.int u0), .val (.int u1), .unset, .unset, .unset, .unset, .unset, .unset, .unset, .unset, .unset, .unset, .unset]) rfl ?_
                refine g_iload WJS6 at_305 (pc' := 307) rfl rfl ?_
                have S7 : ∀ (TJS7 : State) (u2 : Int32) (ua2 : u2 = 0 ∨ u2 = 1) (ub2 : u2.toInt = ((own_p (own_j jc r2) : Nat) : Int)), Wk Z x code maxLocals ret n0 p l e room_1 s m #[.int r0, .int r1, .int r2, .int r3, .int sh] below meth c TJS7 72 320 → Hp Z n0 TJS7.heap ((jr, ObC Z "com/example/inq2/inq2/JudgedRanking" (fs_JudgedRanking (.ref rra) (.ref bi))) :: (rra, IaC Z rs) :: (bi, IaC Z zs) :: JF) → Goes p e below (En s n0 (Room.cells room_1) (Room.slots room_1) (fun v _ => v = some (.int 1))) (TJS7.setTop (mkF m 320 #[.val (.int r0), .val (.int r1), .val (.int r2), .val (.int r3), .val (.int sh), .val (.int nn), .val (.int jg), .val (.int ja), .val (.int jb), .val (.int jc), .val (.int jd), .val (.ref s0), .val (.ref s1), .val (.ref s2), .val (.ref s3), .val (.ref a5), .val (.ref alx), .val (.double g), .second, .val (.int u0), .val (.int u1), .unset, .unset, .unset, .unset, .unset, .unset, .unset, .unset, .unset, .unset, .unset] [.int u2])) := by
                  intro TJS7 u2 ua2 ub2 WJS7 HJS7
                  refine g_istore WJS7 at_320 (pc' := 322) rfl (ls' := #[.val (.int r0), .val (.int r1), .val (.int r2), .val (.int r3), .val (.int sh), .val (.int nn), .val (.int jg), .val (.int ja), .val (.int jb), .val (.int jc), .val (.int jd), .val (.ref s0), .val (.ref s1), .val (.ref s2), .val (.ref s3), .val (.ref a5), .val (.ref alx), .val (.double g), .second, .val (.int u0), .val (.int u1), .val (.int u2), .unset, .unset, .unset, .unset, .unset, .unset, .unset, .unset, .unset, .unset]) rfl ?_
                  refine g_iload WJS7 at_322 (pc' := 324) rfl rfl ?_
                  have S8 : ∀ (TJS8 : State) (u3 : Int32) (ua3 : u3 = 0 ∨ u3 = 1) (ub3 : u3.toInt = ((own_p (own_j jd r3) : Nat) : Int)), Wk Z x code maxLocals ret n0 p l e room_1 s m #[.int r0, .int r1, .int r2, .int r3, .int sh] below meth c TJS8 72 320 → Hp Z n0 TJS8.heap ((jr, ObC Z "com/example/inq2/inq2/JudgedRanking" (fs_JudgedRanking (.ref rra) (.ref bi))) :: (rra, IaC Z rs) :: (bi, IaC Z zs) :: JF) → Goes p e below (En s n0 (Room.cells room_1) (Room.slots room_1) (fun v _ => v = some (.int 1))) (TJS8.setTop (mkF m 337 #[.val (.int r0), .val (.int r1), .val (.int r2), .val (.int r3), .val (.int sh), .val (.int nn), .val (.int jg), .val (.int ja), .val (.int jb), .val (.int jc), .val (.int jd), .val (.ref s0), .val (.ref s1), .val (.ref s2), .val (.ref s3), .val (.ref a5), .val (.ref alx), .val (.double g), .second, .val (.int u0), .val (.int u1), .val (.int u2), .unset, .unset, .unset, .unset, .unset, .unset, .unset, .unset, .unset, .unset] [.int u3])) := by
                    intro TJS8 u3 ua3 ub3 WJS8 HJS8
                    refine g_istore WJS8 at_337 (pc' := 339) rfl (ls' := #[.val (.int r0), .val (.int r1), .val (.int r2), .val (.int r3), .val (.int sh), .val (.int nn), .val (.int jg), .val (.int ja), .val (.int jb), .val (.int jc), .val (.int jd), .val (.ref s0), .val (.ref s1), .val (.ref s2), .val (.ref s3), .val (.ref a5), .val (.ref alx), .val (.double g), .second, .val (.int u0), .val (.int u1), .val (.int u2), .val (.int u3), .unset, .unset, .unset, .unset, .unset, .unset, .unset, .unset, .unset]) rfl ?_
                    refine g_iload WJS8 at_339 (pc' := 341) rfl rfl ?_
                    have S9 : ∀ (TJS9 : State) (y0 : Int32) (hy0 : u0 = y0), Wk Z x code maxLocals ret n0 p l e room_1 s m #[.int r0, .int r1, .int r2, .int r3, .int sh] below meth c TJS9 72 320 → Hp Z n0 TJS9.heap ((jr, ObC Z "com/example/inq2/inq2/JudgedRanking" (fs_JudgedRanking (.ref rra) (.ref bi))) :: (rra, IaC Z rs) :: (bi, IaC Z zs) :: JF) → Goes p e below (En s n0 (Room.cells room_1) (Room.slots room_1) (fun v _ => v = some (.int 1))) (TJS9.setTop (mkF m 349 #[.val (.int r0), .val (.int r1), .val (.int r2), .val (.int r3), .val (.int sh), .val (.int nn), .val (.int jg), .val (.int ja), .val (.int jb), .val (.int jc), .val (.int jd), .val (.ref s0), .val (.ref s1), .val (.ref s2), .val (.ref s3), .val (.ref a5), .val (.ref alx), .val (.double g), .second, .val (.int u0), .val (.int u1), .val (.int u2), .val (.int u3), .unset, .unset, .unset, .unset, .unset, .unset, .unset, .unset, .unset] [.int y0])) := by
                      intro TJS9 y0 hy0 WJS9 HJS9
                      subst hy0
                      refine g_iload WJS9 at_349 (pc' := 351) rfl rfl ?_
                      have S10 : ∀ (TJS10 : State) (y1 : Int32) (hy1 : u1 = y1), Wk Z x code maxLocals ret n0 p l e room_1 s m #[.int r0, .int r1, .int r2, .int r3, .int sh] below meth c TJS10 72 320 → Hp Z n0 TJS10.heap ((jr, ObC Z "com/example/inq2/inq2/JudgedRanking" (fs_JudgedRanking (.ref rra) (.ref bi))) :: (rra, IaC Z rs) :: (bi, IaC Z zs) :: JF) → Goes p e below (En s n0 (Room.cells room_1) (Room.slots room_1) (fun v _ => v = some (.int 1))) (TJS10.setTop (mkF m 359 #[.val (.int r0), .val (.int r1), .val (.int r2), .val (.int r3), .val (.int sh), .val (.int nn), .val (.int jg), .val (.int ja), .val (.int jb), .val (.int jc), .val (.int jd), .val (.ref s0), .val (.ref s1), .val (.ref s2), .val (.ref s3), .val (.ref a5), .val (.ref alx), .val (.double g), .second, .val (.int u0), .val (.int u1), .val (.int u2), .val (.int u3), .unset, .unset, .unset, .unset, .unset, .unset, .unset, .unset, .unset] [.int y1, .int u0])) := by
                        intro TJS10 y1 hy1 WJS10 HJS10
                        subst hy1
                        refine g_iadd WJS10 at_359 (pc' := 360) rfl rfl ?_
                        refine g_iload WJS10 at_360 (pc' := 362) rfl rfl ?_
                        have S11 : ∀ (TJS11 : State) (y2 : Int32) (hy2 : u2 = y2), Wk Z x code maxLocals ret n0 p l e room_1 s m #[.int r0, .int r1, .int r2, .int r3, .int sh] below meth c TJS11 72 320 → Hp Z n0 TJS11.heap ((jr, ObC Z "com/example/inq2/inq2/JudgedRanking" (fs_JudgedRanking (.ref rra) (.ref bi))) :: (rra, IaC Z rs) :: (bi, IaC Z zs) :: JF) → Goes p e below (En s n0 (Room.cells room_1) (Room.slots room_1) (fun v _ => v = some (.int 1))) (TJS11.setTop (mkF m 370 #[.val (.int r0), .val (.int r1), .val (.int r2), .val (.int r3), .val (.int sh), .val (.int nn), .val (.int jg), .val (.int ja), .val (.int jb), .val (.int jc), .val (.int jd), .val (.ref s0), .val (.ref s1), .val (.ref s2), .val (.ref s3), .val (.ref a5), .val (.ref alx), .val (.double g), .second, .val (.int u0), .val (.int u1), .val (.int u2), .val (.int u3), .unset, .unset, .unset, .unset, .unset, .unset, .unset, .unset, .unset] [.int y2, .int (u0 + u1)])) := by
                          intro TJS11 y2 hy2 WJS11 HJS11
                          subst hy2
                          refine g_iadd WJS11 at_370 (pc' := 371) rfl rfl ?_
                          refine g_iload WJS11 at_371 (pc' := 373) rfl rfl ?_
                          have S12 : ∀ (TJS12 : State) (y3 : Int32) (hy3 : u3 = y3), Wk Z x code maxLocals ret n0 p l e room_1 s m #[.int r0, .int r1, .int r2, .int r3, .int sh] below meth c TJS12 72 320 → Hp Z n0 TJS12.heap ((jr, ObC Z "com/example/inq2/inq2/JudgedRanking" (fs_JudgedRanking (.ref rra) (.ref bi))) :: (rra, IaC Z rs) :: (bi, IaC Z zs) :: JF) → Goes p e below (En s n0 (Room.cells room_1) (Room.slots room_1) (fun v _ => v = some (.int 1))) (TJS12.setTop (mkF m 381 #[.val (.int r0), .val (.int r1), .val (.int r2), .val (.int r3), .val (.int sh), .val (.int nn), .val (.int jg), .val (.int ja), .val (.int jb), .val (.int jc), .val (.int jd), .val (.ref s0), .val (.ref s1), .val (.ref s2), .val (.ref s3), .val (.ref a5), .val (.ref alx), .val (.double g), .second, .val (.int u0), .val (.int u1), .val (.int u2), .val (.int u3), .unset, .unset, .unset, .unset, .unset, .unset, .unset, .unset, .unset] [.int y3, .int ((u0 + u1) + u2)])) := by
                            intro TJS12 y3 hy3 WJS12 HJS12
                            subst hy3
                            refine g_iadd WJS12 at_381 (pc' := 382) rfl rfl ?_
                            refine g_istore WJS12 at_382 (pc' := 384) rfl (ls' := #[.val (.int r0), .val (.int r1), .val (.int r2), .val (.int r3), .val (.int sh), .val (.int nn), .val (.int jg), .val (.int ja), .val (.int jb), .val (.int jc), .val (.int jd), .val (.ref s0), .val (.ref s1), .val (.ref s2), .val (.ref s3), .val (.ref a5), .val (.ref alx), .val (.double g), .second, .val (.int u0), .val (.int u1), .val (.int u2), .val (.int u3), .val (.int (((u0 + u1) + u2) + u3)), .unset, .unset, .unset, .unset, .unset, .unset, .unset, .unset]) rfl ?_
                            refine g_iload WJS12 at_384 (pc' := 386) rfl rfl ?_
                            have S13 : ∀ (TJS13 : State) (w0 : Int32) (wb0 : (if (0 : Int32) < nn then u0 else (0 : Int32)) = w0), Wk Z x code maxLocals ret n0 p l e room_1 s m #[.int r0, .int r1, .int r2, .int r3, .int sh] below meth c TJS13 72 320 → Hp Z n0 TJS13.heap ((jr, ObC Z "com/example/inq2/inq2/JudgedRanking" (fs_JudgedRanking (.ref rra) (.ref bi))) :: (rra, IaC Z rs) :: (bi, IaC Z zs) :: JF) → Goes p e below (En s n0 (Room.cells room_1) (Room.slots room_1) (fun v _ => v = some (.int 1))) (TJS13.setTop (mkF m 399 #[.val (.int r0), .val (.int r1), .val (.int r2), .val (.int r3), .val (.int sh), .val (.int nn), .val (.int jg), .val (.int ja), .val (.int jb), .val (.int jc), .val (.int jd), .val (.ref s0), .val (.ref s1), .val (.ref s2), .val (.ref s3), .val (.ref a5), .val (.ref alx), .val (.double g), .second, .val (.int u0), .val (.int u1), .val (.int u2), .val (.int u3), .val (.int (((u0 + u1) + u2) + u3)), .unset, .unset, .unset, .unset, .unset, .unset, .unset, .unset] [.int w0])) := by
                              intro TJS13 w0 wb0 WJS13 HJS13
                              refine g_istore WJS13 at_399 (pc' := 401) rfl (ls' := #[.val (.int r0), .val (.int r1), .val (.int r2), .val (.int r3), .val (.int sh), .val (.int nn), .val (.int jg), .val (.int ja), .val (.int jb), .val (.int jc), .val (.int jd), .val (.ref s0), .val (.ref s1), .val (.ref s2), .val (.ref s3), .val (.ref a5), .val (.ref alx), .val (.double g), .second, .val (.int u0), .val (.int u1), .val (.int u2), .val (.int u3), .val (.int (((u0 + u1) + u2) + u3)), .val (.int w0), .unset, .unset, .unset, .unset, .unset, .unset, .unset]) rfl ?_
                              refine g_iload WJS13 at_401 (pc' := 403) rfl rfl ?_
                              refine g_iconst WJS13 at_403 (pc' := 404) rfl (v := (1 : Int32)) (by decide) ?_
                              have S14 : ∀ (TJS14 : State) (w1 : Int32) (wb1 : (if (1 : Int32) < nn then u1 else (0 : Int32)) = w1), Wk Z x code maxLocals ret n0 p l e room_1 s m #[.int r0, .int r1, .int r2, .int r3, .int sh] below meth c TJS14 72 320 → Hp Z n0 TJS14.heap ((jr, ObC Z "com/example/inq2/inq2/JudgedRanking" (fs_JudgedRanking (.ref rra) (.ref bi))) :: (rra, IaC Z rs) :: (bi, IaC Z zs) :: JF) → Goes p e below (En s n0 (Room.cells room_1) (Room.slots room_1) (fun v _ => v = some (.int 1))) (TJS14.setTop (mkF m 417 #[.val (.int r0), .val (.int r1), .val (.int r2), .val (.int r3), .val (.int sh), .val (.int nn), .val (.int jg), .val (.int ja), .val (.int jb), .val (.int jc), .val (.int jd), .val (.ref s0), .val (.ref s1), .val (.ref s2), .val (.ref s3), .val (.ref a5), .val (.ref alx), .val (.double g), .second, .val (.int u0), .val (.int u1), .val (.int u2), .val (.int u3), .val (.int (((u0 + u1) + u2) + u3)), .val (.int w0), .unset, .unset, .unset, .unset, .unset, .unset, .unset] [.int w1])) := by
                                intro TJS14 w1 wb1 WJS14 HJS14
                                refine g_istore WJS14 at_417 (pc' := 419) rfl (ls' := #[.val (.int r0), .val (.int r1), .val (.int r2), .val (.int r3), .val (.int sh), .val (.int nn), .val (.int jg), .val (.int ja), .val (.int jb), .val (.int jc), .val (.int jd), .val (.ref s0), .val (.ref s1), .val (.ref s2), .val (.ref s3), .val (.ref a5), .val (.ref alx), .val (.double g), .second, .val (.int u0), .val (.int u1), .val (.int u2), .val (.int u3), .val (.int (((u0 + u1) + u2) + u3)), .val (.int w0), .val (.int w1), .unset, .unset, .unset, .unset, .unset, .unset]) rfl ?_
                                refine g_iload WJS14 at_419 (pc' := 421) rfl rfl ?_
                                refine g_iconst WJS14 at_421 (pc' := 422) rfl (v := (2 : Int32)) (by decide) ?_
                                have S15 : ∀ (TJS15 : State) (w2 : Int32) (wb2 : (if (2 : Int32) < nn then u2 else (0 : Int32)) = w2), Wk Z x code maxLocals ret n0 p l e room_1 s m #[.int r0, .int r1, .int r2, .int r3, .int sh] below meth c TJS15 72 320 → Hp Z n0 TJS15.heap ((jr, ObC Z "com/example/inq2/inq2/JudgedRanking" (fs_JudgedRanking (.ref rra) (.ref bi))) :: (rra, IaC Z rs) :: (bi, IaC Z zs) :: JF) → Goes p e below (En s n0 (Room.cells room_1) (Room.slots room_1) (fun v _ => v = some (.int 1))) (TJS15.setTop (mkF m 435 #[.val (.int r0), .val (.int r1), .val (.int r2), .val (.int r3), .val (.int sh), .val (.int nn), .val (.int jg), .val (.int ja), .val (.int jb), .val (.int jc), .val (.int jd), .val (.ref s0), .val (.ref s1), .val (.ref s2), .val (.ref s3), .val (.ref a5), .val (.ref alx), .val (.double g), .second, .val (.int u0), .val (.int u1), .val (.int u2), .val (.int u3), .val (.int (((u0 + u1) + u2) + u3)), .val (.int w0), .val (.int w1), .unset, .unset, .unset, .unset, .unset, .unset] [.int w2])) := by
                                  intro TJS15 w2 wb2 WJS15 HJS15
                                  refine g_istore WJS15 at_435 (pc' := 437) rfl (ls' := #[.val (.int r0), .val (.int r1), .val (.int r2), .val (.int r3), .val (.int sh), .val (.int nn), .val (.int jg), .val (.int ja), .val (.int jb), .val (.int jc), .val (.int jd), .val (.ref s0), .val (.ref s1), .val (.ref s2), .val (.ref s3), .val (.ref a5), .val (.ref alx), .val (.double g), .second, .val (.int u0), .val (.int u1), .val (.int u2), .val (.int u3), .val (.int (((u0 + u1) + u2) + u3)), .val (.int w0), .val (.int w1), .val (.int w2), .unset, .unset, .unset, .unset, .unset]) rfl ?_
                                  refine g_dconst0 WJS15 at_437 (pc' := 438) rfl ?_
                                  refine g_dstore WJS15 at_438 (pc' := 440) rfl (ls' := #[.val (.int r0), .val (.int r1), .val (.int r2), .val (.int r3), .val (.int sh), .val (.int nn), .val (.int jg), .val (.int ja), .val (.int jb), .val (.int jc), .val (.int jd), .val (.ref s0), .val (.ref s1), .val (.ref s2), .val (.ref s3), .val (.ref a5), .val (.ref alx), .val (.double g), .second, .val (.int u0), .val (.int u1), .val (.int u2), .val (.int u3), .val (.int (((u0 + u1) + u2) + u3)), .val (.int w0), .val (.int w1), .val (.int w2), .val (.double 0), .second, .unset, .unset, .unset]) rfl ?_
                                  refine g_iconst WJS15 at_440 (pc' := 441) rfl (v := (0 : Int32)) (by decide) ?_
                                  refine g_istore WJS15 at_441 (pc' := 443) rfl (ls' := #[.val (.int r0), .val (.int r1), .val (.int r2), .val (.int r3), .val (.int sh), .val (.int nn), .val (.int jg), .val (.int ja), .val (.int jb), .val (.int jc), .val (.int jd), .val (.ref s0), .val (.ref s1), .val (.ref s2), .val (.ref s3), .val (.ref a5), .val (.ref alx), .val (.double g), .second, .val (.int u0), .val (.int u1), .val (.int u2), .val (.int u3), .val (.int (((u0 + u1) + u2) + u3)), .val (.int w0), .val (.int w1), .val (.int w2), .val (.double 0), .second, .val (.int (0 : Int32)), .unset, .unset]) rfl ?_
                                  refine g_iload WJS15 at_443 (pc' := 445) rfl rfl ?_
                                  have S16 : ∀ (TJS16 : State) (n1 : Int32) (m1 : UInt64) (sa1 : stp w0 (4607182418800017408 : UInt64) (0 : Int32) 0 = (n1, m1)) (mg1 : Mag64 1102 m1), Wk Z x code maxLocals ret n0 p l e room_1 s m #[.int r0, .int r1, .int r2, .int r3, .int sh] below meth c TJS16 72 320 → Hp Z n0 TJS16.heap ((jr, ObC Z "com/example/inq2/inq2/JudgedRanking" (fs_JudgedRanking (.ref rra) (.ref bi))) :: (rra, IaC Z rs) :: (bi, IaC Z zs) :: JF) → Goes p e below (En s n0 (Room.cells room_1) (Room.slots room_1) (fun v _ => v = some (.int 1))) (TJS16.setTop (mkF m 464 #[.val (.int r0), .val (.int r1), .val (.int r2), .val (.int r3), .val (.int sh), .val (.int nn), .val (.int jg), .val (.int ja), .val (.int jb), .val (.int jc), .val (.int jd), .val (.ref s0), .val (.ref s1), .val (.ref s2), .val (.ref s3), .val (.ref a5), .val (.ref alx), .val (.double g), .second, .val (.int u0), .val (.int u1), .val (.int u2), .val (.int u3), .val (.int (((u0 + u1) + u2) + u3)), .val (.int w0), .val (.int w1), .val (.int w2), .val (.double m1), .second, .val (.int n1), .unset, .unset] [])) := by
                                    intro TJS16 n1 m1 sa1 mg1 WJS16 HJS16
                                    refine g_iload WJS16 at_464 (pc' := 466) rfl rfl ?_
                                    have S17 : ∀ (TJS17 : State) (n2 : Int32) (m2 : UInt64) (sa2 : stp w1 (4611686018427387904 : UInt64) n1 m1 = (n2, m2)) (mg2 : Mag64 1104 m2), Wk Z x code maxLocals ret n0 p l e room_1 s m #[.int r0, .int r1, .int r2, .int r3, .int sh] below meth c TJS17 72 320 → Hp Z n0 TJS17.heap ((jr, ObC Z "com/example/inq2/inq2/JudgedRanking" (fs_JudgedRanking (.ref rra) (.ref bi))) :: (rra, IaC Z rs) :: (bi, IaC Z zs) :: JF) → Goes p e below (En s n0 (Room.cells room_1) (Room.slots room_1) (fun v _ => v = some (.int 1))) (TJS17.setTop (mkF m 487 #[.val (.int r0), .val (.int r1), .val (.int r2), .val (.int r3), .val (.int sh), .val (.int nn), .val (.int jg), .val (.int ja), .val (.int jb), .val (.int jc), .val (.int jd), .val (.ref s0), .val (.ref s1), .val (.ref s2), .val (.ref s3), .val (.ref a5), .val (.ref alx), .val (.double g), .second, .val (.int u0), .val (.int u1), .val (.int u2), .val (.int u3), .val (.int (((u0 + u1) + u2) + u3)), .val (.int w0), .val (.int w1), .val (.int w2), .val (.double m2), .second, .val (.int n2), .unset, .unset] [])) := by
                                      intro TJS17 n2 m2 sa2 mg2 WJS17 HJS17
                                      refine g_iload WJS17 at_487 (pc' := 489) rfl rfl ?_
                                      have S18 : ∀ (TJS18 : State) (n3 : Int32) (m3 : UInt64) (sa3 : stp w2 (4613937818241073152 : UInt64) n2 m2 = (n3, m3)) (mg3 : Mag64 1106 m3), Wk Z x code maxLocals ret n0 p l e room_1 s m #[.int r0, .int r1, .int r2, .int r3, .int sh] below meth c TJS18 72 320 → Hp Z n0 TJS18.heap ((jr, ObC Z "com/example/inq2/inq2/JudgedRanking" (fs_JudgedRanking (.ref rra) (.ref bi))) :: (rra, IaC Z rs) :: (bi, IaC Z zs) :: JF) → Goes p e below (En s n0 (Room.cells room_1) (Room.slots room_1) (fun v _ => v = some (.int 1))) (TJS18.setTop (mkF m 510 #[.val (.int r0), .val (.int r1), .val (.int r2), .val (.int r3), .val (.int sh), .val (.int nn), .val (.int jg), .val (.int ja), .val (.int jb), .val (.int jc), .val (.int jd), .val (.ref s0), .val (.ref s1), .val (.ref s2), .val (.ref s3), .val (.ref a5), .val (.ref alx), .val (.double g), .second, .val (.int u0), .val (.int u1), .val (.int u2), .val (.int u3), .val (.int (((u0 + u1) + u2) + u3)), .val (.int w0), .val (.int w1), .val (.int w2), .val (.double m3), .second, .val (.int n3), .unset, .unset] [])) := by
                                        intro TJS18 n3 m3 sa3 mg3 WJS18 HJS18
                                        have hlaw := own_law hrec hzs (own_sum hrs ub0 ub1 ub2 wb0 wb1 wb2 sa1 sa2 sa3) ub0 ub1 ub2 ub3
                                        refine g_iload WJS18 at_510 (pc' := 512) rfl rfl ?_
                                        refine g_if WJS18 at_512 (pcy := 519) (by decide) (pc' := 515) rfl (fun (c8 : ¬ (((u0 + u1) + u2) + u3) = (0 : Int32)) => ?_) (fun (c8 : ¬ ¬ (((u0 + u1) + u2) + u3) = (0 : Int32)) => ?_)
                                        · obtain rfl := hlaw.2 c8
                                          refine g_dload WJS18 at_519 (pc' := 521) rfl rfl ?_
                                          refine g_iload WJS18 at_521 (pc' := 523) rfl rfl ?_
                                          refine g_i2d WJS18 at_523 (pc' := 524) rfl rfl ?_
                                          refine g_ddiv WJS18 at_524 (pc' := 525) rfl rfl (own_div mg3 (by decide) c8) ?_
                                          refine g_dstore WJS18 at_525 (pc' := 527) rfl (ls' := #[.val (.int r0), .val (.int r1), .val (.int r2), .val (.int r3), .val (.int sh), .val (.int nn), .val (.int jg), .val (.int ja), .val (.int jb), .val (.int jc), .val (.int jd), .val (.ref s0), .val (.ref s1), .val (.ref s2), .val (.ref s3), .val (.ref a5), .val (.ref alx), .val (.double (FP.ddiv m3 (FP.i2d (((u0 + u1) + u2) + u3)))), .second, .val (.int u0), .val (.int u1), .val (.int u2), .val (.int u3), .val (.int (((u0 + u1) + u2) + u3)), .val (.int w0), .val (.int w1), .val (.int w2), .val (.double m3), .second, .val (.int n3), .val (.double (FP.ddiv m3 (FP.i2d (((u0 + u1) + u2) + u3)))), .second]) rfl ?_
                                          refine g_dload WJS18 at_527 (pc' := 529) rfl rfl ?_
                                          refine g_dload WJS18 at_529 (pc' := 531) rfl rfl ?_
                                          refine g_dcmp WJS18 at_531 (pc' := 532) rfl rfl ?_
                                          rw [show (cmpValue (FP.dcmp (FP.ddiv m3 (FP.i2d (((u0 + u1) + u2) + u3))) (FP.ddiv m3 (FP.i2d (((u0 + u1) + u2) + u3)))) .l) = (0 : Int32) from dcmpV_self (own_div mg3 (by decide) c8) .l]
                                          refine g_if WJS18 at_532 (pcy := 539) (by decide) (pc' := 535) rfl (fun (h : ¬ (0 : Int32) = (0 : Int32)) => absurd h (by decide)) (fun _ => ?_)
                                          refine g_iconst WJS18 at_535 (pc' := 536) rfl (v := (1 : Int32)) (by decide) ?_
                                          refine g_goto WJS18 at_536 (pc' := 540) (by decide) ?_
                                          exact g_zreturn WJS18 (by decide) at_540 rfl (by decide) (by decide)
                                        · replace c8 := Classical.not_not.mp c8
                                          obtain rfl := hlaw.1 c8
                                          refine g_dconst0 WJS18 at_515 (pc' := 516) rfl ?_
                                          refine g_goto WJS18 at_516 (pc' := 525) (by decide) ?_
                                          refine g_dstore WJS18 at_525 (pc' := 527) rfl (ls' := #[.val (.int r0), .val (.int r1), .val (.int r2), .val (.int r3), .val (.int sh), .val (.int nn), .val (.int jg), .val (.int ja), .val (.int jb), .val (.int jc), .val (.int jd), .val (.ref s0), .val (.ref s1), .val (.ref s2), .val (.ref s3), .val (.ref a5), .val (.ref alx), .val (.double 0), .second, .val (.int u0), .val (.int u1), .val (.int u2), .val (.int u3), .val (.int (((u0 + u1) + u2) + u3)), .val (.int w0), .val (.int w1), .val (.int w2), .val (.double m3), .second, .val (.int n3), .val (.double 0), .second]) rfl ?_
                                          refine g_dload WJS18 at_527 (pc' := 529) rfl rfl ?_
                                          refine g_dload WJS18 at_529 (pc' := 531) rfl rfl ?_
                                          refine g_dcmp WJS18 at_531 (pc' := 532) rfl rfl ?_
                                          rw [show (cmpValue (FP.dcmp 0 0) .l) = (0 : Int32) from dcmpV_self (by unfold NoNaN64; decide) .l]
                                          refine g_if WJS18 at_532 (pcy := 539) (by decide) (pc' := 535) rfl (fun (h : ¬ (0 : Int32) = (0 : Int32)) => absurd h (by decide)) (fun _ => ?_)
                                          refine g_iconst WJS18 at_535 (pc' := 536) rfl (v := (1 : Int32)) (by decide) ?_
                                          refine g_goto WJS18 at_536 (pc' := 540) (by decide) ?_
                                          exact g_zreturn WJS18 (by decide) at_540 rfl (by decide) (by decide)
                                      refine g_if WJS17 at_489 (pcy := 510) (by decide) (pc' := 492) rfl (fun (c9 : w2 = (0 : Int32)) => ?_) (fun (c9 : ¬ w2 = (0 : Int32)) => ?_)
                                      · exact S18 _ n2 m2 (stp0 c9) (mg2.mono (by decide)) WJS17 HJS17
                                      · refine g_iload WJS17 at_492 (pc' := 494) rfl rfl ?_
                                        refine g_iconst WJS17 at_494 (pc' := 495) rfl (v := (1 : Int32)) (by decide) ?_
                                        refine g_iadd WJS17 at_495 (pc' := 496) rfl rfl ?_
                                        refine g_istore WJS17 at_496 (pc' := 498) rfl (ls' := #[.val (.int r0), .val (.int r1), .val (.int r2), .val (.int r3), .val (.int sh), .val (.int nn), .val (.int jg), .val (.int ja), .val (.int jb), .val (.int jc), .val (.int jd), .val (.ref s0), .val (.ref s1), .val (.ref s2), .val (.ref s3), .val (.ref a5), .val (.ref alx), .val (.double g), .second, .val (.int u0), .val (.int u1), .val (.int u2), .val (.int u3), .val (.int (((u0 + u1) + u2) + u3)), .val (.int w0), .val (.int w1), .val (.int w2), .val (.double m2), .second, .val (.int (n2 + (1 : Int32))), .unset, .unset]) rfl ?_
                                        refine g_dload WJS17 at_498 (pc' := 500) rfl rfl ?_
                                        refine g_iload WJS17 at_500 (pc' := 502) rfl rfl ?_
                                        refine g_i2d WJS17 at_502 (pc' := 503) rfl rfl ?_
                                        refine g_ldc2Double WJS17 (wd_284 hw) at_503 (pc' := 506) rfl ?_
                                        refine g_ddiv WJS17 at_506 (pc' := 507) rfl rfl (own_nn own_d2 (by decide)) ?_
                                        refine g_dadd WJS17 at_507 (pc' := 508) rfl rfl (own_nn (own_madd mg2 own_d2 (by decide) (by decide) (K' := 1106) (by decide)) (by decide)) ?_
                                        refine g_dstore WJS17 at_508 (pc' := 510) rfl (ls' := #[.val (.int r0), .val (.int r1), .val (.int r2), .val (.int r3), .val (.int sh), .val (.int nn), .val (.int jg), .val (.int ja), .val (.int jb), .val (.int jc), .val (.int jd), .val (.ref s0), .val (.ref s1), .val (.ref s2), .val (.ref s3), .val (.ref a5), .val (.ref alx), .val (.double g), .second, .val (.int u0), .val (.int u1), .val (.int u2), .val (.int u3), .val (.int (((u0 + u1) + u2) + u3)), .val (.int w0), .val (.int w1), .val (.int w2), .val (.double (FP.dadd m2 (FP.ddiv (FP.i2d (n2 + (1 : Int32))) (4613937818241073152 : UInt64)))), .second, .val (.int (n2 + (1 : Int32))), .unset, .unset]) rfl ?_
                                        exact S18 _ (n2 + (1 : Int32)) (FP.dadd m2 (FP.ddiv (FP.i2d (n2 + (1 : Int32))) (4613937818241073152 : UInt64))) (stp1 c9) (own_madd mg2 own_d2 (by decide) (by decide) (by decide)) WJS17 HJS17
                                    refine g_if WJS16 at_466 (pcy := 487) (by decide) (pc' := 469) rfl (fun (c10 : w1 = (0 : Int32)) => ?_) (fun (c10 : ¬ w1 = (0 : Int32)) => ?_)
                                    · exact S17 _ n1 m1 (stp0 c10) (mg1.mono (by decide)) WJS16 HJS16
                                    · refine g_iload WJS16 at_469 (pc' := 471) rfl rfl ?_
                                      refine g_iconst WJS16 at_471 (pc' := 472) rfl (v := (1 : Int32)) (by decide) ?_
                                      refine g_iadd WJS16 at_472 (pc' := 473) rfl rfl ?_
                                      refine g_istore WJS16 at_473 (pc' := 475) rfl (ls' := #[.val (.int r0), .val (.int r1), .val (.int r2), .val (.int r3), .val (.int sh), .val (.int nn), .val (.int jg), .val (.int ja), .val (.int jb), .val (.int jc), .val (.int jd), .val (.ref s0), .val (.ref s1), .val (.ref s2), .val (.ref s3), .val (.ref a5), .val (.ref alx), .val (.double g), .second, .val (.int u0), .val (.int u1), .val (.int u2), .val (.int u3), .val (.int (((u0 + u1) + u2) + u3)), .val (.int w0), .val (.int w1), .val (.int w2), .val (.double m1), .second, .val (.int (n1 + (1 : Int32))), .unset, .unset]) rfl ?_
                                      refine g_dload WJS16 at_475 (pc' := 477) rfl rfl ?_
                                      refine g_iload WJS16 at_477 (pc' := 479) rfl rfl ?_
                                      refine g_i2d WJS16 at_479 (pc' := 480) rfl rfl ?_
                                      refine g_ldc2Double WJS16 (wd_322 hw) at_480 (pc' := 483) rfl ?_
                                      refine g_ddiv WJS16 at_483 (pc' := 484) rfl rfl (own_nn own_d1 (by decide)) ?_
                                      refine g_dadd WJS16 at_484 (pc' := 485) rfl rfl (own_nn (own_madd mg1 own_d1 (by decide) (by decide) (K' := 1104) (by decide)) (by decide)) ?_
                                      refine g_dstore WJS16 at_485 (pc' := 487) rfl (ls' := #[.val (.int r0), .val (.int r1), .val (.int r2), .val (.int r3), .val (.int sh), .val (.int nn), .val (.int jg), .val (.int ja), .val (.int jb), .val (.int jc), .val (.int jd), .val (.ref s0), .val (.ref s1), .val (.ref s2), .val (.ref s3), .val (.ref a5), .val (.ref alx), .val (.double g), .second, .val (.int u0), .val (.int u1), .val (.int u2), .val (.int u3), .val (.int (((u0 + u1) + u2) + u3)), .val (.int w0), .val (.int w1), .val (.int w2), .val (.double (FP.dadd m1 (FP.ddiv (FP.i2d (n1 + (1 : Int32))) (4611686018427387904 : UInt64)))), .second, .val (.int (n1 + (1 : Int32))), .unset, .unset]) rfl ?_
                                      exact S17 _ (n1 + (1 : Int32)) (FP.dadd m1 (FP.ddiv (FP.i2d (n1 + (1 : Int32))) (4611686018427387904 : UInt64))) (stp1 c10) (own_madd mg1 own_d1 (by decide) (by decide) (by decide)) WJS16 HJS16
                                  refine g_if WJS15 at_445 (pcy := 464) (by decide) (pc' := 448) rfl (fun (c11 : w0 = (0 : Int32)) => ?_) (fun (c11 : ¬ w0 = (0 : Int32)) => ?_)
                                  · exact S16 _ (0 : Int32) 0 (stp0 c11) (own_m0.mono (by decide)) WJS15 HJS15
                                  · refine g_iload WJS15 at_448 (pc' := 450) rfl rfl ?_
                                    refine g_iconst WJS15 at_450 (pc' := 451) rfl (v := (1 : Int32)) (by decide) ?_
                                    refine g_iadd WJS15 at_451 (pc' := 452) rfl (v := (1 : Int32)) (by decide) ?_
                                    refine g_istore WJS15 at_452 (pc' := 454) rfl (ls' := #[.val (.int r0), .val (.int r1), .val (.int r2), .val (.int r3), .val (.int sh), .val (.int nn), .val (.int jg), .val (.int ja), .val (.int jb), .val (.int jc), .val (.int jd), .val (.ref s0), .val (.ref s1), .val (.ref s2), .val (.ref s3), .val (.ref a5), .val (.ref alx), .val (.double g), .second, .val (.int u0), .val (.int u1), .val (.int u2), .val (.int u3), .val (.int (((u0 + u1) + u2) + u3)), .val (.int w0), .val (.int w1), .val (.int w2), .val (.double 0), .second, .val (.int (1 : Int32)), .unset, .unset]) rfl ?_
                                    refine g_dload WJS15 at_454 (pc' := 456) rfl rfl ?_
                                    refine g_iload WJS15 at_456 (pc' := 458) rfl rfl ?_
                                    refine g_i2d WJS15 at_458 (pc' := 459) rfl rfl ?_
                                    refine g_dconst1 WJS15 at_459 (pc' := 460) rfl ?_
                                    refine g_ddiv WJS15 at_460 (pc' := 461) rfl rfl (own_nn own_d0 (by decide)) ?_
                                    refine g_dadd WJS15 at_461 (pc' := 462) rfl rfl (own_nn (own_madd own_m0 own_d0 (by decide) (by decide) (K' := 1102) (by decide)) (by decide)) ?_
                                    refine g_dstore WJS15 at_462 (pc' := 464) rfl (ls' := #[.val (.int r0), .val (.int r1), .val (.int r2), .val (.int r3), .val (.int sh), .val (.int nn), .val (.int jg), .val (.int ja), .val (.int jb), .val (.int jc), .val (.int jd), .val (.ref s0), .val (.ref s1), .val (.ref s2), .val (.ref s3), .val (.ref a5), .val (.ref alx), .val (.double g), .second, .val (.int u0), .val (.int u1), .val (.int u2), .val (.int u3), .val (.int (((u0 + u1) + u2) + u3)), .val (.int w0), .val (.int w1), .val (.int w2), .val (.double (FP.dadd 0 (FP.ddiv (FP.i2d (1 : Int32)) (4607182418800017408 : UInt64)))), .second, .val (.int (1 : Int32)), .unset, .unset]) rfl ?_
                                    exact S16 _ (1 : Int32) (FP.dadd 0 (FP.ddiv (FP.i2d (1 : Int32)) (4607182418800017408 : UInt64))) (stp1 c11) (own_madd own_m0 own_d0 (by decide) (by decide) (by decide)) WJS15 HJS15
                                refine g_icmp WJS14 at_422 (pcy := 434) (by decide) (pc' := 425) rfl (fun (c12 : ¬ (2 : Int32) < nn) => ?_) (fun (c12 : ¬ ¬ (2 : Int32) < nn) => ?_)
                                · refine g_iconst WJS14 at_434 (pc' := 435) rfl (v := (0 : Int32)) (by decide) ?_
                                  exact S15 _ _ (if_neg c12) WJS14 HJS14
                                · replace c12 := Classical.not_not.mp c12
                                  refine g_iload WJS14 at_425 (pc' := 427) rfl rfl ?_
                                  refine g_if WJS14 at_427 (pcy := 434) (by decide) (pc' := 430) rfl (fun (c13 : u2 = (0 : Int32)) => ?_) (fun (c13 : ¬ u2 = (0 : Int32)) => ?_)
                                  · refine g_iconst WJS14 at_434 (pc' := 435) rfl (v := (0 : Int32)) (by decide) ?_
                                    exact S15 _ _ ((if_pos c12).trans c13) WJS14 HJS14
                                  · refine g_iconst WJS14 at_430 (pc' := 431) rfl (v := (1 : Int32)) (by decide) ?_
                                    refine g_goto WJS14 at_431 (pc' := 435) (by decide) ?_
                                    exact S15 _ _ ((if_pos c12).trans (ua2.resolve_left c13)) WJS14 HJS14
                              refine g_icmp WJS13 at_404 (pcy := 416) (by decide) (pc' := 407) rfl (fun (c14 : ¬ (1 : Int32) < nn) => ?_) (fun (c14 : ¬ ¬ (1 : Int32) < nn) => ?_)
                              · refine g_iconst WJS13 at_416 (pc' := 417) rfl (v := (0 : Int32)) (by decide) ?_
                                exact S14 _ _ (if_neg c14) WJS13 HJS13
                              · replace c14 := Classical.not_not.mp c14
                                refine g_iload WJS13 at_407 (pc' := 409) rfl rfl ?_
                                refine g_if WJS13 at_409 (pcy := 416) (by decide) (pc' := 412) rfl (fun (c15 : u1 = (0 : Int32)) => ?_) (fun (c15 : ¬ u1 = (0 : Int32)) => ?_)
                                · refine g_iconst WJS13 at_416 (pc' := 417) rfl (v := (0 : Int32)) (by decide) ?_
                                  exact S14 _ _ ((if_pos c14).trans c15) WJS13 HJS13
                                · refine g_iconst WJS13 at_412 (pc' := 413) rfl (v := (1 : Int32)) (by decide) ?_
                                  refine g_goto WJS13 at_413 (pc' := 417) (by decide) ?_
                                  exact S14 _ _ ((if_pos c14).trans (ua1.resolve_left c15)) WJS13 HJS13
                            refine g_if WJS12 at_386 (pcy := 398) (by decide) (pc' := 389) rfl (fun (c16 : ¬ (0 : Int32) < nn) => ?_) (fun (c16 : ¬ ¬ (0 : Int32) < nn) => ?_)
                            · refine g_iconst WJS12 at_398 (pc' := 399) rfl (v := (0 : Int32)) (by decide) ?_
                              exact S13 _ _ (if_neg c16) WJS12 HJS12
                            · replace c16 := Classical.not_not.mp c16
                              refine g_iload WJS12 at_389 (pc' := 391) rfl rfl ?_
                              refine g_if WJS12 at_391 (pcy := 398) (by decide) (pc' := 394) rfl (fun (c17 : u0 = (0 : Int32)) => ?_) (fun (c17 : ¬ u0 = (0 : Int32)) => ?_)
                              · refine g_iconst WJS12 at_398 (pc' := 399) rfl (v := (0 : Int32)) (by decide) ?_
                                exact S13 _ _ ((if_pos c16).trans c17) WJS12 HJS12
                              · refine g_iconst WJS12 at_394 (pc' := 395) rfl (v := (1 : Int32)) (by decide) ?_
                                refine g_goto WJS12 at_395 (pc' := 399) (by decide) ?_
                                exact S13 _ _ ((if_pos c16).trans (ua0.resolve_left c17)) WJS12 HJS12
                          refine g_if WJS11 at_373 (pcy := 380) (by decide) (pc' := 376) rfl (fun (c18 : u3 = (0 : Int32)) => ?_) (fun (c18 : ¬ u3 = (0 : Int32)) => ?_)
                          · refine g_iconst WJS11 at_380 (pc' := 381) rfl (v := (0 : Int32)) (by decide) ?_
                            exact S12 _ _ c18 WJS11 HJS11
                          · refine g_iconst WJS11 at_376 (pc' := 377) rfl (v := (1 : Int32)) (by decide) ?_
                            refine g_goto WJS11 at_377 (pc' := 381) (by decide) ?_
                            exact S12 _ _ (ua3.resolve_left c18) WJS11 HJS11
                        refine g_if WJS10 at_362 (pcy := 369) (by decide) (pc' := 365) rfl (fun (c19 : u2 = (0 : Int32)) => ?_) (fun (c19 : ¬ u2 = (0 : Int32)) => ?_)
                        · refine g_iconst WJS10 at_369 (pc' := 370) rfl (v := (0 : Int32)) (by decide) ?_
                          exact S11 _ _ c19 WJS10 HJS10
                        · refine g_iconst WJS10 at_365 (pc' := 366) rfl (v := (1 : Int32)) (by decide) ?_
                          refine g_goto WJS10 at_366 (pc' := 370) (by decide) ?_
                          exact S11 _ _ (ua2.resolve_left c19) WJS10 HJS10
                      refine g_if WJS9 at_351 (pcy := 358) (by decide) (pc' := 354) rfl (fun (c20 : u1 = (0 : Int32)) => ?_) (fun (c20 : ¬ u1 = (0 : Int32)) => ?_)
                      · refine g_iconst WJS9 at_358 (pc' := 359) rfl (v := (0 : Int32)) (by decide) ?_
                        exact S10 _ _ c20 WJS9 HJS9
                      · refine g_iconst WJS9 at_354 (pc' := 355) rfl (v := (1 : Int32)) (by decide) ?_
                        refine g_goto WJS9 at_355 (pc' := 359) (by decide) ?_
                        exact S10 _ _ (ua1.resolve_left c20) WJS9 HJS9
                    refine g_if WJS8 at_341 (pcy := 348) (by decide) (pc' := 344) rfl (fun (c21 : u0 = (0 : Int32)) => ?_) (fun (c21 : ¬ u0 = (0 : Int32)) => ?_)
                    · refine g_iconst WJS8 at_348 (pc' := 349) rfl (v := (0 : Int32)) (by decide) ?_
                      exact S9 _ _ c21 WJS8 HJS8
                    · refine g_iconst WJS8 at_344 (pc' := 345) rfl (v := (1 : Int32)) (by decide) ?_
                      refine g_goto WJS8 at_345 (pc' := 349) (by decide) ?_
                      exact S9 _ _ (ua0.resolve_left c21) WJS8 HJS8
                  refine g_if WJS7 at_324 (pcy := 336) (by decide) (pc' := 327) rfl (fun (c22 : jd = (0 : Int32)) => ?_) (fun (c22 : ¬ jd = (0 : Int32)) => ?_)
                  · refine g_iconst WJS7 at_336 (pc' := 337) rfl (v := (0 : Int32)) (by decide) ?_
                    exact S8 _ (0 : Int32) (Or.inl rfl) (by rw [own_j0 c22] <;> decide) WJS7 HJS7
                  · refine g_iloadN WJS7 at_327 (pc' := 328) rfl rfl ?_
                    refine g_iconst WJS7 at_328 (pc' := 329) rfl (v := (1 : Int32)) (by decide) ?_
                    refine g_icmp WJS7 at_329 (pcy := 336) (by decide) (pc' := 332) rfl (fun (c23 : r3 < (1 : Int32)) => ?_) (fun (c23 : ¬ r3 < (1 : Int32)) => ?_)
                    · refine g_iconst WJS7 at_336 (pc' := 337) rfl (v := (0 : Int32)) (by decide) ?_
                      exact S8 _ (0 : Int32) (Or.inl rfl) (by rw [own_j1 c22, own_p0 c23] <;> decide) WJS7 HJS7
                    · refine g_iconst WJS7 at_332 (pc' := 333) rfl (v := (1 : Int32)) (by decide) ?_
                      refine g_goto WJS7 at_333 (pc' := 337) (by decide) ?_
                      exact S8 _ (1 : Int32) (Or.inr rfl) (by rw [own_j1 c22, own_p1 c23] <;> decide) WJS7 HJS7
                refine g_if WJS6 at_307 (pcy := 319) (by decide) (pc' := 310) rfl (fun (c24 : jc = (0 : Int32)) => ?_) (fun (c24 : ¬ jc = (0 : Int32)) => ?_)
                · refine g_iconst WJS6 at_319 (pc' := 320) rfl (v := (0 : Int32)) (by decide) ?_
                  exact S7 _ (0 : Int32) (Or.inl rfl) (by rw [own_j0 c24] <;> decide) WJS6 HJS6
                · refine g_iloadN WJS6 at_310 (pc' := 311) rfl rfl ?_
                  refine g_iconst WJS6 at_311 (pc' := 312) rfl (v := (1 : Int32)) (by decide) ?_
                  refine g_icmp WJS6 at_312 (pcy := 319) (by decide) (pc' := 315) rfl (fun (c25 : r2 < (1 : Int32)) => ?_) (fun (c25 : ¬ r2 < (1 : Int32)) => ?_)
                  · refine g_iconst WJS6 at_319 (pc' := 320) rfl (v := (0 : Int32)) (by decide) ?_
                    exact S7 _ (0 : Int32) (Or.inl rfl) (by rw [own_j1 c24, own_p0 c25] <;> decide) WJS6 HJS6
                  · refine g_iconst WJS6 at_315 (pc' := 316) rfl (v := (1 : Int32)) (by decide) ?_
                    refine g_goto WJS6 at_316 (pc' := 320) (by decide) ?_
                    exact S7 _ (1 : Int32) (Or.inr rfl) (by rw [own_j1 c24, own_p1 c25] <;> decide) WJS6 HJS6
              refine g_if WJS5 at_290 (pcy := 302) (by decide) (pc' := 293) rfl (fun (c26 : jb = (0 : Int32)) => ?_) (fun (c26 : ¬ jb = (0 : Int32)) => ?_)
              · refine g_iconst WJS5 at_302 (pc' := 303) rfl (v := (0 : Int32)) (by decide) ?_
                exact S6 _ (0 : Int32) (Or.inl rfl) (by rw [own_j0 c26] <;> decide) WJS5 HJS5
              · refine g_iloadN WJS5 at_293 (pc' := 294) rfl rfl ?_
                refine g_iconst WJS5 at_294 (pc' := 295) rfl (v := (1 : Int32)) (by decide) ?_
                refine g_icmp WJS5 at_295 (pcy := 302) (by decide) (pc' := 298) rfl (fun (c27 : r1 < (1 : Int32)) => ?_) (fun (c27 : ¬ r1 < (1 : Int32)) => ?_)
                · refine g_iconst WJS5 at_302 (pc' := 303) rfl (v := (0 : Int32)) (by decide) ?_
                  exact S6 _ (0 : Int32) (Or.inl rfl) (by rw [own_j1 c26, own_p0 c27] <;> decide) WJS5 HJS5
                · refine g_iconst WJS5 at_298 (pc' := 299) rfl (v := (1 : Int32)) (by decide) ?_
                  refine g_goto WJS5 at_299 (pc' := 303) (by decide) ?_
                  exact S6 _ (1 : Int32) (Or.inr rfl) (by rw [own_j1 c26, own_p1 c27] <;> decide) WJS5 HJS5
            refine g_if W7 at_273 (pcy := 285) (by decide) (pc' := 276) rfl (fun (c28 : ja = (0 : Int32)) => ?_) (fun (c28 : ¬ ja = (0 : Int32)) => ?_)
            · refine g_iconst W7 at_285 (pc' := 286) rfl (v := (0 : Int32)) (by decide) ?_
              exact S5 _ (0 : Int32) (Or.inl rfl) (by rw [own_j0 c28] <;> decide) W7 H7
            · refine g_iloadN W7 at_276 (pc' := 277) rfl rfl ?_
              refine g_iconst W7 at_277 (pc' := 278) rfl (v := (1 : Int32)) (by decide) ?_
              refine g_icmp W7 at_278 (pcy := 285) (by decide) (pc' := 281) rfl (fun (c29 : r0 < (1 : Int32)) => ?_) (fun (c29 : ¬ r0 < (1 : Int32)) => ?_)
              · refine g_iconst W7 at_285 (pc' := 286) rfl (v := (0 : Int32)) (by decide) ?_
                exact S5 _ (0 : Int32) (Or.inl rfl) (by rw [own_j1 c28, own_p0 c29] <;> decide) W7 H7
              · refine g_iconst W7 at_281 (pc' := 282) rfl (v := (1 : Int32)) (by decide) ?_
                refine g_goto W7 at_282 (pc' := 286) (by decide) ?_
                exact S5 _ (1 : Int32) (Or.inr rfl) (by rw [own_j1 c28, own_p1 c29] <;> decide) W7 H7
          have TP4 : ∀ (TJTP4 : State) (tb : Addr) (sz mc : Int32) (G : List HRow) (x0 : Value) (hv0 : Int32) (hb0 : Bk Z n0 G (97 : Int32) s0 x0 (own_j ja r0)) (hh0 : hv0 = 0 ∨ hv0 = (97 : Int32)) (x1 : Value) (hv1 : Int32) (hb1 : Bk Z n0 G (98 : Int32) s1 x1 (own_j jb r1)) (hh1 : hv1 = 0 ∨ hv1 = (98 : Int32)) (x2 : Value) (hv2 : Int32) (hb2 : Bk Z n0 G (99 : Int32) s2 x2 (own_j jc r2)) (hh2 : hv2 = 0 ∨ hv2 = (99 : Int32)) (x3 : Value) (hv3 : Int32) (hb3 : Bk Z n0 G (100 : Int32) s3 x3 (own_j jd r3)) (hh3 : hv3 = 0 ∨ hv3 = (100 : Int32)) (hsz : sz.toInt = ((own_refs (own_bs (own_j ja r0) (own_j jb r1) (own_j jc r2) (own_j jd r3)) : Nat) : Int)) (hszp : (0 : Int32) < sz), Wk Z x code maxLocals ret n0 p l e room_1 s m #[.int r0, .int r1, .int r2, .int r3, .int sh] below meth c TJTP4 21 112 → Hp Z n0 TJTP4.heap ((a5, ObC Z "java/util/HashMap" (fs_HashMap (.float (1061158912 : UInt32)) (.int sz) .null (.int mc) (.ref tb) (.int (12 : Int32)))) :: (tb, RaC Z "java/util/HashMap$Node" (own_vs x0 x1 x2 x3)) :: (s0, ObC Z "java/lang/String" (fs_String (.ref b0) (.int (0 : Int32)) (.int hv0) (.int (0 : Int32)))) :: (b0, ArC Z .byte [.int (97 : Int32)]) :: (s1, ObC Z "java/lang/String" (fs_String (.ref b1) (.int (0 : Int32)) (.int hv1) (.int (0 : Int32)))) :: (b1, ArC Z .byte [.int (98 : Int32)]) :: (s2, ObC Z "java/lang/String" (fs_String (.ref b2) (.int (0 : Int32)) (.int hv2) (.int (0 : Int32)))) :: (b2, ArC Z .byte [.int (99 : Int32)]) :: (s3, ObC Z "java/lang/String" (fs_String (.ref b3) (.int (0 : Int32)) (.int hv3) (.int (0 : Int32)))) :: (b3, ArC Z .byte [.int (100 : Int32)]) :: (G ++ [])) → Goes p e below (En s n0 (Room.cells room_1) (Room.slots room_1) (fun v _ => v = some (.int 1))) (TJTP4.setTop (mkF m 177 #[.val (.int r0), .val (.int r1), .val (.int r2), .val (.int r3), .val (.int sh), .val (.int nn), .val (.int jg), .val (.int ja), .val (.int jb), .val (.int jc), .val (.int jd), .val (.ref s0), .val (.ref s1), .val (.ref s2), .val (.ref s3), .val (.ref a5), .unset, .unset, .unset, .unset, .unset, .unset, .unset, .unset, .unset, .unset, .unset, .unset, .unset, .unset, .unset, .unset] [])) := by
            intro TJTP4 tb sz mc G x0 hv0 hb0 hh0 x1 hv1 hb1 hh1 x2 hv2 hb2 hh2 x3 hv3 hb3 hh3 hsz hszp WJTP4 HJTP4
            refine g_new WJTP4 (wd_42 hw) (wd_43 hw) (wd_44 hw) (la_ArrayList hw) (by decide) HJTP4 at_177 (pc' := 180) rfl (kc' := 22) (ks' := 115) rfl rfl (by decide) (by decide) ?_
            intro T30 a30 W30 H30
            refine g_dup W30 at_180 (pc' := 181) rfl rfl ?_
            refine g_callI W30 (argsL := []) (st := [.ref a30]) rfl (wd_45 hw) (wd_46 hw) (wd_44 hw) (wd_47 hw) (by decide) (a := a30) (c_alini l Z a0 hw n0 de dc hD hA hA0 a30 _ _ H30) pd_6 rfl rfl rfl at_181 (pc' := 184) rfl (by decide) (Wn := 1) (Nat.le_of_eq rfl) (by decide) (kc' := 22) (ks' := 115) rfl rfl (by decide) (by decide) ?_
            intro T31 v31 W31 hp31
            obtain ⟨rfl, H31⟩ := hp31
            show Goes _ _ _ _ (State.setTop _ (mkF _ _ _ [.ref a30]))
            refine g_astore W31 at_184 (pc' := 186) rfl rfl (ls' := #[.val (.int r0), .val (.int r1), .val (.int r2), .val (.int r3), .val (.int sh), .val (.int nn), .val (.int jg), .val (.int ja), .val (.int jb), .val (.int jc), .val (.int jd), .val (.ref s0), .val (.ref s1), .val (.ref s2), .val (.ref s3), .val (.ref a5), .val (.ref a30), .unset, .unset, .unset, .unset, .unset, .unset, .unset, .unset, .unset, .unset, .unset, .unset, .unset, .unset, .unset]) rfl ?_
            refine g_iload W31 at_186 (pc' := 188) rfl rfl ?_
            refine g_if W31 at_188 (pcy := 209) (by decide) (pc' := 191) rfl (fun (c32 : ¬ (0 : Int32) < nn) => ?_) (fun (c32 : ¬ ¬ (0 : Int32) < nn) => ?_)
            · obtain rfl : nn = (0 : Int32) := own_nb0 hn4 c32
              refine g_iload W31 at_209 (pc' := 211) rfl rfl ?_
              refine g_iconst W31 at_211 (pc' := 212) rfl (v := (1 : Int32)) (by decide) ?_
              refine g_icmp W31 at_212 (pcy := 233) (by decide) (pc' := 215) rfl (fun _ => ?_) (fun (h : ¬ ¬ (1 : Int32) < (0 : Int32)) => absurd h (by decide))
              refine g_iload W31 at_233 (pc' := 235) rfl rfl ?_
              refine g_iconst W31 at_235 (pc' := 236) rfl (v := (2 : Int32)) (by decide) ?_
              refine g_icmp W31 at_236 (pcy := 255) (by decide) (pc' := 239) rfl (fun _ => ?_) (fun (h : ¬ ¬ (2 : Int32) < (0 : Int32)) => absurd h (by decide))
              refine g_new W31 (wd_66 hw) (wd_67 hw) (wd_68 hw) (la_JudgedRanking hw) (by decide) H31 at_255 (pc' := 258) rfl (kc' := 23) (ks' := 117) rfl rfl (by decide) (by decide) ?_
              intro T33 a33 W33 H33
              refine g_dup W33 at_258 (pc' := 259) rfl rfl ?_
              refine g_aload W33 at_259 (pc' := 261) rfl rfl rfl ?_
              refine g_aload W33 at_261 (pc' := 263) rfl rfl rfl ?_
              have H34f := Hp.fr3 H33
              have H35f := Hp.fr3 H34f
              have H36f := Hp.fr3 H35f
              have H37f := Hp.fr3 H36f
              refine g_callI W33 (argsL := [.ref a30, .ref a5]) (st := [.ref a33]) rfl (wd_69 hw) (wd_70 hw) (wd_68 hw) (wd_71 hw) (by decide) (a := a33) (c_jr0t l Z a0 hw n0 cs hS hcs ca cc hH hCa hB a33 a30 de a5 tb (0 : Int32) sz mc (12 : Int32) [] (own_vs x0 x1 x2 x3) (own_bs (own_j ja r0) (own_j jb r1) (own_j jc r2) (own_j jd r3)) _ (vs_len _ _ _ _) (vs_16 _ _ _ _) ((own_rel hb0 hb1 hb2 hb3).mono (fun r hr => (mc8 (List.mem_append_left _ hr)))) hsz (refs4 _ _ _ _) hszp _ H37f) pd_36 rfl rfl rfl at_263 (pc' := 266) rfl (by decide) (Wn := 1) (Nat.le_of_eq rfl) (by decide) (kc' := 28) (ks' := 135) rfl rfl (by decide) (by decide) ?_
              intro T38 v38 W38 hp38
              obtain ⟨rra, bi, zs, JF, rfl, hz, H38⟩ := hp38
              show Goes _ _ _ _ (State.setTop _ (mkF _ _ _ [.ref a33]))
              exact RJ _ a30 a33 rra bi [] zs JF (Or.inl ⟨rfl, rfl⟩) hz (W38.more (by decide) (by decide)) H38
            · replace c32 := Classical.not_not.mp c32
              refine g_aload W31 at_191 (pc' := 193) rfl rfl rfl ?_
              refine g_new W31 (wd_281 hw) (wd_282 hw) (wd_283 hw) (la_ScoredDocument hw) (by decide) H31 at_193 (pc' := 196) rfl (kc' := 23) (ks' := 117) rfl rfl (by decide) (by decide) ?_
              intro T39 a39 W39 H39
              refine g_dup W39 at_196 (pc' := 197) rfl rfl ?_
              refine g_aload W39 at_197 (pc' := 199) rfl rfl rfl ?_
              refine g_ldc2Double W39 (wd_284 hw) at_199 (pc' := 202) rfl ?_
              refine g_callI W39 (argsL := [.ref s0, .double (4613937818241073152 : UInt64)]) (st := [.ref a39, .ref a30]) rfl (wd_285 hw) (wd_286 hw) (wd_283 hw) (wd_287 hw) (by decide) (a := a39) (c_sdi l Z a0 hw n0 a39 s0 (4613937818241073152 : UInt64) _ _ H39) pd_37 rfl rfl rfl at_202 (pc' := 205) rfl (by decide) (Wn := 2) (Nat.le_of_eq rfl) (by decide) (kc' := 23) (ks' := 117) rfl rfl (by decide) (by decide) ?_
              intro T40 v40 W40 hp40
              obtain ⟨rfl, H40⟩ := hp40
              show Goes _ _ _ _ (State.setTop _ (mkF _ _ _ [.ref a39, .ref a30]))
              have H41f := Hp.fr1 H40
              refine g_callV W40 (argsL := [.ref a39]) (st := []) (wd_293 hw) (wd_294 hw) (wd_296 hw) (wd_295 hw) (wd_44 hw) (wd_297 hw) (by decide) (a := a30) H41f (i := 0) rfl (c_add10 l Z a0 hw n0 de dc hD hA hA0 a30 (0 : Int32) _ a39 _ (List.mem_cons_self ..) _ H41f) pd_38 rfl rfl rfl at_205 (pc' := 208) rfl (by decide) (Wn := 0) (Nat.le_of_eq rfl) (by decide) (kc' := 24) (ks' := 127) rfl rfl (by decide) (by decide) ?_
              intro T42 v42 W42 hp42
              obtain ⟨el1, rfl, H42⟩ := hp42
              show Goes _ _ _ _ (State.setTop _ (mkF _ _ _ [.int (1 : Int32)]))
              refine g_pop W42 at_208 (pc' := 209) rfl rfl ?_
              refine g_iload W42 at_209 (pc' := 211) rfl rfl ?_
              refine g_iconst W42 at_211 (pc' := 212) rfl (v := (1 : Int32)) (by decide) ?_
              refine g_icmp W42 at_212 (pcy := 233) (by decide) (pc' := 215) rfl (fun (c43 : ¬ (1 : Int32) < nn) => ?_) (fun (c43 : ¬ ¬ (1 : Int32) < nn) => ?_)
              · obtain rfl : nn = (1 : Int32) := own_nb1 hn4 c32 c43
                refine g_iload W42 at_233 (pc' := 235) rfl rfl ?_
                refine g_iconst W42 at_235 (pc' := 236) rfl (v := (2 : Int32)) (by decide) ?_
                refine g_icmp W42 at_236 (pcy := 255) (by decide) (pc' := 239) rfl (fun _ => ?_) (fun (h : ¬ ¬ (2 : Int32) < (1 : Int32)) => absurd h (by decide))
                refine g_new W42 (wd_66 hw) (wd_67 hw) (wd_68 hw) (la_JudgedRanking hw) (by decide) H42 at_255 (pc' := 258) rfl (kc' := 25) (ks' := 129) rfl rfl (by decide) (by decide) ?_
                intro T44 a44 W44 H44
                refine g_dup W44 at_258 (pc' := 259) rfl rfl ?_
                refine g_aload W44 at_259 (pc' := 261) rfl rfl rfl ?_
                refine g_aload W44 at_261 (pc' := 263) rfl rfl rfl ?_
                have H45f := Hp.fr7 H44
                have H46f := Hp.fr7 H45f
                have H47f := Hp.fr7 H46f
                have H48f := Hp.fr7 H47f
                have H49f := Hp.fr5 H48f
                have H50f := Hp.fr6 H49f
                have H51f := Hp.fr6 H50f
                refine g_callI W44 (argsL := [.ref a30, .ref a5]) (st := [.ref a44]) rfl (wd_69 hw) (wd_70 hw) (wd_68 hw) (wd_71 hw) (by decide) (a := a44) (c_jr1t l Z a0 hw n0 cs hS hcs ca cc hH hCa hB a44 a30 el1 a5 tb ((0 : Int32) + (1 : Int32)) sz mc (12 : Int32) ((List.replicate 10 Value.null).set 0 (.ref a39)) (own_vs x0 x1 x2 x3) (own_bs (own_j ja r0) (own_j jb r1) (own_j jc r2) (own_j jd r3)) _ s0 b0 a39 (4613937818241073152 : UInt64) hv0 (own_g (own_j ja r0)) rfl (List.mem_cons_self ..) hh0 (Bk.hb (vs := (own_vs x0 x1 x2 x3)) (k := 1) hb0 rfl (fun r hr => (mc7 (List.mem_append_left _ hr)))) (vs_len _ _ _ _) (vs_16 _ _ _ _) ((own_rel hb0 hb1 hb2 hb3).mono (fun r hr => (mc7 (List.mem_append_left _ hr)))) hsz (refs4 _ _ _ _) hszp _ H51f) pd_36 rfl rfl rfl at_263 (pc' := 266) rfl (by decide) (Wn := 1) (Nat.le_of_eq rfl) (by decide) (kc' := 31) (ks' := 148) rfl rfl (by decide) (by decide) ?_
                intro T52 v52 W52 hp52
                obtain ⟨rra, bi, zs, JF, rfl, hz, H52⟩ := hp52
                show Goes _ _ _ _ (State.setTop _ (mkF _ _ _ [.ref a44]))
                exact RJ _ a30 a44 rra bi [own_g (own_j ja r0)] zs JF (Or.inr (Or.inl ⟨rfl, rfl⟩)) hz (W52.more (by decide) (by decide)) H52
              · replace c43 := Classical.not_not.mp c43
                refine g_aload W42 at_215 (pc' := 217) rfl rfl rfl ?_
                refine g_new W42 (wd_281 hw) (wd_282 hw) (wd_283 hw) (la_ScoredDocument hw) (by decide) H42 at_217 (pc' := 220) rfl (kc' := 25) (ks' := 129) rfl rfl (by decide) (by decide) ?_
                intro T53 a53 W53 H53
                refine g_dup W53 at_220 (pc' := 221) rfl rfl ?_
                refine g_aload W53 at_221 (pc' := 223) rfl rfl rfl ?_
                refine g_ldc2Double W53 (wd_322 hw) at_223 (pc' := 226) rfl ?_
                refine g_callI W53 (argsL := [.ref s1, .double (4611686018427387904 : UInt64)]) (st := [.ref a53, .ref a30]) rfl (wd_285 hw) (wd_286 hw) (wd_283 hw) (wd_287 hw) (by decide) (a := a53) (c_sdi l Z a0 hw n0 a53 s1 (4611686018427387904 : UInt64) _ _ H53) pd_37 rfl rfl rfl at_226 (pc' := 229) rfl (by decide) (Wn := 2) (Nat.le_of_eq rfl) (by decide) (kc' := 25) (ks' := 129) rfl rfl (by decide) (by decide) ?_
                intro T54 v54 W54 hp54
                obtain ⟨rfl, H54⟩ := hp54
                show Goes _ _ _ _ (State.setTop _ (mkF _ _ _ [.ref a53, .ref a30]))
                have H55f := Hp.fr1 H54
                have H56f := Hp.fr2 H55f
                refine g_callV W54 (argsL := [.ref a53]) (st := []) (wd_293 hw) (wd_294 hw) (wd_296 hw) (wd_295 hw) (wd_44 hw) (wd_297 hw) (by decide) (a := a30) H56f (i := 0) rfl (c_add11 l Z a0 hw n0 a30 ((0 : Int32) + (1 : Int32)) _ a53 _ (List.mem_cons_self ..) el1 ((List.replicate 10 Value.null).set 0 (.ref a39)) (1 : Int32) 1 (by rw [List.length_set]; decide) (by decide) (by decide) (by rw [List.length_set]; decide) _ H56f) pd_38 rfl rfl rfl at_229 (pc' := 232) rfl (by decide) (Wn := 0) (Nat.le_of_eq rfl) (by decide) (kc' := 25) (ks' := 129) rfl rfl (by decide) (by decide) ?_
                intro T57 v57 W57 hp57
                obtain ⟨rfl, H57⟩ := hp57
                show Goes _ _ _ _ (State.setTop _ (mkF _ _ _ [.int (1 : Int32)]))
                rw [show (1 : Int32) + (1 : Int32) = (2 : Int32) by decide] at H57
                refine g_pop W57 at_232 (pc' := 233) rfl rfl ?_
                refine g_iload W57 at_233 (pc' := 235) rfl rfl ?_
                refine g_iconst W57 at_235 (pc' := 236) rfl (v := (2 : Int32)) (by decide) ?_
                refine g_icmp W57 at_236 (pcy := 255) (by decide) (pc' := 239) rfl (fun (c58 : ¬ (2 : Int32) < nn) => ?_) (fun (c58 : ¬ ¬ (2 : Int32) < nn) => ?_)
                · obtain rfl : nn = (2 : Int32) := own_nb2 hn4 c32 c43 c58
                  refine g_new W57 (wd_66 hw) (wd_67 hw) (wd_68 hw) (la_JudgedRanking hw) (by decide) H57 at_255 (pc' := 258) rfl (kc' := 26) (ks' := 131) rfl rfl (by decide) (by decide) ?_
                  intro T59 a59 W59 H59
                  refine g_dup W59 at_258 (pc' := 259) rfl rfl ?_
                  refine g_aload W59 at_259 (pc' := 261) rfl rfl rfl ?_
                  refine g_aload W59 at_261 (pc' := 263) rfl rfl rfl ?_
                  have H60f := Hp.fr10 H59
                  have H61f := Hp.fr10 H60f
                  have H62f := Hp.fr10 H61f
                  have H63f := Hp.fr10 H62f
                  have H64f := Hp.fr10 H63f
                  have H65f := Hp.fr10 H64f
                  have H66f := Hp.fr8 H65f
                  have H67f := Hp.fr8 H66f
                  have H68f := Hp.fr8 H67f
                  refine g_callI W59 (argsL := [.ref a30, .ref a5]) (st := [.ref a59]) rfl (wd_69 hw) (wd_70 hw) (wd_68 hw) (wd_71 hw) (by decide) (a := a59) (c_jr2t l Z a0 hw n0 cs hS hcs ca cc hH hCa hB a59 a30 el1 a5 tb (((0 : Int32) + (1 : Int32)) + (1 : Int32)) sz mc (12 : Int32) (((List.replicate 10 Value.null).set 0 (.ref a39)).set 1 (.ref a53)) (own_vs x0 x1 x2 x3) (own_bs (own_j ja r0) (own_j jb r1) (own_j jc r2) (own_j jd r3)) _ s0 b0 a39 (4613937818241073152 : UInt64) hv0 (own_g (own_j ja r0)) rfl (mc1 (List.mem_cons_self ..)) hh0 (Bk.hb (vs := (own_vs x0 x1 x2 x3)) (k := 1) hb0 rfl (fun r hr => (mc6 (List.mem_append_left _ hr)))) s1 b1 a53 (4611686018427387904 : UInt64) hv1 (own_g (own_j jb r1)) rfl (List.mem_cons_self ..) hh1 (Bk.hb (vs := (own_vs x0 x1 x2 x3)) (k := 2) hb1 rfl (fun r hr => (mc6 (List.mem_append_left _ hr)))) (vs_len _ _ _ _) (vs_16 _ _ _ _) ((own_rel hb0 hb1 hb2 hb3).mono (fun r hr => (mc6 (List.mem_append_left _ hr)))) hsz (refs4 _ _ _ _) hszp _ H68f) pd_36 rfl rfl rfl at_263 (pc' := 266) rfl (by decide) (Wn := 1) (Nat.le_of_eq rfl) (by decide) (kc' := 33) (ks' := 151) rfl rfl (by decide) (by decide) ?_
                  intro T69 v69 W69 hp69
                  obtain ⟨rra, bi, zs, JF, rfl, hz, H69⟩ := hp69
                  show Goes _ _ _ _ (State.setTop _ (mkF _ _ _ [.ref a59]))
                  exact RJ _ a30 a59 rra bi [own_g (own_j ja r0), own_g (own_j jb r1)] zs JF (Or.inr (Or.inr (Or.inl ⟨rfl, rfl⟩))) hz (W69.more (by decide) (by decide)) H69
                · replace c58 := Classical.not_not.mp c58
                  refine g_aload W57 at_239 (pc' := 241) rfl rfl rfl ?_
                  refine g_new W57 (wd_281 hw) (wd_282 hw) (wd_283 hw) (la_ScoredDocument hw) (by decide) H57 at_241 (pc' := 244) rfl (kc' := 26) (ks' := 131) rfl rfl (by decide) (by decide) ?_
                  intro T70 a70 W70 H70
                  refine g_dup W70 at_244 (pc' := 245) rfl rfl ?_
                  refine g_aload W70 at_245 (pc' := 247) rfl rfl rfl ?_
                  refine g_dconst1 W70 at_247 (pc' := 248) rfl ?_
                  refine g_callI W70 (argsL := [.ref s2, .double (4607182418800017408 : UInt64)]) (st := [.ref a70, .ref a30]) rfl (wd_285 hw) (wd_286 hw) (wd_283 hw) (wd_287 hw) (by decide) (a := a70) (c_sdi l Z a0 hw n0 a70 s2 (4607182418800017408 : UInt64) _ _ H70) pd_37 rfl rfl rfl at_248 (pc' := 251) rfl (by decide) (Wn := 2) (Nat.le_of_eq rfl) (by decide) (kc' := 26) (ks' := 131) rfl rfl (by decide) (by decide) ?_
                  intro T71 v71 W71 hp71
                  obtain ⟨rfl, H71⟩ := hp71
                  show Goes _ _ _ _ (State.setTop _ (mkF _ _ _ [.ref a70, .ref a30]))
                  have H72f := Hp.fr2 H71
                  have H73f := Hp.fr2 H72f
                  refine g_callV W71 (argsL := [.ref a70]) (st := []) (wd_293 hw) (wd_294 hw) (wd_296 hw) (wd_295 hw) (wd_44 hw) (wd_297 hw) (by decide) (a := a30) H73f (i := 0) rfl (c_add11 l Z a0 hw n0 a30 (((0 : Int32) + (1 : Int32)) + (1 : Int32)) _ a70 _ (List.mem_cons_self ..) el1 (((List.replicate 10 Value.null).set 0 (.ref a39)).set 1 (.ref a53)) (2 : Int32) 2 (by rw [List.length_set, List.length_set]; decide) (by decide) (by decide) (by rw [List.length_set, List.length_set]; decide) _ H73f) pd_38 rfl rfl rfl at_251 (pc' := 254) rfl (by decide) (Wn := 0) (Nat.le_of_eq rfl) (by decide) (kc' := 26) (ks' := 131) rfl rfl (by decide) (by decide) ?_
                  intro T74 v74 W74 hp74
                  obtain ⟨rfl, H74⟩ := hp74
                  show Goes _ _ _ _ (State.setTop _ (mkF _ _ _ [.int (1 : Int32)]))
                  rw [show (2 : Int32) + (1 : Int32) = (3 : Int32) by decide] at H74
                  refine g_pop W74 at_254 (pc' := 255) rfl rfl ?_
                  obtain rfl : nn = (3 : Int32) := own_nb3 hn4 c32 c43 c58
                  refine g_new W74 (wd_66 hw) (wd_67 hw) (wd_68 hw) (la_JudgedRanking hw) (by decide) H74 at_255 (pc' := 258) rfl (kc' := 27) (ks' := 133) rfl rfl (by decide) (by decide) ?_
                  intro T75 a75 W75 H75
                  refine g_dup W75 at_258 (pc' := 259) rfl rfl ?_
                  refine g_aload W75 at_259 (pc' := 261) rfl rfl rfl ?_
                  refine g_aload W75 at_261 (pc' := 263) rfl rfl rfl ?_
                  have H76f := Hp.fr13 H75
                  have H77f := Hp.fr13 H76f
                  have H78f := Hp.fr13 H77f
                  have H79f := Hp.fr13 H78f
                  have H80f := Hp.fr13 H79f
                  have H81f := Hp.fr13 H80f
                  have H82f := Hp.fr13 H81f
                  have H83f := Hp.fr13 H82f
                  have H84f := Hp.fr10 H83f
                  have H85f := Hp.fr10 H84f
                  have H86f := Hp.fr10 H85f
                  refine g_callI W75 (argsL := [.ref a30, .ref a5]) (st := [.ref a75]) rfl (wd_69 hw) (wd_70 hw) (wd_68 hw) (wd_71 hw) (by decide) (a := a75) (c_jr3t l Z a0 hw n0 cs hS hcs ca cc hH hCa hB a75 a30 el1 a5 tb ((((0 : Int32) + (1 : Int32)) + (1 : Int32)) + (1 : Int32)) sz mc (12 : Int32) ((((List.replicate 10 Value.null).set 0 (.ref a39)).set 1 (.ref a53)).set 2 (.ref a70)) (own_vs x0 x1 x2 x3) (own_bs (own_j ja r0) (own_j jb r1) (own_j jc r2) (own_j jd r3)) _ s0 b0 a39 (4613937818241073152 : UInt64) hv0 (own_g (own_j ja r0)) rfl (mc2 (List.mem_cons_self ..)) hh0 (Bk.hb (vs := (own_vs x0 x1 x2 x3)) (k := 1) hb0 rfl (fun r hr => (mc5 (List.mem_append_left _ hr)))) s1 b1 a53 (4611686018427387904 : UInt64) hv1 (own_g (own_j jb r1)) rfl (mc1 (List.mem_cons_self ..)) hh1 (Bk.hb (vs := (own_vs x0 x1 x2 x3)) (k := 2) hb1 rfl (fun r hr => (mc5 (List.mem_append_left _ hr)))) s2 b2 a70 (4607182418800017408 : UInt64) hv2 (own_g (own_j jc r2)) rfl (List.mem_cons_self ..) hh2 (Bk.hb (vs := (own_vs x0 x1 x2 x3)) (k := 3) hb2 rfl (fun r hr => (mc5 (List.mem_append_left _ hr)))) (vs_len _ _ _ _) (vs_16 _ _ _ _) ((own_rel hb0 hb1 hb2 hb3).mono (fun r hr => (mc5 (List.mem_append_left _ hr)))) hsz (refs4 _ _ _ _) hszp _ H86f) pd_36 rfl rfl rfl at_263 (pc' := 266) rfl (by decide) (Wn := 1) (Nat.le_of_eq rfl) (by decide) (kc' := 35) (ks' := 154) rfl rfl (by decide) (by decide) ?_
                  intro T87 v87 W87 hp87
                  obtain ⟨rra, bi, zs, JF, rfl, hz, H87⟩ := hp87
                  show Goes _ _ _ _ (State.setTop _ (mkF _ _ _ [.ref a75]))
                  exact RJ _ a30 a75 rra bi [own_g (own_j ja r0), own_g (own_j jb r1), own_g (own_j jc r2)] zs JF (Or.inr (Or.inr (Or.inr ⟨rfl, rfl⟩))) hz (W87.more (by decide) (by decide)) H87
          have TP3 : ∀ (TJTP3 : State) (tb : Addr) (sz mc : Int32) (G : List HRow) (x0 : Value) (hv0 : Int32) (hb0 : Bk Z n0 G (97 : Int32) s0 x0 (own_j ja r0)) (hh0 : hv0 = 0 ∨ hv0 = (97 : Int32)) (x1 : Value) (hv1 : Int32) (hb1 : Bk Z n0 G (98 : Int32) s1 x1 (own_j jb r1)) (hh1 : hv1 = 0 ∨ hv1 = (98 : Int32)) (x2 : Value) (hv2 : Int32) (hb2 : Bk Z n0 G (99 : Int32) s2 x2 (own_j jc r2)) (hh2 : hv2 = 0 ∨ hv2 = (99 : Int32)) (hsz : sz.toInt = ((own_refs (own_bs (own_j ja r0) (own_j jb r1) (own_j jc r2) none) : Nat) : Int)) (hszp : (0 : Int32) < sz), Wk Z x code maxLocals ret n0 p l e room_1 s m #[.int r0, .int r1, .int r2, .int r3, .int sh] below meth c TJTP3 18 91 → Hp Z n0 TJTP3.heap ((a5, ObC Z "java/util/HashMap" (fs_HashMap (.float (1061158912 : UInt32)) (.int sz) .null (.int mc) (.ref tb) (.int (12 : Int32)))) :: (tb, RaC Z "java/util/HashMap$Node" (own_vs x0 x1 x2 .null)) :: (s0, ObC Z "java/lang/String" (fs_String (.ref b0) (.int (0 : Int32)) (.int hv0) (.int (0 : Int32)))) :: (b0, ArC Z .byte [.int (97 : Int32)]) :: (s1, ObC Z "java/lang/String" (fs_String (.ref b1) (.int (0 : Int32)) (.int hv1) (.int (0 : Int32)))) :: (b1, ArC Z .byte [.int (98 : Int32)]) :: (s2, ObC Z "java/lang/String" (fs_String (.ref b2) (.int (0 : Int32)) (.int hv2) (.int (0 : Int32)))) :: (b2, ArC Z .byte [.int (99 : Int32)]) :: (s3, ObC Z "java/lang/String" (fs_String (.ref b3) (.int (0 : Int32)) (.int (0 : Int32)) (.int (0 : Int32)))) :: (b3, ArC Z .byte [.int (100 : Int32)]) :: (G ++ [])) → Goes p e below (En s n0 (Room.cells room_1) (Room.slots room_1) (fun v _ => v = some (.int 1))) (TJTP3.setTop (mkF m 160 #[.val (.int r0), .val (.int r1), .val (.int r2), .val (.int r3), .val (.int sh), .val (.int nn), .val (.int jg), .val (.int ja), .val (.int jb), .val (.int jc), .val (.int jd), .val (.ref s0), .val (.ref s1), .val (.ref s2), .val (.ref s3), .val (.ref a5), .unset, .unset, .unset, .unset, .unset, .unset, .unset, .unset, .unset, .unset, .unset, .unset, .unset, .unset, .unset, .unset] [])) := by
            intro TJTP3 tb sz mc G x0 hv0 hb0 hh0 x1 hv1 hb1 hh1 x2 hv2 hb2 hh2 hsz hszp WJTP3 HJTP3
            refine g_iload WJTP3 at_160 (pc' := 162) rfl rfl ?_
            refine g_if WJTP3 at_162 (pcy := 177) (by decide) (pc' := 165) rfl (fun (c88 : jd = (0 : Int32)) => ?_) (fun (c88 : ¬ jd = (0 : Int32)) => ?_)
            · exact TP4 _ tb sz mc G x0 hv0 hb0 hh0 x1 hv1 hb1 hh1 x2 hv2 hb2 hh2 .null (0 : Int32) (Or.inl ⟨rfl, own_j0 c88⟩) (Or.inl rfl) (by rw [own_j0 c88]; exact hsz) hszp (WJTP3.more (by decide) (by decide)) HJTP3
            · refine g_aload WJTP3 at_165 (pc' := 167) rfl rfl rfl ?_
              refine g_aload WJTP3 at_167 (pc' := 169) rfl rfl rfl ?_
              refine g_iloadN WJTP3 at_169 (pc' := 170) rfl rfl ?_
              refine g_callS WJTP3 (argsL := [.int r3]) (st := [.ref s3, .ref a5]) (wd_207 hw) (wd_208 hw) (wd_209 hw) (wd_210 hw) (by decide) (c_ival l Z a0 hw n0 ca cc hH hCa hB r3 _ _ HJTP3) pd_28 rfl rfl rfl at_170 (pc' := 173) rfl (by decide) (Wn := 2) (Nat.le_of_eq rfl) (by decide) (kc' := 19) (ks' := 92) rfl rfl (by decide) (by decide) ?_
              intro T89 v89 W89 hp89
              obtain ⟨ix, G1, rfl, H89, hI⟩ := hp89
              show Goes _ _ _ _ (State.setTop _ (mkF _ _ _ [.ref ix, .ref s3, .ref a5]))
              replace H89 := Hp.sk10 H89
              have H90f := Hp.fr9 H89
              have H91f := Hp.fr9 H90f
              have H92f := Hp.fr3 H91f
              have H93f := Hp.fr3 H92f
              refine g_callV W89 (argsL := [.ref s3, .ref ix]) (st := []) (wd_214 hw) (wd_215 hw) (wd_217 hw) (wd_216 hw) (wd_28 hw) (wd_218 hw) (by decide) (a := a5) H93f (i := 0) rfl (c_put1 l Z a0 hw n0 cs hS hcs a5 s3 ix (100 : Int32) mc 4 (by decide) (by decide) tb (own_vs x0 x1 x2 .null) sz (vs_len _ _ _ _) (by rw [vs_16] <;> decide) rfl (own_12 hsz (refs4 _ _ _ _)) b3 (0 : Int32) keyD (Or.inl rfl) _ _ H93f) pd_29 rfl rfl rfl at_173 (pc' := 176) rfl (by decide) (Wn := 0) (Nat.le_of_eq rfl) (by decide) (kc' := 20) (ks' := 96) rfl rfl (by decide) (by decide) ?_
              intro T94 v94 W94 hp94
              obtain ⟨nd1, rfl, H94⟩ := hp94
              show Goes _ _ _ _ (State.setTop _ (mkF _ _ _ [.null]))
              refine g_pop W94 at_176 (pc' := 177) rfl rfl ?_
              have H95f := Hp.fr4 H94
              have H96f := Hp.fr4 H95f
              have H97f := Hp.fr10 H96f
              have H98f := Hp.fr10 H97f
              have H99f := Hp.fr10 H98f
              have H100f := Hp.fr10 H99f
              have H101f := Hp.fr10 H100f
              have H102f := Hp.fr10 H101f
              have H103f := Hp.fr10 H102f
              have H104f := Hp.fr10 H103f
              replace H104f : Hp Z n0 T94.heap ((a5, ObC Z "java/util/HashMap" (fs_HashMap (.float (1061158912 : UInt32)) (.int (sz + (1 : Int32))) .null (.int (mc + (1 : Int32))) (.ref tb) (.int (12 : Int32)))) :: (tb, RaC Z "java/util/HashMap$Node" (own_vs x0 x1 x2 (.ref nd1))) :: (s0, ObC Z "java/lang/String" (fs_String (.ref b0) (.int (0 : Int32)) (.int hv0) (.int (0 : Int32)))) :: (b0, ArC Z .byte [.int (97 : Int32)]) :: (s1, ObC Z "java/lang/String" (fs_String (.ref b1) (.int (0 : Int32)) (.int hv1) (.int (0 : Int32)))) :: (b1, ArC Z .byte [.int (98 : Int32)]) :: (s2, ObC Z "java/lang/String" (fs_String (.ref b2) (.int (0 : Int32)) (.int hv2) (.int (0 : Int32)))) :: (b2, ArC Z .byte [.int (99 : Int32)]) :: (s3, ObC Z "java/lang/String" (fs_String (.ref b3) (.int (0 : Int32)) (.int (100 : Int32)) (.int (0 : Int32)))) :: (b3, ArC Z .byte [.int (100 : Int32)]) :: (nd1, ObC Z "java/util/HashMap$Node" (fs_HashMap_Node (.int (100 : Int32)) (.ref s3) (.ref ix) .null)) :: (G1 ++ (G ++ []))) := H104f
              exact TP4 _ tb (sz + (1 : Int32)) (mc + (1 : Int32)) ((nd1, ObC Z "java/util/HashMap$Node" (fs_HashMap_Node (.int (100 : Int32)) (.ref s3) (.ref ix) .null)) :: (G1 ++ G)) x0 hv0 (hb0.mono (fun r hr => List.mem_cons_of_mem _ (List.mem_append_right _ hr))) hh0 x1 hv1 (hb1.mono (fun r hr => List.mem_cons_of_mem _ (List.mem_append_right _ hr))) hh1 x2 hv2 (hb2.mono (fun r hr => List.mem_cons_of_mem _ (List.mem_append_right _ hr))) hh2 (.ref nd1) (100 : Int32) (Or.inr ⟨nd1, ix, r3, rfl, own_j1 c88, List.mem_cons_self .., hI.mono (fun r hr => List.mem_cons_of_mem _ (List.mem_append_left _ hr))⟩) (Or.inr rfl) (by rw [own_j1 c88, refs_s3]; exact sc_i1 hsz (Nat.lt_of_le_of_lt (refs4 _ _ _ _) (by decide))) (own_gt0 (sc_i1 hsz (Nat.lt_of_le_of_lt (refs4 _ _ _ _) (by decide))) (Nat.succ_pos _)) (W94.more (by decide) (by decide)) (H104f.cast (by rw [List.cons_append, List.append_assoc]))
          have TP2 : ∀ (TJTP2 : State) (tb : Addr) (sz mc : Int32) (G : List HRow) (x0 : Value) (hv0 : Int32) (hb0 : Bk Z n0 G (97 : Int32) s0 x0 (own_j ja r0)) (hh0 : hv0 = 0 ∨ hv0 = (97 : Int32)) (x1 : Value) (hv1 : Int32) (hb1 : Bk Z n0 G (98 : Int32) s1 x1 (own_j jb r1)) (hh1 : hv1 = 0 ∨ hv1 = (98 : Int32)) (hsz : sz.toInt = ((own_refs (own_bs (own_j ja r0) (own_j jb r1) none none) : Nat) : Int)) (hszp : (0 : Int32) < sz), Wk Z x code maxLocals ret n0 p l e room_1 s m #[.int r0, .int r1, .int r2, .int r3, .int sh] below meth c TJTP2 15 70 → Hp Z n0 TJTP2.heap ((a5, ObC Z "java/util/HashMap" (fs_HashMap (.float (1061158912 : UInt32)) (.int sz) .null (.int mc) (.ref tb) (.int (12 : Int32)))) :: (tb, RaC Z "java/util/HashMap$Node" (own_vs x0 x1 .null .null)) :: (s0, ObC Z "java/lang/String" (fs_String (.ref b0) (.int (0 : Int32)) (.int hv0) (.int (0 : Int32)))) :: (b0, ArC Z .byte [.int (97 : Int32)]) :: (s1, ObC Z "java/lang/String" (fs_String (.ref b1) (.int (0 : Int32)) (.int hv1) (.int (0 : Int32)))) :: (b1, ArC Z .byte [.int (98 : Int32)]) :: (s2, ObC Z "java/lang/String" (fs_String (.ref b2) (.int (0 : Int32)) (.int (0 : Int32)) (.int (0 : Int32)))) :: (b2, ArC Z .byte [.int (99 : Int32)]) :: (s3, ObC Z "java/lang/String" (fs_String (.ref b3) (.int (0 : Int32)) (.int (0 : Int32)) (.int (0 : Int32)))) :: (b3, ArC Z .byte [.int (100 : Int32)]) :: (G ++ [])) → Goes p e below (En s n0 (Room.cells room_1) (Room.slots room_1) (fun v _ => v = some (.int 1))) (TJTP2.setTop (mkF m 143 #[.val (.int r0), .val (.int r1), .val (.int r2), .val (.int r3), .val (.int sh), .val (.int nn), .val (.int jg), .val (.int ja), .val (.int jb), .val (.int jc), .val (.int jd), .val (.ref s0), .val (.ref s1), .val (.ref s2), .val (.ref s3), .val (.ref a5), .unset, .unset, .unset, .unset, .unset, .unset, .unset, .unset, .unset, .unset, .unset, .unset, .unset, .unset, .unset, .unset] [])) := by
            intro TJTP2 tb sz mc G x0 hv0 hb0 hh0 x1 hv1 hb1 hh1 hsz hszp WJTP2 HJTP2
            refine g_iload WJTP2 at_143 (pc' := 145) rfl rfl ?_
            refine g_if WJTP2 at_145 (pcy := 160) (by decide) (pc' := 148) rfl (fun (c105 : jc = (0 : Int32)) => ?_) (fun (c105 : ¬ jc = (0 : Int32)) => ?_)
            · exact TP3 _ tb sz mc G x0 hv0 hb0 hh0 x1 hv1 hb1 hh1 .null (0 : Int32) (Or.inl ⟨rfl, own_j0 c105⟩) (Or.inl rfl) (by rw [own_j0 c105]; exact hsz) hszp (WJTP2.more (by decide) (by decide)) HJTP2
            · refine g_aload WJTP2 at_148 (pc' := 150) rfl rfl rfl ?_
              refine g_aload WJTP2 at_150 (pc' := 152) rfl rfl rfl ?_
              refine g_iloadN WJTP2 at_152 (pc' := 153) rfl rfl ?_
              refine g_callS WJTP2 (argsL := [.int r2]) (st := [.ref s2, .ref a5]) (wd_207 hw) (wd_208 hw) (wd_209 hw) (wd_210 hw) (by decide) (c_ival l Z a0 hw n0 ca cc hH hCa hB r2 _ _ HJTP2) pd_28 rfl rfl rfl at_153 (pc' := 156) rfl (by decide) (Wn := 2) (Nat.le_of_eq rfl) (by decide) (kc' := 16) (ks' := 71) rfl rfl (by decide) (by decide) ?_
              intro T106 v106 W106 hp106
              obtain ⟨ix, G1, rfl, H106, hI⟩ := hp106
              show Goes _ _ _ _ (State.setTop _ (mkF _ _ _ [.ref ix, .ref s2, .ref a5]))
              replace H106 := Hp.sk10 H106
              have H107f := Hp.fr7 H106
              have H108f := Hp.fr7 H107f
              have H109f := Hp.fr3 H108f
              have H110f := Hp.fr3 H109f
              refine g_callV W106 (argsL := [.ref s2, .ref ix]) (st := []) (wd_214 hw) (wd_215 hw) (wd_217 hw) (wd_216 hw) (wd_28 hw) (wd_218 hw) (by decide) (a := a5) H110f (i := 0) rfl (c_put1 l Z a0 hw n0 cs hS hcs a5 s2 ix (99 : Int32) mc 3 (by decide) (by decide) tb (own_vs x0 x1 .null .null) sz (vs_len _ _ _ _) (by rw [vs_16] <;> decide) rfl (own_12 hsz (refs4 _ _ _ _)) b2 (0 : Int32) keyC (Or.inl rfl) _ _ H110f) pd_29 rfl rfl rfl at_156 (pc' := 159) rfl (by decide) (Wn := 0) (Nat.le_of_eq rfl) (by decide) (kc' := 17) (ks' := 75) rfl rfl (by decide) (by decide) ?_
              intro T111 v111 W111 hp111
              obtain ⟨nd1, rfl, H111⟩ := hp111
              show Goes _ _ _ _ (State.setTop _ (mkF _ _ _ [.null]))
              refine g_pop W111 at_159 (pc' := 160) rfl rfl ?_
              have H112f := Hp.fr10 H111
              have H113f := Hp.fr10 H112f
              have H114f := Hp.fr6 H113f
              have H115f := Hp.fr6 H114f
              have H116f := Hp.fr10 H115f
              have H117f := Hp.fr10 H116f
              have H118f := Hp.fr10 H117f
              have H119f := Hp.fr10 H118f
              have H120f := Hp.fr10 H119f
              have H121f := Hp.fr10 H120f
              replace H121f : Hp Z n0 T111.heap ((a5, ObC Z "java/util/HashMap" (fs_HashMap (.float (1061158912 : UInt32)) (.int (sz + (1 : Int32))) .null (.int (mc + (1 : Int32))) (.ref tb) (.int (12 : Int32)))) :: (tb, RaC Z "java/util/HashMap$Node" (own_vs x0 x1 (.ref nd1) .null)) :: (s0, ObC Z "java/lang/String" (fs_String (.ref b0) (.int (0 : Int32)) (.int hv0) (.int (0 : Int32)))) :: (b0, ArC Z .byte [.int (97 : Int32)]) :: (s1, ObC Z "java/lang/String" (fs_String (.ref b1) (.int (0 : Int32)) (.int hv1) (.int (0 : Int32)))) :: (b1, ArC Z .byte [.int (98 : Int32)]) :: (s2, ObC Z "java/lang/String" (fs_String (.ref b2) (.int (0 : Int32)) (.int (99 : Int32)) (.int (0 : Int32)))) :: (b2, ArC Z .byte [.int (99 : Int32)]) :: (s3, ObC Z "java/lang/String" (fs_String (.ref b3) (.int (0 : Int32)) (.int (0 : Int32)) (.int (0 : Int32)))) :: (b3, ArC Z .byte [.int (100 : Int32)]) :: (nd1, ObC Z "java/util/HashMap$Node" (fs_HashMap_Node (.int (99 : Int32)) (.ref s2) (.ref ix) .null)) :: (G1 ++ (G ++ []))) := H121f
              exact TP3 _ tb (sz + (1 : Int32)) (mc + (1 : Int32)) ((nd1, ObC Z "java/util/HashMap$Node" (fs_HashMap_Node (.int (99 : Int32)) (.ref s2) (.ref ix) .null)) :: (G1 ++ G)) x0 hv0 (hb0.mono (fun r hr => List.mem_cons_of_mem _ (List.mem_append_right _ hr))) hh0 x1 hv1 (hb1.mono (fun r hr => List.mem_cons_of_mem _ (List.mem_append_right _ hr))) hh1 (.ref nd1) (99 : Int32) (Or.inr ⟨nd1, ix, r2, rfl, own_j1 c105, List.mem_cons_self .., hI.mono (fun r hr => List.mem_cons_of_mem _ (List.mem_append_left _ hr))⟩) (Or.inr rfl) (by rw [own_j1 c105, refs_s2]; exact sc_i1 hsz (Nat.lt_of_le_of_lt (refs4 _ _ _ _) (by decide))) (own_gt0 (sc_i1 hsz (Nat.lt_of_le_of_lt (refs4 _ _ _ _) (by decide))) (Nat.succ_pos _)) (W111.more (by decide) (by decide)) (H121f.cast (by rw [List.cons_append, List.append_assoc]))
          have TP1 : ∀ (TJTP1 : State) (tb : Addr) (sz mc : Int32) (G : List HRow) (x0 : Value) (hv0 : Int32) (hb0 : Bk Z n0 G (97 : Int32) s0 x0 (own_j ja r0)) (hh0 : hv0 = 0 ∨ hv0 = (97 : Int32)) (hsz : sz.toInt = ((own_refs (own_bs (own_j ja r0) none none none) : Nat) : Int)) (hszp : (0 : Int32) < sz), Wk Z x code maxLocals ret n0 p l e room_1 s m #[.int r0, .int r1, .int r2, .int r3, .int sh] below meth c TJTP1 12 49 → Hp Z n0 TJTP1.heap ((a5, ObC Z "java/util/HashMap" (fs_HashMap (.float (1061158912 : UInt32)) (.int sz) .null (.int mc) (.ref tb) (.int (12 : Int32)))) :: (tb, RaC Z "java/util/HashMap$Node" (own_vs x0 .null .null .null)) :: (s0, ObC Z "java/lang/String" (fs_String (.ref b0) (.int (0 : Int32)) (.int hv0) (.int (0 : Int32)))) :: (b0, ArC Z .byte [.int (97 : Int32)]) :: (s1, ObC Z "java/lang/String" (fs_String (.ref b1) (.int (0 : Int32)) (.int (0 : Int32)) (.int (0 : Int32)))) :: (b1, ArC Z .byte [.int (98 : Int32)]) :: (s2, ObC Z "java/lang/String" (fs_String (.ref b2) (.int (0 : Int32)) (.int (0 : Int32)) (.int (0 : Int32)))) :: (b2, ArC Z .byte [.int (99 : Int32)]) :: (s3, ObC Z "java/lang/String" (fs_String (.ref b3) (.int (0 : Int32)) (.int (0 : Int32)) (.int (0 : Int32)))) :: (b3, ArC Z .byte [.int (100 : Int32)]) :: (G ++ [])) → Goes p e below (En s n0 (Room.cells room_1) (Room.slots room_1) (fun v _ => v = some (.int 1))) (TJTP1.setTop (mkF m 126 #[.val (.int r0), .val (.int r1), .val (.int r2), .val (.int r3), .val (.int sh), .val (.int nn), .val (.int jg), .val (.int ja), .val (.int jb), .val (.int jc), .val (.int jd), .val (.ref s0), .val (.ref s1), .val (.ref s2), .val (.ref s3), .val (.ref a5), .unset, .unset, .unset, .unset, .unset, .unset, .unset, .unset, .unset, .unset, .unset, .unset, .unset, .unset, .unset, .unset] [])) := by
            intro TJTP1 tb sz mc G x0 hv0 hb0 hh0 hsz hszp WJTP1 HJTP1
            refine g_iload WJTP1 at_126 (pc' := 128) rfl rfl ?_
            refine g_if WJTP1 at_128 (pcy := 143) (by decide) (pc' := 131) rfl (fun (c122 : jb = (0 : Int32)) => ?_) (fun (c122 : ¬ jb = (0 : Int32)) => ?_)
            · exact TP2 _ tb sz mc G x0 hv0 hb0 hh0 .null (0 : Int32) (Or.inl ⟨rfl, own_j0 c122⟩) (Or.inl rfl) (by rw [own_j0 c122]; exact hsz) hszp (WJTP1.more (by decide) (by decide)) HJTP1
            · refine g_aload WJTP1 at_131 (pc' := 133) rfl rfl rfl ?_
              refine g_aload WJTP1 at_133 (pc' := 135) rfl rfl rfl ?_
              refine g_iloadN WJTP1 at_135 (pc' := 136) rfl rfl ?_
              refine g_callS WJTP1 (argsL := [.int r1]) (st := [.ref s1, .ref a5]) (wd_207 hw) (wd_208 hw) (wd_209 hw) (wd_210 hw) (by decide) (c_ival l Z a0 hw n0 ca cc hH hCa hB r1 _ _ HJTP1) pd_28 rfl rfl rfl at_136 (pc' := 139) rfl (by decide) (Wn := 2) (Nat.le_of_eq rfl) (by decide) (kc' := 13) (ks' := 50) rfl rfl (by decide) (by decide) ?_
              intro T123 v123 W123 hp123
              obtain ⟨ix, G1, rfl, H123, hI⟩ := hp123
              show Goes _ _ _ _ (State.setTop _ (mkF _ _ _ [.ref ix, .ref s1, .ref a5]))
              replace H123 := Hp.sk10 H123
              have H124f := Hp.fr5 H123
              have H125f := Hp.fr5 H124f
              have H126f := Hp.fr3 H125f
              have H127f := Hp.fr3 H126f
              refine g_callV W123 (argsL := [.ref s1, .ref ix]) (st := []) (wd_214 hw) (wd_215 hw) (wd_217 hw) (wd_216 hw) (wd_28 hw) (wd_218 hw) (by decide) (a := a5) H127f (i := 0) rfl (c_put1 l Z a0 hw n0 cs hS hcs a5 s1 ix (98 : Int32) mc 2 (by decide) (by decide) tb (own_vs x0 .null .null .null) sz (vs_len _ _ _ _) (by rw [vs_16] <;> decide) rfl (own_12 hsz (refs4 _ _ _ _)) b1 (0 : Int32) keyB (Or.inl rfl) _ _ H127f) pd_29 rfl rfl rfl at_139 (pc' := 142) rfl (by decide) (Wn := 0) (Nat.le_of_eq rfl) (by decide) (kc' := 14) (ks' := 54) rfl rfl (by decide) (by decide) ?_
              intro T128 v128 W128 hp128
              obtain ⟨nd1, rfl, H128⟩ := hp128
              show Goes _ _ _ _ (State.setTop _ (mkF _ _ _ [.null]))
              refine g_pop W128 at_142 (pc' := 143) rfl rfl ?_
              have H129f := Hp.fr10 H128
              have H130f := Hp.fr10 H129f
              have H131f := Hp.fr10 H130f
              have H132f := Hp.fr10 H131f
              have H133f := Hp.fr8 H132f
              have H134f := Hp.fr8 H133f
              have H135f := Hp.fr10 H134f
              have H136f := Hp.fr10 H135f
              have H137f := Hp.fr10 H136f
              have H138f := Hp.fr10 H137f
              replace H138f : Hp Z n0 T128.heap ((a5, ObC Z "java/util/HashMap" (fs_HashMap (.float (1061158912 : UInt32)) (.int (sz + (1 : Int32))) .null (.int (mc + (1 : Int32))) (.ref tb) (.int (12 : Int32)))) :: (tb, RaC Z "java/util/HashMap$Node" (own_vs x0 (.ref nd1) .null .null)) :: (s0, ObC Z "java/lang/String" (fs_String (.ref b0) (.int (0 : Int32)) (.int hv0) (.int (0 : Int32)))) :: (b0, ArC Z .byte [.int (97 : Int32)]) :: (s1, ObC Z "java/lang/String" (fs_String (.ref b1) (.int (0 : Int32)) (.int (98 : Int32)) (.int (0 : Int32)))) :: (b1, ArC Z .byte [.int (98 : Int32)]) :: (s2, ObC Z "java/lang/String" (fs_String (.ref b2) (.int (0 : Int32)) (.int (0 : Int32)) (.int (0 : Int32)))) :: (b2, ArC Z .byte [.int (99 : Int32)]) :: (s3, ObC Z "java/lang/String" (fs_String (.ref b3) (.int (0 : Int32)) (.int (0 : Int32)) (.int (0 : Int32)))) :: (b3, ArC Z .byte [.int (100 : Int32)]) :: (nd1, ObC Z "java/util/HashMap$Node" (fs_HashMap_Node (.int (98 : Int32)) (.ref s1) (.ref ix) .null)) :: (G1 ++ (G ++ []))) := H138f
              exact TP2 _ tb (sz + (1 : Int32)) (mc + (1 : Int32)) ((nd1, ObC Z "java/util/HashMap$Node" (fs_HashMap_Node (.int (98 : Int32)) (.ref s1) (.ref ix) .null)) :: (G1 ++ G)) x0 hv0 (hb0.mono (fun r hr => List.mem_cons_of_mem _ (List.mem_append_right _ hr))) hh0 (.ref nd1) (98 : Int32) (Or.inr ⟨nd1, ix, r1, rfl, own_j1 c122, List.mem_cons_self .., hI.mono (fun r hr => List.mem_cons_of_mem _ (List.mem_append_left _ hr))⟩) (Or.inr rfl) (by rw [own_j1 c122, refs_s1]; exact sc_i1 hsz (Nat.lt_of_le_of_lt (refs4 _ _ _ _) (by decide))) (own_gt0 (sc_i1 hsz (Nat.lt_of_le_of_lt (refs4 _ _ _ _) (by decide))) (Nat.succ_pos _)) (W128.more (by decide) (by decide)) (H138f.cast (by rw [List.cons_append, List.append_assoc]))
          refine g_iload W6 at_109 (pc' := 111) rfl rfl ?_
          refine g_if W6 at_111 (pcy := 126) (by decide) (pc' := 114) rfl (fun (c139 : ja = (0 : Int32)) => ?_) (fun (c139 : ¬ ja = (0 : Int32)) => ?_)
          · refine g_iload W6 at_126 (pc' := 128) rfl rfl ?_
            refine g_if W6 at_128 (pcy := 143) (by decide) (pc' := 131) rfl (fun (c140 : jb = (0 : Int32)) => ?_) (fun (c140 : ¬ jb = (0 : Int32)) => ?_)
            · refine g_iload W6 at_143 (pc' := 145) rfl rfl ?_
              refine g_if W6 at_145 (pcy := 160) (by decide) (pc' := 148) rfl (fun (c141 : jc = (0 : Int32)) => ?_) (fun (c141 : ¬ jc = (0 : Int32)) => ?_)
              · refine g_iload W6 at_160 (pc' := 162) rfl rfl ?_
                refine g_if W6 at_162 (pcy := 177) (by decide) (pc' := 165) rfl (fun (c142 : jd = (0 : Int32)) => ?_) (fun (c142 : ¬ jd = (0 : Int32)) => ?_)
                · refine g_new W6 (wd_42 hw) (wd_43 hw) (wd_44 hw) (la_ArrayList hw) (by decide) H6 at_177 (pc' := 180) rfl (kc' := 10) (ks' := 31) rfl rfl (by decide) (by decide) ?_
                  intro T143 a143 W143 H143
                  refine g_dup W143 at_180 (pc' := 181) rfl rfl ?_
                  refine g_callI W143 (argsL := []) (st := [.ref a143]) rfl (wd_45 hw) (wd_46 hw) (wd_44 hw) (wd_47 hw) (by decide) (a := a143) (c_alini l Z a0 hw n0 de dc hD hA hA0 a143 _ _ H143) pd_6 rfl rfl rfl at_181 (pc' := 184) rfl (by decide) (Wn := 1) (Nat.le_of_eq rfl) (by decide) (kc' := 10) (ks' := 31) rfl rfl (by decide) (by decide) ?_
                  intro T144 v144 W144 hp144
                  obtain ⟨rfl, H144⟩ := hp144
                  show Goes _ _ _ _ (State.setTop _ (mkF _ _ _ [.ref a143]))
                  refine g_astore W144 at_184 (pc' := 186) rfl rfl (ls' := #[.val (.int r0), .val (.int r1), .val (.int r2), .val (.int r3), .val (.int sh), .val (.int nn), .val (.int jg), .val (.int ja), .val (.int jb), .val (.int jc), .val (.int jd), .val (.ref s0), .val (.ref s1), .val (.ref s2), .val (.ref s3), .val (.ref a5), .val (.ref a143), .unset, .unset, .unset, .unset, .unset, .unset, .unset, .unset, .unset, .unset, .unset, .unset, .unset, .unset, .unset]) rfl ?_
                  refine g_iload W144 at_186 (pc' := 188) rfl rfl ?_
                  refine g_if W144 at_188 (pcy := 209) (by decide) (pc' := 191) rfl (fun (c145 : ¬ (0 : Int32) < nn) => ?_) (fun (c145 : ¬ ¬ (0 : Int32) < nn) => ?_)
                  · obtain rfl : nn = (0 : Int32) := own_nb0 hn4 c145
                    refine g_iload W144 at_209 (pc' := 211) rfl rfl ?_
                    refine g_iconst W144 at_211 (pc' := 212) rfl (v := (1 : Int32)) (by decide) ?_
                    refine g_icmp W144 at_212 (pcy := 233) (by decide) (pc' := 215) rfl (fun _ => ?_) (fun (h : ¬ ¬ (1 : Int32) < (0 : Int32)) => absurd h (by decide))
                    refine g_iload W144 at_233 (pc' := 235) rfl rfl ?_
                    refine g_iconst W144 at_235 (pc' := 236) rfl (v := (2 : Int32)) (by decide) ?_
                    refine g_icmp W144 at_236 (pcy := 255) (by decide) (pc' := 239) rfl (fun _ => ?_) (fun (h : ¬ ¬ (2 : Int32) < (0 : Int32)) => absurd h (by decide))
                    refine g_new W144 (wd_66 hw) (wd_67 hw) (wd_68 hw) (la_JudgedRanking hw) (by decide) H144 at_255 (pc' := 258) rfl (kc' := 11) (ks' := 33) rfl rfl (by decide) (by decide) ?_
                    intro T146 a146 W146 H146
                    refine g_dup W146 at_258 (pc' := 259) rfl rfl ?_
                    refine g_aload W146 at_259 (pc' := 261) rfl rfl rfl ?_
                    refine g_aload W146 at_261 (pc' := 263) rfl rfl rfl ?_
                    have H147f := Hp.fr2 H146
                    have H148f := Hp.fr2 H147f
                    have H149f := Hp.fr2 H148f
                    refine g_callI W146 (argsL := [.ref a143, .ref a5]) (st := [.ref a146]) rfl (wd_69 hw) (wd_70 hw) (wd_68 hw) (wd_71 hw) (by decide) (a := a146) (c_jr0z l Z a0 hw n0 cs hS hcs ca cc hH hCa hB a146 a143 de a5 a5 (0 : Int32) (0 : Int32) (0 : Int32) (0 : Int32) [] [] [] _ _ H149f) pd_36 rfl rfl rfl at_263 (pc' := 266) rfl (by decide) (Wn := 1) (Nat.le_of_eq rfl) (by decide) (kc' := 16) (ks' := 51) rfl rfl (by decide) (by decide) ?_
                    intro T150 v150 W150 hp150
                    obtain ⟨rra, bi, zs, JF, rfl, hz, H150⟩ := hp150
                    show Goes _ _ _ _ (State.setTop _ (mkF _ _ _ [.ref a146]))
                    exact RJ _ a143 a146 rra bi [] zs JF (Or.inl ⟨rfl, rfl⟩) (hz.trans (by rw [own_j0 c139, own_j0 c140, own_j0 c141, own_j0 c142] <;> rfl)) (W150.more (by decide) (by decide)) H150
                  · replace c145 := Classical.not_not.mp c145
                    refine g_aload W144 at_191 (pc' := 193) rfl rfl rfl ?_
                    refine g_new W144 (wd_281 hw) (wd_282 hw) (wd_283 hw) (la_ScoredDocument hw) (by decide) H144 at_193 (pc' := 196) rfl (kc' := 11) (ks' := 33) rfl rfl (by decide) (by decide) ?_
                    intro T151 a151 W151 H151
                    refine g_dup W151 at_196 (pc' := 197) rfl rfl ?_
                    refine g_aload W151 at_197 (pc' := 199) rfl rfl rfl ?_
                    refine g_ldc2Double W151 (wd_284 hw) at_199 (pc' := 202) rfl ?_
                    refine g_callI W151 (argsL := [.ref s0, .double (4613937818241073152 : UInt64)]) (st := [.ref a151, .ref a143]) rfl (wd_285 hw) (wd_286 hw) (wd_283 hw) (wd_287 hw) (by decide) (a := a151) (c_sdi l Z a0 hw n0 a151 s0 (4613937818241073152 : UInt64) _ _ H151) pd_37 rfl rfl rfl at_202 (pc' := 205) rfl (by decide) (Wn := 2) (Nat.le_of_eq rfl) (by decide) (kc' := 11) (ks' := 33) rfl rfl (by decide) (by decide) ?_
                    intro T152 v152 W152 hp152
                    obtain ⟨rfl, H152⟩ := hp152
                    show Goes _ _ _ _ (State.setTop _ (mkF _ _ _ [.ref a151, .ref a143]))
                    have H153f := Hp.fr1 H152
                    refine g_callV W152 (argsL := [.ref a151]) (st := []) (wd_293 hw) (wd_294 hw) (wd_296 hw) (wd_295 hw) (wd_44 hw) (wd_297 hw) (by decide) (a := a143) H153f (i := 0) rfl (c_add10 l Z a0 hw n0 de dc hD hA hA0 a143 (0 : Int32) _ a151 _ (List.mem_cons_self ..) _ H153f) pd_38 rfl rfl rfl at_205 (pc' := 208) rfl (by decide) (Wn := 0) (Nat.le_of_eq rfl) (by decide) (kc' := 12) (ks' := 43) rfl rfl (by decide) (by decide) ?_
                    intro T154 v154 W154 hp154
                    obtain ⟨el1, rfl, H154⟩ := hp154
                    show Goes _ _ _ _ (State.setTop _ (mkF _ _ _ [.int (1 : Int32)]))
                    refine g_pop W154 at_208 (pc' := 209) rfl rfl ?_
                    refine g_iload W154 at_209 (pc' := 211) rfl rfl ?_
                    refine g_iconst W154 at_211 (pc' := 212) rfl (v := (1 : Int32)) (by decide) ?_
                    refine g_icmp W154 at_212 (pcy := 233) (by decide) (pc' := 215) rfl (fun (c155 : ¬ (1 : Int32) < nn) => ?_) (fun (c155 : ¬ ¬ (1 : Int32) < nn) => ?_)
                    · obtain rfl : nn = (1 : Int32) := own_nb1 hn4 c145 c155
                      refine g_iload W154 at_233 (pc' := 235) rfl rfl ?_
                      refine g_iconst W154 at_235 (pc' := 236) rfl (v := (2 : Int32)) (by decide) ?_
                      refine g_icmp W154 at_236 (pcy := 255) (by decide) (pc' := 239) rfl (fun _ => ?_) (fun (h : ¬ ¬ (2 : Int32) < (1 : Int32)) => absurd h (by decide))
                      refine g_new W154 (wd_66 hw) (wd_67 hw) (wd_68 hw) (la_JudgedRanking hw) (by decide) H154 at_255 (pc' := 258) rfl (kc' := 13) (ks' := 45) rfl rfl (by decide) (by decide) ?_
                      intro T156 a156 W156 H156
                      refine g_dup W156 at_258 (pc' := 259) rfl rfl ?_
                      refine g_aload W156 at_259 (pc' := 261) rfl rfl rfl ?_
                      refine g_aload W156 at_261 (pc' := 263) rfl rfl rfl ?_
                      have H157f := Hp.fr12 H156
                      have H158f := Hp.fr12 H157f
                      have H159f := Hp.fr6 H158f
                      have H160f := Hp.fr4 H159f
                      have H161f := Hp.fr5 H160f
                      have H162f := Hp.fr5 H161f
                      refine g_callI W156 (argsL := [.ref a143, .ref a5]) (st := [.ref a156]) rfl (wd_69 hw) (wd_70 hw) (wd_68 hw) (wd_71 hw) (by decide) (a := a156) (c_jr1z l Z a0 hw n0 cs hS hcs ca cc hH hCa hB a156 a143 el1 a5 a5 ((0 : Int32) + (1 : Int32)) (0 : Int32) (0 : Int32) (0 : Int32) ((List.replicate 10 Value.null).set 0 (.ref a151)) [] [] _ s0 b0 a151 (4613937818241073152 : UInt64) (0 : Int32) (own_g (own_j ja r0)) rfl (List.mem_cons_self ..) (Or.inl rfl) (own_g0 c139) _ H162f) pd_36 rfl rfl rfl at_263 (pc' := 266) rfl (by decide) (Wn := 1) (Nat.le_of_eq rfl) (by decide) (kc' := 19) (ks' := 64) rfl rfl (by decide) (by decide) ?_
                      intro T163 v163 W163 hp163
                      obtain ⟨rra, bi, zs, JF, rfl, hz, H163⟩ := hp163
                      show Goes _ _ _ _ (State.setTop _ (mkF _ _ _ [.ref a156]))
                      exact RJ _ a143 a156 rra bi [own_g (own_j ja r0)] zs JF (Or.inr (Or.inl ⟨rfl, rfl⟩)) (hz.trans (by rw [own_j0 c139, own_j0 c140, own_j0 c141, own_j0 c142] <;> rfl)) (W163.more (by decide) (by decide)) H163
                    · replace c155 := Classical.not_not.mp c155
                      refine g_aload W154 at_215 (pc' := 217) rfl rfl rfl ?_
                      refine g_new W154 (wd_281 hw) (wd_282 hw) (wd_283 hw) (la_ScoredDocument hw) (by decide) H154 at_217 (pc' := 220) rfl (kc' := 13) (ks' := 45) rfl rfl (by decide) (by decide) ?_
                      intro T164 a164 W164 H164
                      refine g_dup W164 at_220 (pc' := 221) rfl rfl ?_
                      refine g_aload W164 at_221 (pc' := 223) rfl rfl rfl ?_
                      refine g_ldc2Double W164 (wd_322 hw) at_223 (pc' := 226) rfl ?_
                      refine g_callI W164 (argsL := [.ref s1, .double (4611686018427387904 : UInt64)]) (st := [.ref a164, .ref a143]) rfl (wd_285 hw) (wd_286 hw) (wd_283 hw) (wd_287 hw) (by decide) (a := a164) (c_sdi l Z a0 hw n0 a164 s1 (4611686018427387904 : UInt64) _ _ H164) pd_37 rfl rfl rfl at_226 (pc' := 229) rfl (by decide) (Wn := 2) (Nat.le_of_eq rfl) (by decide) (kc' := 13) (ks' := 45) rfl rfl (by decide) (by decide) ?_
                      intro T165 v165 W165 hp165
                      obtain ⟨rfl, H165⟩ := hp165
                      show Goes _ _ _ _ (State.setTop _ (mkF _ _ _ [.ref a164, .ref a143]))
                      have H166f := Hp.fr1 H165
                      have H167f := Hp.fr2 H166f
                      refine g_callV W165 (argsL := [.ref a164]) (st := []) (wd_293 hw) (wd_294 hw) (wd_296 hw) (wd_295 hw) (wd_44 hw) (wd_297 hw) (by decide) (a := a143) H167f (i := 0) rfl (c_add11 l Z a0 hw n0 a143 ((0 : Int32) + (1 : Int32)) _ a164 _ (List.mem_cons_self ..) el1 ((List.replicate 10 Value.null).set 0 (.ref a151)) (1 : Int32) 1 (by rw [List.length_set]; decide) (by decide) (by decide) (by rw [List.length_set]; decide) _ H167f) pd_38 rfl rfl rfl at_229 (pc' := 232) rfl (by decide) (Wn := 0) (Nat.le_of_eq rfl) (by decide) (kc' := 13) (ks' := 45) rfl rfl (by decide) (by decide) ?_
                      intro T168 v168 W168 hp168
                      obtain ⟨rfl, H168⟩ := hp168
                      show Goes _ _ _ _ (State.setTop _ (mkF _ _ _ [.int (1 : Int32)]))
                      rw [show (1 : Int32) + (1 : Int32) = (2 : Int32) by decide] at H168
                      refine g_pop W168 at_232 (pc' := 233) rfl rfl ?_
                      refine g_iload W168 at_233 (pc' := 235) rfl rfl ?_
                      refine g_iconst W168 at_235 (pc' := 236) rfl (v := (2 : Int32)) (by decide) ?_
                      refine g_icmp W168 at_236 (pcy := 255) (by decide) (pc' := 239) rfl (fun (c169 : ¬ (2 : Int32) < nn) => ?_) (fun (c169 : ¬ ¬ (2 : Int32) < nn) => ?_)
                      · obtain rfl : nn = (2 : Int32) := own_nb2 hn4 c145 c155 c169
                        refine g_new W168 (wd_66 hw) (wd_67 hw) (wd_68 hw) (la_JudgedRanking hw) (by decide) H168 at_255 (pc' := 258) rfl (kc' := 14) (ks' := 47) rfl rfl (by decide) (by decide) ?_
                        intro T170 a170 W170 H170
                        refine g_dup W170 at_258 (pc' := 259) rfl rfl ?_
                        refine g_aload W170 at_259 (pc' := 261) rfl rfl rfl ?_
                        refine g_aload W170 at_261 (pc' := 263) rfl rfl rfl ?_
                        have H171f := Hp.fr11 H170
                        have H172f := Hp.fr11 H171f
                        have H173f := Hp.fr13 H172f
                        have H174f := Hp.fr13 H173f
                        have H175f := Hp.fr9 H174f
                        have H176f := Hp.fr7 H175f
                        have H177f := Hp.fr7 H176f
                        have H178f := Hp.fr7 H177f
                        refine g_callI W170 (argsL := [.ref a143, .ref a5]) (st := [.ref a170]) rfl (wd_69 hw) (wd_70 hw) (wd_68 hw) (wd_71 hw) (by decide) (a := a170) (c_jr2z l Z a0 hw n0 cs hS hcs ca cc hH hCa hB a170 a143 el1 a5 a5 (((0 : Int32) + (1 : Int32)) + (1 : Int32)) (0 : Int32) (0 : Int32) (0 : Int32) (((List.replicate 10 Value.null).set 0 (.ref a151)).set 1 (.ref a164)) [] [] _ s0 b0 a151 (4613937818241073152 : UInt64) (0 : Int32) (own_g (own_j ja r0)) rfl (mc1 (List.mem_cons_self ..)) (Or.inl rfl) (own_g0 c139) s1 b1 a164 (4611686018427387904 : UInt64) (0 : Int32) (own_g (own_j jb r1)) rfl (List.mem_cons_self ..) (Or.inl rfl) (own_g0 c140) _ H178f) pd_36 rfl rfl rfl at_263 (pc' := 266) rfl (by decide) (Wn := 1) (Nat.le_of_eq rfl) (by decide) (kc' := 21) (ks' := 67) rfl rfl (by decide) (by decide) ?_
                        intro T179 v179 W179 hp179
                        obtain ⟨rra, bi, zs, JF, rfl, hz, H179⟩ := hp179
                        show Goes _ _ _ _ (State.setTop _ (mkF _ _ _ [.ref a170]))
                        exact RJ _ a143 a170 rra bi [own_g (own_j ja r0), own_g (own_j jb r1)] zs JF (Or.inr (Or.inr (Or.inl ⟨rfl, rfl⟩))) (hz.trans (by rw [own_j0 c139, own_j0 c140, own_j0 c141, own_j0 c142] <;> rfl)) (W179.more (by decide) (by decide)) H179
                      · replace c169 := Classical.not_not.mp c169
                        refine g_aload W168 at_239 (pc' := 241) rfl rfl rfl ?_
                        refine g_new W168 (wd_281 hw) (wd_282 hw) (wd_283 hw) (la_ScoredDocument hw) (by decide) H168 at_241 (pc' := 244) rfl (kc' := 14) (ks' := 47) rfl rfl (by decide) (by decide) ?_
                        intro T180 a180 W180 H180
                        refine g_dup W180 at_244 (pc' := 245) rfl rfl ?_
                        refine g_aload W180 at_245 (pc' := 247) rfl rfl rfl ?_
                        refine g_dconst1 W180 at_247 (pc' := 248) rfl ?_
                        refine g_callI W180 (argsL := [.ref s2, .double (4607182418800017408 : UInt64)]) (st := [.ref a180, .ref a143]) rfl (wd_285 hw) (wd_286 hw) (wd_283 hw) (wd_287 hw) (by decide) (a := a180) (c_sdi l Z a0 hw n0 a180 s2 (4607182418800017408 : UInt64) _ _ H180) pd_37 rfl rfl rfl at_248 (pc' := 251) rfl (by decide) (Wn := 2) (Nat.le_of_eq rfl) (by decide) (kc' := 14) (ks' := 47) rfl rfl (by decide) (by decide) ?_
                        intro T181 v181 W181 hp181
                        obtain ⟨rfl, H181⟩ := hp181
                        show Goes _ _ _ _ (State.setTop _ (mkF _ _ _ [.ref a180, .ref a143]))
                        have H182f := Hp.fr2 H181
                        have H183f := Hp.fr2 H182f
                        refine g_callV W181 (argsL := [.ref a180]) (st := []) (wd_293 hw) (wd_294 hw) (wd_296 hw) (wd_295 hw) (wd_44 hw) (wd_297 hw) (by decide) (a := a143) H183f (i := 0) rfl (c_add11 l Z a0 hw n0 a143 (((0 : Int32) + (1 : Int32)) + (1 : Int32)) _ a180 _ (List.mem_cons_self ..) el1 (((List.replicate 10 Value.null).set 0 (.ref a151)).set 1 (.ref a164)) (2 : Int32) 2 (by rw [List.length_set, List.length_set]; decide) (by decide) (by decide) (by rw [List.length_set, List.length_set]; decide) _ H183f) pd_38 rfl rfl rfl at_251 (pc' := 254) rfl (by decide) (Wn := 0) (Nat.le_of_eq rfl) (by decide) (kc' := 14) (ks' := 47) rfl rfl (by decide) (by decide) ?_
                        intro T184 v184 W184 hp184
                        obtain ⟨rfl, H184⟩ := hp184
                        show Goes _ _ _ _ (State.setTop _ (mkF _ _ _ [.int (1 : Int32)]))
                        rw [show (2 : Int32) + (1 : Int32) = (3 : Int32) by decide] at H184
                        refine g_pop W184 at_254 (pc' := 255) rfl rfl ?_
                        obtain rfl : nn = (3 : Int32) := own_nb3 hn4 c145 c155 c169
                        refine g_new W184 (wd_66 hw) (wd_67 hw) (wd_68 hw) (la_JudgedRanking hw) (by decide) H184 at_255 (pc' := 258) rfl (kc' := 15) (ks' := 49) rfl rfl (by decide) (by decide) ?_
                        intro T185 a185 W185 H185
                        refine g_dup W185 at_258 (pc' := 259) rfl rfl ?_
                        refine g_aload W185 at_259 (pc' := 261) rfl rfl rfl ?_
                        refine g_aload W185 at_261 (pc' := 263) rfl rfl rfl ?_
                        have H186f := Hp.fr10 H185
                        have H187f := Hp.fr10 H186f
                        have H188f := Hp.fr12 H187f
                        have H189f := Hp.fr12 H188f
                        have H190f := Hp.fr14 H189f
                        have H191f := Hp.fr14 H190f
                        have H192f := Hp.fr12 H191f
                        have H193f := Hp.fr9 H192f
                        have H194f := Hp.fr9 H193f
                        have H195f := Hp.fr9 H194f
                        refine g_callI W185 (argsL := [.ref a143, .ref a5]) (st := [.ref a185]) rfl (wd_69 hw) (wd_70 hw) (wd_68 hw) (wd_71 hw) (by decide) (a := a185) (c_jr3z l Z a0 hw n0 cs hS hcs ca cc hH hCa hB a185 a143 el1 a5 a5 ((((0 : Int32) + (1 : Int32)) + (1 : Int32)) + (1 : Int32)) (0 : Int32) (0 : Int32) (0 : Int32) ((((List.replicate 10 Value.null).set 0 (.ref a151)).set 1 (.ref a164)).set 2 (.ref a180)) [] [] _ s0 b0 a151 (4613937818241073152 : UInt64) (0 : Int32) (own_g (own_j ja r0)) rfl (mc2 (List.mem_cons_self ..)) (Or.inl rfl) (own_g0 c139) s1 b1 a164 (4611686018427387904 : UInt64) (0 : Int32) (own_g (own_j jb r1)) rfl (mc1 (List.mem_cons_self ..)) (Or.inl rfl) (own_g0 c140) s2 b2 a180 (4607182418800017408 : UInt64) (0 : Int32) (own_g (own_j jc r2)) rfl (List.mem_cons_self ..) (Or.inl rfl) (own_g0 c141) _ H195f) pd_36 rfl rfl rfl at_263 (pc' := 266) rfl (by decide) (Wn := 1) (Nat.le_of_eq rfl) (by decide) (kc' := 23) (ks' := 70) rfl rfl (by decide) (by decide) ?_
                        intro T196 v196 W196 hp196
                        obtain ⟨rra, bi, zs, JF, rfl, hz, H196⟩ := hp196
                        show Goes _ _ _ _ (State.setTop _ (mkF _ _ _ [.ref a185]))
                        exact RJ _ a143 a185 rra bi [own_g (own_j ja r0), own_g (own_j jb r1), own_g (own_j jc r2)] zs JF (Or.inr (Or.inr (Or.inr ⟨rfl, rfl⟩))) (hz.trans (by rw [own_j0 c139, own_j0 c140, own_j0 c141, own_j0 c142] <;> rfl)) (W196.more (by decide) (by decide)) H196
                · refine g_aload W6 at_165 (pc' := 167) rfl rfl rfl ?_
                  refine g_aload W6 at_167 (pc' := 169) rfl rfl rfl ?_
                  refine g_iloadN W6 at_169 (pc' := 170) rfl rfl ?_
                  refine g_callS W6 (argsL := [.int r3]) (st := [.ref s3, .ref a5]) (wd_207 hw) (wd_208 hw) (wd_209 hw) (wd_210 hw) (by decide) (c_ival l Z a0 hw n0 ca cc hH hCa hB r3 _ _ H6) pd_28 rfl rfl rfl at_170 (pc' := 173) rfl (by decide) (Wn := 2) (Nat.le_of_eq rfl) (by decide) (kc' := 10) (ks' := 29) rfl rfl (by decide) (by decide) ?_
                  intro T197 v197 W197 hp197
                  obtain ⟨ix, G1, rfl, H197, hI⟩ := hp197
                  show Goes _ _ _ _ (State.setTop _ (mkF _ _ _ [.ref ix, .ref s3, .ref a5]))
                  replace H197 := Hp.sk9 H197
                  have H198f := Hp.fr2 H197
                  have H199f := Hp.fr2 H198f
                  have H200f := Hp.fr2 H199f
                  refine g_callV W197 (argsL := [.ref s3, .ref ix]) (st := []) (wd_214 hw) (wd_215 hw) (wd_217 hw) (wd_216 hw) (wd_28 hw) (wd_218 hw) (by decide) (a := a5) H200f (i := 0) rfl (c_put0 l Z a0 hw n0 cs hS hcs a5 s3 ix (100 : Int32) (0 : Int32) 4 (by decide) (by decide) b3 (0 : Int32) keyD (Or.inl rfl) _ _ H200f) pd_29 rfl rfl rfl at_173 (pc' := 176) rfl (by decide) (Wn := 0) (Nat.le_of_eq rfl) (by decide) (kc' := 12) (ks' := 49) rfl rfl (by decide) (by decide) ?_
                  intro T201 v201 W201 hp201
                  obtain ⟨tb1, nd1, rfl, H201⟩ := hp201
                  show Goes _ _ _ _ (State.setTop _ (mkF _ _ _ [.null]))
                  refine g_pop W201 at_176 (pc' := 177) rfl rfl ?_
                  have H202f := Hp.fr4 H201
                  have H203f := Hp.fr4 H202f
                  have H204f := Hp.fr6 H203f
                  have H205f := Hp.fr6 H204f
                  have H206f := Hp.fr8 H205f
                  have H207f := Hp.fr8 H206f
                  have H208f := Hp.fr10 H207f
                  have H209f := Hp.fr10 H208f
                  have H210f := Hp.fr9 H209f
                  have H211f := Hp.fr10 H210f
                  replace H211f : Hp Z n0 T201.heap ((a5, ObC Z "java/util/HashMap" (fs_HashMap (.float (1061158912 : UInt32)) (.int (1 : Int32)) .null (.int ((0 : Int32) + (1 : Int32))) (.ref tb1) (.int (12 : Int32)))) :: (tb1, RaC Z "java/util/HashMap$Node" (own_vs .null .null .null (.ref nd1))) :: (s0, ObC Z "java/lang/String" (fs_String (.ref b0) (.int (0 : Int32)) (.int (0 : Int32)) (.int (0 : Int32)))) :: (b0, ArC Z .byte [.int (97 : Int32)]) :: (s1, ObC Z "java/lang/String" (fs_String (.ref b1) (.int (0 : Int32)) (.int (0 : Int32)) (.int (0 : Int32)))) :: (b1, ArC Z .byte [.int (98 : Int32)]) :: (s2, ObC Z "java/lang/String" (fs_String (.ref b2) (.int (0 : Int32)) (.int (0 : Int32)) (.int (0 : Int32)))) :: (b2, ArC Z .byte [.int (99 : Int32)]) :: (s3, ObC Z "java/lang/String" (fs_String (.ref b3) (.int (0 : Int32)) (.int (100 : Int32)) (.int (0 : Int32)))) :: (b3, ArC Z .byte [.int (100 : Int32)]) :: (nd1, ObC Z "java/util/HashMap$Node" (fs_HashMap_Node (.int (100 : Int32)) (.ref s3) (.ref ix) .null)) :: (G1 ++ [])) := H211f
                  exact TP4 _ tb1 (1 : Int32) ((0 : Int32) + (1 : Int32)) ((nd1, ObC Z "java/util/HashMap$Node" (fs_HashMap_Node (.int (100 : Int32)) (.ref s3) (.ref ix) .null)) :: G1) .null (0 : Int32) (Or.inl ⟨rfl, own_j0 c139⟩) (Or.inl rfl) .null (0 : Int32) (Or.inl ⟨rfl, own_j0 c140⟩) (Or.inl rfl) .null (0 : Int32) (Or.inl ⟨rfl, own_j0 c141⟩) (Or.inl rfl) (.ref nd1) (100 : Int32) (Or.inr ⟨nd1, ix, r3, rfl, own_j1 c142, List.mem_cons_self .., hI.mono (fun r hr => List.mem_cons_of_mem _ hr)⟩) (Or.inr rfl) (by rw [own_j0 c139, own_j0 c140, own_j0 c141, own_j1 c142, refs_z3] <;> decide) (by decide) (W201.more (by decide) (by decide)) (H211f.cast (by rw [List.cons_append]))
              · refine g_aload W6 at_148 (pc' := 150) rfl rfl rfl ?_
                refine g_aload W6 at_150 (pc' := 152) rfl rfl rfl ?_
                refine g_iloadN W6 at_152 (pc' := 153) rfl rfl ?_
                refine g_callS W6 (argsL := [.int r2]) (st := [.ref s2, .ref a5]) (wd_207 hw) (wd_208 hw) (wd_209 hw) (wd_210 hw) (by decide) (c_ival l Z a0 hw n0 ca cc hH hCa hB r2 _ _ H6) pd_28 rfl rfl rfl at_153 (pc' := 156) rfl (by decide) (Wn := 2) (Nat.le_of_eq rfl) (by decide) (kc' := 10) (ks' := 29) rfl rfl (by decide) (by decide) ?_
                intro T212 v212 W212 hp212
                obtain ⟨ix, G1, rfl, H212, hI⟩ := hp212
                show Goes _ _ _ _ (State.setTop _ (mkF _ _ _ [.ref ix, .ref s2, .ref a5]))
                replace H212 := Hp.sk9 H212
                have H213f := Hp.fr4 H212
                have H214f := Hp.fr4 H213f
                have H215f := Hp.fr2 H214f
                refine g_callV W212 (argsL := [.ref s2, .ref ix]) (st := []) (wd_214 hw) (wd_215 hw) (wd_217 hw) (wd_216 hw) (wd_28 hw) (wd_218 hw) (by decide) (a := a5) H215f (i := 0) rfl (c_put0 l Z a0 hw n0 cs hS hcs a5 s2 ix (99 : Int32) (0 : Int32) 3 (by decide) (by decide) b2 (0 : Int32) keyC (Or.inl rfl) _ _ H215f) pd_29 rfl rfl rfl at_156 (pc' := 159) rfl (by decide) (Wn := 0) (Nat.le_of_eq rfl) (by decide) (kc' := 12) (ks' := 49) rfl rfl (by decide) (by decide) ?_
                intro T216 v216 W216 hp216
                obtain ⟨tb1, nd1, rfl, H216⟩ := hp216
                show Goes _ _ _ _ (State.setTop _ (mkF _ _ _ [.null]))
                refine g_pop W216 at_159 (pc' := 160) rfl rfl ?_
                have H217f := Hp.fr6 H216
                have H218f := Hp.fr6 H217f
                have H219f := Hp.fr6 H218f
                have H220f := Hp.fr6 H219f
                have H221f := Hp.fr8 H220f
                have H222f := Hp.fr8 H221f
                have H223f := Hp.fr10 H222f
                have H224f := Hp.fr10 H223f
                have H225f := Hp.fr9 H224f
                have H226f := Hp.fr10 H225f
                replace H226f : Hp Z n0 T216.heap ((a5, ObC Z "java/util/HashMap" (fs_HashMap (.float (1061158912 : UInt32)) (.int (1 : Int32)) .null (.int ((0 : Int32) + (1 : Int32))) (.ref tb1) (.int (12 : Int32)))) :: (tb1, RaC Z "java/util/HashMap$Node" (own_vs .null .null (.ref nd1) .null)) :: (s0, ObC Z "java/lang/String" (fs_String (.ref b0) (.int (0 : Int32)) (.int (0 : Int32)) (.int (0 : Int32)))) :: (b0, ArC Z .byte [.int (97 : Int32)]) :: (s1, ObC Z "java/lang/String" (fs_String (.ref b1) (.int (0 : Int32)) (.int (0 : Int32)) (.int (0 : Int32)))) :: (b1, ArC Z .byte [.int (98 : Int32)]) :: (s2, ObC Z "java/lang/String" (fs_String (.ref b2) (.int (0 : Int32)) (.int (99 : Int32)) (.int (0 : Int32)))) :: (b2, ArC Z .byte [.int (99 : Int32)]) :: (s3, ObC Z "java/lang/String" (fs_String (.ref b3) (.int (0 : Int32)) (.int (0 : Int32)) (.int (0 : Int32)))) :: (b3, ArC Z .byte [.int (100 : Int32)]) :: (nd1, ObC Z "java/util/HashMap$Node" (fs_HashMap_Node (.int (99 : Int32)) (.ref s2) (.ref ix) .null)) :: (G1 ++ [])) := H226f
                exact TP3 _ tb1 (1 : Int32) ((0 : Int32) + (1 : Int32)) ((nd1, ObC Z "java/util/HashMap$Node" (fs_HashMap_Node (.int (99 : Int32)) (.ref s2) (.ref ix) .null)) :: G1) .null (0 : Int32) (Or.inl ⟨rfl, own_j0 c139⟩) (Or.inl rfl) .null (0 : Int32) (Or.inl ⟨rfl, own_j0 c140⟩) (Or.inl rfl) (.ref nd1) (99 : Int32) (Or.inr ⟨nd1, ix, r2, rfl, own_j1 c141, List.mem_cons_self .., hI.mono (fun r hr => List.mem_cons_of_mem _ hr)⟩) (Or.inr rfl) (by rw [own_j0 c139, own_j0 c140, own_j1 c141, refs_z2] <;> decide) (by decide) (W216.more (by decide) (by decide)) (H226f.cast (by rw [List.cons_append]))
            · refine g_aload W6 at_131 (pc' := 133) rfl rfl rfl ?_
              refine g_aload W6 at_133 (pc' := 135) rfl rfl rfl ?_
              refine g_iloadN W6 at_135 (pc' := 136) rfl rfl ?_
              refine g_callS W6 (argsL := [.int r1]) (st := [.ref s1, .ref a5]) (wd_207 hw) (wd_208 hw) (wd_209 hw) (wd_210 hw) (by decide) (c_ival l Z a0 hw n0 ca cc hH hCa hB r1 _ _ H6) pd_28 rfl rfl rfl at_136 (pc' := 139) rfl (by decide) (Wn := 2) (Nat.le_of_eq rfl) (by decide) (kc' := 10) (ks' := 29) rfl rfl (by decide) (by decide) ?_
              intro T227 v227 W227 hp227
              obtain ⟨ix, G1, rfl, H227, hI⟩ := hp227
              show Goes _ _ _ _ (State.setTop _ (mkF _ _ _ [.ref ix, .ref s1, .ref a5]))
              replace H227 := Hp.sk9 H227
              have H228f := Hp.fr6 H227
              have H229f := Hp.fr6 H228f
              have H230f := Hp.fr2 H229f
              refine g_callV W227 (argsL := [.ref s1, .ref ix]) (st := []) (wd_214 hw) (wd_215 hw) (wd_217 hw) (wd_216 hw) (wd_28 hw) (wd_218 hw) (by decide) (a := a5) H230f (i := 0) rfl (c_put0 l Z a0 hw n0 cs hS hcs a5 s1 ix (98 : Int32) (0 : Int32) 2 (by decide) (by decide) b1 (0 : Int32) keyB (Or.inl rfl) _ _ H230f) pd_29 rfl rfl rfl at_139 (pc' := 142) rfl (by decide) (Wn := 0) (Nat.le_of_eq rfl) (by decide) (kc' := 12) (ks' := 49) rfl rfl (by decide) (by decide) ?_
              intro T231 v231 W231 hp231
              obtain ⟨tb1, nd1, rfl, H231⟩ := hp231
              show Goes _ _ _ _ (State.setTop _ (mkF _ _ _ [.null]))
              refine g_pop W231 at_142 (pc' := 143) rfl rfl ?_
              have H232f := Hp.fr6 H231
              have H233f := Hp.fr6 H232f
              have H234f := Hp.fr8 H233f
              have H235f := Hp.fr8 H234f
              have H236f := Hp.fr8 H235f
              have H237f := Hp.fr8 H236f
              have H238f := Hp.fr10 H237f
              have H239f := Hp.fr10 H238f
              have H240f := Hp.fr9 H239f
              have H241f := Hp.fr10 H240f
              replace H241f : Hp Z n0 T231.heap ((a5, ObC Z "java/util/HashMap" (fs_HashMap (.float (1061158912 : UInt32)) (.int (1 : Int32)) .null (.int ((0 : Int32) + (1 : Int32))) (.ref tb1) (.int (12 : Int32)))) :: (tb1, RaC Z "java/util/HashMap$Node" (own_vs .null (.ref nd1) .null .null)) :: (s0, ObC Z "java/lang/String" (fs_String (.ref b0) (.int (0 : Int32)) (.int (0 : Int32)) (.int (0 : Int32)))) :: (b0, ArC Z .byte [.int (97 : Int32)]) :: (s1, ObC Z "java/lang/String" (fs_String (.ref b1) (.int (0 : Int32)) (.int (98 : Int32)) (.int (0 : Int32)))) :: (b1, ArC Z .byte [.int (98 : Int32)]) :: (s2, ObC Z "java/lang/String" (fs_String (.ref b2) (.int (0 : Int32)) (.int (0 : Int32)) (.int (0 : Int32)))) :: (b2, ArC Z .byte [.int (99 : Int32)]) :: (s3, ObC Z "java/lang/String" (fs_String (.ref b3) (.int (0 : Int32)) (.int (0 : Int32)) (.int (0 : Int32)))) :: (b3, ArC Z .byte [.int (100 : Int32)]) :: (nd1, ObC Z "java/util/HashMap$Node" (fs_HashMap_Node (.int (98 : Int32)) (.ref s1) (.ref ix) .null)) :: (G1 ++ [])) := H241f
              exact TP2 _ tb1 (1 : Int32) ((0 : Int32) + (1 : Int32)) ((nd1, ObC Z "java/util/HashMap$Node" (fs_HashMap_Node (.int (98 : Int32)) (.ref s1) (.ref ix) .null)) :: G1) .null (0 : Int32) (Or.inl ⟨rfl, own_j0 c139⟩) (Or.inl rfl) (.ref nd1) (98 : Int32) (Or.inr ⟨nd1, ix, r1, rfl, own_j1 c140, List.mem_cons_self .., hI.mono (fun r hr => List.mem_cons_of_mem _ hr)⟩) (Or.inr rfl) (by rw [own_j0 c139, own_j1 c140, refs_z1] <;> decide) (by decide) (W231.more (by decide) (by decide)) (H241f.cast (by rw [List.cons_append]))
          · refine g_aload W6 at_114 (pc' := 116) rfl rfl rfl ?_
            refine g_aload W6 at_116 (pc' := 118) rfl rfl rfl ?_
            refine g_iloadN W6 at_118 (pc' := 119) rfl rfl ?_
            refine g_callS W6 (argsL := [.int r0]) (st := [.ref s0, .ref a5]) (wd_207 hw) (wd_208 hw) (wd_209 hw) (wd_210 hw) (by decide) (c_ival l Z a0 hw n0 ca cc hH hCa hB r0 _ _ H6) pd_28 rfl rfl rfl at_119 (pc' := 122) rfl (by decide) (Wn := 2) (Nat.le_of_eq rfl) (by decide) (kc' := 10) (ks' := 29) rfl rfl (by decide) (by decide) ?_
            intro T242 v242 W242 hp242
            obtain ⟨ix, G1, rfl, H242, hI⟩ := hp242
            show Goes _ _ _ _ (State.setTop _ (mkF _ _ _ [.ref ix, .ref s0, .ref a5]))
            replace H242 := Hp.sk9 H242
            have H243f := Hp.fr8 H242
            have H244f := Hp.fr8 H243f
            have H245f := Hp.fr2 H244f
            refine g_callV W242 (argsL := [.ref s0, .ref ix]) (st := []) (wd_214 hw) (wd_215 hw) (wd_217 hw) (wd_216 hw) (wd_28 hw) (wd_218 hw) (by decide) (a := a5) H245f (i := 0) rfl (c_put0 l Z a0 hw n0 cs hS hcs a5 s0 ix (97 : Int32) (0 : Int32) 1 (by decide) (by decide) b0 (0 : Int32) keyA (Or.inl rfl) _ _ H245f) pd_29 rfl rfl rfl at_122 (pc' := 125) rfl (by decide) (Wn := 0) (Nat.le_of_eq rfl) (by decide) (kc' := 12) (ks' := 49) rfl rfl (by decide) (by decide) ?_
            intro T246 v246 W246 hp246
            obtain ⟨tb1, nd1, rfl, H246⟩ := hp246
            show Goes _ _ _ _ (State.setTop _ (mkF _ _ _ [.null]))
            refine g_pop W246 at_125 (pc' := 126) rfl rfl ?_
            have H247f := Hp.fr6 H246
            have H248f := Hp.fr6 H247f
            have H249f := Hp.fr8 H248f
            have H250f := Hp.fr8 H249f
            have H251f := Hp.fr10 H250f
            have H252f := Hp.fr10 H251f
            have H253f := Hp.fr10 H252f
            have H254f := Hp.fr10 H253f
            have H255f := Hp.fr9 H254f
            have H256f := Hp.fr10 H255f
            replace H256f : Hp Z n0 T246.heap ((a5, ObC Z "java/util/HashMap" (fs_HashMap (.float (1061158912 : UInt32)) (.int (1 : Int32)) .null (.int ((0 : Int32) + (1 : Int32))) (.ref tb1) (.int (12 : Int32)))) :: (tb1, RaC Z "java/util/HashMap$Node" (own_vs (.ref nd1) .null .null .null)) :: (s0, ObC Z "java/lang/String" (fs_String (.ref b0) (.int (0 : Int32)) (.int (97 : Int32)) (.int (0 : Int32)))) :: (b0, ArC Z .byte [.int (97 : Int32)]) :: (s1, ObC Z "java/lang/String" (fs_String (.ref b1) (.int (0 : Int32)) (.int (0 : Int32)) (.int (0 : Int32)))) :: (b1, ArC Z .byte [.int (98 : Int32)]) :: (s2, ObC Z "java/lang/String" (fs_String (.ref b2) (.int (0 : Int32)) (.int (0 : Int32)) (.int (0 : Int32)))) :: (b2, ArC Z .byte [.int (99 : Int32)]) :: (s3, ObC Z "java/lang/String" (fs_String (.ref b3) (.int (0 : Int32)) (.int (0 : Int32)) (.int (0 : Int32)))) :: (b3, ArC Z .byte [.int (100 : Int32)]) :: (nd1, ObC Z "java/util/HashMap$Node" (fs_HashMap_Node (.int (97 : Int32)) (.ref s0) (.ref ix) .null)) :: (G1 ++ [])) := H256f
            exact TP1 _ tb1 (1 : Int32) ((0 : Int32) + (1 : Int32)) ((nd1, ObC Z "java/util/HashMap$Node" (fs_HashMap_Node (.int (97 : Int32)) (.ref s0) (.ref ix) .null)) :: G1) (.ref nd1) (97 : Int32) (Or.inr ⟨nd1, ix, r0, rfl, own_j1 c139, List.mem_cons_self .., hI.mono (fun r hr => List.mem_cons_of_mem _ hr)⟩) (Or.inr rfl) (by rw [own_j1 c139, refs_z0] <;> decide) (by decide) (W246.more (by decide) (by decide)) (H256f.cast (by rw [List.cons_append]))
        refine g_if WJS3 at_62 (pcy := 69) (by decide) (pc' := 65) rfl (fun (c257 : (jg &&& (8 : Int32)) = (0 : Int32)) => ?_) (fun (c257 : ¬ (jg &&& (8 : Int32)) = (0 : Int32)) => ?_)
        · refine g_iconst WJS3 at_69 (pc' := 70) rfl (v := (0 : Int32)) (by decide) ?_
          exact S4 _ _ WJS3 HJS3
        · refine g_iconst WJS3 at_65 (pc' := 66) rfl (v := (1 : Int32)) (by decide) ?_
          refine g_goto WJS3 at_66 (pc' := 70) (by decide) ?_
          exact S4 _ _ WJS3 HJS3
      refine g_if WJS2 at_47 (pcy := 54) (by decide) (pc' := 50) rfl (fun (c258 : (jg &&& (4 : Int32)) = (0 : Int32)) => ?_) (fun (c258 : ¬ (jg &&& (4 : Int32)) = (0 : Int32)) => ?_)
      · refine g_iconst WJS2 at_54 (pc' := 55) rfl (v := (0 : Int32)) (by decide) ?_
        exact S3 _ _ WJS2 HJS2
      · refine g_iconst WJS2 at_50 (pc' := 51) rfl (v := (1 : Int32)) (by decide) ?_
        refine g_goto WJS2 at_51 (pc' := 55) (by decide) ?_
        exact S3 _ _ WJS2 HJS2
    refine g_if WJS1 at_33 (pcy := 40) (by decide) (pc' := 36) rfl (fun (c259 : (jg &&& (2 : Int32)) = (0 : Int32)) => ?_) (fun (c259 : ¬ (jg &&& (2 : Int32)) = (0 : Int32)) => ?_)
    · refine g_iconst WJS1 at_40 (pc' := 41) rfl (v := (0 : Int32)) (by decide) ?_
      exact S2 _ _ WJS1 HJS1
    · refine g_iconst WJS1 at_36 (pc' := 37) rfl (v := (1 : Int32)) (by decide) ?_
      refine g_goto WJS1 at_37 (pc' := 41) (by decide) ?_
      exact S2 _ _ WJS1 HJS1
  refine g_if W0 at_19 (pcy := 26) (by decide) (pc' := 22) rfl (fun (c260 : (jg &&& (1 : Int32)) = (0 : Int32)) => ?_) (fun (c260 : ¬ (jg &&& (1 : Int32)) = (0 : Int32)) => ?_)
  · refine g_iconst W0 at_26 (pc' := 27) rfl (v := (0 : Int32)) (by decide) ?_
    exact S1 _ _ W0 H0
  · refine g_iconst W0 at_22 (pc' := 23) rfl (v := (1 : Int32)) (by decide) ?_
    refine g_goto W0 at_23 (pc' := 27) (by decide) ?_
    exact S1 _ _ W0 H0

theorem own_len {args : Array Value} {s : State} {t : Term} {a : Addr} {d : Cell} {z : Int32} {ty : FieldType} (et : t.eval args s none [] s = some (.ref a)) (hA : Arr s s.heap a d ty) (h : (Cond.eq (.length t) (.int z)).value args s none s [] = some true) : d.slots.size < 2 ^ 31 ∧ d.slots.size.toInt32 = z := by
  obtain ⟨b, d', f1, f2, f3, f4⟩ := Jvm.Lib.length_spec (eqv_i (Term.int_eval z) h)
  cases et.symm.trans f1
  cases (hA.fin (Vm.Alike.refl _)).symm.trans f2
  cases f4
  exact ⟨f3, rfl⟩

set_option maxRecDepth 65536 in
set_option maxHeartbeats 40000000 in
theorem comes_1 {Post : Tables → Env → Array Value → State → Outcome → State → Prop} (hpost : ∀ tb e args s v u, (limb_1_1.after args s (.returned v) u = true ∧ limb_1_2.after args s (.returned v) u = true ∧ True) → FrameEnd s (.returned v) u (Jvm.fieldLocs frame_1_writes args s ++ Jvm.arrayLocs frame_1_arrays args s ++ Jvm.staticLocs frame_1_statics s) 72 320 → Post tb e args s (.returned v) u) :
    ArmFor flags0 classFile x code maxLocals ret World_1 tables_1 room_1 Calls_1 rest_1 Pre_1 Post := by
  intro l hfl _ _ p e ha hc hk s m args below hf hA hF happ hP
  obtain ⟨hcalls, hrest, hpre⟩ := hP
  obtain ⟨-, -, -, hnamed, -, -, -, hat⟩ := (Spec.applies_iff hf).mp happ
  obtain ⟨hg, hn⟩ := and_e (Cond.before_iff.mp (show (Jvm.Cond.and given_1 narrow_1).before args s = true from hpre))
  obtain ⟨hcount, hg0⟩ := and_e hg
  obtain ⟨ha0, hg1⟩ := and_e hg0
  obtain ⟨ha1, hg2⟩ := and_e hg1
  obtain ⟨ha2, hg3⟩ := and_e hg2
  obtain ⟨ha3, hg4⟩ := and_e hg3
  obtain ⟨w0, w1, w2, w3, w4, rfl⟩ : ∃ w0 w1 w2 w3 w4 : Value, args = #[w0, w1, w2, w3, w4] := by
    have hs : args.size = 5 := by simpa [Cond.value, given_1] using hcount
    obtain ⟨L⟩ := args
    match L, hs with
    | [w0, w1, w2, w3, w4], _ => exact ⟨w0, w1, w2, w3, w4, rfl⟩
  have hw := fun d (hd : d ∈ tables_1) => atoms_spec (ws := Jvm.Cond.code x code maxLocals ret :: tables_1) hat d (List.mem_cons_of_mem _ hd)
  obtain ⟨r0, e0⟩ := is_v ha0
  obtain rfl : w0 = (.int r0) := Option.some.inj e0
  obtain ⟨r1, e1⟩ := is_v ha1
  obtain rfl : w1 = (.int r1) := Option.some.inj e1
  obtain ⟨r2, e2⟩ := is_v ha2
  obtain rfl : w2 = (.int r2) := Option.some.inj e2
  obtain ⟨r3, e3⟩ := is_v ha3
  obtain rfl : w3 = (.int r3) := Option.some.inj e3
  obtain ⟨sh, e4⟩ := is_v hg4
  obtain rfl : w4 = (.int sh) := Option.some.inj e4
  obtain ⟨hsets, hown0⟩ := atoms_of _ (rest_1_c_eq ▸ (show rest_1_c.before _ s = true from hrest))
  obtain ⟨cs, ecs⟩ := is_v (Cond.before_iff.mp (hsets _ (List.mem_of_getElem? (i := 1) rfl)))
  have hS : Sta s s.heap "java/lang/String" "COMPACT_STRINGS" "Z" (.int cs) := Sta.start ecs (Or.inl (hsets _ (List.mem_of_getElem? (i := 0) rfl)))
  have hcs : ¬ cs = (0 : Int32) := gotF (Cond.eq_ints ecs (Term.int_eval (0))) (not_v (Cond.before_iff.mp (hsets _ (List.mem_of_getElem? (i := 2) rfl))))
  obtain ⟨de, ede⟩ := arr_v (Cond.before_iff.mp (hsets _ (List.mem_of_getElem? (i := 15) rfl)))
  obtain ⟨dc, hA⟩ := Arr.start ede (Cond.before_iff.mp (hsets _ (List.mem_of_getElem? (i := 15) rfl)))
  have hD : Sta s s.heap "java/util/ArrayList" "DEFAULTCAPACITY_EMPTY_ELEMENTDATA" "[Ljava/lang/Object;" (.ref de) := Sta.start ede (Or.inr ⟨hw _ (List.mem_of_getElem? (i := 44) rfl), hsets _ (List.mem_of_getElem? (i := 11) rfl)⟩)
  have hA0 := (own_len ede hA (Cond.before_iff.mp (hsets _ (List.mem_of_getElem? (i := 17) rfl)))).2
  have eh := eqv_i (Term.int_eval (127)) (Cond.before_iff.mp (hsets _ (List.mem_of_getElem? (i := 21) rfl)))
  have hH : Sta s s.heap "java/lang/Integer$IntegerCache" "high" "I" (.int 127) := Sta.start eh (Or.inl (hsets _ (List.mem_of_getElem? (i := 19) rfl)))
  obtain ⟨ca, eca⟩ := arr_v (Cond.before_iff.mp (hsets _ (List.mem_of_getElem? (i := 22) rfl)))
  obtain ⟨cc, hcc⟩ := Arr.start eca (Cond.before_iff.mp (hsets _ (List.mem_of_getElem? (i := 22) rfl)))
  have hCa : Sta s s.heap "java/lang/Integer$IntegerCache" "cache" "[Ljava/lang/Integer;" (.ref ca) := Sta.start eca (Or.inr ⟨hw _ (List.mem_of_getElem? (i := 212) rfl), hsets _ (List.mem_of_getElem? (i := 20) rfl)⟩)
  have hcl := own_len eca hcc (Cond.before_iff.mp (hsets _ (List.mem_of_getElem? (i := 24) rfl)))
  have hB : Bxs s ca cc "java/lang/Integer" "I" (256 : Int32) (fun j => .int (j - 128)) := Bxs.start (args := #[.int r0, .int r1, .int r2, .int r3, .int sh]) (t := .static "java/lang/Integer$IntegerCache" "cache" "[Ljava/lang/Integer;") (fun _ => eca) hcc hcl.1 hcl.2 (by decide) (Cond.before_iff.mp (hsets _ (List.mem_of_getElem? (i := 25) rfl))) (fun X j hj h => eqv_i (Term.sub_int (idx_at hj) (Term.int_eval (128))) h)
  obtain ⟨n, o, h1, h2, h3, _, L, rfl, ⟨N, rfl⟩, hq⟩ := law_con l s _ hw s.heap.size cs hS hcs de dc hD hA hA0 ca cc hH hCa hB r0 r1 r2 r3 sh s.heap (Hp.nil Bs.start) p e ha hc hk s m _ below hf ((Spec.applies_iff_loose hf).mp happ).1 ⟨rfl, State.Warmed39.refl s, rfl⟩ trivial
  refine ⟨n, _, h1, h2, h3, hpost _ _ _ _ _ _ ⟨Cond.after_iff.mpr rfl, Cond.after_iff.mpr (eq_i res_at (Term.int_eval (1)) rfl), trivial⟩ ⟨hq.1, hq.2.1, (hq.2.2.sift fun y hy => Or.inr (N y hy)).mono (by decide) (by decide)⟩⟩
theorem main_1_1 : Claimed_1_1 := comes_1 fun _ _ _ _ _ _ h hF => ⟨h.1, hF⟩
theorem main_1_2 : Claimed_1_2 := comes_1 fun _ _ _ _ _ _ h hF => ⟨h.2.1, hF⟩
end Jvm.Pilot.@@N@@
namespace Jvm.Pilot.@@N@@
open Jvm Jvm.ClassFile Sem Op Lib Jvm.Free Jvm.Stand Jvm.Pilot.@@N@@.Jvm.D
/-! MADE BY PROGRAM (witnessworld.py) out of the Statement's table words and the real class files: 46 classes; the members and pool entries that the words name. The judged class is class 1, her method 1. -/
namespace start1
open Jvm.ClassFile
def u (s : String) : CpInfo := .utf8 (stringToUtf16 s)
/-- a pool by its gaps: so many unusable entries, then the entry; so many at the end -/
def gap : Nat → List CpInfo → List CpInfo
  | 0, r => r
  | n + 1, r => .unusable :: gap n r
def poolList (es : List (Nat × CpInfo)) (last : Nat) : List CpInfo := es.foldr (fun e r => gap e.1 (e.2 :: r)) (gap last [])
def pool (es : List (Nat × CpInfo)) (last : Nat) : Array CpInfo := ⟨poolList es last⟩
def fileOf (pool : Array CpInfo) (this : Nat) (attrs : Array Attribute := #[]) (ms : Array MethodInfo := #[]) (fl : Nat := 33) (sup : Nat := 0) (ifs : Array Nat := #[]) (fds : Array FieldInfo := #[]) : ClassFile where
  minorVersion := 0
  majorVersion := 65
  constantPool := pool
  accessFlags := fl
  thisClass := this
  superClass := sup
  interfaces := ifs
  fields := fds
  methods := ms
  attributes := attrs
def plain (name : String) (sup : Option ClassId) : Class where
  name := name
  kind := .ordinary
  loader := none
  accessFlags := 33
  super := sup
  interfaces := #[]
  cf := none
  fields := #[]
  methods := #[]
  instanceTypes := #[]
  staticTypes := #[]
  resolved := #[]
  callSites := []
  init := .initialized
  statics := none
  mirror := none

def pool0 : Array CpInfo := pool [(5, u "<init>"), (0, u "()V"), (1, .class_ 10), (1, u "java/lang/Object"), (16, u "hashCode"), (0, u "()I"), (67, u "clone"), (0, u "()Ljava/lang/Object;")] 26

def k0c0 : Code := { maxStack := 0, maxLocals := 1, code := object_method_1_code, exceptionTable := #[], attributes := #[] }
def k0m0 : Method := { name := "<init>", desc := "()V", sig := { parameters := [], returnType := none }, accessFlags := 1, code := some k0c0 }
def k0m1 : Method := { name := "hashCode", desc := "()I", sig := { parameters := [], returnType := some .int }, accessFlags := 257, code := none }
def k0m2 : Method := { name := "clone", desc := "()Ljava/lang/Object;", sig := { parameters := [], returnType := some (.object "java/lang/Object") }, accessFlags := 260, code := none }
/-- java/lang/Object -/
def k0 : Class := { plain "java/lang/Object" none with
  accessFlags := 33
  interfaces := #[]
  cf := some (fileOf pool0 8 #[] #[{ accessFlags := 1, nameIndex := 5, descriptorIndex := 6, attributes := #[] }, { accessFlags := 257, nameIndex := 27, descriptorIndex := 28, attributes := #[] }, { accessFlags := 260, nameIndex := 96, descriptorIndex := 97, attributes := #[] }] 33 0 #[] #[])
  fields := #[]
  methods := #[k0m0, k0m1, k0m2]
  instanceTypes := #[]
  staticTypes := #[]
  resolved := Array.replicate 124 none
  statics := none }

def pool1 : Array CpInfo := pool [(2, .class_ 4), (0, .nameAndType 5 6), (0, u "java/lang/Object"), (0, u "<init>"), (0, u "()V"), (0, .methodref 8 9), (0, .class_ 10), (0, .nameAndType 11 12), (0, u "java/lang/String"), (0, u "valueOf"), (0, u "(C)Ljava/lang/String;"), (0, .class_ 14), (0, u "java/util/HashMap"), (0, .methodref 13 3), (0, .methodref 17 18), (0, .class_ 19), (0, .nameAndType 11 20), (0, u "java/lang/Integer"), (0, u "(I)Ljava/lang/Integer;"), (0, .methodref 13 22), (0, .nameAndType 23 24), (0, u "put"), (0, u "(Ljava/lang/Object;Ljava/lang/Object;)Ljava/lang/Object;"), (0, .class_ 26), (0, u "java/util/ArrayList"), (0, .methodref 25 3), (0, .class_ 29), (0, u "com/example/inq2/inq2/ScoredDocument"), (0, .double 4613937818241073152), (1, .methodref 28 33), (0, .nameAndType 5 34), (0, u "(Ljava/lang/String;D)V"), (0, .methodref 25 36), (0, .nameAndType 37 38), (0, u "add"), (0, u "(Ljava/lang/Object;)Z"), (0, .double 4611686018427387904), (1, .class_ 42), (0, u "com/example/inq2/inq2/JudgedRanking"), (0, .methodref 41 44), (0, .nameAndType 5 45), (0, u "(Ljava/util/List;Ljava/util/Map;)V"), (0, .methodref 41 47), (0, .nameAndType 48 49), (0, u "averagePrecision"), (0, u "()D"), (0, .class_ 51), (0, u "com/example/inq2/inq2/JudgedRankingAveragePrecisionPinLaw"), (2, u "law"), (0, u "(IIIII)Z")] 3

def k1m0 : Method := { name := "<init>", desc := "()V", sig := { parameters := [], returnType := none }, accessFlags := 2, code := none }
def k1c1 : Code := { maxStack := 6, maxLocals := 32, code := code, exceptionTable := #[], attributes := #[] }
def k1m1 : Method := { name := "law", desc := "(IIIII)Z", sig := { parameters := [.int, .int, .int, .int, .int], returnType := some .boolean }, accessFlags := 9, code := some k1c1 }
/-- com/example/inq2/inq2/JudgedRankingAveragePrecisionPinLaw -/
def k1 : Class := { plain "com/example/inq2/inq2/JudgedRankingAveragePrecisionPinLaw" (some 0) with
  accessFlags := 49
  interfaces := #[]
  cf := some (fileOf pool1 50 #[] #[{ accessFlags := 2, nameIndex := 5, descriptorIndex := 6, attributes := #[] }, { accessFlags := 9, nameIndex := 54, descriptorIndex := 55, attributes := #[] }] 49 2 #[] #[])
  fields := #[]
  methods := #[k1m0, k1m1]
  instanceTypes := #[]
  staticTypes := #[]
  resolved := Array.replicate 59 none
  statics := none }

def pool2 : Array CpInfo := pool [(1, .class_ 2), (0, u "java/io/Serializable"), (0, .class_ 4), (0, u "java/lang/Object")] 2

/-- java/io/Serializable -/
def k2 : Class := { plain "java/io/Serializable" (some 0) with
  accessFlags := 1537
  interfaces := #[]
  cf := some (fileOf pool2 1 #[] #[] 1537 3 #[] #[])
  fields := #[]
  methods := #[]
  instanceTypes := #[]
  staticTypes := #[]
  resolved := Array.replicate 7 none
  statics := none }

def pool3 : Array CpInfo := pool [(1, .class_ 2), (0, u "java/lang/Comparable"), (0, .class_ 4), (0, u "java/lang/Object")] 7

/-- java/lang/Comparable -/
def k3 : Class := { plain "java/lang/Comparable" (some 0) with
  accessFlags := 1537
  interfaces := #[]
  cf := some (fileOf pool3 1 #[] #[] 1537 3 #[] #[])
  fields := #[]
  methods := #[]
  instanceTypes := #[]
  staticTypes := #[]
  resolved := Array.replicate 12 none
  statics := none }

def pool4 : Array CpInfo := pool [(2, .class_ 4), (1, u "java/lang/CharSequence"), (42, .class_ 48), (0, u "java/lang/CharSequence$1CodePointIterator"), (10, .class_ 60), (0, u "java/lang/CharSequence$1CharIterator"), (5, .class_ 67), (0, u "java/lang/Object")] 63

/-- java/lang/CharSequence -/
def k4 : Class := { plain "java/lang/CharSequence" (some 0) with
  accessFlags := 1537
  interfaces := #[]
  cf := some (fileOf pool4 2 #[.nestMembers #[47, 59]] #[] 1537 66 #[] #[])
  fields := #[]
  methods := #[]
  instanceTypes := #[]
  staticTypes := #[]
  resolved := Array.replicate 131 none
  statics := none }

def pool5 : Array CpInfo := pool [(1, .class_ 2), (0, u "java/lang/constant/Constable"), (0, .class_ 4), (0, u "java/lang/Object")] 6

/-- java/lang/constant/Constable -/
def k5 : Class := { plain "java/lang/constant/Constable" (some 0) with
  accessFlags := 1537
  interfaces := #[]
  cf := some (fileOf pool5 1 #[] #[] 1537 3 #[] #[])
  fields := #[]
  methods := #[]
  instanceTypes := #[]
  staticTypes := #[]
  resolved := Array.replicate 11 none
  statics := none }

def pool6 : Array CpInfo := pool [(1, .class_ 2), (0, u "java/lang/constant/ConstantDesc"), (0, .class_ 4), (0, u "java/lang/Object")] 32

/-- java/lang/constant/ConstantDesc -/
def k6 : Class := { plain "java/lang/constant/ConstantDesc" (some 0) with
  accessFlags := 1537
  interfaces := #[]
  cf := some (fileOf pool6 1 #[] #[] 1537 3 #[] #[])
  fields := #[]
  methods := #[]
  instanceTypes := #[]
  staticTypes := #[]
  resolved := Array.replicate 37 none
  statics := none }

def pool7 : Array CpInfo := pool [(1, .methodref 2 3), (0, .class_ 4), (0, .nameAndType 5 6), (0, u "java/lang/Object"), (0, u "<init>"), (0, u "()V"), (2, .fieldref 10 11), (0, .class_ 12), (0, .nameAndType 13 14), (0, u "java/lang/String"), (0, u "value"), (0, u "[B"), (0, .fieldref 10 16), (0, .nameAndType 17 18), (0, u "coder"), (0, u "B"), (0, .fieldref 10 20), (0, .nameAndType 21 22), (0, u "hash"), (0, u "I"), (0, .fieldref 10 24), (0, .nameAndType 25 26), (0, u "hashIsZero"), (0, u "Z"), (11, .fieldref 10 39), (0, .nameAndType 40 26), (0, u "COMPACT_STRINGS"), (12, u "toBytes"), (53, .class_ 109), (1, u "java/lang/StringLatin1"), (32, u "()Z"), (66, .methodref 10 210), (0, .nameAndType 5 211), (0, u "([BB)V"), (122, u "()I"), (34, u "(C)Z"), (122, .methodref 10 493), (0, .nameAndType 494 142), (0, u "isLatin1"), (80, .class_ 576), (0, u "java/lang/CharSequence"), (22, u "CASE_INSENSITIVE_ORDER"), (0, u "Ljava/util/Comparator;"), (27, .methodref 107 629), (0, .nameAndType 630 631), (0, u "hashCode"), (0, u "([B)I"), (150, u "valueOf"), (0, u "(C)Ljava/lang/String;"), (231, .methodref 107 1016), (0, .nameAndType 1017 369), (0, u "canEncode"), (0, .methodref 107 1019), (0, .nameAndType 53 1020), (0, u "(C)[B"), (80, u "serialPersistentFields"), (0, u "[Ljava/io/ObjectStreamField;"), (0, .class_ 1104), (0, u "java/lang/String$CaseInsensitiveComparator"), (1, .class_ 1107), (0, u "java/io/Serializable"), (0, .class_ 1109), (0, u "java/lang/Comparable"), (0, .class_ 1111), (0, u "java/lang/constant/Constable"), (0, .class_ 1113), (0, u "java/lang/constant/ConstantDesc"), (2, u "serialVersionUID"), (0, u "J"), (3, u "REPL"), (0, u "C"), (2, u "LATIN1"), (1, u "UTF16")] 323

def k7m0 : Method := { name := "<init>", desc := "()V", sig := { parameters := [], returnType := none }, accessFlags := 1, code := none }
def k7c1 : Code := { maxStack := 2, maxLocals := 2, code := jdk_42_method_78_code, exceptionTable := #[], attributes := #[] }
def k7m1 : Method := { name := "hashCode", desc := "()I", sig := { parameters := [], returnType := some .int }, accessFlags := 1, code := some k7c1 }
def k7c2 : Code := { maxStack := 4, maxLocals := 1, code := jdk_42_method_139_code, exceptionTable := #[], attributes := #[] }
def k7m2 : Method := { name := "valueOf", desc := "(C)Ljava/lang/String;", sig := { parameters := [.char], returnType := some (.object "java/lang/String") }, accessFlags := 9, code := some k7c2 }
def k7c3 : Code := { maxStack := 2, maxLocals := 3, code := jdk_42_method_151_code, exceptionTable := #[], attributes := #[] }
def k7m3 : Method := { name := "<init>", desc := "([BB)V", sig := { parameters := [(.array .byte), .byte], returnType := none }, accessFlags := 0, code := some k7c3 }
def k7c4 : Code := { maxStack := 1, maxLocals := 1, code := jdk_42_method_154_code, exceptionTable := #[], attributes := #[] }
def k7m4 : Method := { name := "isLatin1", desc := "()Z", sig := { parameters := [], returnType := some .boolean }, accessFlags := 0, code := some k7c4 }
/-- java/lang/String -/
def k7 : Class := { plain "java/lang/String" (some 0) with
  accessFlags := 49
  interfaces := #[2, 3, 4, 5, 6]
  cf := some (fileOf pool7 10 #[.nestMembers #[1103]] #[{ accessFlags := 1, nameIndex := 5, descriptorIndex := 6, attributes := #[] }, { accessFlags := 1, nameIndex := 630, descriptorIndex := 334, attributes := #[] }, { accessFlags := 9, nameIndex := 782, descriptorIndex := 783, attributes := #[] }, { accessFlags := 0, nameIndex := 5, descriptorIndex := 211, attributes := #[] }, { accessFlags := 0, nameIndex := 494, descriptorIndex := 142, attributes := #[] }] 49 2 #[1106, 1108, 575, 1110, 1112] #[{ accessFlags := 18, nameIndex := 13, descriptorIndex := 14, attributes := #[] }, { accessFlags := 18, nameIndex := 17, descriptorIndex := 18, attributes := #[] }, { accessFlags := 2, nameIndex := 21, descriptorIndex := 22, attributes := #[] }, { accessFlags := 2, nameIndex := 25, descriptorIndex := 26, attributes := #[] }, { accessFlags := 26, nameIndex := 1116, descriptorIndex := 1117, attributes := #[] }, { accessFlags := 24, nameIndex := 40, descriptorIndex := 26, attributes := #[] }, { accessFlags := 26, nameIndex := 1101, descriptorIndex := 1102, attributes := #[] }, { accessFlags := 26, nameIndex := 1121, descriptorIndex := 1122, attributes := #[] }, { accessFlags := 25, nameIndex := 599, descriptorIndex := 600, attributes := #[] }, { accessFlags := 24, nameIndex := 1125, descriptorIndex := 18, attributes := #[] }, { accessFlags := 24, nameIndex := 1127, descriptorIndex := 18, attributes := #[] }])
  fields := #[{ name := "value", type := (.array .byte), accessFlags := 18, slot := 0, constantValue := 0 }, { name := "coder", type := .byte, accessFlags := 18, slot := 1, constantValue := 0 }, { name := "hash", type := .int, accessFlags := 2, slot := 2, constantValue := 0 }, { name := "hashIsZero", type := .boolean, accessFlags := 2, slot := 3, constantValue := 0 }, { name := "serialVersionUID", type := .long, accessFlags := 26, slot := 0, constantValue := 0 }, { name := "COMPACT_STRINGS", type := .boolean, accessFlags := 24, slot := 1, constantValue := 0 }, { name := "serialPersistentFields", type := (.array (.object "java/io/ObjectStreamField")), accessFlags := 26, slot := 2, constantValue := 0 }, { name := "REPL", type := .char, accessFlags := 26, slot := 3, constantValue := 0 }, { name := "CASE_INSENSITIVE_ORDER", type := (.object "java/util/Comparator"), accessFlags := 25, slot := 4, constantValue := 0 }, { name := "LATIN1", type := .byte, accessFlags := 24, slot := 5, constantValue := 0 }, { name := "UTF16", type := .byte, accessFlags := 24, slot := 6, constantValue := 0 }]
  methods := #[k7m0, k7m1, k7m2, k7m3, k7m4]
  instanceTypes := #[(.array .byte), .byte, .int, .boolean]
  staticTypes := #[.long, .boolean, (.array (.object "java/io/ObjectStreamField")), .char, (.object "java/util/Comparator"), .byte, .byte]
  resolved := Array.replicate 1451 none
  statics := some 0 }

def pool8 : Array CpInfo := pool [(4, .class_ 6), (1, u "java/lang/Object"), (0, u "<init>"), (0, u "()V"), (5, .class_ 16), (1, u "java/lang/StringLatin1"), (40, u "([B)I"), (32, u "canEncode"), (14, u "(C)Z"), (15, u "$assertionsDisabled"), (0, u "Z"), (98, .class_ 223), (1, u "java/lang/StringLatin1$LinesSpliterator"), (74, u "hashCode"), (81, u "toBytes"), (1, u "(C)[B"), (7, .class_ 391), (0, u "java/lang/StringLatin1$CharsSpliterator")] 3

def k8m0 : Method := { name := "<init>", desc := "()V", sig := { parameters := [], returnType := none }, accessFlags := 0, code := none }
def k8c1 : Code := { maxStack := 2, maxLocals := 1, code := jdk_43_method_3_code, exceptionTable := #[], attributes := #[] }
def k8m1 : Method := { name := "canEncode", desc := "(C)Z", sig := { parameters := [.char], returnType := some .boolean }, accessFlags := 9, code := some k8c1 }
def k8c2 : Code := { maxStack := 5, maxLocals := 1, code := jdk_43_method_21_code, exceptionTable := #[], attributes := #[] }
def k8m2 : Method := { name := "hashCode", desc := "([B)I", sig := { parameters := [(.array .byte)], returnType := some .int }, accessFlags := 9, code := some k8c2 }
def k8c3 : Code := { maxStack := 4, maxLocals := 1, code := jdk_43_method_46_code, exceptionTable := #[], attributes := #[] }
def k8m3 : Method := { name := "toBytes", desc := "(C)[B", sig := { parameters := [.char], returnType := some (.array .byte) }, accessFlags := 9, code := some k8c3 }
/-- java/lang/StringLatin1 -/
def k8 : Class := { plain "java/lang/StringLatin1" (some 0) with
  accessFlags := 48
  interfaces := #[]
  cf := some (fileOf pool8 14 #[.nestMembers #[390, 221]] #[{ accessFlags := 0, nameIndex := 7, descriptorIndex := 8, attributes := #[] }, { accessFlags := 9, nameIndex := 90, descriptorIndex := 105, attributes := #[] }, { accessFlags := 9, nameIndex := 298, descriptorIndex := 57, attributes := #[] }, { accessFlags := 9, nameIndex := 380, descriptorIndex := 382, attributes := #[] }] 48 4 #[] #[{ accessFlags := 4120, nameIndex := 121, descriptorIndex := 122, attributes := #[] }])
  fields := #[{ name := "$assertionsDisabled", type := .boolean, accessFlags := 4120, slot := 0, constantValue := 0 }]
  methods := #[k8m0, k8m1, k8m2, k8m3]
  instanceTypes := #[]
  staticTypes := #[.boolean]
  resolved := Array.replicate 395 none
  statics := none }

def pool9 : Array CpInfo := pool [(2, .class_ 4), (1, u "java/util/Map"), (31, .class_ 37), (0, u "java/util/Map$Entry"), (25, u "(Ljava/lang/Object;Ljava/lang/Object;)Ljava/lang/Object;"), (29, .class_ 94), (0, u "java/lang/Object"), (25, u "size"), (0, u "()I"), (11, u "values"), (0, u "()Ljava/util/Collection;"), (3, u "getOrDefault")] 124

def k9m0 : Method := { name := "size", desc := "()I", sig := { parameters := [], returnType := some .int }, accessFlags := 1025, code := none }
def k9m1 : Method := { name := "values", desc := "()Ljava/util/Collection;", sig := { parameters := [], returnType := some (.object "java/util/Collection") }, accessFlags := 1025, code := none }
def k9c2 : Code := { maxStack := 2, maxLocals := 4, code := ⟨#[0x2a, 0x2b, 0xb9, 0x00, 0x01, 0x02, 0x00, 0x59, 0x4e, 0xc7, 0x00, 0x0d, 0x2a, 0x2b, 0xb9, 0x00, 0x07, 0x02, 0x00, 0x99, 0x00, 0x07, 0x2d, 0xa7, 0x00, 0x04, 0x2c, 0xb0]⟩, exceptionTable := #[], attributes := #[] }
def k9m2 : Method := { name := "getOrDefault", desc := "(Ljava/lang/Object;Ljava/lang/Object;)Ljava/lang/Object;", sig := { parameters := [(.object "java/lang/Object"), (.object "java/lang/Object")], returnType := some (.object "java/lang/Object") }, accessFlags := 1, code := some k9c2 }
/-- java/util/Map -/
def k9 : Class := { plain "java/util/Map" (some 0) with
  accessFlags := 1537
  interfaces := #[]
  cf := some (fileOf pool9 2 #[.nestMembers #[36]] #[{ accessFlags := 1025, nameIndex := 120, descriptorIndex := 121, attributes := #[] }, { accessFlags := 1025, nameIndex := 133, descriptorIndex := 134, attributes := #[] }, { accessFlags := 1, nameIndex := 138, descriptorIndex := 63, attributes := #[] }] 1537 93 #[] #[])
  fields := #[]
  methods := #[k9m0, k9m1, k9m2]
  instanceTypes := #[]
  staticTypes := #[]
  resolved := Array.replicate 263 none
  statics := none }

def pool10 : Array CpInfo := pool [(1, .methodref 2 3), (0, .class_ 4), (0, .nameAndType 5 6), (0, u "java/lang/Object"), (0, u "<init>"), (0, u "()V"), (1, .class_ 10), (1, u "java/util/AbstractMap"), (42, .class_ 54), (0, u "java/util/Map"), (9, u "keySet"), (0, u "Ljava/util/Set;"), (0, .class_ 67), (0, u "java/util/AbstractMap$1"), (5, u "values"), (0, u "Ljava/util/Collection;"), (0, .class_ 76), (0, u "java/util/AbstractMap$2"), (104, .class_ 182), (0, u "java/util/AbstractMap$ViewCollection"), (0, .class_ 184), (0, u "java/util/AbstractMap$SimpleImmutableEntry"), (0, .class_ 186), (0, u "java/util/AbstractMap$SimpleEntry"), (0, .class_ 188), (0, u "java/util/AbstractMap$2$1"), (0, .class_ 190), (0, u "java/util/AbstractMap$1$1")] 5

def k10c0 : Code := { maxStack := 1, maxLocals := 1, code := jdk_71_method_1_code, exceptionTable := #[], attributes := #[] }
def k10m0 : Method := { name := "<init>", desc := "()V", sig := { parameters := [], returnType := none }, accessFlags := 4, code := some k10c0 }
/-- java/util/AbstractMap -/
def k10 : Class := { plain "java/util/AbstractMap" (some 0) with
  accessFlags := 1057
  interfaces := #[9]
  cf := some (fileOf pool10 8 #[.nestMembers #[181, 183, 185, 75, 187, 66, 189]] #[{ accessFlags := 4, nameIndex := 5, descriptorIndex := 6, attributes := #[] }] 1057 2 #[53] #[{ accessFlags := 128, nameIndex := 64, descriptorIndex := 65, attributes := #[] }, { accessFlags := 128, nameIndex := 73, descriptorIndex := 74, attributes := #[] }])
  fields := #[{ name := "keySet", type := (.object "java/util/Set"), accessFlags := 128, slot := 0, constantValue := 0 }, { name := "values", type := (.object "java/util/Collection"), accessFlags := 128, slot := 1, constantValue := 0 }]
  methods := #[k10m0]
  instanceTypes := #[(.object "java/util/Set"), (.object "java/util/Collection")]
  staticTypes := #[]
  resolved := Array.replicate 196 none
  statics := none }

def pool11 : Array CpInfo := pool [(1, .class_ 2), (0, u "java/lang/Cloneable"), (0, .class_ 4), (0, u "java/lang/Object")] 2

/-- java/lang/Cloneable -/
def k11 : Class := { plain "java/lang/Cloneable" (some 0) with
  accessFlags := 1537
  interfaces := #[]
  cf := some (fileOf pool11 1 #[] #[] 1537 3 #[] #[])
  fields := #[]
  methods := #[]
  instanceTypes := #[]
  staticTypes := #[]
  resolved := Array.replicate 7 none
  statics := none }

def pool12 : Array CpInfo := pool [(1, .methodref 2 3), (0, .class_ 4), (0, .nameAndType 5 6), (0, u "java/lang/Object"), (0, u "hashCode"), (0, u "()I"), (26, u "(Ljava/lang/Object;)I"), (6, .class_ 41), (0, u "java/util/HashMap"), (1, .methodref 44 45), (0, .class_ 46), (0, .nameAndType 47 48), (0, u "java/util/AbstractMap"), (0, u "<init>"), (0, u "()V"), (32, .fieldref 40 82), (0, .nameAndType 83 84), (0, u "loadFactor"), (0, u "F"), (3, .fieldref 40 89), (0, .nameAndType 90 91), (0, u "threshold"), (0, u "I"), (0, .float 1061158912), (8, .class_ 103), (1, u "java/util/Map"), (0, u "size"), (0, .fieldref 40 106), (0, .nameAndType 107 108), (0, u "table"), (0, u "[Ljava/util/HashMap$Node;"), (8, .methodref 40 118), (0, .nameAndType 119 120), (0, u "resize"), (0, u "()[Ljava/util/HashMap$Node;"), (2, u "entrySet"), (25, .methodref 40 150), (0, .nameAndType 151 33), (0, u "hash"), (0, .methodref 40 153), (0, .nameAndType 154 155), (0, u "putVal"), (0, u "(ILjava/lang/Object;Ljava/lang/Object;ZZ)Ljava/lang/Object;"), (0, .fieldref 40 157), (0, .nameAndType 104 91), (0, .methodref 40 159), (0, .nameAndType 160 161), (0, u "getNode"), (0, u "(Ljava/lang/Object;)Ljava/util/HashMap$Node;"), (0, .fieldref 163 164), (0, .class_ 165), (0, .nameAndType 166 167), (0, u "java/util/HashMap$Node"), (0, u "value"), (0, u "Ljava/lang/Object;"), (0, .fieldref 163 169), (0, .nameAndType 151 91), (0, .fieldref 163 171), (0, .nameAndType 172 167), (0, u "key"), (7, .class_ 181), (0, u "java/util/HashMap$TreeNode"), (4, .methodref 40 187), (0, .nameAndType 188 189), (0, u "newNode"), (0, u "(ILjava/lang/Object;Ljava/lang/Object;Ljava/util/HashMap$Node;)Ljava/util/HashMap$Node;"), (12, .fieldref 40 203), (0, .nameAndType 204 91), (0, u "modCount"), (0, .methodref 40 206), (0, .nameAndType 207 208), (0, u "afterNodeInsertion"), (0, u "(Z)V"), (33, u "Ljava/util/Set;"), (0, .class_ 244), (0, u "java/util/HashMap$KeySet"), (1, .nameAndType 47 247), (0, u "(Ljava/util/HashMap;)V"), (11, .fieldref 40 260), (0, .nameAndType 261 262), (0, u "values"), (0, u "Ljava/util/Collection;"), (0, .class_ 264), (0, u "java/util/HashMap$Values"), (0, .methodref 263 246), (2, .class_ 269), (0, u "java/util/HashMap$EntrySet"), (17, u "(Ljava/lang/Object;Ljava/lang/Object;)Ljava/lang/Object;"), (58, .class_ 348), (1, u "java/util/HashMap$UnsafeHolder"), (26, .methodref 163 376), (0, .nameAndType 47 377), (0, u "(ILjava/lang/Object;Ljava/lang/Object;Ljava/util/HashMap$Node;)V"), (14, .class_ 393), (0, u "java/lang/Cloneable"), (0, .class_ 395), (0, u "java/io/Serializable"), (0, u "serialVersionUID"), (0, u "J"), (3, u "DEFAULT_INITIAL_CAPACITY"), (1, u "MAXIMUM_CAPACITY"), (0, u "DEFAULT_LOAD_FACTOR"), (0, u "TREEIFY_THRESHOLD"), (1, u "UNTREEIFY_THRESHOLD"), (1, u "MIN_TREEIFY_CAPACITY"), (60, u "put"), (45, u "()Ljava/util/Collection;"), (7, u "getOrDefault"), (71, .class_ 597), (0, u "java/util/HashMap$EntrySpliterator"), (0, .class_ 599), (0, u "java/util/HashMap$ValueSpliterator"), (0, .class_ 601), (0, u "java/util/HashMap$KeySpliterator"), (0, .class_ 603), (0, u "java/util/HashMap$HashMapSpliterator"), (0, .class_ 605), (0, u "java/util/HashMap$EntryIterator"), (0, .class_ 607), (0, u "java/util/HashMap$ValueIterator"), (0, .class_ 609), (0, u "java/util/HashMap$KeyIterator"), (0, .class_ 611), (0, u "java/util/HashMap$HashIterator")] 17

def k12c0 : Code := { maxStack := 3, maxLocals := 2, code := jdk_69_method_1_code, exceptionTable := #[], attributes := #[] }
def k12m0 : Method := { name := "hash", desc := "(Ljava/lang/Object;)I", sig := { parameters := [(.object "java/lang/Object")], returnType := some .int }, accessFlags := 24, code := some k12c0 }
def k12c1 : Code := { maxStack := 2, maxLocals := 1, code := jdk_69_method_7_code, exceptionTable := #[], attributes := #[] }
def k12m1 : Method := { name := "<init>", desc := "()V", sig := { parameters := [], returnType := none }, accessFlags := 1, code := some k12c1 }
def k12c2 : Code := { maxStack := 1, maxLocals := 1, code := jdk_69_method_10_code, exceptionTable := #[], attributes := #[] }
def k12m2 : Method := { name := "size", desc := "()I", sig := { parameters := [], returnType := some .int }, accessFlags := 1, code := some k12c2 }
def k12c3 : Code := { maxStack := 4, maxLocals := 8, code := jdk_69_method_13_code, exceptionTable := #[], attributes := #[] }
def k12m3 : Method := { name := "getNode", desc := "(Ljava/lang/Object;)Ljava/util/HashMap$Node;", sig := { parameters := [(.object "java/lang/Object")], returnType := some (.object "java/util/HashMap$Node") }, accessFlags := 16, code := some k12c3 }
def k12c4 : Code := { maxStack := 6, maxLocals := 3, code := jdk_69_method_15_code, exceptionTable := #[], attributes := #[] }
def k12m4 : Method := { name := "put", desc := "(Ljava/lang/Object;Ljava/lang/Object;)Ljava/lang/Object;", sig := { parameters := [(.object "java/lang/Object"), (.object "java/lang/Object")], returnType := some (.object "java/lang/Object") }, accessFlags := 1, code := some k12c4 }
def k12c5 : Code := { maxStack := 7, maxLocals := 13, code := jdk_69_method_16_code, exceptionTable := #[], attributes := #[] }
def k12m5 : Method := { name := "putVal", desc := "(ILjava/lang/Object;Ljava/lang/Object;ZZ)Ljava/lang/Object;", sig := { parameters := [.int, (.object "java/lang/Object"), (.object "java/lang/Object"), .boolean, .boolean], returnType := some (.object "java/lang/Object") }, accessFlags := 16, code := some k12c5 }
def k12c6 : Code := { maxStack := 5, maxLocals := 14, code := jdk_69_method_17_code, exceptionTable := #[], attributes := #[] }
def k12m6 : Method := { name := "resize", desc := "()[Ljava/util/HashMap$Node;", sig := { parameters := [], returnType := some (.array (.object "java/util/HashMap$Node")) }, accessFlags := 16, code := some k12c6 }
def k12c7 : Code := { maxStack := 3, maxLocals := 2, code := jdk_69_method_28_code, exceptionTable := #[], attributes := #[] }
def k12m7 : Method := { name := "values", desc := "()Ljava/util/Collection;", sig := { parameters := [], returnType := some (.object "java/util/Collection") }, accessFlags := 1, code := some k12c7 }
def k12c8 : Code := { maxStack := 2, maxLocals := 4, code := jdk_69_method_30_code, exceptionTable := #[], attributes := #[] }
def k12m8 : Method := { name := "getOrDefault", desc := "(Ljava/lang/Object;Ljava/lang/Object;)Ljava/lang/Object;", sig := { parameters := [(.object "java/lang/Object"), (.object "java/lang/Object")], returnType := some (.object "java/lang/Object") }, accessFlags := 1, code := some k12c8 }
def k12c9 : Code := { maxStack := 6, maxLocals := 5, code := jdk_69_method_46_code, exceptionTable := #[], attributes := #[] }
def k12m9 : Method := { name := "newNode", desc := "(ILjava/lang/Object;Ljava/lang/Object;Ljava/util/HashMap$Node;)Ljava/util/HashMap$Node;", sig := { parameters := [.int, (.object "java/lang/Object"), (.object "java/lang/Object"), (.object "java/util/HashMap$Node")], returnType := some (.object "java/util/HashMap$Node") }, accessFlags := 0, code := some k12c9 }
def k12c10 : Code := { maxStack := 0, maxLocals := 2, code := jdk_69_method_52_code, exceptionTable := #[], attributes := #[] }
def k12m10 : Method := { name := "afterNodeInsertion", desc := "(Z)V", sig := { parameters := [.boolean], returnType := none }, accessFlags := 0, code := some k12c10 }
/-- java/util/HashMap -/
def k12 : Class := { plain "java/util/HashMap" (some 10) with
  accessFlags := 33
  interfaces := #[9, 11, 2]
  cf := some (fileOf pool12 40 #[.nestMembers #[180, 596, 598, 600, 602, 604, 606, 608, 610, 346, 268, 263, 243, 163]] #[{ accessFlags := 24, nameIndex := 151, descriptorIndex := 33, attributes := #[] }, { accessFlags := 1, nameIndex := 47, descriptorIndex := 48, attributes := #[] }, { accessFlags := 1, nameIndex := 104, descriptorIndex := 6, attributes := #[] }, { accessFlags := 16, nameIndex := 160, descriptorIndex := 161, attributes := #[] }, { accessFlags := 1, nameIndex := 470, descriptorIndex := 287, attributes := #[] }, { accessFlags := 16, nameIndex := 154, descriptorIndex := 155, attributes := #[] }, { accessFlags := 16, nameIndex := 119, descriptorIndex := 120, attributes := #[] }, { accessFlags := 1, nameIndex := 261, descriptorIndex := 516, attributes := #[] }, { accessFlags := 1, nameIndex := 524, descriptorIndex := 287, attributes := #[] }, { accessFlags := 0, nameIndex := 188, descriptorIndex := 189, attributes := #[] }, { accessFlags := 0, nameIndex := 207, descriptorIndex := 208, attributes := #[] }] 33 44 #[101, 392, 394] #[{ accessFlags := 26, nameIndex := 396, descriptorIndex := 397, attributes := #[] }, { accessFlags := 24, nameIndex := 401, descriptorIndex := 91, attributes := #[] }, { accessFlags := 24, nameIndex := 403, descriptorIndex := 91, attributes := #[] }, { accessFlags := 24, nameIndex := 404, descriptorIndex := 84, attributes := #[] }, { accessFlags := 24, nameIndex := 405, descriptorIndex := 91, attributes := #[] }, { accessFlags := 24, nameIndex := 407, descriptorIndex := 91, attributes := #[] }, { accessFlags := 24, nameIndex := 409, descriptorIndex := 91, attributes := #[] }, { accessFlags := 128, nameIndex := 107, descriptorIndex := 108, attributes := #[] }, { accessFlags := 128, nameIndex := 123, descriptorIndex := 242, attributes := #[] }, { accessFlags := 128, nameIndex := 104, descriptorIndex := 91, attributes := #[] }, { accessFlags := 128, nameIndex := 204, descriptorIndex := 91, attributes := #[] }, { accessFlags := 0, nameIndex := 90, descriptorIndex := 91, attributes := #[] }, { accessFlags := 16, nameIndex := 83, descriptorIndex := 84, attributes := #[] }])
  fields := #[{ name := "serialVersionUID", type := .long, accessFlags := 26, slot := 0, constantValue := 0 }, { name := "DEFAULT_INITIAL_CAPACITY", type := .int, accessFlags := 24, slot := 1, constantValue := 0 }, { name := "MAXIMUM_CAPACITY", type := .int, accessFlags := 24, slot := 2, constantValue := 0 }, { name := "DEFAULT_LOAD_FACTOR", type := .float, accessFlags := 24, slot := 3, constantValue := 0 }, { name := "TREEIFY_THRESHOLD", type := .int, accessFlags := 24, slot := 4, constantValue := 0 }, { name := "UNTREEIFY_THRESHOLD", type := .int, accessFlags := 24, slot := 5, constantValue := 0 }, { name := "MIN_TREEIFY_CAPACITY", type := .int, accessFlags := 24, slot := 6, constantValue := 0 }, { name := "table", type := (.array (.object "java/util/HashMap$Node")), accessFlags := 128, slot := 2, constantValue := 0 }, { name := "entrySet", type := (.object "java/util/Set"), accessFlags := 128, slot := 3, constantValue := 0 }, { name := "size", type := .int, accessFlags := 128, slot := 4, constantValue := 0 }, { name := "modCount", type := .int, accessFlags := 128, slot := 5, constantValue := 0 }, { name := "threshold", type := .int, accessFlags := 0, slot := 6, constantValue := 0 }, { name := "loadFactor", type := .float, accessFlags := 16, slot := 7, constantValue := 0 }]
  methods := #[k12m0, k12m1, k12m2, k12m3, k12m4, k12m5, k12m6, k12m7, k12m8, k12m9, k12m10]
  instanceTypes := #[(.object "java/util/Set"), (.object "java/util/Collection"), (.array (.object "java/util/HashMap$Node")), (.object "java/util/Set"), .int, .int, .int, .float]
  staticTypes := #[.long, .int, .int, .float, .int, .int, .int]
  resolved := Array.replicate 629 none
  statics := none }

def pool13 : Array CpInfo := pool [(8, .class_ 10), (1, u "java/lang/Iterable"), (24, .class_ 36), (0, u "java/lang/Object")] 25

/-- java/lang/Iterable -/
def k13 : Class := { plain "java/lang/Iterable" (some 0) with
  accessFlags := 1537
  interfaces := #[]
  cf := some (fileOf pool13 8 #[] #[] 1537 35 #[] #[])
  fields := #[]
  methods := #[]
  instanceTypes := #[]
  staticTypes := #[]
  resolved := Array.replicate 62 none
  statics := none }

def pool14 : Array CpInfo := pool [(10, .class_ 12), (1, u "java/util/Collection"), (10, u "iterator"), (0, u "()Ljava/util/Iterator;"), (35, .class_ 61), (0, u "java/lang/Object"), (0, .class_ 63), (0, u "java/lang/Iterable")] 51

def k14m0 : Method := { name := "iterator", desc := "()Ljava/util/Iterator;", sig := { parameters := [], returnType := some (.object "java/util/Iterator") }, accessFlags := 1025, code := none }
/-- java/util/Collection -/
def k14 : Class := { plain "java/util/Collection" (some 0) with
  accessFlags := 1537
  interfaces := #[13]
  cf := some (fileOf pool14 10 #[] #[{ accessFlags := 1025, nameIndex := 23, descriptorIndex := 24, attributes := #[] }] 1537 60 #[62] #[])
  fields := #[]
  methods := #[k14m0]
  instanceTypes := #[]
  staticTypes := #[]
  resolved := Array.replicate 115 none
  statics := none }

def pool15 : Array CpInfo := pool [(1, .methodref 2 3), (0, .class_ 4), (0, .nameAndType 5 6), (0, u "java/lang/Object"), (0, u "<init>"), (0, u "()V"), (1, .class_ 10), (1, u "java/util/AbstractCollection"), (66, .class_ 78), (0, u "java/util/Collection")] 81

def k15c0 : Code := { maxStack := 1, maxLocals := 1, code := jdk_22_method_1_code, exceptionTable := #[], attributes := #[] }
def k15m0 : Method := { name := "<init>", desc := "()V", sig := { parameters := [], returnType := none }, accessFlags := 4, code := some k15c0 }
/-- java/util/AbstractCollection -/
def k15 : Class := { plain "java/util/AbstractCollection" (some 0) with
  accessFlags := 1057
  interfaces := #[14]
  cf := some (fileOf pool15 8 #[] #[{ accessFlags := 4, nameIndex := 5, descriptorIndex := 6, attributes := #[] }] 1057 2 #[77] #[])
  fields := #[]
  methods := #[k15m0]
  instanceTypes := #[]
  staticTypes := #[]
  resolved := Array.replicate 160 none
  statics := none }

def pool16 : Array CpInfo := pool [(8, .class_ 10), (1, u "java/util/SequencedCollection"), (15, .class_ 27), (0, u "java/lang/Object"), (0, .class_ 29), (0, u "java/util/Collection")] 27

/-- java/util/SequencedCollection -/
def k16 : Class := { plain "java/util/SequencedCollection" (some 0) with
  accessFlags := 1537
  interfaces := #[14]
  cf := some (fileOf pool16 8 #[] #[] 1537 26 #[28] #[])
  fields := #[]
  methods := #[]
  instanceTypes := #[]
  staticTypes := #[]
  resolved := Array.replicate 57 none
  statics := none }

def pool17 : Array CpInfo := pool [(8, .class_ 10), (1, u "java/util/List"), (64, u "get"), (0, u "(I)Ljava/lang/Object;"), (2, u "size"), (0, u "()I"), (22, .class_ 104), (0, u "java/lang/Object"), (15, .class_ 121), (0, u "java/util/SequencedCollection")] 129

def k17m0 : Method := { name := "size", desc := "()I", sig := { parameters := [], returnType := some .int }, accessFlags := 1025, code := none }
def k17m1 : Method := { name := "get", desc := "(I)Ljava/lang/Object;", sig := { parameters := [.int], returnType := some (.object "java/lang/Object") }, accessFlags := 1025, code := none }
/-- java/util/List -/
def k17 : Class := { plain "java/util/List" (some 0) with
  accessFlags := 1537
  interfaces := #[16]
  cf := some (fileOf pool17 8 #[] #[{ accessFlags := 1025, nameIndex := 79, descriptorIndex := 80, attributes := #[] }, { accessFlags := 1025, nameIndex := 75, descriptorIndex := 76, attributes := #[] }] 1537 103 #[120] #[])
  fields := #[]
  methods := #[k17m0, k17m1]
  instanceTypes := #[]
  staticTypes := #[]
  resolved := Array.replicate 251 none
  statics := none }

def pool18 : Array CpInfo := pool [(1, .methodref 2 3), (0, .class_ 4), (0, .nameAndType 5 6), (0, u "java/util/AbstractCollection"), (0, u "<init>"), (0, u "()V"), (0, .fieldref 8 9), (0, .class_ 10), (0, .nameAndType 11 12), (0, u "java/util/AbstractList"), (0, u "modCount"), (0, u "I"), (64, .class_ 78), (0, u "java/util/AbstractList$Itr"), (3, .class_ 83), (0, u "java/util/AbstractList$ListItr"), (9, .class_ 94), (0, u "java/util/AbstractList$RandomAccessSubList"), (3, .class_ 99), (0, u "java/util/AbstractList$SubList"), (33, .class_ 134), (0, u "java/util/List"), (73, .class_ 209), (0, u "java/util/AbstractList$SubList$1"), (0, .class_ 211), (0, u "java/util/AbstractList$RandomAccessSpliterator")] 6

def k18c0 : Code := { maxStack := 2, maxLocals := 1, code := jdk_39_method_1_code, exceptionTable := #[], attributes := #[] }
def k18m0 : Method := { name := "<init>", desc := "()V", sig := { parameters := [], returnType := none }, accessFlags := 4, code := some k18c0 }
/-- java/util/AbstractList -/
def k18 : Class := { plain "java/util/AbstractList" (some 15) with
  accessFlags := 1057
  interfaces := #[17]
  cf := some (fileOf pool18 8 #[.nestMembers #[93, 98, 208, 210, 82, 77]] #[{ accessFlags := 4, nameIndex := 5, descriptorIndex := 6, attributes := #[] }] 1057 2 #[133] #[{ accessFlags := 132, nameIndex := 11, descriptorIndex := 12, attributes := #[] }])
  fields := #[{ name := "modCount", type := .int, accessFlags := 132, slot := 0, constantValue := 0 }]
  methods := #[k18m0]
  instanceTypes := #[.int]
  staticTypes := #[]
  resolved := Array.replicate 218 none
  statics := none }

def pool19 : Array CpInfo := pool [(1, .class_ 2), (0, u "java/util/RandomAccess"), (0, .class_ 4), (0, u "java/lang/Object")] 2

/-- java/util/RandomAccess -/
def k19 : Class := { plain "java/util/RandomAccess" (some 0) with
  accessFlags := 1537
  interfaces := #[]
  cf := some (fileOf pool19 1 #[] #[] 1537 3 #[] #[])
  fields := #[]
  methods := #[]
  instanceTypes := #[]
  staticTypes := #[]
  resolved := Array.replicate 7 none
  statics := none }

def pool20 : Array CpInfo := pool [(1, .methodref 2 3), (0, .class_ 4), (0, .nameAndType 5 6), (0, u "java/util/AbstractList"), (0, u "<init>"), (0, u "()V"), (0, .class_ 8), (0, u "java/lang/Object"), (0, .fieldref 10 11), (0, .class_ 12), (0, .nameAndType 13 14), (0, u "java/util/ArrayList"), (0, u "elementData"), (0, u "[Ljava/lang/Object;"), (2, u "EMPTY_ELEMENTDATA"), (21, .fieldref 10 40), (0, .nameAndType 41 14), (0, u "DEFAULTCAPACITY_EMPTY_ELEMENTDATA"), (5, u "()[Ljava/lang/Object;"), (0, .fieldref 10 49), (0, .nameAndType 50 51), (0, u "size"), (0, u "I"), (11, .fieldref 10 64), (0, .nameAndType 65 51), (0, u "modCount"), (3, .methodref 10 70), (0, .nameAndType 71 72), (0, u "grow"), (0, u "(I)[Ljava/lang/Object;"), (6, .methodref 80 81), (0, .class_ 82), (0, .nameAndType 83 84), (0, u "java/lang/Math"), (0, u "max"), (0, u "(II)I"), (11, u "(Ljava/lang/Object;)Z"), (21, .methodref 119 120), (0, .class_ 121), (0, .nameAndType 122 84), (0, u "java/util/Objects"), (0, u "checkIndex"), (0, .methodref 10 124), (0, .nameAndType 13 125), (0, u "(I)Ljava/lang/Object;"), (3, .methodref 10 130), (0, .nameAndType 71 47), (0, .methodref 10 132), (0, .nameAndType 133 134), (0, u "add"), (0, u "(Ljava/lang/Object;[Ljava/lang/Object;I)V"), (13, .class_ 149), (0, u "java/util/List"), (36, u "()I"), (75, .class_ 263), (0, u "java/util/ArrayList$ListItr"), (3, .class_ 268), (0, u "java/util/ArrayList$Itr"), (7, .class_ 277), (0, u "java/util/ArrayList$SubList"), (12, .class_ 291), (0, u "java/util/ArrayList$ArrayListSpliterator"), (37, .class_ 330), (0, u "java/util/RandomAccess"), (0, .class_ 332), (0, u "java/lang/Cloneable"), (0, .class_ 334), (0, u "java/io/Serializable"), (0, u "serialVersionUID"), (0, u "J"), (3, u "DEFAULT_CAPACITY"), (40, u "get"), (118, .class_ 501), (0, u "java/util/ArrayList$SubList$2"), (0, .class_ 503), (0, u "java/util/ArrayList$SubList$1")] 5

def k20c0 : Code := { maxStack := 2, maxLocals := 1, code := jdk_38_method_2_code, exceptionTable := #[], attributes := #[] }
def k20m0 : Method := { name := "<init>", desc := "()V", sig := { parameters := [], returnType := none }, accessFlags := 1, code := some k20c0 }
def k20c1 : Code := { maxStack := 4, maxLocals := 4, code := jdk_38_method_6_code, exceptionTable := #[], attributes := #[] }
def k20m1 : Method := { name := "grow", desc := "(I)[Ljava/lang/Object;", sig := { parameters := [.int], returnType := some (.array (.object "java/lang/Object")) }, accessFlags := 2, code := some k20c1 }
def k20c2 : Code := { maxStack := 3, maxLocals := 1, code := jdk_38_method_7_code, exceptionTable := #[], attributes := #[] }
def k20m2 : Method := { name := "grow", desc := "()[Ljava/lang/Object;", sig := { parameters := [], returnType := some (.array (.object "java/lang/Object")) }, accessFlags := 2, code := some k20c2 }
def k20c3 : Code := { maxStack := 1, maxLocals := 1, code := jdk_38_method_8_code, exceptionTable := #[], attributes := #[] }
def k20m3 : Method := { name := "size", desc := "()I", sig := { parameters := [], returnType := some .int }, accessFlags := 1, code := some k20c3 }
def k20c4 : Code := { maxStack := 2, maxLocals := 2, code := jdk_38_method_18_code, exceptionTable := #[], attributes := #[] }
def k20m4 : Method := { name := "elementData", desc := "(I)Ljava/lang/Object;", sig := { parameters := [.int], returnType := some (.object "java/lang/Object") }, accessFlags := 0, code := some k20c4 }
def k20c5 : Code := { maxStack := 2, maxLocals := 2, code := jdk_38_method_20_code, exceptionTable := #[], attributes := #[] }
def k20m5 : Method := { name := "get", desc := "(I)Ljava/lang/Object;", sig := { parameters := [.int], returnType := some (.object "java/lang/Object") }, accessFlags := 1, code := some k20c5 }
def k20c6 : Code := { maxStack := 3, maxLocals := 4, code := jdk_38_method_24_code, exceptionTable := #[], attributes := #[] }
def k20m6 : Method := { name := "add", desc := "(Ljava/lang/Object;[Ljava/lang/Object;I)V", sig := { parameters := [(.object "java/lang/Object"), (.array (.object "java/lang/Object")), .int], returnType := none }, accessFlags := 2, code := some k20c6 }
def k20c7 : Code := { maxStack := 4, maxLocals := 2, code := jdk_38_method_25_code, exceptionTable := #[], attributes := #[] }
def k20m7 : Method := { name := "add", desc := "(Ljava/lang/Object;)Z", sig := { parameters := [(.object "java/lang/Object")], returnType := some .boolean }, accessFlags := 1, code := some k20c7 }
/-- java/util/ArrayList -/
def k20 : Class := { plain "java/util/ArrayList" (some 18) with
  accessFlags := 33
  interfaces := #[17, 19, 11, 2]
  cf := some (fileOf pool20 10 #[.nestMembers #[290, 276, 500, 502, 262, 267]] #[{ accessFlags := 1, nameIndex := 5, descriptorIndex := 6, attributes := #[] }, { accessFlags := 2, nameIndex := 71, descriptorIndex := 72, attributes := #[] }, { accessFlags := 2, nameIndex := 71, descriptorIndex := 47, attributes := #[] }, { accessFlags := 1, nameIndex := 50, descriptorIndex := 186, attributes := #[] }, { accessFlags := 0, nameIndex := 13, descriptorIndex := 125, attributes := #[] }, { accessFlags := 1, nameIndex := 381, descriptorIndex := 125, attributes := #[] }, { accessFlags := 2, nameIndex := 133, descriptorIndex := 134, attributes := #[] }, { accessFlags := 1, nameIndex := 133, descriptorIndex := 96, attributes := #[] }] 33 2 #[148, 329, 331, 333] #[{ accessFlags := 26, nameIndex := 335, descriptorIndex := 336, attributes := #[] }, { accessFlags := 26, nameIndex := 340, descriptorIndex := 51, attributes := #[] }, { accessFlags := 26, nameIndex := 17, descriptorIndex := 14, attributes := #[] }, { accessFlags := 26, nameIndex := 41, descriptorIndex := 14, attributes := #[] }, { accessFlags := 128, nameIndex := 13, descriptorIndex := 14, attributes := #[] }, { accessFlags := 2, nameIndex := 50, descriptorIndex := 51, attributes := #[] }])
  fields := #[{ name := "serialVersionUID", type := .long, accessFlags := 26, slot := 0, constantValue := 0 }, { name := "DEFAULT_CAPACITY", type := .int, accessFlags := 26, slot := 1, constantValue := 0 }, { name := "EMPTY_ELEMENTDATA", type := (.array (.object "java/lang/Object")), accessFlags := 26, slot := 2, constantValue := 0 }, { name := "DEFAULTCAPACITY_EMPTY_ELEMENTDATA", type := (.array (.object "java/lang/Object")), accessFlags := 26, slot := 3, constantValue := 0 }, { name := "elementData", type := (.array (.object "java/lang/Object")), accessFlags := 128, slot := 1, constantValue := 0 }, { name := "size", type := .int, accessFlags := 2, slot := 2, constantValue := 0 }]
  methods := #[k20m0, k20m1, k20m2, k20m3, k20m4, k20m5, k20m6, k20m7]
  instanceTypes := #[.int, (.array (.object "java/lang/Object")), .int]
  staticTypes := #[.long, .int, (.array (.object "java/lang/Object")), (.array (.object "java/lang/Object"))]
  resolved := Array.replicate 509 none
  statics := some 1 }

def pool21 : Array CpInfo := pool [(1, .methodref 2 3), (0, .class_ 4), (0, .nameAndType 5 6), (0, u "java/lang/Object"), (0, u "<init>"), (0, u "()V"), (0, .interfaceMethodref 8 9), (0, .class_ 10), (0, .nameAndType 11 12), (0, u "java/util/List"), (0, u "size"), (0, u "()I"), (0, .fieldref 14 15), (0, .class_ 16), (0, .nameAndType 17 18), (0, u "com/example/inq2/inq2/JudgedRanking"), (0, u "_relevances"), (0, u "[I"), (0, .interfaceMethodref 8 20), (0, .nameAndType 21 22), (0, u "get"), (0, u "(I)Ljava/lang/Object;"), (0, .class_ 24), (0, u "com/example/inq2/inq2/ScoredDocument"), (0, .methodref 23 26), (0, .nameAndType 27 28), (0, u "document"), (0, u "()Ljava/lang/String;"), (0, .methodref 30 31), (0, .class_ 32), (0, .nameAndType 33 34), (0, u "java/lang/Integer"), (0, u "valueOf"), (0, u "(I)Ljava/lang/Integer;"), (0, .interfaceMethodref 36 37), (0, .class_ 38), (0, .nameAndType 39 40), (0, u "java/util/Map"), (0, u "getOrDefault"), (0, u "(Ljava/lang/Object;Ljava/lang/Object;)Ljava/lang/Object;"), (0, .methodref 30 42), (0, .nameAndType 43 12), (0, u "intValue"), (0, .interfaceMethodref 36 9), (0, .interfaceMethodref 36 46), (0, .nameAndType 47 48), (0, u "values"), (0, u "()Ljava/util/Collection;"), (0, .interfaceMethodref 50 51), (0, .class_ 52), (0, .nameAndType 53 54), (0, u "java/util/Collection"), (0, u "iterator"), (0, u "()Ljava/util/Iterator;"), (0, .interfaceMethodref 56 57), (0, .class_ 58), (0, .nameAndType 59 60), (0, u "java/util/Iterator"), (0, u "hasNext"), (0, u "()Z"), (0, .interfaceMethodref 56 62), (0, .nameAndType 63 64), (0, u "next"), (0, u "()Ljava/lang/Object;"), (0, .methodref 66 67), (0, .class_ 68), (0, .nameAndType 69 70), (0, u "java/util/Arrays"), (0, u "copyOf"), (0, u "([II)[I"), (0, .fieldref 14 72), (0, .nameAndType 73 18), (0, u "_idealGains"), (0, .methodref 66 75), (0, .nameAndType 76 77), (0, u "sort"), (0, u "([I)V"), (0, .methodref 14 79), (0, .nameAndType 80 77), (0, u "reverse"), (4, .methodref 14 86), (0, .nameAndType 87 12), (0, u "relevant"), (16, u "LN_2"), (0, u "D"), (2, u "RELEVANT"), (0, u "I"), (2, u "(Ljava/util/List;Ljava/util/Map;)V"), (8, u "averagePrecision"), (0, u "()D")] 6

def k21c0 : Code := { maxStack := 5, maxLocals := 7, code := prog_8_method_1_code, exceptionTable := #[], attributes := #[] }
def k21m0 : Method := { name := "<init>", desc := "(Ljava/util/List;Ljava/util/Map;)V", sig := { parameters := [(.object "java/util/List"), (.object "java/util/Map")], returnType := none }, accessFlags := 0, code := some k21c0 }
def k21c1 : Code := { maxStack := 1, maxLocals := 1, code := prog_8_method_3_code, exceptionTable := #[], attributes := #[] }
def k21m1 : Method := { name := "relevant", desc := "()I", sig := { parameters := [], returnType := some .int }, accessFlags := 0, code := some k21c1 }
def k21c2 : Code := { maxStack := 6, maxLocals := 5, code := prog_8_method_5_code, exceptionTable := #[], attributes := #[] }
def k21m2 : Method := { name := "averagePrecision", desc := "()D", sig := { parameters := [], returnType := some .double }, accessFlags := 0, code := some k21c2 }
def k21c3 : Code := { maxStack := 4, maxLocals := 4, code := prog_8_method_11_code, exceptionTable := #[], attributes := #[] }
def k21m3 : Method := { name := "reverse", desc := "([I)V", sig := { parameters := [(.array .int)], returnType := none }, accessFlags := 10, code := some k21c3 }
/-- com/example/inq2/inq2/JudgedRanking -/
def k21 : Class := { plain "com/example/inq2/inq2/JudgedRanking" (some 0) with
  accessFlags := 48
  interfaces := #[]
  cf := some (fileOf pool21 14 #[] #[{ accessFlags := 0, nameIndex := 5, descriptorIndex := 112, attributes := #[] }, { accessFlags := 0, nameIndex := 87, descriptorIndex := 12, attributes := #[] }, { accessFlags := 0, nameIndex := 121, descriptorIndex := 122, attributes := #[] }, { accessFlags := 10, nameIndex := 80, descriptorIndex := 77, attributes := #[] }] 48 2 #[] #[{ accessFlags := 26, nameIndex := 108, descriptorIndex := 109, attributes := #[] }, { accessFlags := 26, nameIndex := 104, descriptorIndex := 105, attributes := #[] }, { accessFlags := 18, nameIndex := 17, descriptorIndex := 18, attributes := #[] }, { accessFlags := 18, nameIndex := 73, descriptorIndex := 18, attributes := #[] }])
  fields := #[{ name := "RELEVANT", type := .int, accessFlags := 26, slot := 0, constantValue := 0 }, { name := "LN_2", type := .double, accessFlags := 26, slot := 1, constantValue := 0 }, { name := "_relevances", type := (.array .int), accessFlags := 18, slot := 0, constantValue := 0 }, { name := "_idealGains", type := (.array .int), accessFlags := 18, slot := 1, constantValue := 0 }]
  methods := #[k21m0, k21m1, k21m2, k21m3]
  instanceTypes := #[(.array .int), (.array .int)]
  staticTypes := #[.int, .double]
  resolved := Array.replicate 129 none
  statics := none }

def pool22 : Array CpInfo := pool [(1, .fieldref 2 3), (0, .class_ 4), (0, .nameAndType 5 6), (0, u "java/util/HashMap$Values"), (0, u "this$0"), (0, u "Ljava/util/HashMap;"), (0, .methodref 8 9), (0, .class_ 10), (0, .nameAndType 11 12), (0, u "java/util/AbstractCollection"), (0, u "<init>"), (0, u "()V"), (1, .class_ 16), (1, u "java/util/HashMap"), (5, .class_ 23), (0, u "java/util/HashMap$ValueIterator"), (0, .methodref 22 25), (0, .nameAndType 11 26), (0, u "(Ljava/util/HashMap;)V"), (56, u "iterator"), (0, u "()Ljava/util/Iterator;")] 35

def k22c0 : Code := { maxStack := 2, maxLocals := 2, code := jdk_2571_method_1_code, exceptionTable := #[], attributes := #[] }
def k22m0 : Method := { name := "<init>", desc := "(Ljava/util/HashMap;)V", sig := { parameters := [(.object "java/util/HashMap")], returnType := none }, accessFlags := 0, code := some k22c0 }
def k22c1 : Code := { maxStack := 3, maxLocals := 1, code := jdk_2571_method_4_code, exceptionTable := #[], attributes := #[] }
def k22m1 : Method := { name := "iterator", desc := "()Ljava/util/Iterator;", sig := { parameters := [], returnType := some (.object "java/util/Iterator") }, accessFlags := 17, code := some k22c1 }
/-- java/util/HashMap$Values -/
def k22 : Class := { plain "java/util/HashMap$Values" (some 15) with
  accessFlags := 48
  interfaces := #[]
  cf := some (fileOf pool22 2 #[.nestHost 14] #[{ accessFlags := 0, nameIndex := 11, descriptorIndex := 26, attributes := #[] }, { accessFlags := 17, nameIndex := 83, descriptorIndex := 84, attributes := #[] }] 48 8 #[] #[{ accessFlags := 4112, nameIndex := 5, descriptorIndex := 6, attributes := #[] }])
  fields := #[{ name := "this$0", type := (.object "java/util/HashMap"), accessFlags := 4112, slot := 0, constantValue := 0 }]
  methods := #[k22m0, k22m1]
  instanceTypes := #[(.object "java/util/HashMap")]
  staticTypes := #[]
  resolved := Array.replicate 120 none
  statics := none }

def pool23 : Array CpInfo := pool [(1, .fieldref 2 3), (0, .class_ 4), (0, .nameAndType 5 6), (0, u "java/util/HashMap$HashIterator"), (0, u "this$0"), (0, u "Ljava/util/HashMap;"), (0, .methodref 8 9), (0, .class_ 10), (0, .nameAndType 11 12), (0, u "java/lang/Object"), (0, u "<init>"), (0, u "()V"), (0, .fieldref 14 15), (0, .class_ 16), (0, .nameAndType 17 18), (0, u "java/util/HashMap"), (0, u "modCount"), (0, u "I"), (0, .fieldref 2 20), (0, .nameAndType 21 18), (0, u "expectedModCount"), (0, .fieldref 14 23), (0, .nameAndType 24 25), (0, u "table"), (0, u "[Ljava/util/HashMap$Node;"), (0, .fieldref 2 27), (0, .nameAndType 28 29), (0, u "next"), (0, u "Ljava/util/HashMap$Node;"), (0, .fieldref 2 31), (0, .nameAndType 32 29), (0, u "current"), (0, .fieldref 2 34), (0, .nameAndType 35 18), (0, u "index"), (0, .fieldref 14 37), (0, .nameAndType 38 18), (0, u "size"), (6, .fieldref 46 27), (0, .class_ 47), (0, u "java/util/HashMap$Node"), (16, u "(Ljava/util/HashMap;)V"), (12, u "hasNext"), (0, u "()Z"), (0, u "nextNode"), (0, u "()Ljava/util/HashMap$Node;")] 10

def k23c0 : Code := { maxStack := 6, maxLocals := 3, code := jdk_99_method_1_code, exceptionTable := #[], attributes := #[] }
def k23m0 : Method := { name := "<init>", desc := "(Ljava/util/HashMap;)V", sig := { parameters := [(.object "java/util/HashMap")], returnType := none }, accessFlags := 0, code := some k23c0 }
def k23c1 : Code := { maxStack := 1, maxLocals := 1, code := jdk_99_method_2_code, exceptionTable := #[], attributes := #[] }
def k23m1 : Method := { name := "hasNext", desc := "()Z", sig := { parameters := [], returnType := some .boolean }, accessFlags := 17, code := some k23c1 }
def k23c2 : Code := { maxStack := 6, maxLocals := 3, code := jdk_99_method_3_code, exceptionTable := #[], attributes := #[] }
def k23m2 : Method := { name := "nextNode", desc := "()Ljava/util/HashMap$Node;", sig := { parameters := [], returnType := some (.object "java/util/HashMap$Node") }, accessFlags := 16, code := some k23c2 }
/-- java/util/HashMap$HashIterator -/
def k23 : Class := { plain "java/util/HashMap$HashIterator" (some 0) with
  accessFlags := 1056
  interfaces := #[]
  cf := some (fileOf pool23 2 #[.nestHost 14] #[{ accessFlags := 0, nameIndex := 11, descriptorIndex := 64, attributes := #[] }, { accessFlags := 17, nameIndex := 77, descriptorIndex := 78, attributes := #[] }, { accessFlags := 16, nameIndex := 79, descriptorIndex := 80, attributes := #[] }] 1056 8 #[] #[{ accessFlags := 0, nameIndex := 28, descriptorIndex := 29, attributes := #[] }, { accessFlags := 0, nameIndex := 32, descriptorIndex := 29, attributes := #[] }, { accessFlags := 0, nameIndex := 21, descriptorIndex := 18, attributes := #[] }, { accessFlags := 0, nameIndex := 35, descriptorIndex := 18, attributes := #[] }, { accessFlags := 4112, nameIndex := 5, descriptorIndex := 6, attributes := #[] }])
  fields := #[{ name := "next", type := (.object "java/util/HashMap$Node"), accessFlags := 0, slot := 0, constantValue := 0 }, { name := "current", type := (.object "java/util/HashMap$Node"), accessFlags := 0, slot := 1, constantValue := 0 }, { name := "expectedModCount", type := .int, accessFlags := 0, slot := 2, constantValue := 0 }, { name := "index", type := .int, accessFlags := 0, slot := 3, constantValue := 0 }, { name := "this$0", type := (.object "java/util/HashMap"), accessFlags := 4112, slot := 4, constantValue := 0 }]
  methods := #[k23m0, k23m1, k23m2]
  instanceTypes := #[(.object "java/util/HashMap$Node"), (.object "java/util/HashMap$Node"), .int, .int, (.object "java/util/HashMap")]
  staticTypes := #[]
  resolved := Array.replicate 91 none
  statics := none }

def pool24 : Array CpInfo := pool [(16, .class_ 18), (1, u "java/util/Iterator"), (0, u "hasNext"), (0, u "()Z"), (2, u "next"), (0, u "()Ljava/lang/Object;"), (6, .class_ 32), (0, u "java/lang/Object")] 20

def k24m0 : Method := { name := "hasNext", desc := "()Z", sig := { parameters := [], returnType := some .boolean }, accessFlags := 1025, code := none }
def k24m1 : Method := { name := "next", desc := "()Ljava/lang/Object;", sig := { parameters := [], returnType := some (.object "java/lang/Object") }, accessFlags := 1025, code := none }
/-- java/util/Iterator -/
def k24 : Class := { plain "java/util/Iterator" (some 0) with
  accessFlags := 1537
  interfaces := #[]
  cf := some (fileOf pool24 16 #[] #[{ accessFlags := 1025, nameIndex := 19, descriptorIndex := 20, attributes := #[] }, { accessFlags := 1025, nameIndex := 23, descriptorIndex := 24, attributes := #[] }] 1537 31 #[] #[])
  fields := #[]
  methods := #[k24m0, k24m1]
  instanceTypes := #[]
  staticTypes := #[]
  resolved := Array.replicate 53 none
  statics := none }

def pool25 : Array CpInfo := pool [(1, .methodref 2 3), (0, .class_ 4), (0, .nameAndType 5 6), (0, u "java/util/HashMap$HashIterator"), (0, u "<init>"), (0, u "(Ljava/util/HashMap;)V"), (0, .methodref 8 9), (0, .class_ 10), (0, .nameAndType 11 12), (0, u "java/util/HashMap$ValueIterator"), (0, u "nextNode"), (0, u "()Ljava/util/HashMap$Node;"), (0, .fieldref 14 15), (0, .class_ 16), (0, .nameAndType 17 18), (0, u "java/util/HashMap$Node"), (0, u "value"), (0, u "Ljava/lang/Object;"), (0, .class_ 20), (0, u "java/util/Iterator"), (10, u "next"), (0, u "()Ljava/lang/Object;"), (6, .class_ 40), (0, u "java/util/HashMap")] 4

def k25c0 : Code := { maxStack := 2, maxLocals := 2, code := jdk_2569_method_1_code, exceptionTable := #[], attributes := #[] }
def k25m0 : Method := { name := "<init>", desc := "(Ljava/util/HashMap;)V", sig := { parameters := [(.object "java/util/HashMap")], returnType := none }, accessFlags := 0, code := some k25c0 }
def k25c1 : Code := { maxStack := 1, maxLocals := 1, code := jdk_2569_method_2_code, exceptionTable := #[], attributes := #[] }
def k25m1 : Method := { name := "next", desc := "()Ljava/lang/Object;", sig := { parameters := [], returnType := some (.object "java/lang/Object") }, accessFlags := 17, code := some k25c1 }
/-- java/util/HashMap$ValueIterator -/
def k25 : Class := { plain "java/util/HashMap$ValueIterator" (some 23) with
  accessFlags := 48
  interfaces := #[24]
  cf := some (fileOf pool25 8 #[.nestHost 39] #[{ accessFlags := 0, nameIndex := 5, descriptorIndex := 6, attributes := #[] }, { accessFlags := 17, nameIndex := 31, descriptorIndex := 32, attributes := #[] }] 48 2 #[19] #[])
  fields := #[]
  methods := #[k25m0, k25m1]
  instanceTypes := #[(.object "java/util/HashMap$Node"), (.object "java/util/HashMap$Node"), .int, .int, (.object "java/util/HashMap")]
  staticTypes := #[]
  resolved := Array.replicate 45 none
  statics := none }

def pool26 : Array CpInfo := pool [(2, .class_ 4), (1, u "java/lang/Object"), (0, u "<init>"), (0, u "()V"), (0, .methodref 8 9), (0, .class_ 10), (0, .nameAndType 11 12), (0, u "java/util/DualPivotQuicksort"), (0, u "sort"), (0, u "([IIII)V"), (1, .class_ 16), (1, u "java/util/Arrays"), (57, .class_ 76), (1, u "java/util/Arrays$NaturalOrder"), (32, u "()Ljava/lang/Object;"), (3, .class_ 115), (1, u "java/util/Arrays$LegacyMergeSort"), (1, u "Z"), (10, .nameAndType 129 109), (0, u "clone"), (20, .methodref 151 152), (0, .class_ 153), (0, .nameAndType 154 155), (0, u "java/lang/System"), (0, u "arraycopy"), (0, u "(Ljava/lang/Object;ILjava/lang/Object;II)V"), (146, u "copyOf"), (1, .methodref 305 306), (0, .class_ 307), (0, .nameAndType 308 309), (0, u "java/lang/Math"), (0, u "min"), (0, u "(II)I"), (6, .methodref 317 128), (0, .class_ 318), (0, u "[I"), (56, .class_ 376), (0, u "java/util/Arrays$ArrayList"), (68, u "$assertionsDisabled"), (269, u "MIN_ARRAY_SORT_GRAN"), (0, u "I"), (2, u "INSERTIONSORT_THRESHOLD"), (6, u "([I)V"), (144, u "([II)[I"), (103, .class_ 976), (0, u "java/util/Arrays$ArrayItr")] 52

def k26m0 : Method := { name := "<init>", desc := "()V", sig := { parameters := [], returnType := none }, accessFlags := 2, code := none }
def k26c1 : Code := { maxStack := 4, maxLocals := 1, code := jdk_65_method_2_code, exceptionTable := #[], attributes := #[] }
def k26m1 : Method := { name := "sort", desc := "([I)V", sig := { parameters := [(.array .int)], returnType := none }, accessFlags := 9, code := some k26c1 }
def k26c2 : Code := { maxStack := 6, maxLocals := 3, code := jdk_65_method_123_code, exceptionTable := #[], attributes := #[] }
def k26m2 : Method := { name := "copyOf", desc := "([II)[I", sig := { parameters := [(.array .int), .int], returnType := some (.array .int) }, accessFlags := 9, code := some k26c2 }
/-- java/util/Arrays -/
def k26 : Class := { plain "java/util/Arrays" (some 0) with
  accessFlags := 49
  interfaces := #[]
  cf := some (fileOf pool26 14 #[.nestMembers #[975, 375, 113, 74]] #[{ accessFlags := 2, nameIndex := 5, descriptorIndex := 6, attributes := #[] }, { accessFlags := 9, nameIndex := 11, descriptorIndex := 726, attributes := #[] }, { accessFlags := 9, nameIndex := 302, descriptorIndex := 871, attributes := #[] }] 49 2 #[] #[{ accessFlags := 26, nameIndex := 715, descriptorIndex := 716, attributes := #[] }, { accessFlags := 26, nameIndex := 719, descriptorIndex := 716, attributes := #[] }, { accessFlags := 4120, nameIndex := 445, descriptorIndex := 117, attributes := #[] }])
  fields := #[{ name := "MIN_ARRAY_SORT_GRAN", type := .int, accessFlags := 26, slot := 0, constantValue := 0 }, { name := "INSERTIONSORT_THRESHOLD", type := .int, accessFlags := 26, slot := 1, constantValue := 0 }, { name := "$assertionsDisabled", type := .boolean, accessFlags := 4120, slot := 2, constantValue := 0 }]
  methods := #[k26m0, k26m1, k26m2]
  instanceTypes := #[]
  staticTypes := #[.int, .int, .boolean]
  resolved := Array.replicate 1029 none
  statics := none }

def pool27 : Array CpInfo := pool [(1, .class_ 2), (0, u "java/util/DualPivotQuicksort"), (5, .class_ 10), (1, u "java/lang/Object"), (0, u "<init>"), (0, u "()V"), (4, .class_ 18), (0, u "java/util/DualPivotQuicksort$Sorter"), (7, .methodref 1 27), (0, .nameAndType 28 29), (0, u "sort"), (0, u "(Ljava/util/DualPivotQuicksort$Sorter;[IIII)V"), (3, u "([IIII)V"), (0, .methodref 1 35), (0, .nameAndType 36 37), (0, u "insertionSort"), (0, u "([III)V"), (30, u "I"), (4, .class_ 74), (0, u "java/util/DualPivotQuicksort$RunMerger"), (10, .class_ 86), (0, u "java/util/DualPivotQuicksort$Merger"), (127, u "MAX_MIXED_INSERTION_SORT_SIZE"), (2, u "MAX_INSERTION_SORT_SIZE"), (1, u "MIN_PARALLEL_SORT_SIZE"), (1, u "MIN_TRY_MERGE_SIZE"), (0, u "MIN_FIRST_RUN_SIZE"), (1, u "MIN_FIRST_RUNS_FACTOR"), (1, u "MAX_RUN_CAPACITY"), (1, u "MIN_RUN_COUNT"), (1, u "MIN_PARALLEL_MERGE_PARTS_SIZE"), (0, u "MIN_BYTE_COUNTING_SORT_SIZE"), (1, u "MIN_SHORT_OR_CHAR_COUNTING_SORT_SIZE"), (1, u "DELTA"), (1, u "MAX_RECURSION_DEPTH"), (1, u "NUM_BYTE_VALUES"), (1, u "MAX_BYTE_INDEX"), (0, u "NUM_CHAR_VALUES"), (0, u "NUM_SHORT_VALUES"), (0, u "MAX_SHORT_INDEX")] 86

def k27m0 : Method := { name := "<init>", desc := "()V", sig := { parameters := [], returnType := none }, accessFlags := 2, code := none }
def k27c1 : Code := { maxStack := 9, maxLocals := 7, code := jdk_2529_method_3_code, exceptionTable := #[], attributes := #[] }
def k27m1 : Method := { name := "sort", desc := "([IIII)V", sig := { parameters := [(.array .int), .int, .int, .int], returnType := none }, accessFlags := 8, code := some k27c1 }
def k27c2 : Code := { maxStack := 6, maxLocals := 21, code := jdk_2529_method_4_code, exceptionTable := #[], attributes := #[] }
def k27m2 : Method := { name := "sort", desc := "(Ljava/util/DualPivotQuicksort$Sorter;[IIII)V", sig := { parameters := [(.object "java/util/DualPivotQuicksort$Sorter"), (.array .int), .int, .int, .int], returnType := none }, accessFlags := 8, code := some k27c2 }
def k27c3 : Code := { maxStack := 4, maxLocals := 6, code := jdk_2529_method_6_code, exceptionTable := #[], attributes := #[] }
def k27m3 : Method := { name := "insertionSort", desc := "([III)V", sig := { parameters := [(.array .int), .int, .int], returnType := none }, accessFlags := 10, code := some k27c3 }
/-- java/util/DualPivotQuicksort -/
def k27 : Class := { plain "java/util/DualPivotQuicksort" (some 0) with
  accessFlags := 48
  interfaces := #[]
  cf := some (fileOf pool27 1 #[.nestMembers #[73, 85, 17]] #[{ accessFlags := 2, nameIndex := 11, descriptorIndex := 12, attributes := #[] }, { accessFlags := 8, nameIndex := 28, descriptorIndex := 33, attributes := #[] }, { accessFlags := 8, nameIndex := 28, descriptorIndex := 29, attributes := #[] }, { accessFlags := 10, nameIndex := 36, descriptorIndex := 37, attributes := #[] }] 48 8 #[] #[{ accessFlags := 26, nameIndex := 214, descriptorIndex := 68, attributes := #[] }, { accessFlags := 26, nameIndex := 217, descriptorIndex := 68, attributes := #[] }, { accessFlags := 26, nameIndex := 219, descriptorIndex := 68, attributes := #[] }, { accessFlags := 26, nameIndex := 221, descriptorIndex := 68, attributes := #[] }, { accessFlags := 26, nameIndex := 222, descriptorIndex := 68, attributes := #[] }, { accessFlags := 26, nameIndex := 224, descriptorIndex := 68, attributes := #[] }, { accessFlags := 26, nameIndex := 226, descriptorIndex := 68, attributes := #[] }, { accessFlags := 26, nameIndex := 228, descriptorIndex := 68, attributes := #[] }, { accessFlags := 26, nameIndex := 230, descriptorIndex := 68, attributes := #[] }, { accessFlags := 26, nameIndex := 231, descriptorIndex := 68, attributes := #[] }, { accessFlags := 26, nameIndex := 233, descriptorIndex := 68, attributes := #[] }, { accessFlags := 26, nameIndex := 235, descriptorIndex := 68, attributes := #[] }, { accessFlags := 26, nameIndex := 237, descriptorIndex := 68, attributes := #[] }, { accessFlags := 26, nameIndex := 239, descriptorIndex := 68, attributes := #[] }, { accessFlags := 26, nameIndex := 241, descriptorIndex := 68, attributes := #[] }, { accessFlags := 26, nameIndex := 242, descriptorIndex := 68, attributes := #[] }, { accessFlags := 26, nameIndex := 243, descriptorIndex := 68, attributes := #[] }, { accessFlags := 26, nameIndex := 244, descriptorIndex := 68, attributes := #[] }])
  fields := #[{ name := "MAX_MIXED_INSERTION_SORT_SIZE", type := .int, accessFlags := 26, slot := 0, constantValue := 0 }, { name := "MAX_INSERTION_SORT_SIZE", type := .int, accessFlags := 26, slot := 1, constantValue := 0 }, { name := "MIN_PARALLEL_SORT_SIZE", type := .int, accessFlags := 26, slot := 2, constantValue := 0 }, { name := "MIN_TRY_MERGE_SIZE", type := .int, accessFlags := 26, slot := 3, constantValue := 0 }, { name := "MIN_FIRST_RUN_SIZE", type := .int, accessFlags := 26, slot := 4, constantValue := 0 }, { name := "MIN_FIRST_RUNS_FACTOR", type := .int, accessFlags := 26, slot := 5, constantValue := 0 }, { name := "MAX_RUN_CAPACITY", type := .int, accessFlags := 26, slot := 6, constantValue := 0 }, { name := "MIN_RUN_COUNT", type := .int, accessFlags := 26, slot := 7, constantValue := 0 }, { name := "MIN_PARALLEL_MERGE_PARTS_SIZE", type := .int, accessFlags := 26, slot := 8, constantValue := 0 }, { name := "MIN_BYTE_COUNTING_SORT_SIZE", type := .int, accessFlags := 26, slot := 9, constantValue := 0 }, { name := "MIN_SHORT_OR_CHAR_COUNTING_SORT_SIZE", type := .int, accessFlags := 26, slot := 10, constantValue := 0 }, { name := "DELTA", type := .int, accessFlags := 26, slot := 11, constantValue := 0 }, { name := "MAX_RECURSION_DEPTH", type := .int, accessFlags := 26, slot := 12, constantValue := 0 }, { name := "NUM_BYTE_VALUES", type := .int, accessFlags := 26, slot := 13, constantValue := 0 }, { name := "MAX_BYTE_INDEX", type := .int, accessFlags := 26, slot := 14, constantValue := 0 }, { name := "NUM_CHAR_VALUES", type := .int, accessFlags := 26, slot := 15, constantValue := 0 }, { name := "NUM_SHORT_VALUES", type := .int, accessFlags := 26, slot := 16, constantValue := 0 }, { name := "MAX_SHORT_INDEX", type := .int, accessFlags := 26, slot := 17, constantValue := 0 }]
  methods := #[k27m0, k27m1, k27m2, k27m3]
  instanceTypes := #[]
  staticTypes := #[.int, .int, .int, .int, .int, .int, .int, .int, .int, .int, .int, .int, .int, .int, .int, .int, .int, .int]
  resolved := Array.replicate 331 none
  statics := none }

def pool28 : Array CpInfo := pool [(1, .methodref 2 3), (0, .class_ 4), (0, .nameAndType 5 6), (0, u "java/lang/Object"), (0, u "<init>"), (0, u "()V"), (1, .class_ 10), (1, u "java/lang/Number"), (2, .class_ 14), (0, u "java/io/Serializable"), (0, u "serialVersionUID"), (0, u "J")] 20

def k28c0 : Code := { maxStack := 1, maxLocals := 1, code := jdk_18_method_1_code, exceptionTable := #[], attributes := #[] }
def k28m0 : Method := { name := "<init>", desc := "()V", sig := { parameters := [], returnType := none }, accessFlags := 1, code := some k28c0 }
/-- java/lang/Number -/
def k28 : Class := { plain "java/lang/Number" (some 0) with
  accessFlags := 1057
  interfaces := #[2]
  cf := some (fileOf pool28 8 #[] #[{ accessFlags := 1, nameIndex := 5, descriptorIndex := 6, attributes := #[] }] 1057 2 #[13] #[{ accessFlags := 26, nameIndex := 15, descriptorIndex := 16, attributes := #[] }])
  fields := #[{ name := "serialVersionUID", type := .long, accessFlags := 26, slot := 0, constantValue := 0 }]
  methods := #[k28m0]
  instanceTypes := #[]
  staticTypes := #[.long]
  resolved := Array.replicate 37 none
  statics := none }

def pool29 : Array CpInfo := pool [(1, .class_ 2), (0, u "java/lang/Integer"), (16, u "digits"), (0, u "[C"), (46, u "<init>"), (17, u "DigitOnes"), (0, u "[B"), (2, u "DigitTens"), (10, .nameAndType 67 101), (0, u "()V"), (19, u "()I"), (65, u "valueOf"), (0, u "(I)Ljava/lang/Integer;"), (0, .class_ 190), (0, u "java/lang/Integer$IntegerCache"), (0, .fieldref 189 192), (0, .nameAndType 193 194), (0, u "high"), (0, u "I"), (0, .fieldref 189 196), (0, .nameAndType 197 198), (0, u "cache"), (0, u "[Ljava/lang/Integer;"), (0, .methodref 1 200), (0, .nameAndType 67 201), (0, u "(I)V"), (0, .methodref 203 100), (0, .class_ 204), (0, u "java/lang/Number"), (0, .fieldref 1 206), (0, .nameAndType 207 194), (0, u "value"), (5, u "intValue"), (88, u "TYPE"), (0, u "Ljava/lang/Class;"), (0, .class_ 305), (0, u "java/lang/Comparable"), (0, .class_ 307), (0, u "java/lang/constant/Constable"), (0, .class_ 309), (0, u "java/lang/constant/ConstantDesc"), (0, u "MIN_VALUE"), (1, u "MAX_VALUE"), (3, u "SIZE"), (1, u "BYTES"), (1, u "serialVersionUID"), (0, u "J")] 131

def k29c0 : Code := { maxStack := 3, maxLocals := 1, code := jdk_33_method_22_code, exceptionTable := #[], attributes := #[] }
def k29m0 : Method := { name := "valueOf", desc := "(I)Ljava/lang/Integer;", sig := { parameters := [.int], returnType := some (.object "java/lang/Integer") }, accessFlags := 9, code := some k29c0 }
def k29c1 : Code := { maxStack := 2, maxLocals := 2, code := jdk_33_method_23_code, exceptionTable := #[], attributes := #[] }
def k29m1 : Method := { name := "<init>", desc := "(I)V", sig := { parameters := [.int], returnType := none }, accessFlags := 1, code := some k29c1 }
def k29c2 : Code := { maxStack := 1, maxLocals := 1, code := jdk_33_method_27_code, exceptionTable := #[], attributes := #[] }
def k29m2 : Method := { name := "intValue", desc := "()I", sig := { parameters := [], returnType := some .int }, accessFlags := 1, code := some k29c2 }
/-- java/lang/Integer -/
def k29 : Class := { plain "java/lang/Integer" (some 28) with
  accessFlags := 49
  interfaces := #[3, 5, 6]
  cf := some (fileOf pool29 1 #[.nestMembers #[189]] #[{ accessFlags := 9, nameIndex := 187, descriptorIndex := 188, attributes := #[] }, { accessFlags := 1, nameIndex := 67, descriptorIndex := 201, attributes := #[] }, { accessFlags := 1, nameIndex := 213, descriptorIndex := 121, attributes := #[] }] 49 203 #[304, 306, 308] #[{ accessFlags := 25, nameIndex := 310, descriptorIndex := 194, attributes := #[] }, { accessFlags := 25, nameIndex := 312, descriptorIndex := 194, attributes := #[] }, { accessFlags := 25, nameIndex := 302, descriptorIndex := 303, attributes := #[] }, { accessFlags := 24, nameIndex := 19, descriptorIndex := 20, attributes := #[] }, { accessFlags := 24, nameIndex := 89, descriptorIndex := 86, attributes := #[] }, { accessFlags := 24, nameIndex := 85, descriptorIndex := 86, attributes := #[] }, { accessFlags := 18, nameIndex := 207, descriptorIndex := 194, attributes := #[] }, { accessFlags := 25, nameIndex := 316, descriptorIndex := 194, attributes := #[] }, { accessFlags := 25, nameIndex := 318, descriptorIndex := 194, attributes := #[] }, { accessFlags := 26, nameIndex := 320, descriptorIndex := 321, attributes := #[] }])
  fields := #[{ name := "MIN_VALUE", type := .int, accessFlags := 25, slot := 0, constantValue := 0 }, { name := "MAX_VALUE", type := .int, accessFlags := 25, slot := 1, constantValue := 0 }, { name := "TYPE", type := (.object "java/lang/Class"), accessFlags := 25, slot := 2, constantValue := 0 }, { name := "digits", type := (.array .char), accessFlags := 24, slot := 3, constantValue := 0 }, { name := "DigitTens", type := (.array .byte), accessFlags := 24, slot := 4, constantValue := 0 }, { name := "DigitOnes", type := (.array .byte), accessFlags := 24, slot := 5, constantValue := 0 }, { name := "value", type := .int, accessFlags := 18, slot := 0, constantValue := 0 }, { name := "SIZE", type := .int, accessFlags := 25, slot := 6, constantValue := 0 }, { name := "BYTES", type := .int, accessFlags := 25, slot := 7, constantValue := 0 }, { name := "serialVersionUID", type := .long, accessFlags := 26, slot := 8, constantValue := 0 }]
  methods := #[k29m0, k29m1, k29m2]
  instanceTypes := #[.int]
  staticTypes := #[.int, .int, (.object "java/lang/Class"), (.array .char), (.array .byte), (.array .byte), .int, .int, .long]
  resolved := Array.replicate 453 none
  statics := none }

def pool30 : Array CpInfo := pool [(2, .class_ 4), (1, u "java/lang/Object"), (0, u "<init>"), (0, u "()V"), (0, .class_ 8), (0, u "java/lang/Integer"), (7, .class_ 18), (1, u "java/lang/Integer$IntegerCache"), (0, u "$assertionsDisabled"), (0, u "Z"), (26, u "high"), (0, u "I"), (8, u "archivedCache"), (0, u "[Ljava/lang/Integer;"), (12, u "cache"), (0, u "low")] 27

def k30m0 : Method := { name := "<init>", desc := "()V", sig := { parameters := [], returnType := none }, accessFlags := 2, code := none }
/-- java/lang/Integer$IntegerCache -/
def k30 : Class := { plain "java/lang/Integer$IntegerCache" (some 0) with
  accessFlags := 48
  interfaces := #[]
  cf := some (fileOf pool30 16 #[.nestHost 7] #[{ accessFlags := 2, nameIndex := 5, descriptorIndex := 6, attributes := #[] }] 48 2 #[] #[{ accessFlags := 24, nameIndex := 72, descriptorIndex := 48, attributes := #[] }, { accessFlags := 24, nameIndex := 47, descriptorIndex := 48, attributes := #[] }, { accessFlags := 24, nameIndex := 71, descriptorIndex := 58, attributes := #[] }, { accessFlags := 8, nameIndex := 57, descriptorIndex := 58, attributes := #[] }, { accessFlags := 4120, nameIndex := 19, descriptorIndex := 20, attributes := #[] }])
  fields := #[{ name := "low", type := .int, accessFlags := 24, slot := 0, constantValue := 0 }, { name := "high", type := .int, accessFlags := 24, slot := 1, constantValue := 0 }, { name := "cache", type := (.array (.object "java/lang/Integer")), accessFlags := 24, slot := 2, constantValue := 0 }, { name := "archivedCache", type := (.array (.object "java/lang/Integer")), accessFlags := 8, slot := 3, constantValue := 0 }, { name := "$assertionsDisabled", type := .boolean, accessFlags := 4120, slot := 4, constantValue := 0 }]
  methods := #[k30m0]
  instanceTypes := #[]
  staticTypes := #[.int, .int, (.array (.object "java/lang/Integer")), (.array (.object "java/lang/Integer")), .boolean]
  resolved := Array.replicate 100 none
  statics := some 2 }

def pool31 : Array CpInfo := pool [(23, .class_ 25), (1, u "java/util/Map$Entry"), (6, .class_ 34), (1, u "java/util/Map"), (34, .class_ 70), (0, u "java/lang/Object")] 107

/-- java/util/Map$Entry -/
def k31 : Class := { plain "java/util/Map$Entry" (some 0) with
  accessFlags := 1537
  interfaces := #[]
  cf := some (fileOf pool31 23 #[.nestHost 32] #[] 1537 69 #[] #[])
  fields := #[]
  methods := #[]
  instanceTypes := #[]
  staticTypes := #[]
  resolved := Array.replicate 178 none
  statics := none }

def pool32 : Array CpInfo := pool [(1, .methodref 2 3), (0, .class_ 4), (0, .nameAndType 5 6), (0, u "java/lang/Object"), (0, u "<init>"), (0, u "()V"), (0, .fieldref 8 9), (0, .class_ 10), (0, .nameAndType 11 12), (0, u "java/util/HashMap$Node"), (0, u "hash"), (0, u "I"), (0, .fieldref 8 14), (0, .nameAndType 15 16), (0, u "key"), (0, u "Ljava/lang/Object;"), (0, .fieldref 8 18), (0, .nameAndType 19 16), (0, u "value"), (0, .fieldref 8 21), (0, .nameAndType 22 23), (0, u "next"), (0, u "Ljava/util/HashMap$Node;"), (22, .class_ 47), (0, u "java/util/Map$Entry"), (15, u "(ILjava/lang/Object;Ljava/lang/Object;Ljava/util/HashMap$Node;)V"), (24, .class_ 89), (0, u "java/util/HashMap")] 5

def k32c0 : Code := { maxStack := 2, maxLocals := 5, code := jdk_70_method_1_code, exceptionTable := #[], attributes := #[] }
def k32m0 : Method := { name := "<init>", desc := "(ILjava/lang/Object;Ljava/lang/Object;Ljava/util/HashMap$Node;)V", sig := { parameters := [.int, (.object "java/lang/Object"), (.object "java/lang/Object"), (.object "java/util/HashMap$Node")], returnType := none }, accessFlags := 0, code := some k32c0 }
/-- java/util/HashMap$Node -/
def k32 : Class := { plain "java/util/HashMap$Node" (some 0) with
  accessFlags := 32
  interfaces := #[31]
  cf := some (fileOf pool32 8 #[.nestHost 88] #[{ accessFlags := 0, nameIndex := 5, descriptorIndex := 63, attributes := #[] }] 32 2 #[46] #[{ accessFlags := 16, nameIndex := 11, descriptorIndex := 12, attributes := #[] }, { accessFlags := 16, nameIndex := 15, descriptorIndex := 16, attributes := #[] }, { accessFlags := 0, nameIndex := 19, descriptorIndex := 16, attributes := #[] }, { accessFlags := 0, nameIndex := 22, descriptorIndex := 23, attributes := #[] }])
  fields := #[{ name := "hash", type := .int, accessFlags := 16, slot := 0, constantValue := 0 }, { name := "key", type := (.object "java/lang/Object"), accessFlags := 16, slot := 1, constantValue := 0 }, { name := "value", type := (.object "java/lang/Object"), accessFlags := 0, slot := 2, constantValue := 0 }, { name := "next", type := (.object "java/util/HashMap$Node"), accessFlags := 0, slot := 3, constantValue := 0 }]
  methods := #[k32m0]
  instanceTypes := #[.int, (.object "java/lang/Object"), (.object "java/lang/Object"), (.object "java/util/HashMap$Node")]
  staticTypes := #[]
  resolved := Array.replicate 95 none
  statics := none }

def pool33 : Array CpInfo := pool [(1, .methodref 2 3), (0, .class_ 4), (0, .nameAndType 5 6), (0, u "java/lang/Object"), (0, u "<init>"), (0, u "()V"), (0, .fieldref 8 9), (0, .class_ 10), (0, .nameAndType 11 12), (0, u "com/example/inq2/inq2/ScoredDocument"), (0, u "_document"), (0, u "Ljava/lang/String;"), (0, .fieldref 8 14), (0, .nameAndType 15 16), (0, u "_score"), (0, u "D"), (12, u "BEST_FIRST"), (0, u "Ljava/util/Comparator;"), (2, u "(Ljava/lang/String;D)V"), (2, u "document"), (0, u "()Ljava/lang/String;")] 28

def k33c0 : Code := { maxStack := 3, maxLocals := 4, code := prog_19_method_1_code, exceptionTable := #[], attributes := #[] }
def k33m0 : Method := { name := "<init>", desc := "(Ljava/lang/String;D)V", sig := { parameters := [(.object "java/lang/String"), .double], returnType := none }, accessFlags := 1, code := some k33c0 }
def k33c1 : Code := { maxStack := 1, maxLocals := 1, code := prog_19_method_2_code, exceptionTable := #[], attributes := #[] }
def k33m1 : Method := { name := "document", desc := "()Ljava/lang/String;", sig := { parameters := [], returnType := some (.object "java/lang/String") }, accessFlags := 1, code := some k33c1 }
/-- com/example/inq2/inq2/ScoredDocument -/
def k33 : Class := { plain "com/example/inq2/inq2/ScoredDocument" (some 0) with
  accessFlags := 49
  interfaces := #[]
  cf := some (fileOf pool33 8 #[] #[{ accessFlags := 1, nameIndex := 5, descriptorIndex := 33, attributes := #[] }, { accessFlags := 1, nameIndex := 36, descriptorIndex := 37, attributes := #[] }] 49 2 #[] #[{ accessFlags := 25, nameIndex := 29, descriptorIndex := 30, attributes := #[] }, { accessFlags := 18, nameIndex := 11, descriptorIndex := 12, attributes := #[] }, { accessFlags := 18, nameIndex := 15, descriptorIndex := 16, attributes := #[] }])
  fields := #[{ name := "BEST_FIRST", type := (.object "java/util/Comparator"), accessFlags := 25, slot := 0, constantValue := 0 }, { name := "_document", type := (.object "java/lang/String"), accessFlags := 18, slot := 0, constantValue := 0 }, { name := "_score", type := .double, accessFlags := 18, slot := 1, constantValue := 0 }]
  methods := #[k33m0, k33m1]
  instanceTypes := #[(.object "java/lang/String"), .double]
  staticTypes := #[(.object "java/util/Comparator")]
  resolved := Array.replicate 66 none
  statics := none }

def pool34 : Array CpInfo := pool [(1, .class_ 2), (0, u "java/lang/Math"), (1, .class_ 6), (1, u "java/lang/Object"), (0, u "<init>"), (0, u "()V"), (89, .class_ 100), (1, u "java/lang/Math$RandomNumberGeneratorHolder"), (71, u "negativeZeroFloatBits"), (0, u "J"), (2, u "negativeZeroDoubleBits"), (21, u "max"), (2, u "min"), (43, u "$assertionsDisabled"), (0, u "Z"), (88, u "(II)I"), (2, u "twoToTheDoubleScaleDown"), (0, u "D"), (4, u "twoToTheDoubleScaleUp"), (9, u "E"), (3, u "PI"), (2, u "TAU"), (2, u "DEGREES_TO_RADIANS"), (0, u "RADIANS_TO_DEGREES")] 94

def k34m0 : Method := { name := "<init>", desc := "()V", sig := { parameters := [], returnType := none }, accessFlags := 2, code := none }
def k34c1 : Code := { maxStack := 2, maxLocals := 2, code := jdk_29_method_65_code, exceptionTable := #[], attributes := #[] }
def k34m1 : Method := { name := "max", desc := "(II)I", sig := { parameters := [.int, .int], returnType := some .int }, accessFlags := 9, code := some k34c1 }
def k34c2 : Code := { maxStack := 2, maxLocals := 2, code := jdk_29_method_69_code, exceptionTable := #[], attributes := #[] }
def k34m2 : Method := { name := "min", desc := "(II)I", sig := { parameters := [.int, .int], returnType := some .int }, accessFlags := 9, code := some k34c2 }
/-- java/lang/Math -/
def k34 : Class := { plain "java/lang/Math" (some 0) with
  accessFlags := 49
  interfaces := #[]
  cf := some (fileOf pool34 1 #[.nestMembers #[98]] #[{ accessFlags := 2, nameIndex := 7, descriptorIndex := 8, attributes := #[] }, { accessFlags := 9, nameIndex := 198, descriptorIndex := 335, attributes := #[] }, { accessFlags := 9, nameIndex := 201, descriptorIndex := 335, attributes := #[] }] 49 4 #[] #[{ accessFlags := 25, nameIndex := 354, descriptorIndex := 339, attributes := #[] }, { accessFlags := 25, nameIndex := 358, descriptorIndex := 339, attributes := #[] }, { accessFlags := 25, nameIndex := 361, descriptorIndex := 339, attributes := #[] }, { accessFlags := 26, nameIndex := 364, descriptorIndex := 339, attributes := #[] }, { accessFlags := 26, nameIndex := 365, descriptorIndex := 339, attributes := #[] }, { accessFlags := 26, nameIndex := 172, descriptorIndex := 173, attributes := #[] }, { accessFlags := 26, nameIndex := 176, descriptorIndex := 173, attributes := #[] }, { accessFlags := 8, nameIndex := 344, descriptorIndex := 339, attributes := #[] }, { accessFlags := 8, nameIndex := 338, descriptorIndex := 339, attributes := #[] }, { accessFlags := 4120, nameIndex := 245, descriptorIndex := 246, attributes := #[] }])
  fields := #[{ name := "E", type := .double, accessFlags := 25, slot := 0, constantValue := 0 }, { name := "PI", type := .double, accessFlags := 25, slot := 1, constantValue := 0 }, { name := "TAU", type := .double, accessFlags := 25, slot := 2, constantValue := 0 }, { name := "DEGREES_TO_RADIANS", type := .double, accessFlags := 26, slot := 3, constantValue := 0 }, { name := "RADIANS_TO_DEGREES", type := .double, accessFlags := 26, slot := 4, constantValue := 0 }, { name := "negativeZeroFloatBits", type := .long, accessFlags := 26, slot := 5, constantValue := 0 }, { name := "negativeZeroDoubleBits", type := .long, accessFlags := 26, slot := 6, constantValue := 0 }, { name := "twoToTheDoubleScaleUp", type := .double, accessFlags := 8, slot := 7, constantValue := 0 }, { name := "twoToTheDoubleScaleDown", type := .double, accessFlags := 8, slot := 8, constantValue := 0 }, { name := "$assertionsDisabled", type := .boolean, accessFlags := 4120, slot := 9, constantValue := 0 }]
  methods := #[k34m0, k34m1, k34m2]
  instanceTypes := #[]
  staticTypes := #[.double, .double, .double, .double, .double, .long, .long, .double, .double, .boolean]
  resolved := Array.replicate 460 none
  statics := none }

def pool35 : Array CpInfo := pool [(2, .class_ 4), (1, u "java/lang/Object"), (0, u "<init>"), (0, u "()V"), (35, .class_ 44), (1, u "java/util/Objects"), (60, .methodref 106 107), (0, .class_ 108), (0, .nameAndType 109 110), (0, u "jdk/internal/util/Preconditions"), (0, u "checkIndex"), (0, u "(IILjava/util/function/BiFunction;)I"), (60, u "(II)I")] 12

def k35m0 : Method := { name := "<init>", desc := "()V", sig := { parameters := [], returnType := none }, accessFlags := 2, code := none }
def k35c1 : Code := { maxStack := 3, maxLocals := 2, code := jdk_31_method_17_code, exceptionTable := #[], attributes := #[] }
def k35m1 : Method := { name := "checkIndex", desc := "(II)I", sig := { parameters := [.int, .int], returnType := some .int }, accessFlags := 9, code := some k35c1 }
/-- java/util/Objects -/
def k35 : Class := { plain "java/util/Objects" (some 0) with
  accessFlags := 49
  interfaces := #[]
  cf := some (fileOf pool35 42 #[] #[{ accessFlags := 2, nameIndex := 5, descriptorIndex := 6, attributes := #[] }, { accessFlags := 9, nameIndex := 109, descriptorIndex := 171, attributes := #[] }] 49 2 #[] #[])
  fields := #[]
  methods := #[k35m0, k35m1]
  instanceTypes := #[]
  staticTypes := #[]
  resolved := Array.replicate 184 none
  statics := none }

def pool36 : Array CpInfo := pool [(2, .class_ 4), (1, u "java/lang/Object"), (0, u "<init>"), (0, u "()V"), (17, .class_ 26), (1, u "jdk/internal/util/Preconditions"), (6, u "checkIndex"), (21, .class_ 56), (0, u "jdk/internal/util/Preconditions$4"), (57, .class_ 115), (0, u "jdk/internal/util/Preconditions$1"), (7, u "SIOOBE_FORMATTER"), (0, u "Ljava/util/function/BiFunction;"), (0, .class_ 126), (0, u "jdk/internal/util/Preconditions$2"), (3, u "AIOOBE_FORMATTER"), (0, .class_ 132), (0, u "jdk/internal/util/Preconditions$3"), (3, u "IOOBE_FORMATTER"), (41, u "(IILjava/util/function/BiFunction;)I")] 15

def k36m0 : Method := { name := "<init>", desc := "()V", sig := { parameters := [], returnType := none }, accessFlags := 1, code := none }
def k36c1 : Code := { maxStack := 3, maxLocals := 3, code := jdk_41_method_11_code, exceptionTable := #[], attributes := #[] }
def k36m1 : Method := { name := "checkIndex", desc := "(IILjava/util/function/BiFunction;)I", sig := { parameters := [.int, .int, (.object "java/util/function/BiFunction")], returnType := some .int }, accessFlags := 9, code := some k36c1 }
/-- jdk/internal/util/Preconditions -/
def k36 : Class := { plain "jdk/internal/util/Preconditions" (some 0) with
  accessFlags := 33
  interfaces := #[]
  cf := some (fileOf pool36 24 #[.nestMembers #[55, 131, 125, 114]] #[{ accessFlags := 1, nameIndex := 5, descriptorIndex := 6, attributes := #[] }, { accessFlags := 9, nameIndex := 33, descriptorIndex := 178, attributes := #[] }] 33 2 #[] #[{ accessFlags := 25, nameIndex := 123, descriptorIndex := 124, attributes := #[] }, { accessFlags := 25, nameIndex := 130, descriptorIndex := 124, attributes := #[] }, { accessFlags := 25, nameIndex := 136, descriptorIndex := 124, attributes := #[] }])
  fields := #[{ name := "SIOOBE_FORMATTER", type := (.object "java/util/function/BiFunction"), accessFlags := 25, slot := 0, constantValue := 0 }, { name := "AIOOBE_FORMATTER", type := (.object "java/util/function/BiFunction"), accessFlags := 25, slot := 1, constantValue := 0 }, { name := "IOOBE_FORMATTER", type := (.object "java/util/function/BiFunction"), accessFlags := 25, slot := 2, constantValue := 0 }]
  methods := #[k36m0, k36m1]
  instanceTypes := #[]
  staticTypes := #[(.object "java/util/function/BiFunction"), (.object "java/util/function/BiFunction"), (.object "java/util/function/BiFunction")]
  resolved := Array.replicate 194 none
  statics := some 3 }

def pool37 : Array CpInfo := pool [(2, .class_ 4), (1, u "java/lang/Object"), (0, u "<init>"), (0, u "()V"), (1, .class_ 10), (1, u "java/lang/System"), (0, u "allowSecurityManager"), (0, u "I"), (16, u "cons"), (0, u "Ljava/io/Console;"), (77, .class_ 110), (1, u "java/lang/System$CallersHolder"), (43, u "initialErrStream"), (0, u "Ljava/io/PrintStream;"), (19, u "security"), (0, u "Ljava/lang/SecurityManager;"), (31, .class_ 209), (0, u "java/lang/System$1"), (7, u "props"), (0, u "Ljava/util/Properties;"), (2, u "lineSeparator"), (0, u "Ljava/lang/String;"), (96, .class_ 321), (1, u "java/lang/System$LoggerFinder"), (5, .class_ 328), (0, u "java/lang/System$Logger"), (67, u "err"), (2, u "out"), (91, u "notSupportedJnuEncoding"), (15, u "in"), (17, u "initialIn"), (0, u "Ljava/io/InputStream;"), (35, u "bootLayer"), (0, u "Ljava/lang/ModuleLayer;"), (99, .class_ 664), (0, u "java/lang/System$2"), (9, u "NEVER"), (2, u "MAYBE"), (49, u "arraycopy"), (0, u "(Ljava/lang/Object;ILjava/lang/Object;II)V"), (72, .class_ 802), (0, u "java/lang/System$Logger$Level")] 31

def k37m0 : Method := { name := "<init>", desc := "()V", sig := { parameters := [], returnType := none }, accessFlags := 2, code := none }
def k37m1 : Method := { name := "arraycopy", desc := "(Ljava/lang/Object;ILjava/lang/Object;II)V", sig := { parameters := [(.object "java/lang/Object"), .int, (.object "java/lang/Object"), .int, .int], returnType := none }, accessFlags := 265, code := none }
/-- java/lang/System -/
def k37 : Class := { plain "java/lang/System" (some 0) with
  accessFlags := 49
  interfaces := #[]
  cf := some (fileOf pool37 8 #[.nestMembers #[319, 327, 801, 108, 663, 208]] #[{ accessFlags := 2, nameIndex := 5, descriptorIndex := 6, attributes := #[] }, { accessFlags := 265, nameIndex := 727, descriptorIndex := 728, attributes := #[] }] 49 2 #[] #[{ accessFlags := 25, nameIndex := 507, descriptorIndex := 526, attributes := #[] }, { accessFlags := 25, nameIndex := 399, descriptorIndex := 155, attributes := #[] }, { accessFlags := 25, nameIndex := 396, descriptorIndex := 155, attributes := #[] }, { accessFlags := 10, nameIndex := 525, descriptorIndex := 526, attributes := #[] }, { accessFlags := 26, nameIndex := 674, descriptorIndex := 12, attributes := #[] }, { accessFlags := 26, nameIndex := 677, descriptorIndex := 12, attributes := #[] }, { accessFlags := 10, nameIndex := 11, descriptorIndex := 12, attributes := #[] }, { accessFlags := 74, nameIndex := 175, descriptorIndex := 176, attributes := #[] }, { accessFlags := 10, nameIndex := 491, descriptorIndex := 222, attributes := #[] }, { accessFlags := 74, nameIndex := 29, descriptorIndex := 30, attributes := #[] }, { accessFlags := 74, nameIndex := 154, descriptorIndex := 155, attributes := #[] }, { accessFlags := 10, nameIndex := 217, descriptorIndex := 218, attributes := #[] }, { accessFlags := 10, nameIndex := 221, descriptorIndex := 222, attributes := #[] }, { accessFlags := 8, nameIndex := 562, descriptorIndex := 563, attributes := #[] }])
  fields := #[{ name := "in", type := (.object "java/io/InputStream"), accessFlags := 25, slot := 0, constantValue := 0 }, { name := "out", type := (.object "java/io/PrintStream"), accessFlags := 25, slot := 1, constantValue := 0 }, { name := "err", type := (.object "java/io/PrintStream"), accessFlags := 25, slot := 2, constantValue := 0 }, { name := "initialIn", type := (.object "java/io/InputStream"), accessFlags := 10, slot := 3, constantValue := 0 }, { name := "NEVER", type := .int, accessFlags := 26, slot := 4, constantValue := 0 }, { name := "MAYBE", type := .int, accessFlags := 26, slot := 5, constantValue := 0 }, { name := "allowSecurityManager", type := .int, accessFlags := 10, slot := 6, constantValue := 0 }, { name := "security", type := (.object "java/lang/SecurityManager"), accessFlags := 74, slot := 7, constantValue := 0 }, { name := "notSupportedJnuEncoding", type := (.object "java/lang/String"), accessFlags := 10, slot := 8, constantValue := 0 }, { name := "cons", type := (.object "java/io/Console"), accessFlags := 74, slot := 9, constantValue := 0 }, { name := "initialErrStream", type := (.object "java/io/PrintStream"), accessFlags := 74, slot := 10, constantValue := 0 }, { name := "props", type := (.object "java/util/Properties"), accessFlags := 10, slot := 11, constantValue := 0 }, { name := "lineSeparator", type := (.object "java/lang/String"), accessFlags := 10, slot := 12, constantValue := 0 }, { name := "bootLayer", type := (.object "java/lang/ModuleLayer"), accessFlags := 8, slot := 13, constantValue := 0 }]
  methods := #[k37m0, k37m1]
  instanceTypes := #[]
  staticTypes := #[(.object "java/io/InputStream"), (.object "java/io/PrintStream"), (.object "java/io/PrintStream"), (.object "java/io/InputStream"), .int, .int, .int, (.object "java/lang/SecurityManager"), (.object "java/lang/String"), (.object "java/io/Console"), (.object "java/io/PrintStream"), (.object "java/util/Properties"), (.object "java/lang/String"), (.object "java/lang/ModuleLayer")]
  resolved := Array.replicate 834 none
  statics := none }

def pool38 : Array CpInfo := pool [(9, u "<init>"), (6, .class_ 18), (1, u "java/lang/Object"), (0, u "()V"), (1, .class_ 23), (1, u "jdk/internal/util/ArraysSupport"), (0, u "LOG2_ARRAY_LONG_INDEX_SCALE"), (0, u "I"), (2, u "U"), (0, u "Ljdk/internal/misc/Unsafe;"), (8, u "BIG_ENDIAN"), (0, u "Z"), (8, u "LOG2_BYTE_BIT_SIZE"), (4, u "LOG2_ARRAY_INT_INDEX_SCALE"), (54, u "JLA"), (0, u "Ljdk/internal/access/JavaLangAccess;"), (11, u "LOG2_ARRAY_BOOLEAN_INDEX_SCALE"), (9, u "LOG2_ARRAY_BYTE_INDEX_SCALE"), (5, u "LOG2_ARRAY_CHAR_INDEX_SCALE"), (5, u "LOG2_ARRAY_SHORT_INDEX_SCALE"), (18, u "LOG2_ARRAY_FLOAT_INDEX_SCALE"), (24, u "LOG2_ARRAY_DOUBLE_INDEX_SCALE"), (89, u "T_BOOLEAN"), (2, u "T_CHAR"), (1, u "T_FLOAT"), (1, u "T_DOUBLE"), (1, u "T_BYTE"), (1, u "T_SHORT"), (1, u "T_INT"), (1, u "T_LONG"), (1, u "SOFT_MAX_ARRAY_LENGTH")] 83

def k38m0 : Method := { name := "<init>", desc := "()V", sig := { parameters := [], returnType := none }, accessFlags := 2, code := none }
/-- jdk/internal/util/ArraysSupport -/
def k38 : Class := { plain "jdk/internal/util/ArraysSupport" (some 0) with
  accessFlags := 33
  interfaces := #[]
  cf := some (fileOf pool38 21 #[] #[{ accessFlags := 2, nameIndex := 9, descriptorIndex := 19, attributes := #[] }] 33 16 #[] #[{ accessFlags := 24, nameIndex := 28, descriptorIndex := 29, attributes := #[] }, { accessFlags := 26, nameIndex := 38, descriptorIndex := 39, attributes := #[] }, { accessFlags := 25, nameIndex := 121, descriptorIndex := 25, attributes := #[] }, { accessFlags := 25, nameIndex := 131, descriptorIndex := 25, attributes := #[] }, { accessFlags := 25, nameIndex := 137, descriptorIndex := 25, attributes := #[] }, { accessFlags := 25, nameIndex := 143, descriptorIndex := 25, attributes := #[] }, { accessFlags := 25, nameIndex := 53, descriptorIndex := 25, attributes := #[] }, { accessFlags := 25, nameIndex := 24, descriptorIndex := 25, attributes := #[] }, { accessFlags := 25, nameIndex := 162, descriptorIndex := 25, attributes := #[] }, { accessFlags := 25, nameIndex := 187, descriptorIndex := 25, attributes := #[] }, { accessFlags := 26, nameIndex := 48, descriptorIndex := 25, attributes := #[] }, { accessFlags := 25, nameIndex := 277, descriptorIndex := 25, attributes := #[] }, { accessFlags := 25, nameIndex := 280, descriptorIndex := 25, attributes := #[] }, { accessFlags := 25, nameIndex := 282, descriptorIndex := 25, attributes := #[] }, { accessFlags := 25, nameIndex := 284, descriptorIndex := 25, attributes := #[] }, { accessFlags := 25, nameIndex := 286, descriptorIndex := 25, attributes := #[] }, { accessFlags := 25, nameIndex := 288, descriptorIndex := 25, attributes := #[] }, { accessFlags := 25, nameIndex := 290, descriptorIndex := 25, attributes := #[] }, { accessFlags := 25, nameIndex := 292, descriptorIndex := 25, attributes := #[] }, { accessFlags := 26, nameIndex := 108, descriptorIndex := 109, attributes := #[] }, { accessFlags := 25, nameIndex := 294, descriptorIndex := 25, attributes := #[] }])
  fields := #[{ name := "U", type := (.object "jdk/internal/misc/Unsafe"), accessFlags := 24, slot := 0, constantValue := 0 }, { name := "BIG_ENDIAN", type := .boolean, accessFlags := 26, slot := 1, constantValue := 0 }, { name := "LOG2_ARRAY_BOOLEAN_INDEX_SCALE", type := .int, accessFlags := 25, slot := 2, constantValue := 0 }, { name := "LOG2_ARRAY_BYTE_INDEX_SCALE", type := .int, accessFlags := 25, slot := 3, constantValue := 0 }, { name := "LOG2_ARRAY_CHAR_INDEX_SCALE", type := .int, accessFlags := 25, slot := 4, constantValue := 0 }, { name := "LOG2_ARRAY_SHORT_INDEX_SCALE", type := .int, accessFlags := 25, slot := 5, constantValue := 0 }, { name := "LOG2_ARRAY_INT_INDEX_SCALE", type := .int, accessFlags := 25, slot := 6, constantValue := 0 }, { name := "LOG2_ARRAY_LONG_INDEX_SCALE", type := .int, accessFlags := 25, slot := 7, constantValue := 0 }, { name := "LOG2_ARRAY_FLOAT_INDEX_SCALE", type := .int, accessFlags := 25, slot := 8, constantValue := 0 }, { name := "LOG2_ARRAY_DOUBLE_INDEX_SCALE", type := .int, accessFlags := 25, slot := 9, constantValue := 0 }, { name := "LOG2_BYTE_BIT_SIZE", type := .int, accessFlags := 26, slot := 10, constantValue := 0 }, { name := "T_BOOLEAN", type := .int, accessFlags := 25, slot := 11, constantValue := 0 }, { name := "T_CHAR", type := .int, accessFlags := 25, slot := 12, constantValue := 0 }, { name := "T_FLOAT", type := .int, accessFlags := 25, slot := 13, constantValue := 0 }, { name := "T_DOUBLE", type := .int, accessFlags := 25, slot := 14, constantValue := 0 }, { name := "T_BYTE", type := .int, accessFlags := 25, slot := 15, constantValue := 0 }, { name := "T_SHORT", type := .int, accessFlags := 25, slot := 16, constantValue := 0 }, { name := "T_INT", type := .int, accessFlags := 25, slot := 17, constantValue := 0 }, { name := "T_LONG", type := .int, accessFlags := 25, slot := 18, constantValue := 0 }, { name := "JLA", type := (.object "jdk/internal/access/JavaLangAccess"), accessFlags := 26, slot := 19, constantValue := 0 }, { name := "SOFT_MAX_ARRAY_LENGTH", type := .int, accessFlags := 25, slot := 20, constantValue := 0 }]
  methods := #[k38m0]
  instanceTypes := #[]
  staticTypes := #[(.object "jdk/internal/misc/Unsafe"), .boolean, .int, .int, .int, .int, .int, .int, .int, .int, .int, .int, .int, .int, .int, .int, .int, .int, .int, (.object "jdk/internal/access/JavaLangAccess"), .int]
  resolved := Array.replicate 378 none
  statics := none }

/-- the primitive byte -/
def k39 : Class := { plain "byte" none with kind := .primitive 'B', accessFlags := 0x411 }
/-- [B -/
def k40 : Class := { plain "[B" (some 0) with kind := .array 39 .byte, interfaces := #[11, 2], accessFlags := 1041 }

/-- the primitive int -/
def k41 : Class := { plain "int" none with kind := .primitive 'I', accessFlags := 0x411 }
/-- [I -/
def k42 : Class := { plain "[I" (some 0) with kind := .array 41 .int, interfaces := #[11, 2], accessFlags := 1041 }

/-- [Ljava/lang/Integer; -/
def k43 : Class := { plain "[Ljava/lang/Integer;" (some 0) with kind := .array 29 (.object "java/lang/Integer"), interfaces := #[11, 2], accessFlags := 1041 }

/-- [Ljava/lang/Object; -/
def k44 : Class := { plain "[Ljava/lang/Object;" (some 0) with kind := .array 0 (.object "java/lang/Object"), interfaces := #[11, 2], accessFlags := 1041 }

/-- [Ljava/util/HashMap$Node; -/
def k45 : Class := { plain "[Ljava/util/HashMap$Node;" (some 0) with kind := .array 32 (.object "java/util/HashMap$Node"), interfaces := #[11, 2], accessFlags := 1041 }

def heap : Heap := #[{ cls := 7, slots := #[.long 0, .int 1, .null, .int 0, .null, .int 0, .int 0], vm := .statics 7 },
  { cls := 20, slots := #[.long 0, .int 0, .ref 261, .ref 262], vm := .statics 20 },
  { cls := 30, slots := #[.int 0, .int 127, .ref 4, .null, .int 0], vm := .statics 30 },
  { cls := 36, slots := #[.null, .null, .null], vm := .statics 36 },
  { cls := 43, slots := #[.ref 5, .ref 6, .ref 7, .ref 8, .ref 9, .ref 10, .ref 11, .ref 12, .ref 13, .ref 14, .ref 15, .ref 16, .ref 17, .ref 18, .ref 19, .ref 20, .ref 21, .ref 22, .ref 23, .ref 24, .ref 25, .ref 26, .ref 27, .ref 28, .ref 29, .ref 30, .ref 31, .ref 32, .ref 33, .ref 34, .ref 35, .ref 36, .ref 37, .ref 38, .ref 39, .ref 40, .ref 41, .ref 42, .ref 43, .ref 44, .ref 45, .ref 46, .ref 47, .ref 48, .ref 49, .ref 50, .ref 51, .ref 52, .ref 53, .ref 54, .ref 55, .ref 56, .ref 57, .ref 58, .ref 59, .ref 60, .ref 61, .ref 62, .ref 63, .ref 64, .ref 65, .ref 66, .ref 67, .ref 68, .ref 69, .ref 70, .ref 71, .ref 72, .ref 73, .ref 74, .ref 75, .ref 76, .ref 77, .ref 78, .ref 79, .ref 80, .ref 81, .ref 82, .ref 83, .ref 84, .ref 85, .ref 86, .ref 87, .ref 88, .ref 89, .ref 90, .ref 91, .ref 92, .ref 93, .ref 94, .ref 95, .ref 96, .ref 97, .ref 98, .ref 99, .ref 100, .ref 101, .ref 102, .ref 103, .ref 104, .ref 105, .ref 106, .ref 107, .ref 108, .ref 109, .ref 110, .ref 111, .ref 112, .ref 113, .ref 114, .ref 115, .ref 116, .ref 117, .ref 118, .ref 119, .ref 120, .ref 121, .ref 122, .ref 123, .ref 124, .ref 125, .ref 126, .ref 127, .ref 128, .ref 129, .ref 130, .ref 131, .ref 132, .ref 133, .ref 134, .ref 135, .ref 136, .ref 137, .ref 138, .ref 139, .ref 140, .ref 141, .ref 142, .ref 143, .ref 144, .ref 145, .ref 146, .ref 147, .ref 148, .ref 149, .ref 150, .ref 151, .ref 152, .ref 153, .ref 154, .ref 155, .ref 156, .ref 157, .ref 158, .ref 159, .ref 160, .ref 161, .ref 162, .ref 163, .ref 164, .ref 165, .ref 166, .ref 167, .ref 168, .ref 169, .ref 170, .ref 171, .ref 172, .ref 173, .ref 174, .ref 175, .ref 176, .ref 177, .ref 178, .ref 179, .ref 180, .ref 181, .ref 182, .ref 183, .ref 184, .ref 185, .ref 186, .ref 187, .ref 188, .ref 189, .ref 190, .ref 191, .ref 192, .ref 193, .ref 194, .ref 195, .ref 196, .ref 197, .ref 198, .ref 199, .ref 200, .ref 201, .ref 202, .ref 203, .ref 204, .ref 205, .ref 206, .ref 207, .ref 208, .ref 209, .ref 210, .ref 211, .ref 212, .ref 213, .ref 214, .ref 215, .ref 216, .ref 217, .ref 218, .ref 219, .ref 220, .ref 221, .ref 222, .ref 223, .ref 224, .ref 225, .ref 226, .ref 227, .ref 228, .ref 229, .ref 230, .ref 231, .ref 232, .ref 233, .ref 234, .ref 235, .ref 236, .ref 237, .ref 238, .ref 239, .ref 240, .ref 241, .ref 242, .ref 243, .ref 244, .ref 245, .ref 246, .ref 247, .ref 248, .ref 249, .ref 250, .ref 251, .ref 252, .ref 253, .ref 254, .ref 255, .ref 256, .ref 257, .ref 258, .ref 259, .ref 260], vm := .none },
  { cls := 29, slots := #[.int (-128)], vm := .none },
  { cls := 29, slots := #[.int (-127)], vm := .none },
  { cls := 29, slots := #[.int (-126)], vm := .none },
  { cls := 29, slots := #[.int (-125)], vm := .none },
  { cls := 29, slots := #[.int (-124)], vm := .none },
  { cls := 29, slots := #[.int (-123)], vm := .none },
  { cls := 29, slots := #[.int (-122)], vm := .none },
  { cls := 29, slots := #[.int (-121)], vm := .none },
  { cls := 29, slots := #[.int (-120)], vm := .none },
  { cls := 29, slots := #[.int (-119)], vm := .none },
  { cls := 29, slots := #[.int (-118)], vm := .none },
  { cls := 29, slots := #[.int (-117)], vm := .none },
  { cls := 29, slots := #[.int (-116)], vm := .none },
  { cls := 29, slots := #[.int (-115)], vm := .none },
  { cls := 29, slots := #[.int (-114)], vm := .none },
  { cls := 29, slots := #[.int (-113)], vm := .none },
  { cls := 29, slots := #[.int (-112)], vm := .none },
  { cls := 29, slots := #[.int (-111)], vm := .none },
  { cls := 29, slots := #[.int (-110)], vm := .none },
  { cls := 29, slots := #[.int (-109)], vm := .none },
  { cls := 29, slots := #[.int (-108)], vm := .none },
  { cls := 29, slots := #[.int (-107)], vm := .none },
  { cls := 29, slots := #[.int (-106)], vm := .none },
  { cls := 29, slots := #[.int (-105)], vm := .none },
  { cls := 29, slots := #[.int (-104)], vm := .none },
  { cls := 29, slots := #[.int (-103)], vm := .none },
  { cls := 29, slots := #[.int (-102)], vm := .none },
  { cls := 29, slots := #[.int (-101)], vm := .none },
  { cls := 29, slots := #[.int (-100)], vm := .none },
  { cls := 29, slots := #[.int (-99)], vm := .none },
  { cls := 29, slots := #[.int (-98)], vm := .none },
  { cls := 29, slots := #[.int (-97)], vm := .none },
  { cls := 29, slots := #[.int (-96)], vm := .none },
  { cls := 29, slots := #[.int (-95)], vm := .none },
  { cls := 29, slots := #[.int (-94)], vm := .none },
  { cls := 29, slots := #[.int (-93)], vm := .none },
  { cls := 29, slots := #[.int (-92)], vm := .none },
  { cls := 29, slots := #[.int (-91)], vm := .none },
  { cls := 29, slots := #[.int (-90)], vm := .none },
  { cls := 29, slots := #[.int (-89)], vm := .none },
  { cls := 29, slots := #[.int (-88)], vm := .none },
  { cls := 29, slots := #[.int (-87)], vm := .none },
  { cls := 29, slots := #[.int (-86)], vm := .none },
  { cls := 29, slots := #[.int (-85)], vm := .none },
  { cls := 29, slots := #[.int (-84)], vm := .none },
  { cls := 29, slots := #[.int (-83)], vm := .none },
  { cls := 29, slots := #[.int (-82)], vm := .none },
  { cls := 29, slots := #[.int (-81)], vm := .none },
  { cls := 29, slots := #[.int (-80)], vm := .none },
  { cls := 29, slots := #[.int (-79)], vm := .none },
  { cls := 29, slots := #[.int (-78)], vm := .none },
  { cls := 29, slots := #[.int (-77)], vm := .none },
  { cls := 29, slots := #[.int (-76)], vm := .none },
  { cls := 29, slots := #[.int (-75)], vm := .none },
  { cls := 29, slots := #[.int (-74)], vm := .none },
  { cls := 29, slots := #[.int (-73)], vm := .none },
  { cls := 29, slots := #[.int (-72)], vm := .none },
  { cls := 29, slots := #[.int (-71)], vm := .none },
  { cls := 29, slots := #[.int (-70)], vm := .none },
  { cls := 29, slots := #[.int (-69)], vm := .none },
  { cls := 29, slots := #[.int (-68)], vm := .none },
  { cls := 29, slots := #[.int (-67)], vm := .none },
  { cls := 29, slots := #[.int (-66)], vm := .none },
  { cls := 29, slots := #[.int (-65)], vm := .none },
  { cls := 29, slots := #[.int (-64)], vm := .none },
  { cls := 29, slots := #[.int (-63)], vm := .none },
  { cls := 29, slots := #[.int (-62)], vm := .none },
  { cls := 29, slots := #[.int (-61)], vm := .none },
  { cls := 29, slots := #[.int (-60)], vm := .none },
  { cls := 29, slots := #[.int (-59)], vm := .none },
  { cls := 29, slots := #[.int (-58)], vm := .none },
  { cls := 29, slots := #[.int (-57)], vm := .none },
  { cls := 29, slots := #[.int (-56)], vm := .none },
  { cls := 29, slots := #[.int (-55)], vm := .none },
  { cls := 29, slots := #[.int (-54)], vm := .none },
  { cls := 29, slots := #[.int (-53)], vm := .none },
  { cls := 29, slots := #[.int (-52)], vm := .none },
  { cls := 29, slots := #[.int (-51)], vm := .none },
  { cls := 29, slots := #[.int (-50)], vm := .none },
  { cls := 29, slots := #[.int (-49)], vm := .none },
  { cls := 29, slots := #[.int (-48)], vm := .none },
  { cls := 29, slots := #[.int (-47)], vm := .none },
  { cls := 29, slots := #[.int (-46)], vm := .none },
  { cls := 29, slots := #[.int (-45)], vm := .none },
  { cls := 29, slots := #[.int (-44)], vm := .none },
  { cls := 29, slots := #[.int (-43)], vm := .none },
  { cls := 29, slots := #[.int (-42)], vm := .none },
  { cls := 29, slots := #[.int (-41)], vm := .none },
  { cls := 29, slots := #[.int (-40)], vm := .none },
  { cls := 29, slots := #[.int (-39)], vm := .none },
  { cls := 29, slots := #[.int (-38)], vm := .none },
  { cls := 29, slots := #[.int (-37)], vm := .none },
  { cls := 29, slots := #[.int (-36)], vm := .none },
  { cls := 29, slots := #[.int (-35)], vm := .none },
  { cls := 29, slots := #[.int (-34)], vm := .none },
  { cls := 29, slots := #[.int (-33)], vm := .none },
  { cls := 29, slots := #[.int (-32)], vm := .none },
  { cls := 29, slots := #[.int (-31)], vm := .none },
  { cls := 29, slots := #[.int (-30)], vm := .none },
  { cls := 29, slots := #[.int (-29)], vm := .none },
  { cls := 29, slots := #[.int (-28)], vm := .none },
  { cls := 29, slots := #[.int (-27)], vm := .none },
  { cls := 29, slots := #[.int (-26)], vm := .none },
  { cls := 29, slots := #[.int (-25)], vm := .none },
  { cls := 29, slots := #[.int (-24)], vm := .none },
  { cls := 29, slots := #[.int (-23)], vm := .none },
  { cls := 29, slots := #[.int (-22)], vm := .none },
  { cls := 29, slots := #[.int (-21)], vm := .none },
  { cls := 29, slots := #[.int (-20)], vm := .none },
  { cls := 29, slots := #[.int (-19)], vm := .none },
  { cls := 29, slots := #[.int (-18)], vm := .none },
  { cls := 29, slots := #[.int (-17)], vm := .none },
  { cls := 29, slots := #[.int (-16)], vm := .none },
  { cls := 29, slots := #[.int (-15)], vm := .none },
  { cls := 29, slots := #[.int (-14)], vm := .none },
  { cls := 29, slots := #[.int (-13)], vm := .none },
  { cls := 29, slots := #[.int (-12)], vm := .none },
  { cls := 29, slots := #[.int (-11)], vm := .none },
  { cls := 29, slots := #[.int (-10)], vm := .none },
  { cls := 29, slots := #[.int (-9)], vm := .none },
  { cls := 29, slots := #[.int (-8)], vm := .none },
  { cls := 29, slots := #[.int (-7)], vm := .none },
  { cls := 29, slots := #[.int (-6)], vm := .none },
  { cls := 29, slots := #[.int (-5)], vm := .none },
  { cls := 29, slots := #[.int (-4)], vm := .none },
  { cls := 29, slots := #[.int (-3)], vm := .none },
  { cls := 29, slots := #[.int (-2)], vm := .none },
  { cls := 29, slots := #[.int (-1)], vm := .none },
  { cls := 29, slots := #[.int 0], vm := .none },
  { cls := 29, slots := #[.int 1], vm := .none },
  { cls := 29, slots := #[.int 2], vm := .none },
  { cls := 29, slots := #[.int 3], vm := .none },
  { cls := 29, slots := #[.int 4], vm := .none },
  { cls := 29, slots := #[.int 5], vm := .none },
  { cls := 29, slots := #[.int 6], vm := .none },
  { cls := 29, slots := #[.int 7], vm := .none },
  { cls := 29, slots := #[.int 8], vm := .none },
  { cls := 29, slots := #[.int 9], vm := .none },
  { cls := 29, slots := #[.int 10], vm := .none },
  { cls := 29, slots := #[.int 11], vm := .none },
  { cls := 29, slots := #[.int 12], vm := .none },
  { cls := 29, slots := #[.int 13], vm := .none },
  { cls := 29, slots := #[.int 14], vm := .none },
  { cls := 29, slots := #[.int 15], vm := .none },
  { cls := 29, slots := #[.int 16], vm := .none },
  { cls := 29, slots := #[.int 17], vm := .none },
  { cls := 29, slots := #[.int 18], vm := .none },
  { cls := 29, slots := #[.int 19], vm := .none },
  { cls := 29, slots := #[.int 20], vm := .none },
  { cls := 29, slots := #[.int 21], vm := .none },
  { cls := 29, slots := #[.int 22], vm := .none },
  { cls := 29, slots := #[.int 23], vm := .none },
  { cls := 29, slots := #[.int 24], vm := .none },
  { cls := 29, slots := #[.int 25], vm := .none },
  { cls := 29, slots := #[.int 26], vm := .none },
  { cls := 29, slots := #[.int 27], vm := .none },
  { cls := 29, slots := #[.int 28], vm := .none },
  { cls := 29, slots := #[.int 29], vm := .none },
  { cls := 29, slots := #[.int 30], vm := .none },
  { cls := 29, slots := #[.int 31], vm := .none },
  { cls := 29, slots := #[.int 32], vm := .none },
  { cls := 29, slots := #[.int 33], vm := .none },
  { cls := 29, slots := #[.int 34], vm := .none },
  { cls := 29, slots := #[.int 35], vm := .none },
  { cls := 29, slots := #[.int 36], vm := .none },
  { cls := 29, slots := #[.int 37], vm := .none },
  { cls := 29, slots := #[.int 38], vm := .none },
  { cls := 29, slots := #[.int 39], vm := .none },
  { cls := 29, slots := #[.int 40], vm := .none },
  { cls := 29, slots := #[.int 41], vm := .none },
  { cls := 29, slots := #[.int 42], vm := .none },
  { cls := 29, slots := #[.int 43], vm := .none },
  { cls := 29, slots := #[.int 44], vm := .none },
  { cls := 29, slots := #[.int 45], vm := .none },
  { cls := 29, slots := #[.int 46], vm := .none },
  { cls := 29, slots := #[.int 47], vm := .none },
  { cls := 29, slots := #[.int 48], vm := .none },
  { cls := 29, slots := #[.int 49], vm := .none },
  { cls := 29, slots := #[.int 50], vm := .none },
  { cls := 29, slots := #[.int 51], vm := .none },
  { cls := 29, slots := #[.int 52], vm := .none },
  { cls := 29, slots := #[.int 53], vm := .none },
  { cls := 29, slots := #[.int 54], vm := .none },
  { cls := 29, slots := #[.int 55], vm := .none },
  { cls := 29, slots := #[.int 56], vm := .none },
  { cls := 29, slots := #[.int 57], vm := .none },
  { cls := 29, slots := #[.int 58], vm := .none },
  { cls := 29, slots := #[.int 59], vm := .none },
  { cls := 29, slots := #[.int 60], vm := .none },
  { cls := 29, slots := #[.int 61], vm := .none },
  { cls := 29, slots := #[.int 62], vm := .none },
  { cls := 29, slots := #[.int 63], vm := .none },
  { cls := 29, slots := #[.int 64], vm := .none },
  { cls := 29, slots := #[.int 65], vm := .none },
  { cls := 29, slots := #[.int 66], vm := .none },
  { cls := 29, slots := #[.int 67], vm := .none },
  { cls := 29, slots := #[.int 68], vm := .none },
  { cls := 29, slots := #[.int 69], vm := .none },
  { cls := 29, slots := #[.int 70], vm := .none },
  { cls := 29, slots := #[.int 71], vm := .none },
  { cls := 29, slots := #[.int 72], vm := .none },
  { cls := 29, slots := #[.int 73], vm := .none },
  { cls := 29, slots := #[.int 74], vm := .none },
  { cls := 29, slots := #[.int 75], vm := .none },
  { cls := 29, slots := #[.int 76], vm := .none },
  { cls := 29, slots := #[.int 77], vm := .none },
  { cls := 29, slots := #[.int 78], vm := .none },
  { cls := 29, slots := #[.int 79], vm := .none },
  { cls := 29, slots := #[.int 80], vm := .none },
  { cls := 29, slots := #[.int 81], vm := .none },
  { cls := 29, slots := #[.int 82], vm := .none },
  { cls := 29, slots := #[.int 83], vm := .none },
  { cls := 29, slots := #[.int 84], vm := .none },
  { cls := 29, slots := #[.int 85], vm := .none },
  { cls := 29, slots := #[.int 86], vm := .none },
  { cls := 29, slots := #[.int 87], vm := .none },
  { cls := 29, slots := #[.int 88], vm := .none },
  { cls := 29, slots := #[.int 89], vm := .none },
  { cls := 29, slots := #[.int 90], vm := .none },
  { cls := 29, slots := #[.int 91], vm := .none },
  { cls := 29, slots := #[.int 92], vm := .none },
  { cls := 29, slots := #[.int 93], vm := .none },
  { cls := 29, slots := #[.int 94], vm := .none },
  { cls := 29, slots := #[.int 95], vm := .none },
  { cls := 29, slots := #[.int 96], vm := .none },
  { cls := 29, slots := #[.int 97], vm := .none },
  { cls := 29, slots := #[.int 98], vm := .none },
  { cls := 29, slots := #[.int 99], vm := .none },
  { cls := 29, slots := #[.int 100], vm := .none },
  { cls := 29, slots := #[.int 101], vm := .none },
  { cls := 29, slots := #[.int 102], vm := .none },
  { cls := 29, slots := #[.int 103], vm := .none },
  { cls := 29, slots := #[.int 104], vm := .none },
  { cls := 29, slots := #[.int 105], vm := .none },
  { cls := 29, slots := #[.int 106], vm := .none },
  { cls := 29, slots := #[.int 107], vm := .none },
  { cls := 29, slots := #[.int 108], vm := .none },
  { cls := 29, slots := #[.int 109], vm := .none },
  { cls := 29, slots := #[.int 110], vm := .none },
  { cls := 29, slots := #[.int 111], vm := .none },
  { cls := 29, slots := #[.int 112], vm := .none },
  { cls := 29, slots := #[.int 113], vm := .none },
  { cls := 29, slots := #[.int 114], vm := .none },
  { cls := 29, slots := #[.int 115], vm := .none },
  { cls := 29, slots := #[.int 116], vm := .none },
  { cls := 29, slots := #[.int 117], vm := .none },
  { cls := 29, slots := #[.int 118], vm := .none },
  { cls := 29, slots := #[.int 119], vm := .none },
  { cls := 29, slots := #[.int 120], vm := .none },
  { cls := 29, slots := #[.int 121], vm := .none },
  { cls := 29, slots := #[.int 122], vm := .none },
  { cls := 29, slots := #[.int 123], vm := .none },
  { cls := 29, slots := #[.int 124], vm := .none },
  { cls := 29, slots := #[.int 125], vm := .none },
  { cls := 29, slots := #[.int 126], vm := .none },
  { cls := 29, slots := #[.int 127], vm := .none },
  { cls := 44, slots := #[], vm := .none },
  { cls := 44, slots := #[], vm := .none }]
def classes : Array Class := #[k0, k1, k2, k3, k4, k5, k6, k7, k8, k9, k10, k11, k12, k13, k14, k15, k16, k17, k18, k19, k20, k21, k22, k23, k24, k25, k26, k27, k28, k29, k30, k31, k32, k33, k34, k35, k36, k37, k38, k39, k40, k41, k42, k43, k44, k45]
def interned : List (Array UInt16 × Addr) := []
def slotsUsed : Nat := 531
def theMethod : MethodId := ⟨1, 1⟩
def args0 : Array Value := #[.int 1, .int 1, .int 1, .int 1, .int 1]
def aboutOver (below : List Frame) : State where
  vm := { classes := classes, interned := interned.toArray }
  heap := heap
  slotsUsed := slotsUsed
  threads := #[{ frames := .invoking theMethod args0 :: below }]
def below0 : List Frame := [.native { method := ⟨0, 0⟩, args := #[] }]
def about1 : State := aboutOver below0
def p0 : Program := .bare "" "" ""
def e0 : Env := launch0.env 0 0 0
theorem w_frames : about1.frames = Frame.invoking theMethod args0 :: below0 := rfl
set_option maxRecDepth 65536 in
theorem w_args : argsFit about1.vm theMethod args0 = true := by decide +kernel
set_option maxRecDepth 65536 in
theorem w_heap : heapFits about1 = true := by decide +kernel
set_option maxRecDepth 65536 in
theorem w_runnable : about1.curStatus? = some .runnable := by decide +kernel
set_option maxRecDepth 65536 in
theorem w_alone : about1.alone = true := by decide +kernel
set_option maxRecDepth 65536 in
theorem w_named : about1.methodNamed? x = some theMethod := by decide +kernel
set_option maxRecDepth 65536 in
theorem w_hears : about1.hears theMethod below0 = true := by decide +kernel
set_option maxRecDepth 65536 in
theorem w_ripe : about1.ripe theMethod args0 below0 = true := by decide +kernel
theorem w_running : about1.status = .running := rfl
set_option maxRecDepth 65536 in
theorem w_room : about1.hasRoom e0.platform room_1 = true :=
  launch0.hasRoom_least _ room_1 (by decide +kernel) (by decide +kernel) (by decide +kernel) (by decide +kernel) (by decide +kernel) (by decide +kernel)
theorem allAtoms_all (ts : List Jvm.Cond) (a : Array Jvm.Value) (st : Jvm.State) : (allAtoms ts).before a st = ts.all (fun c => c.before a st) := by
  induction ts with
  | nil => rfl
  | cons c t ih =>
    show (Jvm.Cond.and c (allAtoms t)).before a st = _
    rw [Jvm.Cond.before_and, ih, List.all_cons]
def words1 : List Jvm.Cond := Jvm.Cond.code x code maxLocals ret :: tables_1
/-- a 'code' word, met by the world's own term for the bytes: nothing is compared byte by byte -/
theorem code_word {y : MethodName} {bytes : ByteArray} {mx : Nat} {rt : Option FieldType} {a : Array Value} {s : State} {m : MethodId} {meth : Method} {c : Code} (h1 : s.methodNamed? y = some m) (h2 : s.vm.method? m = some meth) (h3 : meth.code = some c) (h4 : c.code = bytes)
    (h5 : (c.maxLocals == mx && c.exceptionTable.isEmpty && decide (c.maxStack ≤ mostOperands) && decide (meth.sig.returnType = rt) && !meth.locks && decide (parseMethodDescriptor y.desc = some meth.sig)) = true) : (Jvm.Cond.code y bytes mx rt).before a s = true := by
  simp only [Bool.and_eq_true, beq_iff_eq, Bool.not_eq_true', decide_eq_true_eq] at h5
  obtain ⟨⟨⟨⟨⟨g1, g2⟩, g3⟩, g4⟩, g5⟩, g6⟩ := h5
  simp [Cond.before, Cond.holds, Cond.value, h1, h2, h3, h4, g1, g2, g3, g4, g5, g6]
def isCode : Jvm.Cond → Bool
  | .code _ _ _ _ => true
  | _ => false
theorem all_split {L : List Jvm.Cond} {P : Jvm.Cond → Bool} (h1 : L.all (fun c => isCode c || P c) = true) (h2 : ∀ c ∈ L.filter isCode, P c = true) : L.all P = true := by
  refine List.all_eq_true.mpr fun c hc => ?_
  have h := List.all_eq_true.mp h1 c hc
  rcases Bool.eq_false_or_eq_true (isCode c) with hi | hi
  · exact h2 c (List.mem_filter.mpr ⟨hc, hi⟩)
  · simpa [hi] using h
set_option maxRecDepth 65536 in
theorem w_c0 : (Jvm.Cond.code x code maxLocals ret).before args0 about1 = true := code_word (m := ⟨1, 1⟩) (meth := k1m1) (c := k1c1) (by decide +kernel) rfl rfl rfl (by decide +kernel)
set_option maxRecDepth 65536 in
theorem w_c1 : (Jvm.Cond.code ({ cls := "java/lang/String", name := "valueOf", desc := "(C)Ljava/lang/String;" } : Jvm.MethodName) jdk_42_method_139_code (1 : Nat) (Option.some (Jvm.ClassFile.FieldType.object "java/lang/String"))).before args0 about1 = true := code_word (m := ⟨7, 2⟩) (meth := k7m2) (c := k7c2) (by decide +kernel) rfl rfl rfl (by decide +kernel)
set_option maxRecDepth 65536 in
theorem w_c2 : (Jvm.Cond.code ({ cls := "java/lang/StringLatin1", name := "canEncode", desc := "(C)Z" } : Jvm.MethodName) jdk_43_method_3_code (1 : Nat) (Option.some Jvm.ClassFile.FieldType.boolean)).before args0 about1 = true := code_word (m := ⟨8, 1⟩) (meth := k8m1) (c := k8c1) (by decide +kernel) rfl rfl rfl (by decide +kernel)
set_option maxRecDepth 65536 in
theorem w_c3 : (Jvm.Cond.code ({ cls := "java/lang/StringLatin1", name := "toBytes", desc := "(C)[B" } : Jvm.MethodName) jdk_43_method_46_code (1 : Nat) (Option.some (Jvm.ClassFile.FieldType.array Jvm.ClassFile.FieldType.byte))).before args0 about1 = true := code_word (m := ⟨8, 3⟩) (meth := k8m3) (c := k8c3) (by decide +kernel) rfl rfl rfl (by decide +kernel)
set_option maxRecDepth 65536 in
theorem w_c4 : (Jvm.Cond.code ({ cls := "java/lang/String", name := "<init>", desc := "([BB)V" } : Jvm.MethodName) jdk_42_method_151_code (3 : Nat) (Option.none : Option Jvm.ClassFile.FieldType)).before args0 about1 = true := code_word (m := ⟨7, 3⟩) (meth := k7m3) (c := k7c3) (by decide +kernel) rfl rfl rfl (by decide +kernel)
set_option maxRecDepth 65536 in
theorem w_c5 : (Jvm.Cond.code ({ cls := "java/lang/Object", name := "<init>", desc := "()V" } : Jvm.MethodName) object_method_1_code (1 : Nat) (Option.none : Option Jvm.ClassFile.FieldType)).before args0 about1 = true := code_word (m := ⟨0, 0⟩) (meth := k0m0) (c := k0c0) (by decide +kernel) rfl rfl rfl (by decide +kernel)
set_option maxRecDepth 65536 in
theorem w_c6 : (Jvm.Cond.code ({ cls := "java/util/HashMap", name := "<init>", desc := "()V" } : Jvm.MethodName) jdk_69_method_7_code (1 : Nat) (Option.none : Option Jvm.ClassFile.FieldType)).before args0 about1 = true := code_word (m := ⟨12, 1⟩) (meth := k12m1) (c := k12c1) (by decide +kernel) rfl rfl rfl (by decide +kernel)
set_option maxRecDepth 65536 in
theorem w_c7 : (Jvm.Cond.code ({ cls := "java/util/AbstractMap", name := "<init>", desc := "()V" } : Jvm.MethodName) jdk_71_method_1_code (1 : Nat) (Option.none : Option Jvm.ClassFile.FieldType)).before args0 about1 = true := code_word (m := ⟨10, 0⟩) (meth := k10m0) (c := k10c0) (by decide +kernel) rfl rfl rfl (by decide +kernel)
set_option maxRecDepth 65536 in
theorem w_c8 : (Jvm.Cond.code ({ cls := "java/util/ArrayList", name := "<init>", desc := "()V" } : Jvm.MethodName) jdk_38_method_2_code (1 : Nat) (Option.none : Option Jvm.ClassFile.FieldType)).before args0 about1 = true := code_word (m := ⟨20, 0⟩) (meth := k20m0) (c := k20c0) (by decide +kernel) rfl rfl rfl (by decide +kernel)
set_option maxRecDepth 65536 in
theorem w_c9 : (Jvm.Cond.code ({ cls := "java/util/AbstractList", name := "<init>", desc := "()V" } : Jvm.MethodName) jdk_39_method_1_code (1 : Nat) (Option.none : Option Jvm.ClassFile.FieldType)).before args0 about1 = true := code_word (m := ⟨18, 0⟩) (meth := k18m0) (c := k18c0) (by decide +kernel) rfl rfl rfl (by decide +kernel)
set_option maxRecDepth 65536 in
theorem w_c10 : (Jvm.Cond.code ({ cls := "java/util/AbstractCollection", name := "<init>", desc := "()V" } : Jvm.MethodName) jdk_22_method_1_code (1 : Nat) (Option.none : Option Jvm.ClassFile.FieldType)).before args0 about1 = true := code_word (m := ⟨15, 0⟩) (meth := k15m0) (c := k15c0) (by decide +kernel) rfl rfl rfl (by decide +kernel)
set_option maxRecDepth 65536 in
theorem w_c11 : (Jvm.Cond.code ({ cls := "com/example/inq2/inq2/JudgedRanking", name := "<init>", desc := "(Ljava/util/List;Ljava/util/Map;)V" } : Jvm.MethodName) prog_8_method_1_code (7 : Nat) (Option.none : Option Jvm.ClassFile.FieldType)).before args0 about1 = true := code_word (m := ⟨21, 0⟩) (meth := k21m0) (c := k21c0) (by decide +kernel) rfl rfl rfl (by decide +kernel)
set_option maxRecDepth 65536 in
theorem w_c12 : (Jvm.Cond.code ({ cls := "java/util/ArrayList", name := "size", desc := "()I" } : Jvm.MethodName) jdk_38_method_8_code (1 : Nat) (Option.some Jvm.ClassFile.FieldType.int)).before args0 about1 = true := code_word (m := ⟨20, 3⟩) (meth := k20m3) (c := k20c3) (by decide +kernel) rfl rfl rfl (by decide +kernel)
set_option maxRecDepth 65536 in
theorem w_c13 : (Jvm.Cond.code ({ cls := "java/util/HashMap", name := "size", desc := "()I" } : Jvm.MethodName) jdk_69_method_10_code (1 : Nat) (Option.some Jvm.ClassFile.FieldType.int)).before args0 about1 = true := code_word (m := ⟨12, 2⟩) (meth := k12m2) (c := k12c2) (by decide +kernel) rfl rfl rfl (by decide +kernel)
set_option maxRecDepth 65536 in
theorem w_c14 : (Jvm.Cond.code ({ cls := "java/util/HashMap", name := "values", desc := "()Ljava/util/Collection;" } : Jvm.MethodName) jdk_69_method_28_code (2 : Nat) (Option.some (Jvm.ClassFile.FieldType.object "java/util/Collection"))).before args0 about1 = true := code_word (m := ⟨12, 7⟩) (meth := k12m7) (c := k12c7) (by decide +kernel) rfl rfl rfl (by decide +kernel)
set_option maxRecDepth 65536 in
theorem w_c15 : (Jvm.Cond.code ({ cls := "java/util/HashMap$Values", name := "<init>", desc := "(Ljava/util/HashMap;)V" } : Jvm.MethodName) jdk_2571_method_1_code (2 : Nat) (Option.none : Option Jvm.ClassFile.FieldType)).before args0 about1 = true := code_word (m := ⟨22, 0⟩) (meth := k22m0) (c := k22c0) (by decide +kernel) rfl rfl rfl (by decide +kernel)
set_option maxRecDepth 65536 in
theorem w_c16 : (Jvm.Cond.code ({ cls := "java/util/HashMap$Values", name := "iterator", desc := "()Ljava/util/Iterator;" } : Jvm.MethodName) jdk_2571_method_4_code (1 : Nat) (Option.some (Jvm.ClassFile.FieldType.object "java/util/Iterator"))).before args0 about1 = true := code_word (m := ⟨22, 1⟩) (meth := k22m1) (c := k22c1) (by decide +kernel) rfl rfl rfl (by decide +kernel)
set_option maxRecDepth 65536 in
theorem w_c17 : (Jvm.Cond.code ({ cls := "java/util/HashMap$ValueIterator", name := "<init>", desc := "(Ljava/util/HashMap;)V" } : Jvm.MethodName) jdk_2569_method_1_code (2 : Nat) (Option.none : Option Jvm.ClassFile.FieldType)).before args0 about1 = true := code_word (m := ⟨25, 0⟩) (meth := k25m0) (c := k25c0) (by decide +kernel) rfl rfl rfl (by decide +kernel)
set_option maxRecDepth 65536 in
theorem w_c18 : (Jvm.Cond.code ({ cls := "java/util/HashMap$HashIterator", name := "<init>", desc := "(Ljava/util/HashMap;)V" } : Jvm.MethodName) jdk_99_method_1_code (3 : Nat) (Option.none : Option Jvm.ClassFile.FieldType)).before args0 about1 = true := code_word (m := ⟨23, 0⟩) (meth := k23m0) (c := k23c0) (by decide +kernel) rfl rfl rfl (by decide +kernel)
set_option maxRecDepth 65536 in
theorem w_c19 : (Jvm.Cond.code ({ cls := "java/util/HashMap$HashIterator", name := "hasNext", desc := "()Z" } : Jvm.MethodName) jdk_99_method_2_code (1 : Nat) (Option.some Jvm.ClassFile.FieldType.boolean)).before args0 about1 = true := code_word (m := ⟨23, 1⟩) (meth := k23m1) (c := k23c1) (by decide +kernel) rfl rfl rfl (by decide +kernel)
set_option maxRecDepth 65536 in
theorem w_c20 : (Jvm.Cond.code ({ cls := "java/util/Arrays", name := "copyOf", desc := "([II)[I" } : Jvm.MethodName) jdk_65_method_123_code (3 : Nat) (Option.some (Jvm.ClassFile.FieldType.array Jvm.ClassFile.FieldType.int))).before args0 about1 = true := code_word (m := ⟨26, 2⟩) (meth := k26m2) (c := k26c2) (by decide +kernel) rfl rfl rfl (by decide +kernel)
set_option maxRecDepth 65536 in
theorem w_c21 : (Jvm.Cond.code ({ cls := "java/util/Arrays", name := "sort", desc := "([I)V" } : Jvm.MethodName) jdk_65_method_2_code (1 : Nat) (Option.none : Option Jvm.ClassFile.FieldType)).before args0 about1 = true := code_word (m := ⟨26, 1⟩) (meth := k26m1) (c := k26c1) (by decide +kernel) rfl rfl rfl (by decide +kernel)
set_option maxRecDepth 65536 in
theorem w_c22 : (Jvm.Cond.code ({ cls := "java/util/DualPivotQuicksort", name := "sort", desc := "([IIII)V" } : Jvm.MethodName) jdk_2529_method_3_code (7 : Nat) (Option.none : Option Jvm.ClassFile.FieldType)).before args0 about1 = true := code_word (m := ⟨27, 1⟩) (meth := k27m1) (c := k27c1) (by decide +kernel) rfl rfl rfl (by decide +kernel)
set_option maxRecDepth 65536 in
theorem w_c23 : (Jvm.Cond.code ({ cls := "java/util/DualPivotQuicksort", name := "sort", desc := "(Ljava/util/DualPivotQuicksort$Sorter;[IIII)V" } : Jvm.MethodName) jdk_2529_method_4_code (21 : Nat) (Option.none : Option Jvm.ClassFile.FieldType)).before args0 about1 = true := code_word (m := ⟨27, 2⟩) (meth := k27m2) (c := k27c2) (by decide +kernel) rfl rfl rfl (by decide +kernel)
set_option maxRecDepth 65536 in
theorem w_c24 : (Jvm.Cond.code ({ cls := "java/util/DualPivotQuicksort", name := "insertionSort", desc := "([III)V" } : Jvm.MethodName) jdk_2529_method_6_code (6 : Nat) (Option.none : Option Jvm.ClassFile.FieldType)).before args0 about1 = true := code_word (m := ⟨27, 3⟩) (meth := k27m3) (c := k27c3) (by decide +kernel) rfl rfl rfl (by decide +kernel)
set_option maxRecDepth 65536 in
theorem w_c25 : (Jvm.Cond.code ({ cls := "com/example/inq2/inq2/JudgedRanking", name := "reverse", desc := "([I)V" } : Jvm.MethodName) prog_8_method_11_code (4 : Nat) (Option.none : Option Jvm.ClassFile.FieldType)).before args0 about1 = true := code_word (m := ⟨21, 3⟩) (meth := k21m3) (c := k21c3) (by decide +kernel) rfl rfl rfl (by decide +kernel)
set_option maxRecDepth 65536 in
theorem w_c26 : (Jvm.Cond.code ({ cls := "com/example/inq2/inq2/JudgedRanking", name := "averagePrecision", desc := "()D" } : Jvm.MethodName) prog_8_method_5_code (5 : Nat) (Option.some Jvm.ClassFile.FieldType.double)).before args0 about1 = true := code_word (m := ⟨21, 2⟩) (meth := k21m2) (c := k21c2) (by decide +kernel) rfl rfl rfl (by decide +kernel)
set_option maxRecDepth 65536 in
theorem w_c27 : (Jvm.Cond.code ({ cls := "com/example/inq2/inq2/JudgedRanking", name := "relevant", desc := "()I" } : Jvm.MethodName) prog_8_method_3_code (1 : Nat) (Option.some Jvm.ClassFile.FieldType.int)).before args0 about1 = true := code_word (m := ⟨21, 1⟩) (meth := k21m1) (c := k21c1) (by decide +kernel) rfl rfl rfl (by decide +kernel)
set_option maxRecDepth 65536 in
theorem w_c28 : (Jvm.Cond.code ({ cls := "java/lang/Integer", name := "valueOf", desc := "(I)Ljava/lang/Integer;" } : Jvm.MethodName) jdk_33_method_22_code (1 : Nat) (Option.some (Jvm.ClassFile.FieldType.object "java/lang/Integer"))).before args0 about1 = true := code_word (m := ⟨29, 0⟩) (meth := k29m0) (c := k29c0) (by decide +kernel) rfl rfl rfl (by decide +kernel)
set_option maxRecDepth 65536 in
theorem w_c29 : (Jvm.Cond.code ({ cls := "java/util/HashMap", name := "put", desc := "(Ljava/lang/Object;Ljava/lang/Object;)Ljava/lang/Object;" } : Jvm.MethodName) jdk_69_method_15_code (3 : Nat) (Option.some (Jvm.ClassFile.FieldType.object "java/lang/Object"))).before args0 about1 = true := code_word (m := ⟨12, 4⟩) (meth := k12m4) (c := k12c4) (by decide +kernel) rfl rfl rfl (by decide +kernel)
set_option maxRecDepth 65536 in
theorem w_c30 : (Jvm.Cond.code ({ cls := "java/util/HashMap", name := "hash", desc := "(Ljava/lang/Object;)I" } : Jvm.MethodName) jdk_69_method_1_code (2 : Nat) (Option.some Jvm.ClassFile.FieldType.int)).before args0 about1 = true := code_word (m := ⟨12, 0⟩) (meth := k12m0) (c := k12c0) (by decide +kernel) rfl rfl rfl (by decide +kernel)
set_option maxRecDepth 65536 in
theorem w_c31 : (Jvm.Cond.code ({ cls := "java/lang/String", name := "hashCode", desc := "()I" } : Jvm.MethodName) jdk_42_method_78_code (2 : Nat) (Option.some Jvm.ClassFile.FieldType.int)).before args0 about1 = true := code_word (m := ⟨7, 1⟩) (meth := k7m1) (c := k7c1) (by decide +kernel) rfl rfl rfl (by decide +kernel)
set_option maxRecDepth 65536 in
theorem w_c32 : (Jvm.Cond.code ({ cls := "java/lang/String", name := "isLatin1", desc := "()Z" } : Jvm.MethodName) jdk_42_method_154_code (1 : Nat) (Option.some Jvm.ClassFile.FieldType.boolean)).before args0 about1 = true := code_word (m := ⟨7, 4⟩) (meth := k7m4) (c := k7c4) (by decide +kernel) rfl rfl rfl (by decide +kernel)
set_option maxRecDepth 65536 in
theorem w_c33 : (Jvm.Cond.code ({ cls := "java/lang/StringLatin1", name := "hashCode", desc := "([B)I" } : Jvm.MethodName) jdk_43_method_21_code (1 : Nat) (Option.some Jvm.ClassFile.FieldType.int)).before args0 about1 = true := code_word (m := ⟨8, 2⟩) (meth := k8m2) (c := k8c2) (by decide +kernel) rfl rfl rfl (by decide +kernel)
set_option maxRecDepth 65536 in
theorem w_c34 : (Jvm.Cond.code ({ cls := "java/util/HashMap", name := "putVal", desc := "(ILjava/lang/Object;Ljava/lang/Object;ZZ)Ljava/lang/Object;" } : Jvm.MethodName) jdk_69_method_16_code (13 : Nat) (Option.some (Jvm.ClassFile.FieldType.object "java/lang/Object"))).before args0 about1 = true := code_word (m := ⟨12, 5⟩) (meth := k12m5) (c := k12c5) (by decide +kernel) rfl rfl rfl (by decide +kernel)
set_option maxRecDepth 65536 in
theorem w_c35 : (Jvm.Cond.code ({ cls := "java/util/HashMap", name := "resize", desc := "()[Ljava/util/HashMap$Node;" } : Jvm.MethodName) jdk_69_method_17_code (14 : Nat) (Option.some (Jvm.ClassFile.FieldType.array (Jvm.ClassFile.FieldType.object "java/util/HashMap$Node")))).before args0 about1 = true := code_word (m := ⟨12, 6⟩) (meth := k12m6) (c := k12c6) (by decide +kernel) rfl rfl rfl (by decide +kernel)
set_option maxRecDepth 65536 in
theorem w_c36 : (Jvm.Cond.code ({ cls := "java/util/HashMap", name := "newNode", desc := "(ILjava/lang/Object;Ljava/lang/Object;Ljava/util/HashMap$Node;)Ljava/util/HashMap$Node;" } : Jvm.MethodName) jdk_69_method_46_code (5 : Nat) (Option.some (Jvm.ClassFile.FieldType.object "java/util/HashMap$Node"))).before args0 about1 = true := code_word (m := ⟨12, 9⟩) (meth := k12m9) (c := k12c9) (by decide +kernel) rfl rfl rfl (by decide +kernel)
set_option maxRecDepth 65536 in
theorem w_c37 : (Jvm.Cond.code ({ cls := "java/util/HashMap$Node", name := "<init>", desc := "(ILjava/lang/Object;Ljava/lang/Object;Ljava/util/HashMap$Node;)V" } : Jvm.MethodName) jdk_70_method_1_code (5 : Nat) (Option.none : Option Jvm.ClassFile.FieldType)).before args0 about1 = true := code_word (m := ⟨32, 0⟩) (meth := k32m0) (c := k32c0) (by decide +kernel) rfl rfl rfl (by decide +kernel)
set_option maxRecDepth 65536 in
theorem w_c38 : (Jvm.Cond.code ({ cls := "java/util/HashMap", name := "afterNodeInsertion", desc := "(Z)V" } : Jvm.MethodName) jdk_69_method_52_code (2 : Nat) (Option.none : Option Jvm.ClassFile.FieldType)).before args0 about1 = true := code_word (m := ⟨12, 10⟩) (meth := k12m10) (c := k12c10) (by decide +kernel) rfl rfl rfl (by decide +kernel)
set_option maxRecDepth 65536 in
theorem w_c39 : (Jvm.Cond.code ({ cls := "com/example/inq2/inq2/ScoredDocument", name := "<init>", desc := "(Ljava/lang/String;D)V" } : Jvm.MethodName) prog_19_method_1_code (4 : Nat) (Option.none : Option Jvm.ClassFile.FieldType)).before args0 about1 = true := code_word (m := ⟨33, 0⟩) (meth := k33m0) (c := k33c0) (by decide +kernel) rfl rfl rfl (by decide +kernel)
set_option maxRecDepth 65536 in
theorem w_c40 : (Jvm.Cond.code ({ cls := "java/util/ArrayList", name := "add", desc := "(Ljava/lang/Object;)Z" } : Jvm.MethodName) jdk_38_method_25_code (2 : Nat) (Option.some Jvm.ClassFile.FieldType.boolean)).before args0 about1 = true := code_word (m := ⟨20, 7⟩) (meth := k20m7) (c := k20c7) (by decide +kernel) rfl rfl rfl (by decide +kernel)
set_option maxRecDepth 65536 in
theorem w_c41 : (Jvm.Cond.code ({ cls := "java/util/ArrayList", name := "add", desc := "(Ljava/lang/Object;[Ljava/lang/Object;I)V" } : Jvm.MethodName) jdk_38_method_24_code (4 : Nat) (Option.none : Option Jvm.ClassFile.FieldType)).before args0 about1 = true := code_word (m := ⟨20, 6⟩) (meth := k20m6) (c := k20c6) (by decide +kernel) rfl rfl rfl (by decide +kernel)
set_option maxRecDepth 65536 in
theorem w_c42 : (Jvm.Cond.code ({ cls := "java/util/ArrayList", name := "grow", desc := "()[Ljava/lang/Object;" } : Jvm.MethodName) jdk_38_method_7_code (1 : Nat) (Option.some (Jvm.ClassFile.FieldType.array (Jvm.ClassFile.FieldType.object "java/lang/Object")))).before args0 about1 = true := code_word (m := ⟨20, 2⟩) (meth := k20m2) (c := k20c2) (by decide +kernel) rfl rfl rfl (by decide +kernel)
set_option maxRecDepth 65536 in
theorem w_c43 : (Jvm.Cond.code ({ cls := "java/util/ArrayList", name := "grow", desc := "(I)[Ljava/lang/Object;" } : Jvm.MethodName) jdk_38_method_6_code (4 : Nat) (Option.some (Jvm.ClassFile.FieldType.array (Jvm.ClassFile.FieldType.object "java/lang/Object")))).before args0 about1 = true := code_word (m := ⟨20, 1⟩) (meth := k20m1) (c := k20c1) (by decide +kernel) rfl rfl rfl (by decide +kernel)
set_option maxRecDepth 65536 in
theorem w_c44 : (Jvm.Cond.code ({ cls := "java/lang/Math", name := "max", desc := "(II)I" } : Jvm.MethodName) jdk_29_method_65_code (2 : Nat) (Option.some Jvm.ClassFile.FieldType.int)).before args0 about1 = true := code_word (m := ⟨34, 1⟩) (meth := k34m1) (c := k34c1) (by decide +kernel) rfl rfl rfl (by decide +kernel)
set_option maxRecDepth 65536 in
theorem w_c45 : (Jvm.Cond.code ({ cls := "java/util/ArrayList", name := "get", desc := "(I)Ljava/lang/Object;" } : Jvm.MethodName) jdk_38_method_20_code (2 : Nat) (Option.some (Jvm.ClassFile.FieldType.object "java/lang/Object"))).before args0 about1 = true := code_word (m := ⟨20, 5⟩) (meth := k20m5) (c := k20c5) (by decide +kernel) rfl rfl rfl (by decide +kernel)
set_option maxRecDepth 65536 in
theorem w_c46 : (Jvm.Cond.code ({ cls := "java/util/Objects", name := "checkIndex", desc := "(II)I" } : Jvm.MethodName) jdk_31_method_17_code (2 : Nat) (Option.some Jvm.ClassFile.FieldType.int)).before args0 about1 = true := code_word (m := ⟨35, 1⟩) (meth := k35m1) (c := k35c1) (by decide +kernel) rfl rfl rfl (by decide +kernel)
set_option maxRecDepth 65536 in
theorem w_c47 : (Jvm.Cond.code ({ cls := "jdk/internal/util/Preconditions", name := "checkIndex", desc := "(IILjava/util/function/BiFunction;)I" } : Jvm.MethodName) jdk_41_method_11_code (3 : Nat) (Option.some Jvm.ClassFile.FieldType.int)).before args0 about1 = true := code_word (m := ⟨36, 1⟩) (meth := k36m1) (c := k36c1) (by decide +kernel) rfl rfl rfl (by decide +kernel)
set_option maxRecDepth 65536 in
theorem w_c48 : (Jvm.Cond.code ({ cls := "java/util/ArrayList", name := "elementData", desc := "(I)Ljava/lang/Object;" } : Jvm.MethodName) jdk_38_method_18_code (2 : Nat) (Option.some (Jvm.ClassFile.FieldType.object "java/lang/Object"))).before args0 about1 = true := code_word (m := ⟨20, 4⟩) (meth := k20m4) (c := k20c4) (by decide +kernel) rfl rfl rfl (by decide +kernel)
set_option maxRecDepth 65536 in
theorem w_c49 : (Jvm.Cond.code ({ cls := "com/example/inq2/inq2/ScoredDocument", name := "document", desc := "()Ljava/lang/String;" } : Jvm.MethodName) prog_19_method_2_code (1 : Nat) (Option.some (Jvm.ClassFile.FieldType.object "java/lang/String"))).before args0 about1 = true := code_word (m := ⟨33, 1⟩) (meth := k33m1) (c := k33c1) (by decide +kernel) rfl rfl rfl (by decide +kernel)
set_option maxRecDepth 65536 in
theorem w_c50 : (Jvm.Cond.code ({ cls := "java/util/HashMap", name := "getOrDefault", desc := "(Ljava/lang/Object;Ljava/lang/Object;)Ljava/lang/Object;" } : Jvm.MethodName) jdk_69_method_30_code (4 : Nat) (Option.some (Jvm.ClassFile.FieldType.object "java/lang/Object"))).before args0 about1 = true := code_word (m := ⟨12, 8⟩) (meth := k12m8) (c := k12c8) (by decide +kernel) rfl rfl rfl (by decide +kernel)
set_option maxRecDepth 65536 in
theorem w_c51 : (Jvm.Cond.code ({ cls := "java/util/HashMap", name := "getNode", desc := "(Ljava/lang/Object;)Ljava/util/HashMap$Node;" } : Jvm.MethodName) jdk_69_method_13_code (8 : Nat) (Option.some (Jvm.ClassFile.FieldType.object "java/util/HashMap$Node"))).before args0 about1 = true := code_word (m := ⟨12, 3⟩) (meth := k12m3) (c := k12c3) (by decide +kernel) rfl rfl rfl (by decide +kernel)
set_option maxRecDepth 65536 in
theorem w_c52 : (Jvm.Cond.code ({ cls := "java/lang/Integer", name := "intValue", desc := "()I" } : Jvm.MethodName) jdk_33_method_27_code (1 : Nat) (Option.some Jvm.ClassFile.FieldType.int)).before args0 about1 = true := code_word (m := ⟨29, 2⟩) (meth := k29m2) (c := k29c2) (by decide +kernel) rfl rfl rfl (by decide +kernel)
set_option maxRecDepth 65536 in
theorem w_c53 : (Jvm.Cond.code ({ cls := "java/util/HashMap$ValueIterator", name := "next", desc := "()Ljava/lang/Object;" } : Jvm.MethodName) jdk_2569_method_2_code (1 : Nat) (Option.some (Jvm.ClassFile.FieldType.object "java/lang/Object"))).before args0 about1 = true := code_word (m := ⟨25, 1⟩) (meth := k25m1) (c := k25c1) (by decide +kernel) rfl rfl rfl (by decide +kernel)
set_option maxRecDepth 65536 in
theorem w_c54 : (Jvm.Cond.code ({ cls := "java/util/HashMap$HashIterator", name := "nextNode", desc := "()Ljava/util/HashMap$Node;" } : Jvm.MethodName) jdk_99_method_3_code (3 : Nat) (Option.some (Jvm.ClassFile.FieldType.object "java/util/HashMap$Node"))).before args0 about1 = true := code_word (m := ⟨23, 2⟩) (meth := k23m2) (c := k23c2) (by decide +kernel) rfl rfl rfl (by decide +kernel)
set_option maxRecDepth 65536 in
theorem w_c55 : (Jvm.Cond.code ({ cls := "java/lang/Integer", name := "<init>", desc := "(I)V" } : Jvm.MethodName) jdk_33_method_23_code (2 : Nat) (Option.none : Option Jvm.ClassFile.FieldType)).before args0 about1 = true := code_word (m := ⟨29, 1⟩) (meth := k29m1) (c := k29c1) (by decide +kernel) rfl rfl rfl (by decide +kernel)
set_option maxRecDepth 65536 in
theorem w_c56 : (Jvm.Cond.code ({ cls := "java/lang/Number", name := "<init>", desc := "()V" } : Jvm.MethodName) jdk_18_method_1_code (1 : Nat) (Option.none : Option Jvm.ClassFile.FieldType)).before args0 about1 = true := code_word (m := ⟨28, 0⟩) (meth := k28m0) (c := k28c0) (by decide +kernel) rfl rfl rfl (by decide +kernel)
set_option maxRecDepth 65536 in
theorem w_c57 : (Jvm.Cond.code ({ cls := "java/lang/Math", name := "min", desc := "(II)I" } : Jvm.MethodName) jdk_29_method_69_code (2 : Nat) (Option.some Jvm.ClassFile.FieldType.int)).before args0 about1 = true := code_word (m := ⟨34, 2⟩) (meth := k34m2) (c := k34c2) (by decide +kernel) rfl rfl rfl (by decide +kernel)
def codes1 : List Jvm.Cond := [Jvm.Cond.code x code maxLocals ret, Jvm.Cond.code ({ cls := "java/lang/String", name := "valueOf", desc := "(C)Ljava/lang/String;" } : Jvm.MethodName) jdk_42_method_139_code (1 : Nat) (Option.some (Jvm.ClassFile.FieldType.object "java/lang/String")), Jvm.Cond.code ({ cls := "java/lang/StringLatin1", name := "canEncode", desc := "(C)Z" } : Jvm.MethodName) jdk_43_method_3_code (1 : Nat) (Option.some Jvm.ClassFile.FieldType.boolean), Jvm.Cond.code ({ cls := "java/lang/StringLatin1", name := "toBytes", desc := "(C)[B" } : Jvm.MethodName) jdk_43_method_46_code (1 : Nat) (Option.some (Jvm.ClassFile.FieldType.array Jvm.ClassFile.FieldType.byte)), Jvm.Cond.code ({ cls := "java/lang/String", name := "<init>", desc := "([BB)V" } : Jvm.MethodName) jdk_42_method_151_code (3 : Nat) (Option.none : Option Jvm.ClassFile.FieldType), Jvm.Cond.code ({ cls := "java/lang/Object", name := "<init>", desc := "()V" } : Jvm.MethodName) object_method_1_code (1 : Nat) (Option.none : Option Jvm.ClassFile.FieldType), Jvm.Cond.code ({ cls := "java/util/HashMap", name := "<init>", desc := "()V" } : Jvm.MethodName) jdk_69_method_7_code (1 : Nat) (Option.none : Option Jvm.ClassFile.FieldType), Jvm.Cond.code ({ cls := "java/util/AbstractMap", name := "<init>", desc := "()V" } : Jvm.MethodName) jdk_71_method_1_code (1 : Nat) (Option.none : Option Jvm.ClassFile.FieldType), Jvm.Cond.code ({ cls := "java/util/ArrayList", name := "<init>", desc := "()V" } : Jvm.MethodName) jdk_38_method_2_code (1 : Nat) (Option.none : Option Jvm.ClassFile.FieldType), Jvm.Cond.code ({ cls := "java/util/AbstractList", name := "<init>", desc := "()V" } : Jvm.MethodName) jdk_39_method_1_code (1 : Nat) (Option.none : Option Jvm.ClassFile.FieldType), Jvm.Cond.code ({ cls := "java/util/AbstractCollection", name := "<init>", desc := "()V" } : Jvm.MethodName) jdk_22_method_1_code (1 : Nat) (Option.none : Option Jvm.ClassFile.FieldType), Jvm.Cond.code ({ cls := "com/example/inq2/inq2/JudgedRanking", name := "<init>", desc := "(Ljava/util/List;Ljava/util/Map;)V" } : Jvm.MethodName) prog_8_method_1_code (7 : Nat) (Option.none : Option Jvm.ClassFile.FieldType), Jvm.Cond.code ({ cls := "java/util/ArrayList", name := "size", desc := "()I" } : Jvm.MethodName) jdk_38_method_8_code (1 : Nat) (Option.some Jvm.ClassFile.FieldType.int), Jvm.Cond.code ({ cls := "java/util/HashMap", name := "size", desc := "()I" } : Jvm.MethodName) jdk_69_method_10_code (1 : Nat) (Option.some Jvm.ClassFile.FieldType.int), Jvm.Cond.code ({ cls := "java/util/HashMap", name := "values", desc := "()Ljava/util/Collection;" } : Jvm.MethodName) jdk_69_method_28_code (2 : Nat) (Option.some (Jvm.ClassFile.FieldType.object "java/util/Collection")), Jvm.Cond.code ({ cls := "java/util/HashMap$Values", name := "<init>", desc := "(Ljava/util/HashMap;)V" } : Jvm.MethodName) jdk_2571_method_1_code (2 : Nat) (Option.none : Option Jvm.ClassFile.FieldType), Jvm.Cond.code ({ cls := "java/util/HashMap$Values", name := "iterator", desc := "()Ljava/util/Iterator;" } : Jvm.MethodName) jdk_2571_method_4_code (1 : Nat) (Option.some (Jvm.ClassFile.FieldType.object "java/util/Iterator")), Jvm.Cond.code ({ cls := "java/util/HashMap$ValueIterator", name := "<init>", desc := "(Ljava/util/HashMap;)V" } : Jvm.MethodName) jdk_2569_method_1_code (2 : Nat) (Option.none : Option Jvm.ClassFile.FieldType), Jvm.Cond.code ({ cls := "java/util/HashMap$HashIterator", name := "<init>", desc := "(Ljava/util/HashMap;)V" } : Jvm.MethodName) jdk_99_method_1_code (3 : Nat) (Option.none : Option Jvm.ClassFile.FieldType), Jvm.Cond.code ({ cls := "java/util/HashMap$HashIterator", name := "hasNext", desc := "()Z" } : Jvm.MethodName) jdk_99_method_2_code (1 : Nat) (Option.some Jvm.ClassFile.FieldType.boolean), Jvm.Cond.code ({ cls := "java/util/Arrays", name := "copyOf", desc := "([II)[I" } : Jvm.MethodName) jdk_65_method_123_code (3 : Nat) (Option.some (Jvm.ClassFile.FieldType.array Jvm.ClassFile.FieldType.int)), Jvm.Cond.code ({ cls := "java/util/Arrays", name := "sort", desc := "([I)V" } : Jvm.MethodName) jdk_65_method_2_code (1 : Nat) (Option.none : Option Jvm.ClassFile.FieldType), Jvm.Cond.code ({ cls := "java/util/DualPivotQuicksort", name := "sort", desc := "([IIII)V" } : Jvm.MethodName) jdk_2529_method_3_code (7 : Nat) (Option.none : Option Jvm.ClassFile.FieldType), Jvm.Cond.code ({ cls := "java/util/DualPivotQuicksort", name := "sort", desc := "(Ljava/util/DualPivotQuicksort$Sorter;[IIII)V" } : Jvm.MethodName) jdk_2529_method_4_code (21 : Nat) (Option.none : Option Jvm.ClassFile.FieldType), Jvm.Cond.code ({ cls := "java/util/DualPivotQuicksort", name := "insertionSort", desc := "([III)V" } : Jvm.MethodName) jdk_2529_method_6_code (6 : Nat) (Option.none : Option Jvm.ClassFile.FieldType), Jvm.Cond.code ({ cls := "com/example/inq2/inq2/JudgedRanking", name := "reverse", desc := "([I)V" } : Jvm.MethodName) prog_8_method_11_code (4 : Nat) (Option.none : Option Jvm.ClassFile.FieldType), Jvm.Cond.code ({ cls := "com/example/inq2/inq2/JudgedRanking", name := "averagePrecision", desc := "()D" } : Jvm.MethodName) prog_8_method_5_code (5 : Nat) (Option.some Jvm.ClassFile.FieldType.double), Jvm.Cond.code ({ cls := "com/example/inq2/inq2/JudgedRanking", name := "relevant", desc := "()I" } : Jvm.MethodName) prog_8_method_3_code (1 : Nat) (Option.some Jvm.ClassFile.FieldType.int), Jvm.Cond.code ({ cls := "java/lang/Integer", name := "valueOf", desc := "(I)Ljava/lang/Integer;" } : Jvm.MethodName) jdk_33_method_22_code (1 : Nat) (Option.some (Jvm.ClassFile.FieldType.object "java/lang/Integer")), Jvm.Cond.code ({ cls := "java/util/HashMap", name := "put", desc := "(Ljava/lang/Object;Ljava/lang/Object;)Ljava/lang/Object;" } : Jvm.MethodName) jdk_69_method_15_code (3 : Nat) (Option.some (Jvm.ClassFile.FieldType.object "java/lang/Object")), Jvm.Cond.code ({ cls := "java/util/HashMap", name := "hash", desc := "(Ljava/lang/Object;)I" } : Jvm.MethodName) jdk_69_method_1_code (2 : Nat) (Option.some Jvm.ClassFile.FieldType.int), Jvm.Cond.code ({ cls := "java/lang/String", name := "hashCode", desc := "()I" } : Jvm.MethodName) jdk_42_method_78_code (2 : Nat) (Option.some Jvm.ClassFile.FieldType.int), Jvm.Cond.code ({ cls := "java/lang/String", name := "isLatin1", desc := "()Z" } : Jvm.MethodName) jdk_42_method_154_code (1 : Nat) (Option.some Jvm.ClassFile.FieldType.boolean), Jvm.Cond.code ({ cls := "java/lang/StringLatin1", name := "hashCode", desc := "([B)I" } : Jvm.MethodName) jdk_43_method_21_code (1 : Nat) (Option.some Jvm.ClassFile.FieldType.int), Jvm.Cond.code ({ cls := "java/util/HashMap", name := "putVal", desc := "(ILjava/lang/Object;Ljava/lang/Object;ZZ)Ljava/lang/Object;" } : Jvm.MethodName) jdk_69_method_16_code (13 : Nat) (Option.some (Jvm.ClassFile.FieldType.object "java/lang/Object")), Jvm.Cond.code ({ cls := "java/util/HashMap", name := "resize", desc := "()[Ljava/util/HashMap$Node;" } : Jvm.MethodName) jdk_69_method_17_code (14 : Nat) (Option.some (Jvm.ClassFile.FieldType.array (Jvm.ClassFile.FieldType.object "java/util/HashMap$Node"))), Jvm.Cond.code ({ cls := "java/util/HashMap", name := "newNode", desc := "(ILjava/lang/Object;Ljava/lang/Object;Ljava/util/HashMap$Node;)Ljava/util/HashMap$Node;" } : Jvm.MethodName) jdk_69_method_46_code (5 : Nat) (Option.some (Jvm.ClassFile.FieldType.object "java/util/HashMap$Node")), Jvm.Cond.code ({ cls := "java/util/HashMap$Node", name := "<init>", desc := "(ILjava/lang/Object;Ljava/lang/Object;Ljava/util/HashMap$Node;)V" } : Jvm.MethodName) jdk_70_method_1_code (5 : Nat) (Option.none : Option Jvm.ClassFile.FieldType), Jvm.Cond.code ({ cls := "java/util/HashMap", name := "afterNodeInsertion", desc := "(Z)V" } : Jvm.MethodName) jdk_69_method_52_code (2 : Nat) (Option.none : Option Jvm.ClassFile.FieldType), Jvm.Cond.code ({ cls := "com/example/inq2/inq2/ScoredDocument", name := "<init>", desc := "(Ljava/lang/String;D)V" } : Jvm.MethodName) prog_19_method_1_code (4 : Nat) (Option.none : Option Jvm.ClassFile.FieldType), Jvm.Cond.code ({ cls := "java/util/ArrayList", name := "add", desc := "(Ljava/lang/Object;)Z" } : Jvm.MethodName) jdk_38_method_25_code (2 : Nat) (Option.some Jvm.ClassFile.FieldType.boolean), Jvm.Cond.code ({ cls := "java/util/ArrayList", name := "add", desc := "(Ljava/lang/Object;[Ljava/lang/Object;I)V" } : Jvm.MethodName) jdk_38_method_24_code (4 : Nat) (Option.none : Option Jvm.ClassFile.FieldType), Jvm.Cond.code ({ cls := "java/util/ArrayList", name := "grow", desc := "()[Ljava/lang/Object;" } : Jvm.MethodName) jdk_38_method_7_code (1 : Nat) (Option.some (Jvm.ClassFile.FieldType.array (Jvm.ClassFile.FieldType.object "java/lang/Object"))), Jvm.Cond.code ({ cls := "java/util/ArrayList", name := "grow", desc := "(I)[Ljava/lang/Object;" } : Jvm.MethodName) jdk_38_method_6_code (4 : Nat) (Option.some (Jvm.ClassFile.FieldType.array (Jvm.ClassFile.FieldType.object "java/lang/Object"))), Jvm.Cond.code ({ cls := "java/lang/Math", name := "max", desc := "(II)I" } : Jvm.MethodName) jdk_29_method_65_code (2 : Nat) (Option.some Jvm.ClassFile.FieldType.int), Jvm.Cond.code ({ cls := "java/util/ArrayList", name := "get", desc := "(I)Ljava/lang/Object;" } : Jvm.MethodName) jdk_38_method_20_code (2 : Nat) (Option.some (Jvm.ClassFile.FieldType.object "java/lang/Object")), Jvm.Cond.code ({ cls := "java/util/Objects", name := "checkIndex", desc := "(II)I" } : Jvm.MethodName) jdk_31_method_17_code (2 : Nat) (Option.some Jvm.ClassFile.FieldType.int), Jvm.Cond.code ({ cls := "jdk/internal/util/Preconditions", name := "checkIndex", desc := "(IILjava/util/function/BiFunction;)I" } : Jvm.MethodName) jdk_41_method_11_code (3 : Nat) (Option.some Jvm.ClassFile.FieldType.int), Jvm.Cond.code ({ cls := "java/util/ArrayList", name := "elementData", desc := "(I)Ljava/lang/Object;" } : Jvm.MethodName) jdk_38_method_18_code (2 : Nat) (Option.some (Jvm.ClassFile.FieldType.object "java/lang/Object")), Jvm.Cond.code ({ cls := "com/example/inq2/inq2/ScoredDocument", name := "document", desc := "()Ljava/lang/String;" } : Jvm.MethodName) prog_19_method_2_code (1 : Nat) (Option.some (Jvm.ClassFile.FieldType.object "java/lang/String")), Jvm.Cond.code ({ cls := "java/util/HashMap", name := "getOrDefault", desc := "(Ljava/lang/Object;Ljava/lang/Object;)Ljava/lang/Object;" } : Jvm.MethodName) jdk_69_method_30_code (4 : Nat) (Option.some (Jvm.ClassFile.FieldType.object "java/lang/Object")), Jvm.Cond.code ({ cls := "java/util/HashMap", name := "getNode", desc := "(Ljava/lang/Object;)Ljava/util/HashMap$Node;" } : Jvm.MethodName) jdk_69_method_13_code (8 : Nat) (Option.some (Jvm.ClassFile.FieldType.object "java/util/HashMap$Node")), Jvm.Cond.code ({ cls := "java/lang/Integer", name := "intValue", desc := "()I" } : Jvm.MethodName) jdk_33_method_27_code (1 : Nat) (Option.some Jvm.ClassFile.FieldType.int), Jvm.Cond.code ({ cls := "java/util/HashMap$ValueIterator", name := "next", desc := "()Ljava/lang/Object;" } : Jvm.MethodName) jdk_2569_method_2_code (1 : Nat) (Option.some (Jvm.ClassFile.FieldType.object "java/lang/Object")), Jvm.Cond.code ({ cls := "java/util/HashMap$HashIterator", name := "nextNode", desc := "()Ljava/util/HashMap$Node;" } : Jvm.MethodName) jdk_99_method_3_code (3 : Nat) (Option.some (Jvm.ClassFile.FieldType.object "java/util/HashMap$Node")), Jvm.Cond.code ({ cls := "java/lang/Integer", name := "<init>", desc := "(I)V" } : Jvm.MethodName) jdk_33_method_23_code (2 : Nat) (Option.none : Option Jvm.ClassFile.FieldType), Jvm.Cond.code ({ cls := "java/lang/Number", name := "<init>", desc := "()V" } : Jvm.MethodName) jdk_18_method_1_code (1 : Nat) (Option.none : Option Jvm.ClassFile.FieldType), Jvm.Cond.code ({ cls := "java/lang/Math", name := "min", desc := "(II)I" } : Jvm.MethodName) jdk_29_method_69_code (2 : Nat) (Option.some Jvm.ClassFile.FieldType.int)]
set_option maxRecDepth 65536 in
theorem codes_eq : words1.filter isCode = codes1 := rfl
theorem w_codes : ∀ c ∈ words1.filter isCode, c.before args0 about1 = true := by
  rw [codes_eq]
  intro c hc
  simp only [codes1, List.mem_cons, List.not_mem_nil, or_false] at hc
  rcases hc with rfl | rfl | rfl | rfl | rfl | rfl | rfl | rfl | rfl | rfl | rfl | rfl | rfl | rfl | rfl | rfl | rfl | rfl | rfl | rfl | rfl | rfl | rfl | rfl | rfl | rfl | rfl | rfl | rfl | rfl | rfl | rfl | rfl | rfl | rfl | rfl | rfl | rfl | rfl | rfl | rfl | rfl | rfl | rfl | rfl | rfl | rfl | rfl | rfl | rfl | rfl | rfl | rfl | rfl | rfl | rfl | rfl | rfl
  · exact w_c0
  · exact w_c1
  · exact w_c2
  · exact w_c3
  · exact w_c4
  · exact w_c5
  · exact w_c6
  · exact w_c7
  · exact w_c8
  · exact w_c9
  · exact w_c10
  · exact w_c11
  · exact w_c12
  · exact w_c13
  · exact w_c14
  · exact w_c15
  · exact w_c16
  · exact w_c17
  · exact w_c18
  · exact w_c19
  · exact w_c20
  · exact w_c21
  · exact w_c22
  · exact w_c23
  · exact w_c24
  · exact w_c25
  · exact w_c26
  · exact w_c27
  · exact w_c28
  · exact w_c29
  · exact w_c30
  · exact w_c31
  · exact w_c32
  · exact w_c33
  · exact w_c34
  · exact w_c35
  · exact w_c36
  · exact w_c37
  · exact w_c38
  · exact w_c39
  · exact w_c40
  · exact w_c41
  · exact w_c42
  · exact w_c43
  · exact w_c44
  · exact w_c45
  · exact w_c46
  · exact w_c47
  · exact w_c48
  · exact w_c49
  · exact w_c50
  · exact w_c51
  · exact w_c52
  · exact w_c53
  · exact w_c54
  · exact w_c55
  · exact w_c56
  · exact w_c57
set_option maxRecDepth 65536 in
theorem w_t1 : (words1.take 24).all (fun c => isCode c || c.before args0 about1) = true := by decide +kernel
set_option maxRecDepth 65536 in
theorem w_t2 : ((words1.drop 24).take 24).all (fun c => isCode c || c.before args0 about1) = true := by decide +kernel
set_option maxRecDepth 65536 in
theorem w_t3 : (((words1.drop 24).drop 24).take 24).all (fun c => isCode c || c.before args0 about1) = true := by decide +kernel
set_option maxRecDepth 65536 in
theorem w_t4 : ((((words1.drop 24).drop 24).drop 24).take 24).all (fun c => isCode c || c.before args0 about1) = true := by decide +kernel
set_option maxRecDepth 65536 in
theorem w_t5 : (((((words1.drop 24).drop 24).drop 24).drop 24).take 24).all (fun c => isCode c || c.before args0 about1) = true := by decide +kernel
set_option maxRecDepth 65536 in
theorem w_t6 : ((((((words1.drop 24).drop 24).drop 24).drop 24).drop 24).take 24).all (fun c => isCode c || c.before args0 about1) = true := by decide +kernel
set_option maxRecDepth 65536 in
theorem w_t7 : (((((((words1.drop 24).drop 24).drop 24).drop 24).drop 24).drop 24).take 24).all (fun c => isCode c || c.before args0 about1) = true := by decide +kernel
set_option maxRecDepth 65536 in
theorem w_t8 : ((((((((words1.drop 24).drop 24).drop 24).drop 24).drop 24).drop 24).drop 24).take 24).all (fun c => isCode c || c.before args0 about1) = true := by decide +kernel
set_option maxRecDepth 65536 in
theorem w_t9 : (((((((((words1.drop 24).drop 24).drop 24).drop 24).drop 24).drop 24).drop 24).drop 24).take 24).all (fun c => isCode c || c.before args0 about1) = true := by decide +kernel
set_option maxRecDepth 65536 in
theorem w_t10 : ((((((((((words1.drop 24).drop 24).drop 24).drop 24).drop 24).drop 24).drop 24).drop 24).drop 24).take 24).all (fun c => isCode c || c.before args0 about1) = true := by decide +kernel
set_option maxRecDepth 65536 in
theorem w_t11 : (((((((((((words1.drop 24).drop 24).drop 24).drop 24).drop 24).drop 24).drop 24).drop 24).drop 24).drop 24).take 24).all (fun c => isCode c || c.before args0 about1) = true := by decide +kernel
set_option maxRecDepth 65536 in
theorem w_t12 : ((((((((((((words1.drop 24).drop 24).drop 24).drop 24).drop 24).drop 24).drop 24).drop 24).drop 24).drop 24).drop 24).take 24).all (fun c => isCode c || c.before args0 about1) = true := by decide +kernel
set_option maxRecDepth 65536 in
theorem w_t13 : (((((((((((((words1.drop 24).drop 24).drop 24).drop 24).drop 24).drop 24).drop 24).drop 24).drop 24).drop 24).drop 24).drop 24).take 24).all (fun c => isCode c || c.before args0 about1) = true := by decide +kernel
set_option maxRecDepth 65536 in
theorem w_t14 : ((((((((((((((words1.drop 24).drop 24).drop 24).drop 24).drop 24).drop 24).drop 24).drop 24).drop 24).drop 24).drop 24).drop 24).drop 24).take 24).all (fun c => isCode c || c.before args0 about1) = true := by decide +kernel
set_option maxRecDepth 65536 in
theorem w_t15 : (((((((((((((((words1.drop 24).drop 24).drop 24).drop 24).drop 24).drop 24).drop 24).drop 24).drop 24).drop 24).drop 24).drop 24).drop 24).drop 24).take 24).all (fun c => isCode c || c.before args0 about1) = true := by decide +kernel
set_option maxRecDepth 65536 in
theorem w_t16 : ((((((((((((((((words1.drop 24).drop 24).drop 24).drop 24).drop 24).drop 24).drop 24).drop 24).drop 24).drop 24).drop 24).drop 24).drop 24).drop 24).drop 24).take 24).all (fun c => isCode c || c.before args0 about1) = true := by decide +kernel
set_option maxRecDepth 65536 in
theorem w_t17 : (((((((((((((((((words1.drop 24).drop 24).drop 24).drop 24).drop 24).drop 24).drop 24).drop 24).drop 24).drop 24).drop 24).drop 24).drop 24).drop 24).drop 24).drop 24).take 24).all (fun c => isCode c || c.before args0 about1) = true := by decide +kernel
set_option maxRecDepth 65536 in
theorem w_t18 : (((((((((((((((((words1.drop 24).drop 24).drop 24).drop 24).drop 24).drop 24).drop 24).drop 24).drop 24).drop 24).drop 24).drop 24).drop 24).drop 24).drop 24).drop 24).drop 24).all (fun c => isCode c || c.before args0 about1) = true := by decide +kernel
theorem w_tables : (allAtoms (Jvm.Cond.code x code maxLocals ret :: tables_1)).before args0 about1 = true := by
  rw [allAtoms_all]
  show words1.all (fun c => c.before args0 about1) = true
  refine all_split ?_ w_codes
  rw [← List.take_append_drop 24 words1, List.all_append, w_t1, ← List.take_append_drop 24 (words1.drop 24), List.all_append, w_t2, ← List.take_append_drop 24 ((words1.drop 24).drop 24), List.all_append, w_t3, ← List.take_append_drop 24 (((words1.drop 24).drop 24).drop 24), List.all_append, w_t4, ← List.take_append_drop 24 ((((words1.drop 24).drop 24).drop 24).drop 24), List.all_append, w_t5, ← List.take_append_drop 24 (((((words1.drop 24).drop 24).drop 24).drop 24).drop 24), List.all_append, w_t6, ← List.take_append_drop 24 ((((((words1.drop 24).drop 24).drop 24).drop 24).drop 24).drop 24), List.all_append, w_t7, ← List.take_append_drop 24 (((((((words1.drop 24).drop 24).drop 24).drop 24).drop 24).drop 24).drop 24), List.all_append, w_t8, ← List.take_append_drop 24 ((((((((words1.drop 24).drop 24).drop 24).drop 24).drop 24).drop 24).drop 24).drop 24), List.all_append, w_t9, ← List.take_append_drop 24 (((((((((words1.drop 24).drop 24).drop 24).drop 24).drop 24).drop 24).drop 24).drop 24).drop 24), List.all_append, w_t10, ← List.take_append_drop 24 ((((((((((words1.drop 24).drop 24).drop 24).drop 24).drop 24).drop 24).drop 24).drop 24).drop 24).drop 24), List.all_append, w_t11, ← List.take_append_drop 24 (((((((((((words1.drop 24).drop 24).drop 24).drop 24).drop 24).drop 24).drop 24).drop 24).drop 24).drop 24).drop 24), List.all_append, w_t12, ← List.take_append_drop 24 ((((((((((((words1.drop 24).drop 24).drop 24).drop 24).drop 24).drop 24).drop 24).drop 24).drop 24).drop 24).drop 24).drop 24), List.all_append, w_t13, ← List.take_append_drop 24 (((((((((((((words1.drop 24).drop 24).drop 24).drop 24).drop 24).drop 24).drop 24).drop 24).drop 24).drop 24).drop 24).drop 24).drop 24), List.all_append, w_t14, ← List.take_append_drop 24 ((((((((((((((words1.drop 24).drop 24).drop 24).drop 24).drop 24).drop 24).drop 24).drop 24).drop 24).drop 24).drop 24).drop 24).drop 24).drop 24), List.all_append, w_t15, ← List.take_append_drop 24 (((((((((((((((words1.drop 24).drop 24).drop 24).drop 24).drop 24).drop 24).drop 24).drop 24).drop 24).drop 24).drop 24).drop 24).drop 24).drop 24).drop 24), List.all_append, w_t16, ← List.take_append_drop 24 ((((((((((((((((words1.drop 24).drop 24).drop 24).drop 24).drop 24).drop 24).drop 24).drop 24).drop 24).drop 24).drop 24).drop 24).drop 24).drop 24).drop 24).drop 24), List.all_append, w_t17, w_t18]
  rfl
set_option maxRecDepth 65536 in
theorem w_rest : rest_1_c.before args0 about1 = true := by decide +kernel
set_option maxRecDepth 65536 in
theorem w_case : (Jvm.Cond.and given_1 narrow_1).before args0 about1 = true := by decide +kernel
theorem w_applies : (headSpec (Jvm.Cond.code x code maxLocals ret :: tables_1) room_1).applies x e0.platform about1 = true :=
  (Spec.applies_iff w_frames).mpr ⟨w_running, w_runnable, w_alone, w_named, w_hears, w_ripe, w_room, w_tables⟩
theorem atStart : AtStart classFile x code maxLocals ret World_1 tables_1 room_1 Calls_1 rest_1 Pre_1 launch0 p0 e0 about1 theMethod args0 below0 :=
  ⟨lists_1, trivial, launch0.admits_env _ _ _, launch0.least_env, fairChoices_fair.cas, fairChoices_fair.clock, w_frames, w_args, w_heap, w_applies, trivial, w_rest, w_case⟩
end start1
theorem witness_1 : WitnessClaimed_1 := ⟨start1.p0, start1.e0, start1.about1, start1.theMethod, start1.args0, start1.below0, start1.atStart⟩
end Jvm.Pilot.@@N@@
