import JvmDerived
import JvmDerived.Pilot.@@N@@Statement
import JvmDerived.Pilot.@@N@@Code
set_option linter.unusedVariables false
set_option linter.unusedSimpArgs false

namespace Jvm.OwnKit
open Sem ClassFile Op Lib Jvm.Stand Jvm.Free Jvm.LawKit Jvm.RoadKit Jvm.Free.Fl
/-- what is left to show of a run: from U it ends and returns, with E of the value, the end and the places written -/
def Goes (p : Program) (e : Env) (below : List Frame) (E : Option Value → State → List Loc → Prop) (U : State) : Prop :=
  ∃ s₂ v L, Steps p.tables e below U s₂ ∧ s₂.status = .running ∧ Ended s₂ below (.returned v) ∧ E v s₂ L
/-- the common end: nothing below n0 is written, Q holds of the value and the heap, the frame is k cells and j slots -/
def En (s : State) (n0 k j : Nat) (Q : Option Value → Heap → Prop) (v : Option Value) (s₂ : State) (L : List Loc) : Prop := (Fr n0 L ∧ Q v s₂.heap) ∧ FrameEnd s (.returned v) s₂ L k j
/-- where a walk of the body y stands -/
def Wk (Z : State) (y : MethodName) (bytes : ByteArray) (ml : Nat) (ret : Option FieldType) (n0 : Nat) (p : Program) (l : Launch) (e : Env) (R : Room) (s : State) (m : MethodId) (args : Array Value) (below : List Frame) (meth : Method) (c : Code) (T : State) (kc ks : Nat) : Prop :=
  (p.tables.exec = Jvm.exec ∧ Z.Warmed39 s.vm ∧ s.vm.findClass y.cls = some m.cls ∧ c.code = bytes ∧ c.maxLocals = ml ∧ meth.sig.returnType = ret ∧ meth.locks = false ∧ meth.name = y.name) ∧ ∃ locs, Stand p l e R s m args below meth c T locs kc ks ∧ Fr n0 locs
/-- a body's contract: called with the values as over the heap h0 it returns with Post -/
def Con (l : Launch) (Z : State) (n0 : Nat) (y : MethodName) (ws : List Cond) (bytes : ByteArray) (ml : Nat) (ret : Option FieldType) (rm : Room) (as : Array Value) (h0 : Heap) (Post : Option Value → Heap → Prop) : Prop :=
  MetFree l y (head1 (Cond.code y bytes ml ret :: ws) rm) (fun a U => a = as ∧ Z.Warmed39 U.vm ∧ U.heap = h0) (fun _ _ _ _ _ => True) (fun _ U o U' => ∃ v L, o = .returned v ∧ (Fr n0 L ∧ Post v U'.heap) ∧ FrameEnd U o U' L rm.cells rm.slots)
section Laws
variable {Z : State} {y : MethodName} {bytes : ByteArray} {ml : Nat} {ret : Option FieldType} {n0 : Nat} {p : Program} {l : Launch} {e : Env} {R : Room} {s : State} {m : MethodId} {args : Array Value} {below : List Frame} {meth : Method} {c : Code} {T : State} {kc ks k j : Nat} {Q : Option Value → Heap → Prop} {E : Option Value → State → List Loc → Prop} {pc pc' : Nat} {ls : Array Slot} {st : List Value} {a0 : Array Value}
theorem Goes.back {U U' : State} (g : Goes p e below E U') (h : ∀ t, Steps p.tables e below U' t → Steps p.tables e below U t) : Goes p e below E U := by
  obtain ⟨s₂, v, L, h1, h2⟩ := g; exact ⟨s₂, v, L, h _ h1, h2⟩
theorem Goes.mono {U : State} {E' : Option Value → State → List Loc → Prop} (g : Goes p e below E U) (h : ∀ v t L, E v t L → E' v t L) : Goes p e below E' U := by
  obtain ⟨s₂, v, L, h1, h2, h3, h4⟩ := g; exact ⟨s₂, v, L, h1, h2, h3, h _ _ _ h4⟩
theorem Con.mono {ws : List Cond} {rm : Room} {as : Array Value} {h0 : Heap} {Post Post' : Option Value → Heap → Prop} (C : Con l Z n0 y ws bytes ml ret rm as h0 Post) (h : ∀ v h, Post v h → Post' v h) : Con l Z n0 y ws bytes ml ret rm as h0 Post' := by
  intro p e ha hc hk s m args below hf happ hP hK
  obtain ⟨a, b, h1, h2, h3, v, L, h4, ⟨h5, h6⟩, h7⟩ := C p e ha hc hk s m args below hf happ hP hK
  exact ⟨a, b, h1, h2, h3, v, L, h4, ⟨h5, h _ _ h6⟩, h7⟩

theorem Wk.hx (W : Wk Z y bytes ml ret n0 p l e R s m args below meth c T kc ks) : p.tables.exec = Jvm.exec := W.1.1
theorem Wk.hZ (W : Wk Z y bytes ml ret n0 p l e R s m args below meth c T kc ks) : Z.Warmed39 s.vm := W.1.2.1
theorem Wk.hown (W : Wk Z y bytes ml ret n0 p l e R s m args below meth c T kc ks) : s.vm.findClass y.cls = some m.cls := W.1.2.2.1
theorem Wk.hby (W : Wk Z y bytes ml ret n0 p l e R s m args below meth c T kc ks) : c.code = bytes := W.1.2.2.2.1
theorem Wk.hml (W : Wk Z y bytes ml ret n0 p l e R s m args below meth c T kc ks) : c.maxLocals = ml := W.1.2.2.2.2.1
theorem Wk.hret (W : Wk Z y bytes ml ret n0 p l e R s m args below meth c T kc ks) : meth.sig.returnType = ret := W.1.2.2.2.2.2.1
theorem Wk.hlk (W : Wk Z y bytes ml ret n0 p l e R s m args below meth c T kc ks) : meth.locks = false := W.1.2.2.2.2.2.2.1
theorem Wk.hnm (W : Wk Z y bytes ml ret n0 p l e R s m args below meth c T kc ks) : meth.name = y.name := W.1.2.2.2.2.2.2.2
theorem Wk.here (W : Wk Z y bytes ml ret n0 p l e R s m args below meth c T kc ks) : At T m c below := by obtain ⟨_, _, X, _⟩ := W; exact X.here
theorem g_iloadN (W : Wk Z y bytes ml ret n0 p l e R s m args below meth c T kc ks) {i : Fin 4} {v : Int32} (hd : decode bytes pc = .ok (.iload_n i, 1)) (hpc : pc + 1 = pc') (hl : ls[i.val]? = some (.val (.int v))) (K : Goes p e below E (T.setTop (mkF m pc' ls (.int v :: st)))) : Goes p e below E (T.setTop (mkF m pc ls st)) := by
  subst hpc; exact K.back fun _ r => XS.iloadN W.here W.hx rfl (hb W.hby hd) hl r
theorem g_iload (W : Wk Z y bytes ml ret n0 p l e R s m args below meth c T kc ks) {i : Nat} {v : Int32} (hd : decode bytes pc = .ok (.iload i, 2)) (hpc : pc + 2 = pc') (hl : ls[i]? = some (.val (.int v))) (K : Goes p e below E (T.setTop (mkF m pc' ls (.int v :: st)))) : Goes p e below E (T.setTop (mkF m pc ls st)) := by
  subst hpc; exact K.back fun _ r => XS.iload W.here W.hx rfl (hb W.hby hd) hl r
theorem g_dloadN (W : Wk Z y bytes ml ret n0 p l e R s m args below meth c T kc ks) {i : Fin 4} {v : UInt64} (hd : decode bytes pc = .ok (.dload_n i, 1)) (hpc : pc + 1 = pc') (hl : ls[i.val]? = some (.val (.double v))) (K : Goes p e below E (T.setTop (mkF m pc' ls (.double v :: st)))) : Goes p e below E (T.setTop (mkF m pc ls st)) := by
  subst hpc; exact K.back fun _ r => XS.dloadN W.here W.hx rfl (hb W.hby hd) hl r
theorem g_dload (W : Wk Z y bytes ml ret n0 p l e R s m args below meth c T kc ks) {i : Nat} {v : UInt64} (hd : decode bytes pc = .ok (.dload i, 2)) (hpc : pc + 2 = pc') (hl : ls[i]? = some (.val (.double v))) (K : Goes p e below E (T.setTop (mkF m pc' ls (.double v :: st)))) : Goes p e below E (T.setTop (mkF m pc ls st)) := by
  subst hpc; exact K.back fun _ r => XS.dload W.here W.hx rfl (hb W.hby hd) hl r
theorem g_aloadN (W : Wk Z y bytes ml ret n0 p l e R s m args below meth c T kc ks) {i : Fin 4} {v : Value} (hd : decode bytes pc = .ok (.aload_n i, 1)) (hpc : pc + 1 = pc') (hl : ls[i.val]? = some (.val v)) (hv : v.isRef = true) (K : Goes p e below E (T.setTop (mkF m pc' ls (v :: st)))) : Goes p e below E (T.setTop (mkF m pc ls st)) := by
  subst hpc; exact K.back fun _ r => XS.aloadN W.here W.hx rfl (hb W.hby hd) hl hv r
theorem g_aload (W : Wk Z y bytes ml ret n0 p l e R s m args below meth c T kc ks) {i : Nat} {v : Value} (hd : decode bytes pc = .ok (.aload i, 2)) (hpc : pc + 2 = pc') (hl : ls[i]? = some (.val v)) (hv : v.isRef = true) (K : Goes p e below E (T.setTop (mkF m pc' ls (v :: st)))) : Goes p e below E (T.setTop (mkF m pc ls st)) := by
  subst hpc; exact K.back fun _ r => XS.aload W.here W.hx rfl (hb W.hby hd) hl hv r
theorem g_istoreN (W : Wk Z y bytes ml ret n0 p l e R s m args below meth c T kc ks) {i : Fin 4} {v : Int32} {ls' : Array Slot} (hd : decode bytes pc = .ok (.istore_n i, 1)) (hpc : pc + 1 = pc') (hl : storeLocals ls i.val (.int v) = some ls') (K : Goes p e below E (T.setTop (mkF m pc' ls' st))) : Goes p e below E (T.setTop (mkF m pc ls (.int v :: st))) := by
  subst hpc; exact K.back fun _ r => XS.istoreN W.here W.hx rfl (hb W.hby hd) rfl hl r
theorem g_istore (W : Wk Z y bytes ml ret n0 p l e R s m args below meth c T kc ks) {i : Nat} {v : Int32} {ls' : Array Slot} (hd : decode bytes pc = .ok (.istore i, 2)) (hpc : pc + 2 = pc') (hl : storeLocals ls i (.int v) = some ls') (K : Goes p e below E (T.setTop (mkF m pc' ls' st))) : Goes p e below E (T.setTop (mkF m pc ls (.int v :: st))) := by
  subst hpc; exact K.back fun _ r => XS.istore W.here W.hx rfl (hb W.hby hd) rfl hl r
theorem g_dstore (W : Wk Z y bytes ml ret n0 p l e R s m args below meth c T kc ks) {i : Nat} {v : UInt64} {ls' : Array Slot} (hd : decode bytes pc = .ok (.dstore i, 2)) (hpc : pc + 2 = pc') (hl : storeLocals ls i (.double v) = some ls') (K : Goes p e below E (T.setTop (mkF m pc' ls' st))) : Goes p e below E (T.setTop (mkF m pc ls (.double v :: st))) := by
  subst hpc; exact K.back fun _ r => XS.dstore W.here W.hx rfl (hb W.hby hd) rfl hl r
theorem g_astoreN (W : Wk Z y bytes ml ret n0 p l e R s m args below meth c T kc ks) {i : Fin 4} {v : Value} {ls' : Array Slot} (hd : decode bytes pc = .ok (.astore_n i, 1)) (hpc : pc + 1 = pc') (hv : v.isRef = true) (hl : storeLocals ls i.val v = some ls') (K : Goes p e below E (T.setTop (mkF m pc' ls' st))) : Goes p e below E (T.setTop (mkF m pc ls (v :: st))) := by
  subst hpc; exact K.back fun _ r => XS.astoreN W.here W.hx rfl (hb W.hby hd) rfl hv hl r
theorem g_astore (W : Wk Z y bytes ml ret n0 p l e R s m args below meth c T kc ks) {i : Nat} {v : Value} {ls' : Array Slot} (hd : decode bytes pc = .ok (.astore i, 2)) (hpc : pc + 2 = pc') (hv : v.isRef = true) (hl : storeLocals ls i v = some ls') (K : Goes p e below E (T.setTop (mkF m pc' ls' st))) : Goes p e below E (T.setTop (mkF m pc ls (v :: st))) := by
  subst hpc; exact K.back fun _ r => XS.astore W.here W.hx rfl (hb W.hby hd) rfl hv hl r
theorem g_iconst (W : Wk Z y bytes ml ret n0 p l e R s m args below meth c T kc ks) {i : Int} {v : Int32} (hd : decode bytes pc = .ok (.iconst i, 1)) (hpc : pc + 1 = pc') (hv : Int32.ofInt i = v) (K : Goes p e below E (T.setTop (mkF m pc' ls (.int v :: st)))) : Goes p e below E (T.setTop (mkF m pc ls st)) := by
  subst hpc; exact K.back fun _ r => XS.iconst W.here W.hx rfl (hb W.hby hd) (by rw [hv]; exact r)
theorem g_bipush (W : Wk Z y bytes ml ret n0 p l e R s m args below meth c T kc ks) {i : Int} {v : Int32} (hd : decode bytes pc = .ok (.bipush i, 2)) (hpc : pc + 2 = pc') (hv : (Int8.ofInt i).toInt32 = v) (K : Goes p e below E (T.setTop (mkF m pc' ls (.int v :: st)))) : Goes p e below E (T.setTop (mkF m pc ls st)) := by
  subst hpc; exact K.back fun _ r => XS.bipush W.here W.hx rfl (hb W.hby hd) (by rw [hv]; exact r)
theorem g_sipush (W : Wk Z y bytes ml ret n0 p l e R s m args below meth c T kc ks) {i : Int} {v : Int32} (hd : decode bytes pc = .ok (.sipush i, 3)) (hpc : pc + 3 = pc') (hv : (Int16.ofInt i).toInt32 = v) (K : Goes p e below E (T.setTop (mkF m pc' ls (.int v :: st)))) : Goes p e below E (T.setTop (mkF m pc ls st)) := by
  subst hpc; exact K.back fun _ r => XS.sipush W.here W.hx rfl (hb W.hby hd) (by rw [hv]; exact r)
theorem g_dconst0 (W : Wk Z y bytes ml ret n0 p l e R s m args below meth c T kc ks)  (hd : decode bytes pc = .ok (.dconst 0, 1)) (hpc : pc + 1 = pc')  (K : Goes p e below E (T.setTop (mkF m pc' ls (.double 0 :: st)))) : Goes p e below E (T.setTop (mkF m pc ls st)) := by
  subst hpc; exact K.back fun _ r => XS.dconst0 W.here W.hx rfl (hb W.hby hd) rfl r
theorem g_dconst1 (W : Wk Z y bytes ml ret n0 p l e R s m args below meth c T kc ks)  (hd : decode bytes pc = .ok (.dconst 1, 1)) (hpc : pc + 1 = pc')  (K : Goes p e below E (T.setTop (mkF m pc' ls (.double 4607182418800017408 :: st)))) : Goes p e below E (T.setTop (mkF m pc ls st)) := by
  subst hpc; exact K.back fun _ r => XS.dconst1 W.here W.hx rfl (hb W.hby hd) rfl r
theorem g_aconst_null (W : Wk Z y bytes ml ret n0 p l e R s m args below meth c T kc ks)  (hd : decode bytes pc = .ok (.aconst_null, 1)) (hpc : pc + 1 = pc')  (K : Goes p e below E (T.setTop (mkF m pc' ls (.null :: st)))) : Goes p e below E (T.setTop (mkF m pc ls st)) := by
  subst hpc; exact K.back fun _ r => XS.aconstNull W.here W.hx rfl (hb W.hby hd) r
theorem g_iadd (W : Wk Z y bytes ml ret n0 p l e R s m args below meth c T kc ks) {x y0 v : Int32} (hd : decode bytes pc = .ok (.iadd, 1)) (hpc : pc + 1 = pc') (hv : x + y0 = v) (K : Goes p e below E (T.setTop (mkF m pc' ls (.int v :: st)))) : Goes p e below E (T.setTop (mkF m pc ls (.int y0 :: .int x :: st))) := by
  subst hpc; exact K.back fun _ r => XS.iadd W.here W.hx rfl (hb W.hby hd) rfl (by rw [hv]; exact r)
theorem g_isub (W : Wk Z y bytes ml ret n0 p l e R s m args below meth c T kc ks) {x y0 v : Int32} (hd : decode bytes pc = .ok (.isub, 1)) (hpc : pc + 1 = pc') (hv : x - y0 = v) (K : Goes p e below E (T.setTop (mkF m pc' ls (.int v :: st)))) : Goes p e below E (T.setTop (mkF m pc ls (.int y0 :: .int x :: st))) := by
  subst hpc; exact K.back fun _ r => XS.isub W.here W.hx rfl (hb W.hby hd) rfl (by rw [hv]; exact r)
theorem g_iand (W : Wk Z y bytes ml ret n0 p l e R s m args below meth c T kc ks) {x y0 v : Int32} (hd : decode bytes pc = .ok (.iand, 1)) (hpc : pc + 1 = pc') (hv : x &&& y0 = v) (K : Goes p e below E (T.setTop (mkF m pc' ls (.int v :: st)))) : Goes p e below E (T.setTop (mkF m pc ls (.int y0 :: .int x :: st))) := by
  subst hpc; exact K.back fun _ r => XS.iand W.here W.hx rfl (hb W.hby hd) rfl (by rw [hv]; exact r)
theorem g_imul (W : Wk Z y bytes ml ret n0 p l e R s m args below meth c T kc ks) {x y0 v : Int32} (hd : decode bytes pc = .ok (.imul, 1)) (hpc : pc + 1 = pc') (hv : x * y0 = v) (K : Goes p e below E (T.setTop (mkF m pc' ls (.int v :: st)))) : Goes p e below E (T.setTop (mkF m pc ls (.int y0 :: .int x :: st))) := by
  subst hpc; exact K.back fun _ r => XS.imul W.here W.hx rfl (hb W.hby hd) rfl (by rw [hv]; exact r)
theorem g_iushr (W : Wk Z y bytes ml ret n0 p l e R s m args below meth c T kc ks) {x y0 v : Int32} (hd : decode bytes pc = .ok (.iushr, 1)) (hpc : pc + 1 = pc') (hv : XT.ushr x y0 = v) (K : Goes p e below E (T.setTop (mkF m pc' ls (.int v :: st)))) : Goes p e below E (T.setTop (mkF m pc ls (.int y0 :: .int x :: st))) := by
  subst hpc; exact K.back fun _ r => XT.iushr W.here W.hx rfl (hb W.hby hd) rfl (by rw [hv]; exact r)
theorem g_i2d (W : Wk Z y bytes ml ret n0 p l e R s m args below meth c T kc ks) {x : Int32} {v : UInt64} (hd : decode bytes pc = .ok (.i2d, 1)) (hpc : pc + 1 = pc') (hv : FP.i2d x = v) (K : Goes p e below E (T.setTop (mkF m pc' ls (.double v :: st)))) : Goes p e below E (T.setTop (mkF m pc ls (.int x :: st))) := by
  subst hpc; exact K.back fun _ r => XS.i2dS W.here W.hx rfl (hb W.hby hd) rfl hv r
theorem g_dcmp (W : Wk Z y bytes ml ret n0 p l e R s m args below meth c T kc ks) {o : CmpOp} {x y0 : UInt64} {v : Int32} (hd : decode bytes pc = .ok (.dcmp o, 1)) (hpc : pc + 1 = pc') (hv : cmpValue (FP.dcmp x y0) o = v) (K : Goes p e below E (T.setTop (mkF m pc' ls (.int v :: st)))) : Goes p e below E (T.setTop (mkF m pc ls (.double y0 :: .double x :: st))) := by
  subst hpc; exact K.back fun _ r => XS.dcmpS W.here W.hx rfl (hb W.hby hd) rfl hv r
theorem g_dadd (W : Wk Z y bytes ml ret n0 p l e R s m args below meth c T kc ks) {x y0 v : UInt64} (hd : decode bytes pc = .ok (.dadd, 1)) (hpc : pc + 1 = pc') (hv : FP.dadd x y0 = v) (hn : NoNaN64 v) (K : Goes p e below E (T.setTop (mkF m pc' ls (.double v :: st)))) : Goes p e below E (T.setTop (mkF m pc ls (.double y0 :: .double x :: st))) := by
  subst hpc; exact K.back fun _ r => XS.daddS W.here W.hx rfl (hb W.hby hd) rfl (by rw [hv]; exact hn) hv r
theorem g_dmul (W : Wk Z y bytes ml ret n0 p l e R s m args below meth c T kc ks) {x y0 v : UInt64} (hd : decode bytes pc = .ok (.dmul, 1)) (hpc : pc + 1 = pc') (hv : FP.dmul x y0 = v) (hn : NoNaN64 v) (K : Goes p e below E (T.setTop (mkF m pc' ls (.double v :: st)))) : Goes p e below E (T.setTop (mkF m pc ls (.double y0 :: .double x :: st))) := by
  subst hpc; exact K.back fun _ r => XS.dmulS W.here W.hx rfl (hb W.hby hd) rfl (by rw [hv]; exact hn) hv r
theorem g_dup (W : Wk Z y bytes ml ret n0 p l e R s m args below meth c T kc ks) {v : Value} (hd : decode bytes pc = .ok (.dup, 1)) (hpc : pc + 1 = pc') (hc : v.category = 1) (K : Goes p e below E (T.setTop (mkF m pc' ls (v :: v :: st)))) : Goes p e below E (T.setTop (mkF m pc ls (v :: st))) := by
  subst hpc; exact K.back fun _ r => XS.dup W.here W.hx rfl (hb W.hby hd) rfl hc r
theorem g_pop (W : Wk Z y bytes ml ret n0 p l e R s m args below meth c T kc ks) {v : Value} (hd : decode bytes pc = .ok (.pop, 1)) (hpc : pc + 1 = pc') (hc : v.category = 1) (K : Goes p e below E (T.setTop (mkF m pc' ls st))) : Goes p e below E (T.setTop (mkF m pc ls (v :: st))) := by
  subst hpc; exact K.back fun _ r => XT.pop W.here W.hx rfl (hb W.hby hd) rfl hc r
theorem g_dup_x1 (W : Wk Z y bytes ml ret n0 p l e R s m args below meth c T kc ks) {v w : Value} (hd : decode bytes pc = .ok (.dup_x1, 1)) (hpc : pc + 1 = pc') (hc : v.category = 1) (hc2 : w.category = 1) (K : Goes p e below E (T.setTop (mkF m pc' ls (v :: w :: v :: st)))) : Goes p e below E (T.setTop (mkF m pc ls (v :: w :: st))) := by
  subst hpc; exact K.back fun _ r => XT.dupX1 W.here W.hx rfl (hb W.hby hd) rfl hc hc2 r
theorem g_dup2 (W : Wk Z y bytes ml ret n0 p l e R s m args below meth c T kc ks) {v w : Value} (hd : decode bytes pc = .ok (.dup2, 1)) (hpc : pc + 1 = pc') (hc : v.category = 1) (hc2 : w.category = 1) (K : Goes p e below E (T.setTop (mkF m pc' ls (v :: w :: v :: w :: st)))) : Goes p e below E (T.setTop (mkF m pc ls (v :: w :: st))) := by
  subst hpc; exact K.back fun _ r => XT.dup2 W.here W.hx rfl (hb W.hby hd) rfl hc hc2 r
theorem g_iinc (W : Wk Z y bytes ml ret n0 p l e R s m args below meth c T kc ks) {i : Nat} {d : Int} {x v : Int32} {ls' : Array Slot} (hd : decode bytes pc = .ok (.iinc i d, 3)) (hpc : pc + 3 = pc') (h1 : ls[i]? = some (.val (.int x))) (hv : x + Int32.ofInt d = v) (hl : storeLocals ls i (.int v) = some ls') (K : Goes p e below E (T.setTop (mkF m pc' ls' st))) : Goes p e below E (T.setTop (mkF m pc ls st)) := by
  subst hpc; exact K.back fun _ r => XS.iinc W.here W.hx rfl (hb W.hby hd) h1 (by rw [hv]; exact hl) r
theorem g_idiv (W : Wk Z y bytes ml ret n0 p l e R s m args below meth c T kc ks) {x y0 v : Int32} (hd : decode bytes pc = .ok (.idiv, 1)) (hpc : pc + 1 = pc') (h0 : y0 ≠ 0) (hv : x / y0 = v) (K : Goes p e below E (T.setTop (mkF m pc' ls (.int v :: st)))) : Goes p e below E (T.setTop (mkF m pc ls (.int y0 :: .int x :: st))) := by
  subst hpc; exact K.back fun _ r => XS.idiv W.here W.hx rfl (hb W.hby hd) rfl h0 (by rw [hv]; exact r)
theorem g_irem (W : Wk Z y bytes ml ret n0 p l e R s m args below meth c T kc ks) {x y0 v : Int32} (hd : decode bytes pc = .ok (.irem, 1)) (hpc : pc + 1 = pc') (h0 : y0 ≠ 0) (hv : x - (x / y0) * y0 = v) (K : Goes p e below E (T.setTop (mkF m pc' ls (.int v :: st)))) : Goes p e below E (T.setTop (mkF m pc ls (.int y0 :: .int x :: st))) := by
  subst hpc; exact K.back fun _ r => XS.irem W.here W.hx rfl (hb W.hby hd) rfl h0 (by rw [hv]; exact r)
def cP : ClassFile.Cond → Int32 → Int32 → Prop
  | .eq, x, y => x = y
  | .ne, x, y => ¬ x = y
  | .lt, x, y => x < y
  | .ge, x, y => ¬ x < y
  | .gt, x, y => y < x
  | .le, x, y => ¬ y < x
theorem cP_yes {cd : ClassFile.Cond} {x y : Int32} (h : cP cd x y) : if_icmp.holds cd x y = true := by
  cases cd
  · exact (teq h).1
  · exact (feq h).2
  · exact (tlt h).1
  · exact (flt h).2.1
  · exact (tlt h).2.2.1
  · exact (flt h).2.2.2
theorem cP_no {cd : ClassFile.Cond} {x y : Int32} (h : ¬ cP cd x y) : if_icmp.holds cd x y = false := by
  cases cd
  · exact (feq h).1
  · exact (teq (Classical.not_not.mp h)).2
  · exact (flt h).1
  · exact (tlt (Classical.not_not.mp h)).2.1
  · exact (flt h).2.2.1
  · exact (tlt (Classical.not_not.mp h)).2.2.2
theorem g_goto (W : Wk Z y bytes ml ret n0 p l e R s m args below meth c T kc ks) {o : Int} (hd : decode bytes pc = .ok (.goto o, 3)) (hpc : (pc : Int) + o = (pc' : Nat)) (K : Goes p e below E (T.setTop (mkF m pc' ls st))) : Goes p e below E (T.setTop (mkF m pc ls st)) :=
  K.back fun _ r => XS.goto W.here W.hx rfl (pc0 := pc) (pc' := pc') rfl (hb W.hby hd) (by omega) (by omega) r
theorem g_if (W : Wk Z y bytes ml ret n0 p l e R s m args below meth c T kc ks) {cd : ClassFile.Cond} {x : Int32} {o : Int} {pcy : Nat} (hd : decode bytes pc = .ok (.ifCond cd o, 3)) (hy : (pc : Int) + o = (pcy : Nat)) (hpc : pc + 3 = pc') (KY : cP cd x 0 → Goes p e below E (T.setTop (mkF m pcy ls st))) (KN : ¬ cP cd x 0 → Goes p e below E (T.setTop (mkF m pc' ls st))) : Goes p e below E (T.setTop (mkF m pc ls (.int x :: st))) := by
  subst hpc
  by_cases q : cP cd x 0
  · exact (KY q).back fun _ r => XS.ifYes W.here W.hx rfl (pc0 := pc) (pc' := pcy) rfl (hb W.hby hd) rfl ((if0 _ _).trans (cP_yes q)) (by omega) (by omega) r
  · exact (KN q).back fun _ r => XS.ifNo W.here W.hx rfl (hb W.hby hd) rfl ((if0 _ _).trans (cP_no q)) r
theorem g_icmp (W : Wk Z y bytes ml ret n0 p l e R s m args below meth c T kc ks) {cd : ClassFile.Cond} {x y0 : Int32} {o : Int} {pcy : Nat} (hd : decode bytes pc = .ok (.if_icmp cd o, 3)) (hy : (pc : Int) + o = (pcy : Nat)) (hpc : pc + 3 = pc') (KY : cP cd x y0 → Goes p e below E (T.setTop (mkF m pcy ls st))) (KN : ¬ cP cd x y0 → Goes p e below E (T.setTop (mkF m pc' ls st))) : Goes p e below E (T.setTop (mkF m pc ls (.int y0 :: .int x :: st))) := by
  subst hpc
  by_cases q : cP cd x y0
  · exact (KY q).back fun _ r => XS.icmpYes W.here W.hx rfl (pc0 := pc) (pc' := pcy) rfl (hb W.hby hd) rfl (cP_yes q) (by omega) (by omega) r
  · exact (KN q).back fun _ r => XS.icmpNo W.here W.hx rfl (hb W.hby hd) rfl (cP_no q) r

theorem Wk.more (W : Wk Z y bytes ml ret n0 p l e R s m args below meth c T kc ks) {kc' ks' : Nat} (h1 : kc ≤ kc') (h2 : ks ≤ ks') : Wk Z y bytes ml ret n0 p l e R s m args below meth c T kc' ks' := by
  obtain ⟨A, locs, X, N⟩ := W
  exact ⟨A, locs, X.more h1 h2, N⟩
/-! ### the ends -/
theorem g_leave (W : Wk Z y bytes ml ret n0 p l e R s m args below meth c T kc ks) {v : Option Value} {U : State} (hv : ret = none → v = none) (hQ : Q v T.heap) (hk : kc ≤ k) (hj : ks ≤ j)
    (st : ∀ fs, (∀ (f : JFrame) (acts : List Action), f.method = m → f.locked = none → f.entered = [] → (doReturn e (T.setTop f) acts v).1 = T.setFrames fs) → Steps p.tables e below U (T.setFrames fs)) : Goes p e below (En s n0 k j Q) U := by
  have hlk := W.hlk
  have hret := W.hret
  obtain ⟨_, locs, X, N⟩ := W
  obtain ⟨fs, hr, hrun, hended, hW, hsame⟩ := X.leave (v := v) (fun q => hv (hret ▸ q)) hlk
  exact ⟨_, v, locs, st fs hr, hrun, hended, ⟨N, hQ⟩, ⟨_, rfl⟩, hW, hsame.mono hk hj⟩
theorem g_return (W : Wk Z y bytes ml none n0 p l e R s m args below meth c T kc ks) (hd : decode bytes pc = .ok (.return_, 1)) (hQ : Q none T.heap) (hk : kc ≤ k) (hj : ks ≤ j) : Goes p e below (En s n0 k j Q) (T.setTop (mkF m pc ls [])) :=
  g_leave W (fun _ => rfl) hQ hk hj fun fs hr => by
    have hret := W.hret
    have hx := W.hx
    have hby := W.hby
    obtain ⟨_, locs, X, N⟩ := W
    exact X.returnOut hx hret (hb hby hd) hr
theorem g_ret {t : FieldType} (W : Wk Z y bytes ml (some t) n0 p l e R s m args below meth c T kc ks) {w : Value} {i : Instr} (hn : narrow t w = w)
    (hi : (i = .ireturn ∧ (t = .int ∨ t = .boolean ∨ t = .byte ∨ t = .char ∨ t = .short) ∧ ∃ z, w = .int z) ∨ (i = .lreturn ∧ t = .long ∧ ∃ z, w = .long z) ∨ (i = .dreturn ∧ t = .double ∧ ∃ z, w = .double z) ∨ (i = .freturn ∧ t = .float ∧ ∃ z, w = .float z) ∨ (i = .areturn ∧ t.isReference = true ∧ w.isRef = true))
    (hd : decode bytes pc = .ok (i, 1)) (hQ : Q (some w) T.heap) (hk : kc ≤ k) (hj : ks ≤ j) : Goes p e below (En s n0 k j Q) (T.setTop (mkF m pc ls (w :: st))) :=
  g_leave W (fun q => nomatch q) hQ hk hj fun fs hr => by
    have hret := W.hret
    have hx := W.hx
    have hby := W.hby
    obtain ⟨_, locs, X, N⟩ := W
    exact retOut X hx hret hn hi (hb hby hd) hr
theorem g_ireturn (W : Wk Z y bytes ml (some .int) n0 p l e R s m args below meth c T kc ks) {x : Int32} (hd : decode bytes pc = .ok (.ireturn, 1)) (hQ : Q (some (.int x)) T.heap) (hk : kc ≤ k) (hj : ks ≤ j) : Goes p e below (En s n0 k j Q) (T.setTop (mkF m pc ls (.int x :: st))) :=
  g_ret W rfl (Or.inl ⟨rfl, Or.inl rfl, _, rfl⟩) hd hQ hk hj
theorem g_zreturn (W : Wk Z y bytes ml (some .boolean) n0 p l e R s m args below meth c T kc ks) {x : Int32} (h01 : x &&& 1 = x) (hd : decode bytes pc = .ok (.ireturn, 1)) (hQ : Q (some (.int x)) T.heap) (hk : kc ≤ k) (hj : ks ≤ j) : Goes p e below (En s n0 k j Q) (T.setTop (mkF m pc ls (.int x :: st))) :=
  g_ret W (by show Value.int (x &&& 1) = _; rw [h01]) (Or.inl ⟨rfl, Or.inr (Or.inl rfl), _, rfl⟩) hd hQ hk hj
theorem g_areturn {t : FieldType} (W : Wk Z y bytes ml (some t) n0 p l e R s m args below meth c T kc ks) {v : Value} (ht : t.isReference = true) (hr : v.isRef = true) (hd : decode bytes pc = .ok (.areturn, 1)) (hQ : Q (some v) T.heap) (hk : kc ≤ k) (hj : ks ≤ j) : Goes p e below (En s n0 k j Q) (T.setTop (mkF m pc ls (v :: st))) :=
  g_ret W (by cases t <;> first | (cases ht; done) | rfl) (Or.inr (Or.inr (Or.inr (Or.inr ⟨rfl, ht, hr⟩)))) hd hQ hk hj
theorem g_dreturn (W : Wk Z y bytes ml (some .double) n0 p l e R s m args below meth c T kc ks) {x : UInt64} (hd : decode bytes pc = .ok (.dreturn, 1)) (hQ : Q (some (.double x)) T.heap) (hk : kc ≤ k) (hj : ks ≤ j) : Goes p e below (En s n0 k j Q) (T.setTop (mkF m pc ls (.double x :: st))) :=
  g_ret W rfl (Or.inr (Or.inr (Or.inl ⟨rfl, rfl, _, rfl⟩))) hd hQ hk hj
/-! ### the head of a body -/
theorem con_of {ws : List Cond} {rm : Room} {as : Array Value} {h0 : Heap} {Post : Option Value → Heap → Prop} (hpn : plainFor y = true)
    (body : ∀ (p : Program) (e : Env) (s : State) (m : MethodId) (below : List Frame) (meth : Method) (c : Code) (T : State), Wk Z y bytes ml ret n0 p l e rm s m as below meth c T 0 0 → T.heap = h0 → Goes p e below (En s n0 rm.cells rm.slots Post) (T.setTop (entryFrame m as ml))) :
    Con l Z n0 y ws bytes ml ret rm as h0 Post := by
  refine MetFree.of_bodySF hpn hisR ?_
  intro p e s m args below meth c s₁ Bd hml0 hP hK
  obtain ⟨rfl, hZ, hh⟩ := hP
  obtain ⟨s₂, v, L, g1, g2, g3, g4, g5⟩ := body p e s m below meth c s₁ ⟨⟨Bd.exec, hZ, findClass_of_methodNamed Bd.named, Bd.bytes, hml0, Bd.returns, Bd.notSynchronized, (name_of_methodNamed Bd.named Bd.method).1⟩, [], Stand.of_body Bd, Fr.nil n0⟩ (by rw [← hh, Bd.state]; rfl)
  exact ⟨s₂, _, g1, g2, g3, v, L, rfl, g4, g5⟩
theorem g_cast {g g' : JFrame} (q : g = g') (K : Goes p e below E (T.setTop g')) : Goes p e below E (T.setTop g) := q ▸ K
/-! ### constants of the pool -/
theorem g_ldc2Double (W : Wk Z y bytes ml ret n0 p l e R s m args below meth c T kc ks) {ix : Nat} {v : UInt64} (w : (Cond.constantDouble y.cls ix v).before a0 Z = true) (hd : decode bytes pc = .ok (.ldc2_w ix, 3)) (hpc : pc + 3 = pc') (K : Goes p e below E (T.setTop (mkF m pc' ls (.double v :: st)))) : Goes p e below E (T.setTop (mkF m pc ls st)) := by
  subst hpc
  have hx := W.hx; have hby := W.hby; have hown := W.hown; have hZ := W.hZ
  obtain ⟨_, locs, X, N⟩ := W
  exact K.back fun _ r => X.ldc2DoubleC hx hown (mvT hZ w) (g := mkF m pc ls st) rfl (hb hby hd) _ r
/-! ### the heap: a list of places, each with what its cell is -/
abbrev HRow := Addr × (Cell → Prop)
/-- what was there at the start Z is as it was -/
def Bs (Z : State) (n0 : Nat) (h : Heap) : Prop := n0 ≤ h.size ∧ Z.heap.size ≤ n0 ∧ Ext Z.heap h
def Hp (Z : State) (n0 : Nat) (h : Heap) (L : List HRow) : Prop := Bs Z n0 h ∧ (L.map (·.1)).Nodup ∧ ∀ r ∈ L, n0 ≤ r.1 ∧ ∃ c : Cell, h[r.1]? = some c ∧ r.2 c
abbrev FR := String × String × String × Value
def FldC (Z : State) (f : FR) (c : Cell) : Prop := ∃ (cf : ClassId) (k : Class) (i : Nat) (fd : Field), Z.fieldFound? f.1 f.2.1 f.2.2.1 = some (cf, k, i, fd) ∧ fd.isStatic = false ∧ Z.vm.assignable c.cls cf = true ∧ c.slots[fd.slot]? = some f.2.2.2
def ObC (Z : State) (C : String) (fs : List FR) (c : Cell) : Prop :=
  (∃ k : Class, Z.vm.findClass C = some c.cls ∧ Z.vm.classes[c.cls]? = some k ∧ (k.kind = .ordinary → c.slots.size = k.instanceTypes.size)) ∧ c.vm ≠ .unknown ∧ c.vm.isStatics = false ∧ (∀ f ∈ fs, FldC Z f c) ∧ (fs.map fun f => RoadKit.slotOf Z f.1 f.2.1 f.2.2.1).Nodup
def ArC (Z : State) (ty : FieldType) (vs : List Value) (c : Cell) : Prop := Z.isArrayOf c ty ∧ c.vm ≠ .unknown ∧ c.slots = vs.toArray ∧ vs.length < 2 ^ 31
section Heap
variable {h h' : Heap} {L : List HRow} {a : Addr} {P P' : Cell → Prop} {cell : Cell} {i jx : Nat} {C O n d R0 : String} {fs : List FR} {v w : Value} {vs : List Value} {ty : FieldType}
theorem Bs.start : Bs Z Z.heap.size Z.heap := ⟨Nat.le_refl _, Nat.le_refl _, Nat.le_refl _, fun _ _ q => q⟩
theorem Bs.ext (q : Bs Z n0 h) (E : Ext h h') : Bs Z n0 h' := ⟨Nat.le_trans q.1 E.1, q.2.1, Nat.le_trans q.2.2.1 E.1, fun a c r => E.2 a c (q.2.2.2 a c r)⟩
theorem Bs.put (q : Bs Z n0 h) (ha : n0 ≤ a) (c' : Cell) : Bs Z n0 (h.setIfInBounds a c') := by
  refine ⟨by simpa using q.1, q.2.1, by simpa using q.2.2.1, fun x c r => ?_⟩
  have hx := (Array.getElem?_eq_some_iff.mp r).1
  have := q.2.1
  rw [Array.getElem?_setIfInBounds_ne (by omega)]; exact q.2.2.2 x c r
theorem Hp.nil (q : Bs Z n0 h) : Hp Z n0 h [] := ⟨q, List.nodup_nil, fun _ r => nomatch r⟩
theorem Hp.get (H : Hp Z n0 h L) (hi : L[i]? = some (a, P)) : n0 ≤ a ∧ ∃ c : Cell, h[a]? = some c ∧ P c := H.2.2 (a, P) (List.mem_of_getElem? hi)
theorem map_set_same {α β : Type} (f : α → β) : ∀ (L : List α) (i : Nat) (x x' : α), L[i]? = some x → f x' = f x → (L.set i x').map f = L.map f
  | [], _, _, _, h, _ => by simp at h
  | z :: L, 0, x, x', h, e => by simp at h; subst h; simp [e]
  | z :: L, i + 1, x, x', h, e => by simp at h; simp [map_set_same f L i x x' h e]
theorem nodup_inj {α : Type} {l : List α} (h : l.Nodup) {i j : Nat} {x : α} (hi : l[i]? = some x) (hj : l[j]? = some x) : i = j := (List.getElem?_inj (List.getElem?_eq_some_iff.mp hi).1 h).mp (hi.trans hj.symm)
theorem erase_perm {α : Type} : ∀ (L : List α) (i : Nat) (x : α), L[i]? = some x → L.Perm (x :: L.eraseIdx i)
  | [], _, _, h => by simp at h
  | z :: L, 0, x, h => by simp at h; subst h; exact List.Perm.refl _
  | z :: L, i + 1, x, h => by
    simp at h
    exact ((erase_perm L i x h).cons z).trans (List.Perm.swap x z _)
theorem Hp.put (H : Hp Z n0 h L) (hi : L[i]? = some (a, P)) {c' : Cell} (hP : P' c') : Hp Z n0 (h.setIfInBounds a c') (L.set i (a, P')) := by
  obtain ⟨h1, h2, h3⟩ := H
  obtain ⟨q1, c0, q2, -⟩ := Hp.get ⟨h1, h2, h3⟩ hi
  have hlt := (Array.getElem?_eq_some_iff.mp q2).1
  refine ⟨h1.put q1 c', by rw [map_set_same (·.1) L i (a, P) (a, P') hi rfl]; exact h2, fun r hr => ?_⟩
  obtain ⟨jj, hj, hjr⟩ := List.mem_iff_getElem.mp hr
  have hjL : jj < L.length := by simpa using hj
  by_cases e : jj = i
  · subst e
    rw [List.getElem_set_self] at hjr
    subst hjr
    exact ⟨q1, c', by simp [hlt], hP⟩
  · rw [List.getElem_set_ne (Ne.symm e)] at hjr
    have hm : r ∈ L := hjr ▸ List.getElem_mem hjL
    obtain ⟨g1, c1, g2, g3⟩ := h3 r hm
    refine ⟨g1, c1, ?_, g3⟩
    have hne : a ≠ r.1 := fun q => by
      have e1 : (L.map (·.1))[i]? = some a := by rw [List.getElem?_map, hi]; rfl
      have e2 : (L.map (·.1))[jj]? = some a := by rw [List.getElem?_map, List.getElem?_eq_getElem hjL, hjr, q]; rfl
      exact e (nodup_inj h2 e2 e1)
    rw [Array.getElem?_setIfInBounds_ne hne]; exact g2
theorem Hp.push (H : Hp Z n0 h L) (E : Ext h h') {c : Cell} (hc : h'[h.size]? = some c) (hP : P c) : Hp Z n0 h' ((h.size, P) :: L) := by
  refine ⟨H.1.ext E, ?_, fun r hr => ?_⟩
  · rw [List.map_cons, List.nodup_cons]
    refine ⟨fun q => ?_, H.2.1⟩
    obtain ⟨r, hr, e⟩ := List.mem_map.mp q
    obtain ⟨-, c1, g2, -⟩ := H.2.2 r hr
    have := (Array.getElem?_eq_some_iff.mp g2).1
    have e' : r.1 = h.size := e
    rw [e'] at this; exact Nat.lt_irrefl _ this
  · rcases List.mem_cons.mp hr with rfl | hr
    · exact ⟨H.1.1, c, hc, hP⟩
    · obtain ⟨g1, c1, g2, g3⟩ := H.2.2 r hr
      exact ⟨g1, c1, E.2 _ _ g2, g3⟩
theorem Hp.perm {L' : List HRow} (H : Hp Z n0 h L) (q : L.Perm L') : Hp Z n0 h L' := ⟨H.1, (q.map _).nodup_iff.mp H.2.1, fun r hr => H.2.2 r (q.mem_iff.mpr hr)⟩
theorem Hp.front {r : HRow} (H : Hp Z n0 h L) (hi : L[i]? = some r) {L' : List HRow} (hL : r :: L.eraseIdx i = L') : Hp Z n0 h L' := by
  subst hL
  exact H.perm (erase_perm L i r hi)
theorem Hp.imp (H : Hp Z n0 h L) (hi : L[i]? = some (a, P)) (q : ∀ c, P c → P' c) : Hp Z n0 h (L.set i (a, P')) := by
  obtain ⟨q1, c0, q2, q3⟩ := H.get hi
  have := H.put hi (q c0 q3)
  have e : h.setIfInBounds a c0 = h := by
    apply Array.ext_getElem?; intro x
    by_cases z : a = x
    · subst z; simp [(Array.getElem?_eq_some_iff.mp q2).1, ← q2]
    · rw [Array.getElem?_setIfInBounds_ne z]
  rw [e] at this; exact this
theorem Hp.tail {r : HRow} (H : Hp Z n0 h (r :: L)) : Hp Z n0 h L := ⟨H.1, (List.nodup_cons.mp H.2.1).2, fun x hx => H.2.2 x (List.mem_cons_of_mem _ hx)⟩
theorem Hp.ne (H : Hp Z n0 h L) {b : Addr} (hi : L[i]? = some (a, P)) (hj : L[jx]? = some (b, P')) (hne : i ≠ jx) : a ≠ b := fun q => by
  have e1 : (L.map (·.1))[i]? = some a := by rw [List.getElem?_map, hi]; rfl
  have e2 : (L.map (·.1))[jx]? = some a := by rw [List.getElem?_map, hj, q]; rfl
  exact hne (nodup_inj H.2.1 e1 e2)
theorem FldC.fld {f : FR} (F : FldC Z f cell) (hc : h[a]? = some cell) (hu : cell.vm ≠ .unknown) (hst : cell.vm.isStatics = false) : Fld Z h a f.1 f.2.1 f.2.2.1 f.2.2.2 := by
  obtain ⟨cf, k, i, fd, h1, h2, h3, h4⟩ := F
  exact ⟨cell, cf, k, i, fd, hc, h1, h2, hu, hst, h3, h4⟩
theorem ObC.exa (F : ObC Z C fs cell) (hc : h[a]? = some cell) : Exa Z h a C := by
  obtain ⟨⟨k, h1, h2, h3⟩, h4, h5, -⟩ := F
  exact ⟨cell, k, hc, h1, h2, h5, h3⟩
theorem ObC.put (F : ObC Z C fs cell) (hj : fs[jx]? = some (O, n, d, v)) : ObC Z C (fs.set jx (O, n, d, w)) (cell.setSlot (RoadKit.slotOf Z O n d) w) := by
  obtain ⟨⟨k, h1, h2, h3⟩, h4, h5, h6, h7⟩ := F
  refine ⟨⟨k, h1, h2, fun q => by rw [sz_set]; exact h3 q⟩, h4, h5, fun f hf => ?_, by rw [map_set_same (fun f : FR => RoadKit.slotOf Z f.1 f.2.1 f.2.2.1) fs jx (O, n, d, v) (O, n, d, w) hj rfl]; exact h7⟩
  obtain ⟨hjL, hjE⟩ := List.getElem?_eq_some_iff.mp hj
  obtain ⟨ii, hi, hie⟩ := List.mem_iff_getElem.mp hf
  have hiL : ii < fs.length := by simpa using hi
  by_cases e : ii = jx
  · subst e
    rw [List.getElem_set_self] at hie
    subst hie
    obtain ⟨cf, kf, i, fd, g1, g2, g3, g4⟩ := h6 _ (hjE ▸ List.getElem_mem hjL)
    refine ⟨cf, kf, i, fd, g1, g2, g3, ?_⟩
    have es : RoadKit.slotOf Z O n d = fd.slot := by simp only [RoadKit.slotOf]; rw [show Z.fieldFound? O n d = _ from g1]; rfl
    have hlt := (Array.getElem?_eq_some_iff.mp g4).1
    simp [Cell.setSlot, es, hlt]
  · rw [List.getElem_set_ne (Ne.symm e)] at hie
    have hm : f ∈ fs := hie ▸ List.getElem_mem hiL
    obtain ⟨cf, kf, i, fd, g1, g2, g3, g4⟩ := h6 f hm
    refine ⟨cf, kf, i, fd, g1, g2, g3, ?_⟩
    have es : RoadKit.slotOf Z f.1 f.2.1 f.2.2.1 = fd.slot := by simp only [RoadKit.slotOf]; rw [g1]; rfl
    have hne : RoadKit.slotOf Z O n d ≠ fd.slot := fun q => by
      have e1 : (fs.map fun f => RoadKit.slotOf Z f.1 f.2.1 f.2.2.1)[jx]? = some fd.slot := by rw [List.getElem?_map, hj, ← q]; rfl
      have e2 : (fs.map fun f => RoadKit.slotOf Z f.1 f.2.1 f.2.2.1)[ii]? = some fd.slot := by rw [List.getElem?_map, List.getElem?_eq_getElem hiL, hie, ← es]; rfl
      exact e (nodup_inj h7 e2 e1)
    show (cell.slots.setIfInBounds _ w)[fd.slot]? = _
    rw [Array.getElem?_setIfInBounds_ne hne]; exact g4
/-- what a class's layout words give: each field laid, its first value, the names apart -/
def LaidAll (Z : State) (a0 : Array Value) (C : String) (fs : List FR) : Prop := ∀ f ∈ fs, Laid Z a0 C f.1 f.2.1 f.2.2.1 ∧ ∃ t, parseFieldDescriptor f.2.2.1 = some t ∧ f.2.2.2 = defaultValue t
theorem LaidAll.nil : LaidAll Z a0 C [] := fun _ q => nomatch q
theorem LaidAll.cons {t : FieldType} (q : Laid Z a0 C O n d) (ht : parseFieldDescriptor d = some t) (hv : v = defaultValue t) (r : LaidAll Z a0 C fs) : LaidAll Z a0 C ((O, n, d, v) :: fs) := fun f hf => by
  rcases List.mem_cons.mp hf with rfl | hf
  · exact ⟨q, t, ht, hv⟩
  · exact r f hf
theorem LaidAll.slots (H : LaidAll Z a0 C fs) (q : (fs.map (·.2.1)).Nodup) : (fs.map fun f => RoadKit.slotOf Z f.1 f.2.1 f.2.2.1).Nodup := by
  induction fs with
  | nil => exact List.nodup_nil
  | cons f fs ih =>
    rw [List.map_cons, List.nodup_cons] at q ⊢
    refine ⟨fun z => ?_, ih (fun x hx => H x (List.mem_cons_of_mem _ hx)) q.2⟩
    obtain ⟨g, hg, e⟩ := List.mem_map.mp z
    obtain ⟨L1, t1, p1, -⟩ := H f (List.mem_cons_self ..)
    obtain ⟨L2, t2, p2, -⟩ := H g (List.mem_cons_of_mem _ hg)
    exact slot_ne L2 L1 (fun u => q.1 (List.mem_map.mpr ⟨g, hg, u⟩)) p2 p1 e
/-! ### the steps that read or write it -/
theorem g_getf (W : Wk Z y bytes ml ret n0 p l e R s m args below meth c T kc ks) {ix : Nat} (w : (Cond.fieldLink y.cls ix R0 n d).before a0 Z = true) (via : Via Z R0 O n d) (H : Hp Z n0 T.heap L) (hi : L[i]? = some (a, ObC Z C fs)) (hj : fs[jx]? = some (O, n, d, v)) (hd : decode bytes pc = .ok (.getfield ix, 3)) (hpc : pc + 3 = pc')
    (K : ∀ T', Wk Z y bytes ml ret n0 p l e R s m args below meth c T' kc ks → Hp Z n0 T'.heap L → Goes p e below E (T'.setTop (mkF m pc' ls (v :: st)))) : Goes p e below E (T.setTop (mkF m pc ls (.ref a :: st))) := by
  subst hpc
  have hx := W.hx; have hby := W.hby; have hown := W.hown; have hZ := W.hZ
  obtain ⟨A, locs, X, N⟩ := W
  obtain ⟨-, cl, q1, q2⟩ := H.get hi
  have F := (q2.2.2.2.1 _ (List.mem_of_getElem? hj)).fld q1 q2.2.1 q2.2.2.1
  obtain ⟨T', X', e', st'⟩ := getF X hx hZ hown (host := "") (Or.inl w) via rfl F (g := mkF m pc ls (.ref a :: st)) rfl rfl (hb hby hd)
  exact (K T' ⟨A, locs, X', N⟩ (e' ▸ H)).back st'
theorem g_putf (W : Wk Z y bytes ml ret n0 p l e R s m args below meth c T kc ks) {ix kk : Nat} (wd : (Cond.fieldLink y.cls ix R0 n d).before a0 Z = true) (via : Via Z R0 O n d) (wl : (Cond.lays C O n d).before a0 Z = true ∨ ((Cond.laysFinal C O n d).before a0 Z = true ∧ y.cls = O ∧ y.name = "<init>")) (wi : (Cond.instantiable C kk).before a0 Z = true) (hty : parseFieldDescriptor d = some ty) (hn : narrow ty w = w) (hf : fits ty w = true)
    (H : Hp Z n0 T.heap L) (hi : L[i]? = some (a, ObC Z C fs)) (hj : fs[jx]? = some (O, n, d, v)) (hd : decode bytes pc = .ok (.putfield ix, 3)) (hpc : pc + 3 = pc') {L' : List HRow} (hL : L.set i (a, ObC Z C (fs.set jx (O, n, d, w))) = L')
    (K : ∀ T', Wk Z y bytes ml ret n0 p l e R s m args below meth c T' kc ks → Hp Z n0 T'.heap L' → Goes p e below E (T'.setTop (mkF m pc' ls st))) : Goes p e below E (T.setTop (mkF m pc ls (w :: .ref a :: st))) := by
  subst hpc hL
  have hx := W.hx; have hby := W.hby; have hown := W.hown; have hZ := W.hZ; have hnm := W.hnm
  obtain ⟨A, locs, X, N⟩ := W
  obtain ⟨hn0, cl, q1, q2⟩ := H.get hi
  have F := (q2.2.2.2.1 _ (List.mem_of_getElem? hj)).fld q1 q2.2.1 q2.2.2.1
  obtain ⟨T', h', X', e', Wr', st'⟩ := putF X hx hZ hown (host := "") (Or.inl wd) via rfl F (q2.exa q1) (wl.imp id fun q => ⟨q.1, q.2.1, hnm.trans q.2.2⟩) wi hty hn hf (g := mkF m pc ls (w :: .ref a :: st)) rfl rfl (hb hby hd)
  obtain ⟨cl', g1, -, -, rfl⟩ := Wr'
  cases q1.symm.trans g1
  exact (K T' ⟨A, _, X', Fr.snoc X' N hn0⟩ (by rw [e']; exact H.put hi (q2.put hj))).back st'
theorem g_new (W : Wk Z y bytes ml ret n0 p l e R s m args below meth c T kc ks) {ix nn : Nat} (w : (Cond.classLink y.cls ix C).before a0 Z = true) (wi : (Cond.instantiable C nn).before a0 Z = true) (wz : (Cond.initialized C).before a0 Z = true) (la : LaidAll Z a0 C fs) (nd : (fs.map (·.2.1)).Nodup) (H : Hp Z n0 T.heap L) (hd : decode bytes pc = .ok (.new ix, 3)) (hpc : pc + 3 = pc')
    {kc' ks' : Nat} (hkc : kc + 1 = kc') (hks : ks + nn = ks') (hc : kc' ≤ R.cells) (hl : ks' ≤ R.slots)
    (K : ∀ T' a, Wk Z y bytes ml ret n0 p l e R s m args below meth c T' kc' ks' → Hp Z n0 T'.heap ((a, ObC Z C fs) :: L) → Goes p e below E (T'.setTop (mkF m pc' ls (.ref a :: st)))) : Goes p e below E (T.setTop (mkF m pc ls st)) := by
  subst hpc hkc hks
  have hx := W.hx; have hby := W.hby; have hown := W.hown; have hZ := W.hZ
  obtain ⟨A, locs, X, N⟩ := W
  obtain ⟨T', h', X', e', E', X1, D, ⟨cell, hcell, hvm, -⟩, st'⟩ := newO X hx hZ hown w wi wz rfl (g := mkF m pc ls st) rfl (hb hby hd) hc hl
  have hob : ObC Z C fs cell := by
    obtain ⟨cell', k', g1, g2, g3, g4, g5⟩ := X1
    cases hcell.symm.trans g1
    refine ⟨⟨k', g2, g3, g5⟩, by rw [hvm]; simp, g4, fun f hf => ?_, la.slots nd⟩
    obtain ⟨Lf, t, ht, hv⟩ := la f hf
    obtain ⟨c2, cf, kf, ii, fd, r1, r2, r3, -, -, r6, r7⟩ := D Lf ht
    cases hcell.symm.trans r1
    exact ⟨cf, kf, ii, fd, r2, r3, r6, by rw [hv]; exact r7⟩
  exact (K T' T.heap.size ⟨A, locs, X', N⟩ (by rw [e']; exact H.push E' hcell hob)).back st'
theorem g_initO (W : Wk Z y bytes ml ret n0 p l e R s m args below meth c T kc ks) {ix : Nat} (w1 : (Cond.methodLink y.cls ix Lib.objectInit).before a0 Z = true) (w2 : (Cond.instanceMethod Lib.objectInit).before a0 Z = true) (w3 : (Cond.code Lib.objectInit ⟨#[0xb1]⟩ 1 none).before a0 Z = true) (H : Hp Z n0 T.heap L) (hls : ls.size = ml) (hd : decode bytes pc = .ok (.invokespecial ix, 3)) (hpc : pc + 3 = pc')
    (hf : 1 ≤ R.frames) {Wn : Nat} (hW : (st.map fun v => v.category).sum ≤ Wn) (hl : Wn + 12 ≤ R.locals)
    (K : ∀ T', Wk Z y bytes ml ret n0 p l e R s m args below meth c T' kc ks → Hp Z n0 T'.heap L → Goes p e below E (T'.setTop (mkF m pc' ls st))) : Goes p e below E (T.setTop (mkF m pc ls (.ref a :: st))) := by
  subst hpc
  have hx := W.hx; have hby := W.hby; have hown := W.hown; have hZ := W.hZ; have hml := W.hml
  obtain ⟨A, locs, X, N⟩ := W
  obtain ⟨T', X', e', st'⟩ := initO X hx hZ hown w1 w2 w3 rfl (g := mkF m pc ls (.ref a :: st)) rfl (by rw [hml]; exact hls) rfl (hb hby hd) hf (W := Wn) (by show 2 * 0 + _ ≤ _; omega) hl
  exact (K T' ⟨A, locs, X', N⟩ (e' ▸ H)).back st'
/-! ### arrays -/
theorem ArC.arr (F : ArC Z ty vs cell) (hc : h[a]? = some cell) : Arr Z h a cell ty := ⟨hc, F.1, F.2.1⟩
theorem idx_ok {x : Int32} (hx : x.toInt = (jx : Int)) (F : ArC Z ty vs cell) (hj : jx < vs.length) : ¬ (x < 0 ∨ cell.slots.size ≤ x.toNatClampNeg) := by
  rw [F.2.2.1]
  have e0 : (0 : Int32).toInt = 0 := rfl
  simp only [Int32.lt_iff_toInt_lt, Int32.toNatClampNeg, List.size_toArray, e0, hx]; omega
theorem idx_nat {x : Int32} (hx : x.toInt = (jx : Int)) : x.toNatClampNeg = jx := by simp only [Int32.toNatClampNeg, hx]; omega
theorem g_newarr (W : Wk Z y bytes ml ret n0 p l e R s m args below meth c T kc ks) {aty : ArrayType} (w : (Cond.arrayClass (newarray.typeOf aty)).before a0 Z = true) (H : Hp Z n0 T.heap L) {x : Int32} (hx0 : ¬ x < 0) (hvs : List.replicate x.toNatClampNeg (defaultValue (newarray.typeOf aty)) = vs) {cap : Nat} (hcap : vs.length ≤ cap) (hcb : cap * 8 ≤ 536870912) (hd : decode bytes pc = .ok (.newarray aty, 2)) (hpc : pc + 2 = pc')
    {kc' ks' : Nat} (hkc : kc + 1 = kc') (hks : ks + cap = ks') (hc : kc' ≤ R.cells) (hl : ks' ≤ R.slots)
    (K : ∀ T' a, Wk Z y bytes ml ret n0 p l e R s m args below meth c T' kc' ks' → Hp Z n0 T'.heap ((a, ArC Z (newarray.typeOf aty) vs) :: L) → Goes p e below E (T'.setTop (mkF m pc' ls (.ref a :: st)))) : Goes p e below E (T.setTop (mkF m pc ls (.int x :: st))) := by
  subst hpc hkc hks hvs
  have hx := W.hx; have hby := W.hby; have hZ := W.hZ
  obtain ⟨A, locs, X, N⟩ := W
  rw [List.length_replicate] at hcap
  obtain ⟨T', h', cA, X', e', E', A1, st'⟩ := newP X hx hZ w rfl (g := mkF m pc ls (.int x :: st)) rfl (hb hby hd) rfl hx0 hcap hcb hc hl
  have hl31 : (List.replicate x.toNatClampNeg (defaultValue (newarray.typeOf aty))).length < 2 ^ 31 := by rw [List.length_replicate]; omega
  exact (K T' T.heap.size ⟨A, locs, X', N⟩ (by rw [e']; exact H.push E' A1.1 ⟨A1.2.1, A1.2.2, by simp [newA], hl31⟩)).back st'
theorem g_arrlen (W : Wk Z y bytes ml ret n0 p l e R s m args below meth c T kc ks) (H : Hp Z n0 T.heap L) (hi : L[i]? = some (a, ArC Z ty vs)) {x : Int32} (hx : vs.length.toInt32 = x) (hd : decode bytes pc = .ok (.arraylength, 1)) (hpc : pc + 1 = pc') (K : Goes p e below E (T.setTop (mkF m pc' ls (.int x :: st)))) : Goes p e below E (T.setTop (mkF m pc ls (.ref a :: st))) := by
  subst hpc hx
  have hx := W.hx; have hby := W.hby; have hZ := W.hZ
  obtain ⟨A, locs, X, N⟩ := W
  obtain ⟨-, cl, q1, q2⟩ := H.get hi
  refine K.back fun t r => X.arraylength hx q1 (State.isArrayOf_alike hZ.alike q2.1) (g := mkF m pc ls (.ref a :: st)) rfl rfl (hb hby hd) t ?_
  have e : cl.slots.size = vs.length := by rw [q2.2.2.1]; simp
  rw [e]; exact r
theorem g_iaload (W : Wk Z y bytes ml ret n0 p l e R s m args below meth c T kc ks) (H : Hp Z n0 T.heap L) (hi : L[i]? = some (a, ArC Z .int vs)) {x : Int32} (hx : x.toInt = (jx : Int)) (hv : vs[jx]? = some v) (hd : decode bytes pc = .ok (.iaload, 1)) (hpc : pc + 1 = pc') (K : Goes p e below E (T.setTop (mkF m pc' ls (v :: st)))) : Goes p e below E (T.setTop (mkF m pc ls (.int x :: .ref a :: st))) := by
  subst hpc
  have hxx := W.hx; have hby := W.hby; have hZ := W.hZ
  obtain ⟨A, locs, X, N⟩ := W
  obtain ⟨-, cl, q1, q2⟩ := H.get hi
  exact K.back fun t r => X.iaload hxx q1 (State.isArrayOf_alike hZ.alike q2.1) q2.2.1 (idx_ok hx q2 (List.getElem?_eq_some_iff.mp hv).1) (by rw [idx_nat hx, q2.2.2.1]; simpa using hv) (g := mkF m pc ls (.int x :: .ref a :: st)) rfl rfl (hb hby hd) t r
theorem g_daload (W : Wk Z y bytes ml ret n0 p l e R s m args below meth c T kc ks) (H : Hp Z n0 T.heap L) (hi : L[i]? = some (a, ArC Z .double vs)) {x : Int32} (hx : x.toInt = (jx : Int)) (hv : vs[jx]? = some v) (hd : decode bytes pc = .ok (.daload, 1)) (hpc : pc + 1 = pc') (K : Goes p e below E (T.setTop (mkF m pc' ls (v :: st)))) : Goes p e below E (T.setTop (mkF m pc ls (.int x :: .ref a :: st))) := by
  subst hpc
  have hxx := W.hx; have hby := W.hby; have hZ := W.hZ
  obtain ⟨A, locs, X, N⟩ := W
  obtain ⟨-, cl, q1, q2⟩ := H.get hi
  exact K.back fun t r => X.daload hxx q1 (State.isArrayOf_alike hZ.alike q2.1) q2.2.1 (idx_ok hx q2 (List.getElem?_eq_some_iff.mp hv).1) (by rw [idx_nat hx, q2.2.2.1]; simpa using hv) (g := mkF m pc ls (.int x :: .ref a :: st)) rfl rfl (hb hby hd) t r
theorem g_iastore (W : Wk Z y bytes ml ret n0 p l e R s m args below meth c T kc ks) (H : Hp Z n0 T.heap L) (hi : L[i]? = some (a, ArC Z .int vs)) {x : Int32} {u : Int32} (hx : x.toInt = (jx : Int)) (hj : jx < vs.length) (hd : decode bytes pc = .ok (.iastore, 1)) (hpc : pc + 1 = pc') {L' : List HRow} (hL : L.set i (a, ArC Z .int (vs.set jx (.int u))) = L')
    (K : ∀ T', Wk Z y bytes ml ret n0 p l e R s m args below meth c T' kc ks → Hp Z n0 T'.heap L' → Goes p e below E (T'.setTop (mkF m pc' ls st))) : Goes p e below E (T.setTop (mkF m pc ls (.int u :: .int x :: .ref a :: st))) := by
  subst hpc hL
  have hxx := W.hx; have hby := W.hby; have hZ := W.hZ
  obtain ⟨A, locs, X, N⟩ := W
  obtain ⟨hn0, cl, q1, q2⟩ := H.get hi
  obtain ⟨T', h', X', e', Wr', st'⟩ := stI X hxx hZ rfl (q2.arr q1) (idx_ok hx q2 hj) (g := mkF m pc ls (.int u :: .int x :: .ref a :: st)) rfl rfl (hb hby hd)
  obtain ⟨cl', g1, -, -, rfl⟩ := Wr'
  cases q1.symm.trans g1
  have hsl : (cl.setSlot x.toNatClampNeg (.int u)).slots = (vs.set jx (.int u)).toArray := by rw [idx_nat hx]; show cl.slots.setIfInBounds jx _ = _; rw [q2.2.2.1]; simp
  exact (K T' ⟨A, _, X', Fr.snoc X' N hn0⟩ (by rw [e']; exact H.put hi ⟨q2.1, q2.2.1, hsl, by rw [List.length_set]; exact q2.2.2.2⟩)).back st'
theorem g_dastore (W : Wk Z y bytes ml ret n0 p l e R s m args below meth c T kc ks) (H : Hp Z n0 T.heap L) (hi : L[i]? = some (a, ArC Z .double vs)) {x : Int32} {u : UInt64} (hx : x.toInt = (jx : Int)) (hj : jx < vs.length) (hd : decode bytes pc = .ok (.dastore, 1)) (hpc : pc + 1 = pc') {L' : List HRow} (hL : L.set i (a, ArC Z .double (vs.set jx (.double u))) = L')
    (K : ∀ T', Wk Z y bytes ml ret n0 p l e R s m args below meth c T' kc ks → Hp Z n0 T'.heap L' → Goes p e below E (T'.setTop (mkF m pc' ls st))) : Goes p e below E (T.setTop (mkF m pc ls (.double u :: .int x :: .ref a :: st))) := by
  subst hpc hL
  have hxx := W.hx; have hby := W.hby; have hZ := W.hZ
  obtain ⟨A, locs, X, N⟩ := W
  obtain ⟨hn0, cl, q1, q2⟩ := H.get hi
  obtain ⟨T', h', X', e', Wr', st'⟩ := stD X hxx hZ rfl (q2.arr q1) (idx_ok hx q2 hj) (g := mkF m pc ls (.double u :: .int x :: .ref a :: st)) rfl rfl (hb hby hd)
  obtain ⟨cl', g1, -, -, rfl⟩ := Wr'
  cases q1.symm.trans g1
  have hsl : (cl.setSlot x.toNatClampNeg (.double u)).slots = (vs.set jx (.double u)).toArray := by rw [idx_nat hx]; show cl.slots.setIfInBounds jx _ = _; rw [q2.2.2.1]; simp
  exact (K T' ⟨A, _, X', Fr.snoc X' N hn0⟩ (by rw [e']; exact H.put hi ⟨q2.1, q2.2.1, hsl, by rw [List.length_set]; exact q2.2.2.2⟩)).back st'
end Heap
/-! ### calls by contract -/
section Calls
variable {y' : MethodName} {bytes' : ByteArray} {ml' : Nat} {ret' : Option FieldType} {rm : Room} {Post : Option Value → Heap → Prop} {argsL stk : List Value} {ix : Nat} {Wn kc' ks' : Nat} {ps : List FieldType} {rt : Option FieldType}
theorem g_callS (W : Wk Z y bytes ml ret n0 p l e R s m args below meth c T kc ks) (w1 : (Cond.methodLink y.cls ix y').before a0 Z = true) (w2 : (Cond.static y').before a0 Z = true) (w3 : (Cond.initialized y'.cls).before a0 Z = true) (w4 : (Cond.code y' bytes' ml' ret').before a0 Z = true) (hy : y'.cls ≠ "java/lang/invoke/MethodHandle" ∧ y'.cls ≠ "java/lang/invoke/VarHandle")
    (con : Con l Z n0 y' [] bytes' ml' ret' rm argsL.toArray T.heap Post) (hpd : parseMethodDescriptor y'.desc = some ⟨ps, rt⟩) (hlen : argsL.length = ps.length) (hstk : stk = argsL.reverse ++ st) (hls : ls.size = ml) (hd : decode bytes pc = .ok (.invokestatic ix, 3)) (hpc : pc + 3 = pc')
    (hf : rm.frames + 1 ≤ R.frames) (hW : (st.map fun v => v.category).sum ≤ Wn) (hl : Wn + (ml' + 11) + rm.locals ≤ R.locals) (hkc : kc + rm.cells = kc') (hks : ks + rm.slots = ks') (hc : kc' ≤ R.cells) (hs : ks' ≤ R.slots)
    (K : ∀ T' v, Wk Z y bytes ml ret n0 p l e R s m args below meth c T' kc' ks' → Post v T'.heap → Goes p e below E (T'.setTop (mkF m pc' ls (v.toList ++ st)))) : Goes p e below E (T.setTop (mkF m pc ls stk)) := by
  subst hpc hkc hks hstk
  have hx := W.hx; have hby := W.hby; have hown := W.hown; have hZ := W.hZ; have hml := W.hml
  obtain ⟨A, locs, X, N⟩ := W
  obtain ⟨v, vm1, ⟨T', L', kk, jj⟩, -, X', ⟨Lc, ⟨hN, hQ⟩, l1, l2, l3⟩, st'⟩ := Jvm.LawKit.callS X hx hown (mvT hZ w1) (mvT hZ w2) (mvT hZ w3) (mvT hZ w4) hy (backOf (Q := fun v h L => Fr n0 L ∧ Post v h) (W := Wn) con hZ w4 w3 hf hl) (g := mkF m pc ls (argsL.reverse ++ st)) rfl (by rw [hml]; exact hls) (argsL := argsL) (rest := st) (lenOf hpd hlen) rfl (by show 2 * 0 + _ ≤ _; omega) (hb hby hd) (fun _ _ => ⟨rfl, rfl, hc, hs⟩)
  dsimp only [Pt.U, Pt.locs, Pt.cells, Pt.slots] at X' l1 l2 l3 hQ st'
  subst l1 l2 l3
  exact (K T' v ⟨A, _, X', N.app hN⟩ hQ).back st'
theorem g_callI (W : Wk Z y bytes ml ret n0 p l e R s m args below meth c T kc ks) (hin : y'.name = "<init>") (w1 : (Cond.methodLink y.cls ix y').before a0 Z = true) (w2 : (Cond.instanceMethod y').before a0 Z = true) (w3 : (Cond.initialized y'.cls).before a0 Z = true) (w4 : (Cond.code y' bytes' ml' none).before a0 Z = true) (hy : y'.cls ≠ "java/lang/invoke/MethodHandle" ∧ y'.cls ≠ "java/lang/invoke/VarHandle")
    {a : Addr} (con : Con l Z n0 y' [] bytes' ml' none rm (.ref a :: argsL).toArray T.heap Post) (hpd : parseMethodDescriptor y'.desc = some ⟨ps, rt⟩) (hlen : argsL.length = ps.length) (hstk : stk = argsL.reverse ++ .ref a :: st) (hls : ls.size = ml) (hd : decode bytes pc = .ok (.invokespecial ix, 3)) (hpc : pc + 3 = pc')
    (hf : rm.frames + 1 ≤ R.frames) (hW : (st.map fun v => v.category).sum ≤ Wn) (hl : Wn + (ml' + 11) + rm.locals ≤ R.locals) (hkc : kc + rm.cells = kc') (hks : ks + rm.slots = ks') (hc : kc' ≤ R.cells) (hs : ks' ≤ R.slots)
    (K : ∀ T' v, Wk Z y bytes ml ret n0 p l e R s m args below meth c T' kc' ks' → Post v T'.heap → Goes p e below E (T'.setTop (mkF m pc' ls (v.toList ++ st)))) : Goes p e below E (T.setTop (mkF m pc ls stk)) := by
  subst hpc hkc hks hstk
  have hx := W.hx; have hby := W.hby; have hown := W.hown; have hZ := W.hZ; have hml := W.hml
  obtain ⟨A, locs, X, N⟩ := W
  obtain ⟨v, vm1, ⟨T', L', kk, jj⟩, -, X', ⟨Lc, ⟨hN, hQ⟩, l1, l2, l3⟩, st'⟩ := X.specialBack hx (y := y') hin hown (mvT hZ w1) (mvT hZ w2) (mvT hZ w4) hy (backOf (Q := fun v h L => Fr n0 L ∧ Post v h) (W := Wn) con hZ w4 w3 hf hl) (g := mkF m pc ls (argsL.reverse ++ .ref a :: st)) rfl (by rw [hml]; exact hls) (Steps.refl _) (a := a) (argsL := argsL) (rest := st) (lenOf hpd hlen) rfl (by show 2 * 0 + _ ≤ _; omega) (hb hby hd) (fun _ _ => ⟨rfl, rfl, hc, hs⟩)
  dsimp only [Pt.U, Pt.locs, Pt.cells, Pt.slots] at X' l1 l2 l3 hQ st'
  subst l1 l2 l3
  exact (K T' v ⟨A, _, X', N.app hN⟩ hQ).back fun t r => st'.trans r
theorem g_callV (W : Wk Z y bytes ml ret n0 p l e R s m args below meth c T kc ks) {C : String} {fs : List FR} {L : List HRow} {i : Nat} (w1 : (Cond.methodLink y.cls ix y').before a0 Z = true) (w2 : (Cond.declares y').before a0 Z = true) (w3 : (Cond.selects C y' y').before a0 Z = true) (w4 : (Cond.instanceMethod y').before a0 Z = true) (w5 : (Cond.initialized y'.cls).before a0 Z = true) (w6 : (Cond.code y' bytes' ml' ret').before a0 Z = true) (hy : y'.cls ≠ "java/lang/invoke/MethodHandle" ∧ y'.cls ≠ "java/lang/invoke/VarHandle")
    {a : Addr} (H : Hp Z n0 T.heap L) (hi : L[i]? = some (a, ObC Z C fs)) (con : Con l Z n0 y' [] bytes' ml' ret' rm (.ref a :: argsL).toArray T.heap Post) (hpd : parseMethodDescriptor y'.desc = some ⟨ps, rt⟩) (hlen : argsL.length = ps.length) (hstk : stk = argsL.reverse ++ .ref a :: st) (hls : ls.size = ml) (hd : decode bytes pc = .ok (.invokevirtual ix, 3)) (hpc : pc + 3 = pc')
    (hf : rm.frames + 1 ≤ R.frames) (hW : (st.map fun v => v.category).sum ≤ Wn) (hl : Wn + (ml' + 11) + rm.locals ≤ R.locals) (hkc : kc + rm.cells = kc') (hks : ks + rm.slots = ks') (hc : kc' ≤ R.cells) (hs : ks' ≤ R.slots)
    (K : ∀ T' v, Wk Z y bytes ml ret n0 p l e R s m args below meth c T' kc' ks' → Post v T'.heap → Goes p e below E (T'.setTop (mkF m pc' ls (v.toList ++ st)))) : Goes p e below E (T.setTop (mkF m pc ls stk)) := by
  subst hpc hkc hks hstk
  have hx := W.hx; have hby := W.hby; have hown := W.hown; have hZ := W.hZ; have hml := W.hml
  obtain ⟨A, locs, X, N⟩ := W
  obtain ⟨-, cl, q1, q2⟩ := H.get hi
  obtain ⟨cB, kB, b1, b2, b3⟩ := isOf hZ rfl (q2.exa q1)
  obtain ⟨v, vm1, ⟨T', L', kk, jj⟩, -, X', ⟨Lc, ⟨hN, hQ⟩, l1, l2, l3⟩, st'⟩ := X.virtualBack hx (y := y') hown (mvT hZ w1) (mvT hZ w2) (notFace_of_selects (args := #[]) (mvT hZ w3)) (mvT hZ w3) (mvT hZ w4) hy (backOf (Q := fun v h L => Fr n0 L ∧ Post v h) (W := Wn) con hZ w6 w5 hf hl) b1 b3 (g := mkF m pc ls (argsL.reverse ++ .ref a :: st)) rfl (by rw [hml]; exact hls) (Steps.refl _) (argsL := argsL) (rest := st) (lenOf hpd hlen) rfl (by show 2 * 0 + _ ≤ _; omega) (hb hby hd) (fun _ _ => ⟨rfl, rfl, hc, hs⟩)
  dsimp only [Pt.U, Pt.locs, Pt.cells, Pt.slots] at X' l1 l2 l3 hQ st'
  subst l1 l2 l3
  exact (K T' v ⟨A, _, X', N.app hN⟩ hQ).back fun t r => st'.trans r
theorem g_callP (W : Wk Z y bytes ml ret n0 p l e R s m args below meth c T kc ks) {C : String} {fs : List FR} {L : List HRow} {i nn : Nat} (w1 : (Cond.methodLink y.cls ix y').before a0 Z = true) (w2 : (Cond.instanceMethod y').before a0 Z = true) (w3 : (Cond.privateMethod y').before a0 Z = true) (w4 : (Cond.instantiable y'.cls nn).before a0 Z = true) (w5 : (Cond.initialized y'.cls).before a0 Z = true) (w6 : (Cond.code y' bytes' ml' ret').before a0 Z = true) (hy : y'.cls ≠ "java/lang/invoke/MethodHandle" ∧ y'.cls ≠ "java/lang/invoke/VarHandle")
    {a : Addr} (H : Hp Z n0 T.heap L) (hi : L[i]? = some (a, ObC Z C fs)) (con : Con l Z n0 y' [] bytes' ml' ret' rm (.ref a :: argsL).toArray T.heap Post) (hpd : parseMethodDescriptor y'.desc = some ⟨ps, rt⟩) (hlen : argsL.length = ps.length) (hstk : stk = argsL.reverse ++ .ref a :: st) (hls : ls.size = ml) (hd : decode bytes pc = .ok (.invokevirtual ix, 3)) (hpc : pc + 3 = pc')
    (hf : rm.frames + 1 ≤ R.frames) (hW : (st.map fun v => v.category).sum ≤ Wn) (hl : Wn + (ml' + 11) + rm.locals ≤ R.locals) (hkc : kc + rm.cells = kc') (hks : ks + rm.slots = ks') (hc : kc' ≤ R.cells) (hs : ks' ≤ R.slots)
    (K : ∀ T' v, Wk Z y bytes ml ret n0 p l e R s m args below meth c T' kc' ks' → Post v T'.heap → Goes p e below E (T'.setTop (mkF m pc' ls (v.toList ++ st)))) : Goes p e below E (T.setTop (mkF m pc ls stk)) := by
  subst hpc hkc hks hstk
  have hx := W.hx; have hby := W.hby; have hown := W.hown; have hZ := W.hZ; have hml := W.hml
  obtain ⟨A, locs, X, N⟩ := W
  obtain ⟨-, cl, q1, q2⟩ := H.get hi
  have hst : ∀ q, cl.vm ≠ .statics q := fun q hq => by have := q2.2.2.1; rw [hq] at this; cases this
  obtain ⟨mk, methM, hnamed, hmethM, hstM, habM⟩ := Cond.instanceMethod_spec (args := #[]) (mvT hZ w2)
  obtain ⟨methM', cM, hmethM', -, -, -, -, -, -, hsigM⟩ := Cond.code_spec (args := #[]) hnamed (mvT hZ w6)
  cases hmethM.symm.trans hmethM'
  obtain ⟨cP0, kP, hf1, hkP, -, hkPi, -⟩ := Cond.instantiable_spec (mvT hZ w4 (args := #[]))
  cases (findClass_of_methodNamed hnamed).symm.trans hf1
  have hkPi' : kP.isInterface = false := (Bool.or_eq_false_iff.mp hkPi).1
  have hselP : selectMethod e.platform s.vm cl.cls mk = .method mk := selectMethod_private hmethM (Cond.privateMethod_at (mvP hZ w3 (args := #[])) mk methM hnamed hmethM)
  obtain ⟨vm1, X1, hstep1⟩ := X.invokevirtual hx hown (mvT hZ w1) hnamed hmethM hstM hkP hkPi' hy (a := a) (cell := cl) q1 hst hselP hmethM habM hkP hkPi' (g := mkF m pc ls (argsL.reverse ++ .ref a :: st)) rfl (argsL := argsL) (rest := st) (lenOf hpd hlen _ hsigM) rfl (hb hby hd)
  obtain ⟨v, ⟨T', L', kk, jj⟩, X', ⟨Lc, ⟨hN, hQ⟩, l1, l2, l3⟩, st'⟩ := (backOf (Q := fun v h L => Fr n0 L ∧ Post v h) (W := Wn) (len := 3) (p := p) (e := e) (below := below) (args := args) con hZ w6 w5 hf hl) m meth c ⟨T.setVm vm1, locs, kc, ks⟩ (mkF m pc ls st) (.invokevirtual ix) mk (.ref a :: argsL).toArray X1 rfl (by rw [hml]; exact hls) (hb hby hd) (by show 2 * 0 + (st.map fun v => v.category).sum ≤ Wn; omega) (X1.named hnamed) ⟨rfl, rfl, hc, hs⟩
  dsimp only [Pt.U, Pt.locs, Pt.cells, Pt.slots] at X' l1 l2 l3 hQ st'
  subst l1 l2 l3
  exact (K T' v ⟨A, _, X', N.app hN⟩ hQ).back fun t r => ((hstep1 _ fun acts => by rw [doInvoke_state]; exact Steps.refl _).trans st').trans r
end Calls
end Laws
end Jvm.OwnKit


@@BLOCK:NumsL.lean.txt@@
namespace Jvm.OwnKit
open Jvm.Free
/-! ### ints -/
theorem i32_lit {x y : Int32} {k : Int} (h : x.toInt = k) (hy : y.toInt = k) : x = y := Int32.toInt_inj.mp (h.trans hy.symm)
theorem and1 (x : Int32) : x &&& 1 = 0 ∨ x &&& 1 = 1 := by
  have h := Kit.i32_mask x 1 (k := 1) (by decide) (by decide)
  have q : (x &&& 1).toInt = 0 ∨ (x &&& 1).toInt = 1 := by omega
  rcases q with q | q
  · exact Or.inl (i32_lit q (by decide))
  · exact Or.inr (i32_lit q (by decide))
theorem and3 (x : Int32) : x &&& 3 = 0 ∨ x &&& 3 = 1 ∨ x &&& 3 = 2 ∨ x &&& 3 = 3 := by
  have h := Kit.i32_mask x 3 (k := 2) (by decide) (by decide)
  have q : (x &&& 3).toInt = 0 ∨ (x &&& 3).toInt = 1 ∨ (x &&& 3).toInt = 2 ∨ (x &&& 3).toInt = 3 := by omega
  rcases q with q | q | q | q
  · exact Or.inl (i32_lit q (by decide))
  · exact Or.inr (Or.inl (i32_lit q (by decide)))
  · exact Or.inr (Or.inr (Or.inl (i32_lit q (by decide))))
  · exact Or.inr (Or.inr (Or.inr (i32_lit q (by decide))))
theorem i32_remW (x y : Int32) : (x - (x / y) * y).toInt = x.toInt.tmod y.toInt := by
  have a := (x % y).toInt_lt; have b := (x % y).le_toInt
  rw [Int32.toInt_mod] at a b
  rw [Int32.toInt_sub, Int32.toInt_mul, Int32.toInt_div, Int.bmod_mul_bmod, Int.sub_bmod_bmod, Int.mul_comm, ← Int.tmod_def]
  exact Kit.bmod32 b a
theorem i32_remN {x y : Int32} (hx : 0 ≤ x.toInt) : (x - (x / y) * y).toInt = x.toInt % y.toInt := by rw [i32_remW, Int.tmod_eq_emod_of_nonneg hx]
theorem lt1 {j : Int32} (h : ¬ j < 0) (h2 : j < 1) : j = 0 := by
  rw [Int32.lt_iff_toInt_lt] at h h2
  have e0 : (0 : Int32).toInt = 0 := by decide
  have e1 : (1 : Int32).toInt = 1 := by decide
  exact i32_lit (k := 0) (by omega) e0
theorem lt0 {j : Int32} {P : Prop} (h : ¬ j < 0) (h2 : j < 0) : P := absurd h2 h
end Jvm.OwnKit

namespace Jvm.OwnKit
open Jvm.FP.Core Jvm.Free.Fl Jvm.Op Jvm.ClassFile
/-! ### exact doubles: a is n * 2^e -/
def Dy (n e : Int) (a : UInt64) : Prop := DFin a ∧ zval b64 (val64 a) = n * ((2 ^ (e + 1074).toNat : Nat) : Int)
theorem pw3 {A B X1 Y1 X Y : Nat} (h : A * 2 ^ X1 = B * 2 ^ Y1) (hd : X + Y1 = X1 + Y) : A * 2 ^ X = B * 2 ^ Y := by
  apply Nat.eq_of_mul_eq_mul_right (Nat.two_pow_pos X1)
  calc A * 2 ^ X * 2 ^ X1 = A * 2 ^ X1 * 2 ^ X := by rw [Nat.mul_right_comm]
    _ = B * 2 ^ Y1 * 2 ^ X := by rw [h]
    _ = B * 2 ^ Y * 2 ^ X1 := by rw [Nat.mul_assoc, Nat.mul_assoc, ← Nat.pow_add, ← Nat.pow_add, show Y1 + X = Y + X1 by omega]
theorem rr_exact {s : Bool} {A B n : Nat} {e q : Int} (hB : 0 < B) (hn : n < 2 ^ 53) (h1 : -1074 ≤ q) (h2 : q ≤ 971) (h : A * 2 ^ (e - q).toNat = n * B * 2 ^ (q - e).toNat) :
    ∃ c' q', roundRatio b64 s A B e = .fin s c' q' ∧ inUnits c' q' b64.qmin = n * 2 ^ (q + 1074).toNat := by
  have hc : roundRatio b64 s A B e = roundRatio b64 s n 1 q := roundRatio_congr hB (by decide) (by rw [Nat.mul_one]; exact h)
  obtain ⟨c', q', g1, g2⟩ := round_exact good_b64 s (c := n) (q := q) (show n < 2 ^ 53 from hn) (by rw [qmin_b64]; exact h1) (by rw [show b64.qmax = 971 by decide]; exact h2)
  refine ⟨c', q', hc.trans g1, g2.trans ?_⟩
  unfold inUnits; rw [qmin_b64, show (q - -1074).toNat = (q + 1074).toNat by omega]
theorem dy_rr {a : UInt64} {s : Bool} {A B n : Nat} {e q : Int} (ha : val64 a = roundRatio b64 s A B e) (hB : 0 < B) (hn : n < 2 ^ 53) (h1 : -1074 ≤ q) (h2 : q ≤ 971) (h : A * 2 ^ (e - q).toNat = n * B * 2 ^ (q - e).toNat) : Dy (signed s n) q a := by
  obtain ⟨c', q', g1, g2⟩ := rr_exact (s := s) hB hn h1 h2 h
  rw [g1] at ha
  refine ⟨⟨s, c', q', ha⟩, ?_⟩
  rw [ha]; show signed s (inUnits c' q' b64.qmin) = _; rw [g2, signed_mul]
theorem signed_back {s : Bool} {X P : Nat} {n : Int} (hP : 0 < P) (h : signed s X = n * (P : Int)) : signed s n.natAbs = n := by
  have hP' : (0 : Int) < P := Int.natCast_pos.mpr hP
  cases s
  · have h' : (X : Int) = n * P := h
    have : 0 ≤ n := Int.not_lt.mp fun q => by have := Int.mul_neg_of_neg_of_pos q hP'; omega
    show (n.natAbs : Int) = n; omega
  · have h' : -(X : Int) = n * P := h
    have : n ≤ 0 := Int.not_lt.mp fun q => by have := Int.mul_pos q hP'; omega
    show -(n.natAbs : Int) = n; omega
theorem dy_open {n e : Int} {a : UInt64} (ha : Dy n e a) : ∃ s c q, val64 a = .fin s c q ∧ -1074 ≤ q ∧ Jvm.FP.Core.fits b64 (.fin s c q) ∧ c * 2 ^ (q + 1074).toNat = n.natAbs * 2 ^ (e + 1074).toNat ∧ signed s n.natAbs = n := by
  obtain ⟨⟨s, c, q, hv⟩, hz⟩ := ha
  have hfit := val64_fits a
  rw [hv] at hfit hz
  have hq : -1074 ≤ q := by have := hfit.2.1; rwa [qmin_b64] at this
  have hz1 : signed s (inUnits c q b64.qmin) = n * ((2 ^ (e + 1074).toNat : Nat) : Int) := hz
  have hz2 := congrArg Int.natAbs hz1
  rw [natAbs_signed, Int.natAbs_mul, Int.natAbs_natCast] at hz2
  refine ⟨s, c, q, hv, hq, hfit, ?_, signed_back (Nat.two_pow_pos _) hz1⟩
  rw [← hz2]; unfold inUnits; rw [qmin_b64, show (q - -1074).toNat = (q + 1074).toNat by omega]
theorem quo_fin {s t : Bool} {c d : Nat} {q r : Int} (hd : d ≠ 0) : quotient b64 (.fin s c q) (.fin t d r) = roundRatio b64 (s != t) c d (q - r) := if_neg hd
theorem dy_div {n e k : Int} {a b : UInt64} (ha : Dy n e a) (he : -1074 ≤ e) (hb : val64 b = .fin false (2 ^ 52) (k - 52)) (hn : n.natAbs < 2 ^ 53) (h1 : -1074 ≤ e - k) (h2 : e - k ≤ 971) : Dy n (e - k) (FP.ddiv a b) := by
  obtain ⟨s, c, q, hv, hq, hfit, hz, hs⟩ := dy_open ha
  have hd : val64 (FP.ddiv a b) = roundRatio b64 s c (2 ^ 52) (q - (k - 52)) := by
    rw [show val64 (FP.ddiv a b) = _ from val64_ddiv a b, hv, hb]
    rw [quo_fin (by decide), show (s != false) = s by cases s <;> rfl]
  have := dy_rr hd (n := n.natAbs) (q := e - k) (by decide) hn h1 h2 (by
    rw [Nat.mul_assoc, ← Nat.pow_add]
    exact pw3 hz (by omega))
  rwa [hs] at this
theorem dy_addG {n e m k : Int} {t : Nat} {a b : UInt64} (ha : Dy n e a) (hb : Dy m e b) (hnm : n + m = k * ((2 ^ t : Nat) : Int)) (hk : k.natAbs < 2 ^ 53) (h1 : -1074 ≤ e) (h2 : e + t ≤ 971) : Dy k (e + t) (FP.dadd a b) := by
  obtain ⟨⟨s, c, q, hv⟩, hz⟩ := ha
  obtain ⟨⟨s2, d, r, hw⟩, hz2⟩ := hb
  have f1 := val64_fits a
  have f2 := val64_fits b
  rw [hv] at f1 hz
  rw [hw] at f2 hz2
  obtain ⟨sg, N, E, g1, g2, g3⟩ := sum_units f1 f2
  rw [qmin_b64] at g2
  rw [hz, hz2, ← Int.add_mul, hnm, Int.mul_assoc, ← Int.natCast_mul, ← Nat.pow_add] at g3
  have hd : val64 (FP.dadd a b) = roundRatio b64 sg N 1 E := by
    rw [show val64 (FP.dadd a b) = _ from val64_dadd a b, hv, hw, g1]; rfl
  have g4 := congrArg Int.natAbs g3
  rw [natAbs_signed, Int.natAbs_mul, Int.natAbs_natCast] at g4
  unfold inUnits at g4
  rw [qmin_b64] at g4
  have := dy_rr hd (n := k.natAbs) (q := e + t) (by decide) hk (by omega) h2 (by
    rw [Nat.mul_one]
    exact pw3 g4 (by omega))
  rwa [signed_back (Nat.two_pow_pos _) g3] at this
theorem dy_add {n e m : Int} {a b : UInt64} (ha : Dy n e a) (hb : Dy m e b) (hn : (n + m).natAbs < 2 ^ 53) (h1 : -1074 ≤ e) (h2 : e ≤ 971) : Dy (n + m) e (FP.dadd a b) := by
  have := dy_addG (t := 0) ha hb (by rw [show ((2 ^ 0 : Nat) : Int) = 1 from rfl, Int.mul_one]) hn h1 (by omega)
  rwa [show e + ((0 : Nat) : Int) = e by omega] at this
theorem dy_i2d (x : Int32) : Dy x.toInt 0 (FP.i2d x) := ⟨Jvm.FP.Core.i2d_fin x, DInt_zval (i2d_int x)⟩
theorem dy_l2d {x : Int64} (h : x.toInt.natAbs ≤ 2 ^ 53) : Dy x.toInt 0 (FP.l2d x) := ⟨Jvm.FP.Core.l2d_fin x, DInt_zval (l2d_int h)⟩
theorem dy_zero : Dy 0 0 0 := ⟨⟨false, 0, b64.qmin, val64_zero⟩, by rw [zval64_zero, Int.zero_mul]⟩
theorem Dy.fin {n e : Int} {a : UInt64} (h : Dy n e a) : Fin64 a := fin64_core.mpr h.1
theorem Dy.nn {n e : Int} {a : UInt64} (h : Dy n e a) : NoNaN64 a := h.fin.noNaN
theorem dy_cmp {n m e : Int} {a b : UInt64} (ha : Dy n e a) (hb : Dy m e b) : FP.dcmp a b = some (compare n m) := by
  have := dcmp_zval (DFin.ne_nan ha.1) (DFin.ne_nan hb.1)
  rw [ha.2, hb.2, compare_mul_pos _ _ _ (Int.natCast_pos.mpr (Nat.two_pow_pos _))] at this
  exact this
theorem cv_lt {n m : Int} (h : n < m) (o : CmpOp) : cmpValue (some (compare n m)) o = -1 := by rw [(compare_lt_iff n m).mpr h]; rfl
theorem cv_eq {n m : Int} (h : n = m) (o : CmpOp) : cmpValue (some (compare n m)) o = 0 := by rw [(compare_eq_iff n m).mpr h]; rfl
theorem cv_gt {n m : Int} (h : m < n) (o : CmpOp) : cmpValue (some (compare n m)) o = 1 := by rw [(compare_gt_iff n m).mpr h]; rfl
theorem cv3 (n m : Int) (o : CmpOp) : (n < m ∧ cmpValue (some (compare n m)) o = -1) ∨ (n = m ∧ cmpValue (some (compare n m)) o = 0) ∨ (m < n ∧ cmpValue (some (compare n m)) o = 1) := by
  rcases Int.lt_trichotomy n m with h | h | h
  · exact Or.inl ⟨h, cv_lt h o⟩
  · exact Or.inr (Or.inl ⟨h, cv_eq h o⟩)
  · exact Or.inr (Or.inr ⟨h, cv_gt h o⟩)
end Jvm.OwnKit

namespace Jvm.OwnKit
open Jvm.FP.Core Jvm.Free.Fl Jvm.Op Jvm.ClassFile
end Jvm.OwnKit

namespace Jvm.OwnKit
open Sem ClassFile Op Lib Jvm.Stand Jvm.Free Jvm.LawKit Jvm.RoadKit Jvm.Free.Fl
section Refs
variable {Z : State} {y : MethodName} {bytes : ByteArray} {ml : Nat} {ret : Option FieldType} {n0 : Nat} {p : Program} {l : Launch} {e : Env} {R : Room} {s : State} {m : MethodId} {args : Array Value} {below : List Frame} {meth : Method} {c : Code} {T : State} {kc ks k j : Nat} {Q : Option Value → Heap → Prop} {E : Option Value → State → List Loc → Prop} {pc pc' : Nat} {ls : Array Slot} {st : List Value} {a0 : Array Value}
variable {h h' : Heap} {L : List HRow} {a : Addr} {P P' : Cell → Prop} {cell : Cell} {i jx : Nat} {C O n d R0 K0 : String} {fs : List FR} {v w : Value} {vs : List Value} {ty : FieldType}
/-- an array of references to C -/
def RaC (Z : State) (C : String) (vs : List Value) (c : Cell) : Prop := ArC Z (.object C) vs c ∧ Ovr Z c.cls C
theorem Hp.old (H : Hp Z n0 h L) : Ext Z.heap h := H.1.2.2
theorem Hp.exa (H : Hp Z n0 h L) (hi : L[i]? = some (a, ObC Z C fs)) : Exa Z h a C := by
  obtain ⟨-, cl, q1, q2⟩ := H.get hi
  exact q2.exa q1
theorem Hp.fld (H : Hp Z n0 h L) (hi : L[i]? = some (a, ObC Z C fs)) (hj : fs[jx]? = some (O, n, d, v)) : Fld Z h a O n d v := by
  obtain ⟨-, cl, q1, q2⟩ := H.get hi
  exact (q2.2.2.2.1 _ (List.mem_of_getElem? hj)).fld q1 q2.2.1 q2.2.2.1
theorem Hp.exam (H : Hp Z n0 h L) (hi : (a, ObC Z C fs) ∈ L) : Exa Z h a C := by
  obtain ⟨-, cl, q1, q2⟩ := H.2.2 _ hi
  exact q2.exa q1
theorem Hp.fldm (H : Hp Z n0 h L) (hi : (a, ObC Z C fs) ∈ L) (hj : fs[jx]? = some (O, n, d, v)) : Fld Z h a O n d v := by
  obtain ⟨-, cl, q1, q2⟩ := H.2.2 _ hi
  exact (q2.2.2.2.1 _ (List.mem_of_getElem? hj)).fld q1 q2.2.1 q2.2.2.1
/-- an Integer of the value x: an old one, or one of the rows F -/
def IntF (Z : State) (n0 : Nat) (F : List HRow) (a : Addr) (x : Int32) : Prop := ∀ (h : Heap) (L : List HRow), Hp Z n0 h L → (∀ r ∈ F, r ∈ L) → Exa Z h a "java/lang/Integer" ∧ Fld Z h a "java/lang/Integer" "value" "I" (.int x)
theorem IntF.mono {F F' : List HRow} {x : Int32} (q : IntF Z n0 F a x) (s : ∀ r ∈ F, r ∈ F') : IntF Z n0 F' a x := fun h L H z => q h L H fun r hr => z r (s r hr)
/-! ### branches on references -/
theorem g_ifnonnullY (W : Wk Z y bytes ml ret n0 p l e R s m args below meth c T kc ks) {o : Int} {pcy : Nat} (hd : decode bytes pc = .ok (.ifnonnull o, 3)) (hy : (pc : Int) + o = (pcy : Nat)) (K : Goes p e below E (T.setTop (mkF m pcy ls st))) : Goes p e below E (T.setTop (mkF m pc ls (.ref a :: st))) :=
  K.back fun _ r => XT.ifnonnullYes W.here W.hx rfl (pc0 := pc) (pc' := pcy) rfl (hb W.hby hd) rfl (by omega) (by omega) r
theorem g_acmpY (W : Wk Z y bytes ml ret n0 p l e R s m args below meth c T kc ks) {cd : ClassFile.ACond} {o : Int} {pcy : Nat} (hv : v.isRef = true) (hw : w.isRef = true) (hc : XT.acmp cd v w = true) (hd : decode bytes pc = .ok (.if_acmp cd o, 3)) (hy : (pc : Int) + o = (pcy : Nat)) (K : Goes p e below E (T.setTop (mkF m pcy ls st))) : Goes p e below E (T.setTop (mkF m pc ls (w :: v :: st))) :=
  K.back fun _ r => XT.acmpYes W.here W.hx rfl (pc0 := pc) (pc' := pcy) rfl (hb W.hby hd) rfl hv hw hc (by omega) (by omega) r
theorem g_acmpN (W : Wk Z y bytes ml ret n0 p l e R s m args below meth c T kc ks) {cd : ClassFile.ACond} {o : Int} (hv : v.isRef = true) (hw : w.isRef = true) (hc : XT.acmp cd v w = false) (hd : decode bytes pc = .ok (.if_acmp cd o, 3)) (hpc : pc + 3 = pc') (K : Goes p e below E (T.setTop (mkF m pc' ls st))) : Goes p e below E (T.setTop (mkF m pc ls (w :: v :: st))) := by
  subst hpc; exact K.back fun _ r => XT.acmpNo W.here W.hx rfl (hb W.hby hd) rfl hv hw hc r
theorem acmp_same (a : Addr) : XT.acmp .eq (.ref a) (.ref a) = true := by simp [XT.acmp]
theorem acmp_diff {a b : Addr} (q : a ≠ b) : XT.acmp .eq (.ref a) (.ref b) = false := by simp [XT.acmp, q]
/-! ### casts, statics -/
theorem g_cast1 (W : Wk Z y bytes ml ret n0 p l e R s m args below meth c T kc ks) {ix : Nat} (w : (Cond.classLink y.cls ix K0).before a0 Z = true) (F : Ins Z T.heap a K0 true) (H : Hp Z n0 T.heap L) (hd : decode bytes pc = .ok (.checkcast ix, 3)) (hpc : pc + 3 = pc')
    (K : ∀ T', Wk Z y bytes ml ret n0 p l e R s m args below meth c T' kc ks → T'.heap = T.heap → Hp Z n0 T'.heap L → Goes p e below E (T'.setTop (mkF m pc' ls (.ref a :: st)))) : Goes p e below E (T.setTop (mkF m pc ls (.ref a :: st))) := by
  subst hpc
  have hx := W.hx; have hby := W.hby; have hown := W.hown; have hZ := W.hZ
  obtain ⟨A, locs, X, N⟩ := W
  obtain ⟨T', X', e', st'⟩ := castY X hx hZ hown w rfl F (g := mkF m pc ls (.ref a :: st)) rfl rfl (hb hby hd)
  exact (K T' ⟨A, locs, X', N⟩ e' (e' ▸ H)).back st'
theorem g_getS (W : Wk Z y bytes ml ret n0 p l e R s m args below meth c T kc ks) {ix : Nat} (w : (Cond.fieldLink y.cls ix R0 n d).before a0 Z = true) (via : Via Z R0 O n d) (F : Sta Z Z.heap O n d v) (H : Hp Z n0 T.heap L) (hd : decode bytes pc = .ok (.getstatic ix, 3)) (hpc : pc + 3 = pc')
    (K : ∀ T', Wk Z y bytes ml ret n0 p l e R s m args below meth c T' kc ks → T'.heap = T.heap → Hp Z n0 T'.heap L → Goes p e below E (T'.setTop (mkF m pc' ls (v :: st)))) : Goes p e below E (T.setTop (mkF m pc ls st)) := by
  subst hpc
  have hx := W.hx; have hby := W.hby; have hown := W.hown; have hZ := W.hZ
  obtain ⟨A, locs, X, N⟩ := W
  obtain ⟨T', X', e', st'⟩ := getS X hx hZ hown (host := "") w via rfl (F.ext H.old) (g := mkF m pc ls st) rfl (hb hby hd)
  exact (K T' ⟨A, locs, X', N⟩ e' (e' ▸ H)).back st'
/-- a field read by the fact alone (an object that stands in no row) -/
theorem g_getfF (W : Wk Z y bytes ml ret n0 p l e R s m args below meth c T kc ks) {ix : Nat} (w : (Cond.fieldLink y.cls ix R0 n d).before a0 Z = true) (via : Via Z R0 O n d) (H : Hp Z n0 T.heap L) (F : Fld Z T.heap a O n d v) (hd : decode bytes pc = .ok (.getfield ix, 3)) (hpc : pc + 3 = pc')
    (K : ∀ T', Wk Z y bytes ml ret n0 p l e R s m args below meth c T' kc ks → T'.heap = T.heap → Hp Z n0 T'.heap L → Goes p e below E (T'.setTop (mkF m pc' ls (v :: st)))) : Goes p e below E (T.setTop (mkF m pc ls (.ref a :: st))) := by
  subst hpc
  have hx := W.hx; have hby := W.hby; have hown := W.hown; have hZ := W.hZ
  obtain ⟨A, locs, X, N⟩ := W
  obtain ⟨T', X', e', st'⟩ := getF X hx hZ hown (host := "") (Or.inl w) via rfl F (g := mkF m pc ls (.ref a :: st)) rfl rfl (hb hby hd)
  exact (K T' ⟨A, locs, X', N⟩ e' (e' ▸ H)).back st'
/-! ### arrays of references, bytes -/
theorem g_anewarr (W : Wk Z y bytes ml ret n0 p l e R s m args below meth c T kc ks) {ix : Nat} (w1 : (Cond.classLink y.cls ix C).before a0 Z = true) (w2 : (Cond.arrayOver (.object C)).before a0 Z = true) (H : Hp Z n0 T.heap L) {x : Int32} (hx0 : ¬ x < 0) (hvs : List.replicate x.toNatClampNeg .null = vs) {cap : Nat} (hcap : vs.length ≤ cap) (hcb : cap * 8 ≤ 536870912) (hd : decode bytes pc = .ok (.anewarray ix, 3)) (hpc : pc + 3 = pc')
    {kc' ks' : Nat} (hkc : kc + 1 = kc') (hks : ks + cap = ks') (hc : kc' ≤ R.cells) (hl : ks' ≤ R.slots)
    (K : ∀ T' a, Wk Z y bytes ml ret n0 p l e R s m args below meth c T' kc' ks' → Hp Z n0 T'.heap ((a, RaC Z C vs) :: L) → Goes p e below E (T'.setTop (mkF m pc' ls (.ref a :: st)))) : Goes p e below E (T.setTop (mkF m pc ls (.int x :: st))) := by
  subst hpc hkc hks hvs
  have hx := W.hx; have hby := W.hby; have hZ := W.hZ; have hown := W.hown
  obtain ⟨A, locs, X, N⟩ := W
  rw [List.length_replicate] at hcap
  obtain ⟨T', h', cA, X', e', E', A1, O1, st'⟩ := newR X hx hZ hown w1 w2 rfl (g := mkF m pc ls (.int x :: st)) rfl (hb hby hd) rfl hx0 hcap hcb hc hl
  have hl31 : (List.replicate x.toNatClampNeg Value.null).length < 2 ^ 31 := by rw [List.length_replicate]; omega
  exact (K T' T.heap.size ⟨A, locs, X', N⟩ (by rw [e']; exact H.push E' A1.1 ⟨⟨A1.2.1, A1.2.2, by simp [newA, defaultValue], hl31⟩, O1⟩)).back st'
theorem g_arrlenR (W : Wk Z y bytes ml ret n0 p l e R s m args below meth c T kc ks) (H : Hp Z n0 T.heap L) (hi : L[i]? = some (a, RaC Z C vs)) {x : Int32} (hx : vs.length.toInt32 = x) (hd : decode bytes pc = .ok (.arraylength, 1)) (hpc : pc + 1 = pc') (K : Goes p e below E (T.setTop (mkF m pc' ls (.int x :: st)))) : Goes p e below E (T.setTop (mkF m pc ls (.ref a :: st))) := by
  subst hpc hx
  have hx := W.hx; have hby := W.hby; have hZ := W.hZ
  obtain ⟨A, locs, X, N⟩ := W
  obtain ⟨-, cl, q1, q2, -⟩ := H.get hi
  refine K.back fun t r => X.arraylength hx q1 (State.isArrayOf_alike hZ.alike q2.1) (g := mkF m pc ls (.ref a :: st)) rfl rfl (hb hby hd) t ?_
  have e : cl.slots.size = vs.length := by rw [q2.2.2.1]; simp
  rw [e]; exact r
/-- the length of an array by the fact alone -/
theorem g_arrlenF (W : Wk Z y bytes ml ret n0 p l e R s m args below meth c T kc ks) {cl : Cell} (F : Arr Z T.heap a cl ty) {x : Int32} (hx : cl.slots.size.toInt32 = x) (hd : decode bytes pc = .ok (.arraylength, 1)) (hpc : pc + 1 = pc') (K : Goes p e below E (T.setTop (mkF m pc' ls (.int x :: st)))) : Goes p e below E (T.setTop (mkF m pc ls (.ref a :: st))) := by
  subst hpc hx
  have hx := W.hx; have hby := W.hby; have hZ := W.hZ
  obtain ⟨A, locs, X, N⟩ := W
  exact K.back fun t r => X.arraylength hx F.1 (State.isArrayOf_alike hZ.alike F.2.1) (g := mkF m pc ls (.ref a :: st)) rfl rfl (hb hby hd) t r
theorem g_aaload (W : Wk Z y bytes ml ret n0 p l e R s m args below meth c T kc ks) (H : Hp Z n0 T.heap L) (hi : L[i]? = some (a, RaC Z C vs)) {x : Int32} (hx : x.toInt = (jx : Int)) (hv : vs[jx]? = some v) (hd : decode bytes pc = .ok (.aaload, 1)) (hpc : pc + 1 = pc') (K : Goes p e below E (T.setTop (mkF m pc' ls (v :: st)))) : Goes p e below E (T.setTop (mkF m pc ls (.int x :: .ref a :: st))) := by
  subst hpc
  have hxx := W.hx; have hby := W.hby; have hZ := W.hZ
  obtain ⟨A, locs, X, N⟩ := W
  obtain ⟨-, cl, q1, q2, -⟩ := H.get hi
  exact K.back fun t r => X.aaload hxx q1 (State.isArrayOf_alike hZ.alike q2.1) rfl q2.2.1 (idx_ok hx q2 (List.getElem?_eq_some_iff.mp hv).1) (by rw [idx_nat hx, q2.2.2.1]; simpa using hv) (g := mkF m pc ls (.int x :: .ref a :: st)) rfl rfl (hb hby hd) t r
/-- a load by the fact alone -/
theorem g_aaloadF (W : Wk Z y bytes ml ret n0 p l e R s m args below meth c T kc ks) {cl : Cell} (F : Arr Z T.heap a cl ty) (hty : ty.isReference = true) {x : Int32} (hin : ¬ (x < 0 ∨ cl.slots.size ≤ x.toNatClampNeg)) (hv : cl.slots[x.toNatClampNeg]? = some v) (hd : decode bytes pc = .ok (.aaload, 1)) (hpc : pc + 1 = pc') (K : Goes p e below E (T.setTop (mkF m pc' ls (v :: st)))) : Goes p e below E (T.setTop (mkF m pc ls (.int x :: .ref a :: st))) := by
  subst hpc
  have hxx := W.hx; have hby := W.hby; have hZ := W.hZ
  obtain ⟨A, locs, X, N⟩ := W
  exact K.back fun t r => X.aaload hxx F.1 (State.isArrayOf_alike hZ.alike F.2.1) hty F.2.2 hin hv (g := mkF m pc ls (.int x :: .ref a :: st)) rfl rfl (hb hby hd) t r
theorem g_aastore (W : Wk Z y bytes ml ret n0 p l e R s m args below meth c T kc ks) (H : Hp Z n0 T.heap L) (hi : L[i]? = some (a, RaC Z C vs)) {x : Int32} {b : Addr} (F : Ins Z T.heap b C true) (hx : x.toInt = (jx : Int)) (hj : jx < vs.length) (hd : decode bytes pc = .ok (.aastore, 1)) (hpc : pc + 1 = pc') {L' : List HRow} (hL : L.set i (a, RaC Z C (vs.set jx (.ref b))) = L')
    (K : ∀ T', Wk Z y bytes ml ret n0 p l e R s m args below meth c T' kc ks → Hp Z n0 T'.heap L' → Goes p e below E (T'.setTop (mkF m pc' ls st))) : Goes p e below E (T.setTop (mkF m pc ls (.ref b :: .int x :: .ref a :: st))) := by
  subst hpc hL
  have hxx := W.hx; have hby := W.hby; have hZ := W.hZ
  obtain ⟨A, locs, X, N⟩ := W
  obtain ⟨hn0, cl, q1, q2, q3⟩ := H.get hi
  obtain ⟨T', h', X', e', Wr', st'⟩ := stR X hxx hZ rfl (q2.arr q1) (idx_ok hx q2 hj) rfl (Sto.of (q2.arr q1) q3 F) (g := mkF m pc ls (.ref b :: .int x :: .ref a :: st)) rfl rfl (hb hby hd)
  obtain ⟨cl', g1, -, -, rfl⟩ := Wr'
  cases q1.symm.trans g1
  have hsl : (cl.setSlot x.toNatClampNeg (.ref b)).slots = (vs.set jx (.ref b)).toArray := by rw [idx_nat hx]; show cl.slots.setIfInBounds jx _ = _; rw [q2.2.2.1]; simp
  exact (K T' ⟨A, _, X', Fr.snoc X' N hn0⟩ (by rw [e']; exact H.put hi ⟨⟨q2.1, q2.2.1, hsl, by rw [List.length_set]; exact q2.2.2.2⟩, q3⟩)).back st'
end Refs
/-! ### interface calls by contract -/
section Calls2
variable {Z : State} {y : MethodName} {bytes : ByteArray} {ml : Nat} {ret : Option FieldType} {n0 : Nat} {p : Program} {l : Launch} {e : Env} {R : Room} {s : State} {m : MethodId} {args : Array Value} {below : List Frame} {meth : Method} {c : Code} {T : State} {kc ks k j : Nat} {Q : Option Value → Heap → Prop} {E : Option Value → State → List Loc → Prop} {pc pc' : Nat} {ls : Array Slot} {st : List Value} {a0 : Array Value}
variable {y' : MethodName} {bytes' : ByteArray} {ml' : Nat} {ret' : Option FieldType} {rm : Room} {Post : Option Value → Heap → Prop} {argsL stk : List Value} {ix cnt : Nat} {Wn kc' ks' : Nat} {ps : List FieldType} {rt : Option FieldType}
theorem g_callF (W : Wk Z y bytes ml ret n0 p l e R s m args below meth c T kc ks) {C : String} {z : MethodName} (w1 : (Cond.methodLink y.cls ix y').before a0 Z = true) (w2 : (Cond.declares y').before a0 Z = true) (w3 : ∀ (args : Array Value) (s : State), Z.Warmed39 s.vm → (Cond.interfaceMethod y'.cls y'.cls y'.name y'.desc).before args s = true) (w4 : (Cond.selects C y' z).before a0 Z = true) (w5 : (Cond.instanceMethod z).before a0 Z = true) (w6 : (Cond.publicMethod z).before a0 Z = true) (w7 : (Cond.unhidden C y'.name y'.desc).before a0 Z = true) (w8 : (Cond.castable C y'.cls).before a0 Z = true) (w9 : (Cond.initialized z.cls).before a0 Z = true) (w10 : (Cond.code z bytes' ml' ret').before a0 Z = true) (hy : y'.cls ≠ "java/lang/invoke/MethodHandle" ∧ y'.cls ≠ "java/lang/invoke/VarHandle")
    {a : Addr} (Ex : Exa Z T.heap a C) (con : Con l Z n0 z [] bytes' ml' ret' rm (.ref a :: argsL).toArray T.heap Post) (hpd : parseMethodDescriptor y'.desc = some ⟨ps, rt⟩) (hlen : argsL.length = ps.length) (hstk : stk = argsL.reverse ++ .ref a :: st) (hls : ls.size = ml) (hd : decode bytes pc = .ok (.invokeinterface ix cnt, 5)) (hpc : pc + 5 = pc')
    (hf : rm.frames + 1 ≤ R.frames) (hW : (st.map fun v => v.category).sum ≤ Wn) (hl : Wn + (ml' + 11) + rm.locals ≤ R.locals) (hkc : kc + rm.cells = kc') (hks : ks + rm.slots = ks') (hc : kc' ≤ R.cells) (hs : ks' ≤ R.slots)
    (K : ∀ T' v, Wk Z y bytes ml ret n0 p l e R s m args below meth c T' kc' ks' → Post v T'.heap → Goes p e below E (T'.setTop (mkF m pc' ls (v.toList ++ st)))) : Goes p e below E (T.setTop (mkF m pc ls stk)) := by
  subst hpc hkc hks hstk
  have hx := W.hx; have hby := W.hby; have hown := W.hown; have hZ := W.hZ; have hml := W.hml
  obtain ⟨A, locs, X, N⟩ := W
  obtain ⟨cB, kB, b1, b2, b3⟩ := isOf hZ rfl Ex
  obtain ⟨v, vm1, ⟨T', L', kk, jj⟩, -, X', ⟨Lc, ⟨hN, hQ⟩, l1, l2, l3⟩, st'⟩ := X.interfaceBack hx (xi := y') (y := z) hown (mvT hZ w1) (mvT hZ w2) (w3 _ _ hZ) (mvT hZ w4) (mvT hZ w5) (mvT hZ w6) (mvT hZ w7) (mvT hZ w8) hy (backOf (Q := fun v h L => Fr n0 L ∧ Post v h) (W := Wn) con hZ w10 w9 hf hl) b1 b2 b3 (g := mkF m pc ls (argsL.reverse ++ .ref a :: st)) rfl (by rw [hml]; exact hls) (Steps.refl _) (argsL := argsL) (rest := st) (lenOf hpd hlen) rfl (by show 2 * 0 + _ ≤ _; omega) (hb hby hd) (fun _ _ => ⟨rfl, rfl, hc, hs⟩)
  dsimp only [Pt.U, Pt.locs, Pt.cells, Pt.slots] at X' l1 l2 l3 hQ st'
  subst l1 l2 l3
  exact (K T' v ⟨A, _, X', N.app hN⟩ hQ).back fun t r => st'.trans r
theorem g_callVE (W : Wk Z y bytes ml ret n0 p l e R s m args below meth c T kc ks) {C : String} {z : MethodName} (w1 : (Cond.methodLink y.cls ix y').before a0 Z = true) (w2 : (Cond.declares y').before a0 Z = true) (w3 : (Cond.selects C y' z).before a0 Z = true) (w4 : (Cond.instanceMethod z).before a0 Z = true) (w5 : (Cond.initialized z.cls).before a0 Z = true) (w6 : (Cond.code z bytes' ml' ret').before a0 Z = true) (nf : ∀ (s : State), Z.Warmed39 s.vm → NotFace s y') (hy : y'.cls ≠ "java/lang/invoke/MethodHandle" ∧ y'.cls ≠ "java/lang/invoke/VarHandle")
    {a : Addr} (Ex : Exa Z T.heap a C) (con : Con l Z n0 z [] bytes' ml' ret' rm (.ref a :: argsL).toArray T.heap Post) (hpd : parseMethodDescriptor y'.desc = some ⟨ps, rt⟩) (hlen : argsL.length = ps.length) (hstk : stk = argsL.reverse ++ .ref a :: st) (hls : ls.size = ml) (hd : decode bytes pc = .ok (.invokevirtual ix, 3)) (hpc : pc + 3 = pc')
    (hf : rm.frames + 1 ≤ R.frames) (hW : (st.map fun v => v.category).sum ≤ Wn) (hl : Wn + (ml' + 11) + rm.locals ≤ R.locals) (hkc : kc + rm.cells = kc') (hks : ks + rm.slots = ks') (hc : kc' ≤ R.cells) (hs : ks' ≤ R.slots)
    (K : ∀ T' v, Wk Z y bytes ml ret n0 p l e R s m args below meth c T' kc' ks' → Post v T'.heap → Goes p e below E (T'.setTop (mkF m pc' ls (v.toList ++ st)))) : Goes p e below E (T.setTop (mkF m pc ls stk)) := by
  subst hpc hkc hks hstk
  have hx := W.hx; have hby := W.hby; have hown := W.hown; have hZ := W.hZ; have hml := W.hml
  obtain ⟨A, locs, X, N⟩ := W
  obtain ⟨cB, kB, b1, b2, b3⟩ := isOf hZ rfl Ex
  obtain ⟨v, vm1, ⟨T', L', kk, jj⟩, -, X', ⟨Lc, ⟨hN, hQ⟩, l1, l2, l3⟩, st'⟩ := X.virtualBack hx (y := y') (z := z) hown (mvT hZ w1) (mvT hZ w2) (nf _ hZ) (mvT hZ w3) (mvT hZ w4) hy (backOf (Q := fun v h L => Fr n0 L ∧ Post v h) (W := Wn) con hZ w6 w5 hf hl) b1 b3 (g := mkF m pc ls (argsL.reverse ++ .ref a :: st)) rfl (by rw [hml]; exact hls) (Steps.refl _) (argsL := argsL) (rest := st) (lenOf hpd hlen) rfl (by show 2 * 0 + _ ≤ _; omega) (hb hby hd) (fun _ _ => ⟨rfl, rfl, hc, hs⟩)
  dsimp only [Pt.U, Pt.locs, Pt.cells, Pt.slots] at X' l1 l2 l3 hQ st'
  subst l1 l2 l3
  exact (K T' v ⟨A, _, X', N.app hN⟩ hQ).back fun t r => st'.trans r
theorem g_callVU (W : Wk Z y bytes ml ret n0 p l e R s m args below meth c T kc ks) {C owner : String} {z : MethodName} (w1 : (Cond.methodLink y.cls ix y').before a0 Z = true) (wS : (Cond.sameMethod y'.cls owner y'.name y'.desc).before a0 Z = true) (w2 : (Cond.declares ⟨owner, y'.name, y'.desc⟩).before a0 Z = true) (w3 : (Cond.selects C y' z).before a0 Z = true) (w4 : (Cond.instanceMethod z).before a0 Z = true) (w5 : (Cond.initialized z.cls).before a0 Z = true) (w6 : (Cond.code z bytes' ml' ret').before a0 Z = true) (hy : owner ≠ "java/lang/invoke/MethodHandle" ∧ owner ≠ "java/lang/invoke/VarHandle")
    {a : Addr} (Ex : Exa Z T.heap a C) (con : Con l Z n0 z [] bytes' ml' ret' rm (.ref a :: argsL).toArray T.heap Post) (hpd : parseMethodDescriptor y'.desc = some ⟨ps, rt⟩) (hlen : argsL.length = ps.length) (hstk : stk = argsL.reverse ++ .ref a :: st) (hls : ls.size = ml) (hd : decode bytes pc = .ok (.invokevirtual ix, 3)) (hpc : pc + 3 = pc')
    (hf : rm.frames + 1 ≤ R.frames) (hW : (st.map fun v => v.category).sum ≤ Wn) (hl : Wn + (ml' + 11) + rm.locals ≤ R.locals) (hkc : kc + rm.cells = kc') (hks : ks + rm.slots = ks') (hc : kc' ≤ R.cells) (hs : ks' ≤ R.slots)
    (K : ∀ T' v, Wk Z y bytes ml ret n0 p l e R s m args below meth c T' kc' ks' → Post v T'.heap → Goes p e below E (T'.setTop (mkF m pc' ls (v.toList ++ st)))) : Goes p e below E (T.setTop (mkF m pc ls stk)) := by
  subst hpc hkc hks hstk
  have hx := W.hx; have hby := W.hby; have hown := W.hown; have hZ := W.hZ; have hml := W.hml
  obtain ⟨A, locs, X, N⟩ := W
  obtain ⟨cB, kB, b1, b2, b3⟩ := isOf hZ rfl Ex
  obtain ⟨v, vm1, ⟨T', L', kk, jj⟩, -, X', ⟨Lc, ⟨hN, hQ⟩, l1, l2, l3⟩, st'⟩ := X.virtualBackUp hx (x := y') (y := z) hown (mvT hZ w1) (mvT hZ wS) (mvT hZ w2) hy (mvT hZ w3) (mvT hZ w4) (backOf (Q := fun v h L => Fr n0 L ∧ Post v h) (W := Wn) con hZ w6 w5 hf hl) b1 b3 (g := mkF m pc ls (argsL.reverse ++ .ref a :: st)) rfl (by rw [hml]; exact hls) (Steps.refl _) (argsL := argsL) (rest := st) (lenOf hpd hlen) rfl (by show 2 * 0 + _ ≤ _; omega) (hb hby hd) (fun _ _ => ⟨rfl, rfl, hc, hs⟩)
  dsimp only [Pt.U, Pt.locs, Pt.cells, Pt.slots] at X' l1 l2 l3 hQ st'
  subst l1 l2 l3
  exact (K T' v ⟨A, _, X', N.app hN⟩ hQ).back fun t r => st'.trans r
end Calls2
end Jvm.OwnKit
namespace Jvm.OwnKit
open Sem ClassFile Op Lib Jvm.Stand Jvm.Free Jvm.LawKit Jvm.RoadKit Jvm.Free.Fl
section IArr
variable {Z : State} {y : MethodName} {bytes : ByteArray} {ml : Nat} {ret : Option FieldType} {n0 : Nat} {p : Program} {l : Launch} {e : Env} {R : Room} {s : State} {m : MethodId} {args : Array Value} {below : List Frame} {meth : Method} {c : Code} {T : State} {kc ks k j : Nat} {Q : Option Value → Heap → Prop} {E : Option Value → State → List Loc → Prop} {pc pc' : Nat} {ls : Array Slot} {st : List Value} {a0 : Array Value}
variable {h h' : Heap} {L : List HRow} {a b : Addr} {cell : Cell} {i jx : Nat} {xs : List Int32}
/-- an int[], its class known by its name -/
def IaC (Z : State) (xs : List Int32) (c : Cell) : Prop := ArC Z .int (xs.map Value.int) c ∧ Z.vm.findClass "[I" = some c.cls
theorem IaC.exa (F : IaC Z xs cell) (hc : h[a]? = some cell) : Exa Z h a "[I" := by
  obtain ⟨⟨⟨o, k, hk, comp, hkind⟩, -⟩, hf⟩ := F
  refine ⟨cell, k, hc, hf, hk, ?_, fun q => by rw [hkind] at q; cases q⟩
  cases q : cell.vm <;> first | rfl | exact absurd q (o _)
theorem IaC.fit (F : IaC Z xs cell) : FitC Z cell := fun i v hv => by
  obtain ⟨⟨⟨o, k, hk, comp, hkind⟩, -, hs, -⟩, -⟩ := F
  rw [hs] at hv
  have hm : v ∈ xs.map Value.int := List.mem_of_getElem? (by simpa using hv)
  obtain ⟨x, -, rfl⟩ := List.mem_map.mp hm
  simp [State.fitsSlot, State.slotType?, hk, hkind, fits]
theorem g_newarrI (W : Wk Z y bytes ml ret n0 p l e R s m args below meth c T kc ks) (w : (Cond.arrayClass .int).before a0 Z = true) (H : Hp Z n0 T.heap L) {x : Int32} (hx0 : ¬ x < 0) {n cap : Nat} (hn : x.toNatClampNeg = n) (hcap : n ≤ cap) (hcb : cap * 8 ≤ 536870912) (hd : decode bytes pc = .ok (.newarray .int, 2)) (hpc : pc + 2 = pc')
    {kc' ks' : Nat} (hkc : kc + 1 = kc') (hks : ks + cap = ks') (hc : kc' ≤ R.cells) (hl : ks' ≤ R.slots)
    (K : ∀ T' a, Wk Z y bytes ml ret n0 p l e R s m args below meth c T' kc' ks' → Hp Z n0 T'.heap ((a, IaC Z (List.replicate n 0)) :: L) → Goes p e below E (T'.setTop (mkF m pc' ls (.ref a :: st)))) : Goes p e below E (T.setTop (mkF m pc ls (.int x :: st))) := by
  subst hpc hkc hks hn
  have hx := W.hx; have hby := W.hby; have hZ := W.hZ
  obtain ⟨A, locs, X, N⟩ := W
  obtain ⟨T', h', cA, X', e', E', A1, ⟨c2, k2, q1, q2, -⟩, st'⟩ := newPE X hx hZ (aty := .int) w rfl (g := mkF m pc ls (.int x :: st)) rfl (hb hby hd) rfl hx0 hcap hcb hc hl (ad := "[I") rfl
  cases A1.1.symm.trans q1
  have h1 : (newA cA (newarray.typeOf .int) x).slots = ((List.replicate x.toNatClampNeg (0 : Int32)).map Value.int).toArray := by
    show (Array.replicate x.toNatClampNeg (Value.int 0)) = _
    simp
  have h2 : ((List.replicate x.toNatClampNeg (0 : Int32)).map Value.int).length < 2 ^ 31 := by simp; omega
  exact (K T' T.heap.size ⟨A, locs, X', N⟩ (by rw [e']; exact H.push E' A1.1 ⟨⟨A1.2.1, A1.2.2, h1, h2⟩, q2⟩)).back st'
theorem g_arrlenI (W : Wk Z y bytes ml ret n0 p l e R s m args below meth c T kc ks) (H : Hp Z n0 T.heap L) (hi : L[i]? = some (a, IaC Z xs)) {x : Int32} (hx : xs.length.toInt32 = x) (hd : decode bytes pc = .ok (.arraylength, 1)) (hpc : pc + 1 = pc') (K : Goes p e below E (T.setTop (mkF m pc' ls (.int x :: st)))) : Goes p e below E (T.setTop (mkF m pc ls (.ref a :: st))) := by
  subst hpc hx
  have hx := W.hx; have hby := W.hby; have hZ := W.hZ
  obtain ⟨A, locs, X, N⟩ := W
  obtain ⟨-, cl, q1, q2, -⟩ := H.get hi
  refine K.back fun t r => X.arraylength hx q1 (State.isArrayOf_alike hZ.alike q2.1) (g := mkF m pc ls (.ref a :: st)) rfl rfl (hb hby hd) t ?_
  have e : cl.slots.size = xs.length := by rw [q2.2.2.1]; simp
  rw [e]; exact r
theorem g_ialoadI (W : Wk Z y bytes ml ret n0 p l e R s m args below meth c T kc ks) (H : Hp Z n0 T.heap L) (hi : L[i]? = some (a, IaC Z xs)) {x u : Int32} (hx : x.toInt = (jx : Int)) (hv : xs[jx]? = some u) (hd : decode bytes pc = .ok (.iaload, 1)) (hpc : pc + 1 = pc') (K : Goes p e below E (T.setTop (mkF m pc' ls (.int u :: st)))) : Goes p e below E (T.setTop (mkF m pc ls (.int x :: .ref a :: st))) := by
  subst hpc
  have hxx := W.hx; have hby := W.hby; have hZ := W.hZ
  obtain ⟨A, locs, X, N⟩ := W
  obtain ⟨-, cl, q1, q2, -⟩ := H.get hi
  have hv' : (xs.map Value.int)[jx]? = some (.int u) := by rw [List.getElem?_map, hv]; rfl
  exact K.back fun t r => X.iaload hxx q1 (State.isArrayOf_alike hZ.alike q2.1) q2.2.1 (idx_ok hx q2 (List.getElem?_eq_some_iff.mp hv').1) (by rw [idx_nat hx, q2.2.2.1]; simpa using hv) (g := mkF m pc ls (.int x :: .ref a :: st)) rfl rfl (hb hby hd) t r
theorem g_iastoreI (W : Wk Z y bytes ml ret n0 p l e R s m args below meth c T kc ks) (H : Hp Z n0 T.heap L) (hi : L[i]? = some (a, IaC Z xs)) {x : Int32} {u : Int32} (hx : x.toInt = (jx : Int)) (hj : jx < xs.length) (hd : decode bytes pc = .ok (.iastore, 1)) (hpc : pc + 1 = pc') {L' : List HRow} (hL : L.set i (a, IaC Z (xs.set jx u)) = L')
    (K : ∀ T', Wk Z y bytes ml ret n0 p l e R s m args below meth c T' kc ks → Hp Z n0 T'.heap L' → Goes p e below E (T'.setTop (mkF m pc' ls st))) : Goes p e below E (T.setTop (mkF m pc ls (.int u :: .int x :: .ref a :: st))) := by
  subst hpc hL
  have hxx := W.hx; have hby := W.hby; have hZ := W.hZ
  obtain ⟨A, locs, X, N⟩ := W
  obtain ⟨hn0, cl, q1, q2, q3⟩ := H.get hi
  obtain ⟨T', h', X', e', Wr', st'⟩ := stI X hxx hZ rfl (q2.arr q1) (idx_ok hx q2 (by simpa using hj)) (g := mkF m pc ls (.int u :: .int x :: .ref a :: st)) rfl rfl (hb hby hd)
  obtain ⟨cl', g1, -, -, rfl⟩ := Wr'
  cases q1.symm.trans g1
  have hsl : (cl.setSlot x.toNatClampNeg (.int u)).slots = ((xs.set jx u).map Value.int).toArray := by rw [idx_nat hx]; show cl.slots.setIfInBounds jx _ = _; rw [q2.2.2.1]; simp [List.map_set]
  exact (K T' ⟨A, _, X', Fr.snoc X' N hn0⟩ (by rw [e']; exact H.put hi ⟨⟨q2.1, q2.2.1, hsl, by have := q2.2.2.2; simpa using this⟩, q3⟩)).back st'
theorem g_cloneI (W : Wk Z y bytes ml ret n0 p l e R s m args below meth c T kc ks) {ix : Nat} (w1 : (Cond.methodLink y.cls ix ⟨"[I", "clone", "()Ljava/lang/Object;"⟩).before a0 Z = true) (w2 : (Cond.sameMethod "[I" "java/lang/Object" "clone" "()Ljava/lang/Object;").before a0 Z = true) (w3 : (Cond.native ⟨"java/lang/Object", "clone", "()Ljava/lang/Object;"⟩).before a0 Z = true)
    (w4 : (Cond.instanceMethod ⟨"java/lang/Object", "clone", "()Ljava/lang/Object;"⟩).before a0 Z = true) (w5 : (Cond.selects "[I" ⟨"[I", "clone", "()Ljava/lang/Object;"⟩ ⟨"java/lang/Object", "clone", "()Ljava/lang/Object;"⟩).before a0 Z = true) (w6 : (Cond.castable "[I" "java/lang/Cloneable").before a0 Z = true)
    (H : Hp Z n0 T.heap L) (hi : L[i]? = some (a, IaC Z xs)) (hls : ls.size = ml) (hd : decode bytes pc = .ok (.invokevirtual ix, 3)) (hpc : pc + 3 = pc') (hf : 1 ≤ R.frames) {Wn cap : Nat} (hW : (st.map fun v => v.category).sum ≤ Wn) (hl : Wn + 14 ≤ R.locals) (hcap : xs.length ≤ cap)
    {kc' ks' : Nat} (hkc : kc + 1 = kc') (hks : ks + cap = ks') (hc : kc' ≤ R.cells) (hsl : ks' ≤ R.slots)
    (K : ∀ T' b, Wk Z y bytes ml ret n0 p l e R s m args below meth c T' kc' ks' → Hp Z n0 T'.heap ((b, IaC Z xs) :: L) → Goes p e below E (T'.setTop (mkF m pc' ls (.ref b :: st)))) : Goes p e below E (T.setTop (mkF m pc ls (.ref a :: st))) := by
  subst hpc hkc hks
  have hx := W.hx; have hby := W.hby; have hZ := W.hZ; have hown := W.hown; have hml := W.hml
  obtain ⟨A, locs, X, N⟩ := W
  obtain ⟨-, cl, q1, q2⟩ := H.get hi
  have sz : cl.slots.size = xs.length := by rw [q2.1.2.2.1]; simp
  obtain ⟨T', h', X', e', E', A1, ⟨c2, k2, z1, z2, -⟩, st'⟩ := cloneA X hx hZ hown w1 w2 w3 w4 w5 w6 rfl (q2.1.arr q1) (q2.exa q1) q2.fit (g := mkF m pc ls (.ref a :: st)) rfl (by rw [hml]; exact hls) rfl (hb hby hd) hf (W := Wn) (by show 2 * 0 + _ ≤ _; omega) hl (cap := cap) (by omega) hc hsl
  cases A1.1.symm.trans z1
  exact (K T' T.heap.size ⟨A, locs, X', N⟩ (by rw [e']; exact H.push E' A1.1 ⟨⟨A1.2.1, A1.2.2, q2.1.2.2.1, q2.1.2.2.2⟩, z2⟩)).back st'
end IArr
end Jvm.OwnKit

namespace Jvm.OwnKit
open Sem ClassFile Op Lib Jvm.Stand Jvm.Free Jvm.LawKit Jvm.RoadKit Jvm.Free.Fl
section DArr
variable {Z : State} {y : MethodName} {bytes : ByteArray} {ml : Nat} {ret : Option FieldType} {n0 : Nat} {p : Program} {l : Launch} {e : Env} {R : Room} {s : State} {m : MethodId} {args : Array Value} {below : List Frame} {meth : Method} {c : Code} {T : State} {kc ks k j : Nat} {Q : Option Value → Heap → Prop} {E : Option Value → State → List Loc → Prop} {pc pc' : Nat} {ls : Array Slot} {st : List Value} {a0 : Array Value}
variable {h h' : Heap} {L : List HRow} {a b : Addr} {cell : Cell} {i jx : Nat} {xs : List Int32}
/-- a double[] -/
def DaC (Z : State) (zs : List UInt64) (c : Cell) : Prop := ArC Z .double (zs.map Value.double) c
theorem g_arrlenD {zs : List UInt64} (W : Wk Z y bytes ml ret n0 p l e R s m args below meth c T kc ks) (H : Hp Z n0 T.heap L) (hi : L[i]? = some (a, DaC Z zs)) {x : Int32} (hx : zs.length.toInt32 = x) (hd : decode bytes pc = .ok (.arraylength, 1)) (hpc : pc + 1 = pc') (K : Goes p e below E (T.setTop (mkF m pc' ls (.int x :: st)))) : Goes p e below E (T.setTop (mkF m pc ls (.ref a :: st))) :=
  g_arrlen W H (vs := zs.map Value.double) hi (by rw [List.length_map]; exact hx) hd hpc K
theorem g_daloadD {zs : List UInt64} (W : Wk Z y bytes ml ret n0 p l e R s m args below meth c T kc ks) (H : Hp Z n0 T.heap L) (hi : L[i]? = some (a, DaC Z zs)) {x : Int32} {u : UInt64} (hx : x.toInt = (jx : Int)) (hv : zs[jx]? = some u) (hd : decode bytes pc = .ok (.daload, 1)) (hpc : pc + 1 = pc') (K : Goes p e below E (T.setTop (mkF m pc' ls (.double u :: st)))) : Goes p e below E (T.setTop (mkF m pc ls (.int x :: .ref a :: st))) :=
  g_daload W H (vs := zs.map Value.double) hi hx (v := .double u) (by rw [List.getElem?_map, hv]; rfl) hd hpc K
theorem g_dastoreD {zs : List UInt64} (W : Wk Z y bytes ml ret n0 p l e R s m args below meth c T kc ks) (H : Hp Z n0 T.heap L) (hi : L[i]? = some (a, DaC Z zs)) {x : Int32} {u : UInt64} (hx : x.toInt = (jx : Int)) (hj : jx < zs.length) (hd : decode bytes pc = .ok (.dastore, 1)) (hpc : pc + 1 = pc') {L' : List HRow} (hL : L.set i (a, DaC Z (zs.set jx u)) = L')
    (K : ∀ T', Wk Z y bytes ml ret n0 p l e R s m args below meth c T' kc ks → Hp Z n0 T'.heap L' → Goes p e below E (T'.setTop (mkF m pc' ls st))) : Goes p e below E (T.setTop (mkF m pc ls (.double u :: .int x :: .ref a :: st))) :=
  g_dastore W H (vs := zs.map Value.double) hi hx (by rw [List.length_map]; exact hj) hd hpc (L' := L') (by rw [← hL]; unfold DaC; rw [List.map_set]) K
theorem t_dup_x2 {tb : Tables} [Ours tb] {e : Env} {below : List Frame} {T target : State} {m : MethodId} {c : Code} {g : JFrame} (h : At T m c below) (hx : tb.exec = Jvm.exec) (hg : g.method = m) {x x1 x2 : Value} {rest : List Value} (hd : decode c.code g.pc = .ok (.dup_x2, 1)) (hs : g.stack = x :: x1 :: x2 :: rest) (hc : x.category = 1) (hc1 : x1.category = 1) (hc2 : x2.category = 1)
    (hr : Steps tb e below (T.setTop { g with pc := g.pc + 1, stack := x :: x1 :: x2 :: x :: rest }) target) : Steps tb e below (T.setTop g) target := by
  subst hg
  jvm_step h [h.top, hx, hd, hs, hc, hc1, hc2]
  exact hr
theorem g_dup_x2 (W : Wk Z y bytes ml ret n0 p l e R s m args below meth c T kc ks) {x x1 x2 : Value} (hd : decode bytes pc = .ok (.dup_x2, 1)) (hpc : pc + 1 = pc') (hc : x.category = 1) (hc1 : x1.category = 1) (hc2 : x2.category = 1) (K : Goes p e below E (T.setTop (mkF m pc' ls (x :: x1 :: x2 :: x :: st)))) : Goes p e below E (T.setTop (mkF m pc ls (x :: x1 :: x2 :: st))) := by
  subst hpc
  exact K.back fun t r => t_dup_x2 W.here W.hx (g := mkF m pc ls (x :: x1 :: x2 :: st)) rfl (hb W.hby hd) rfl hc hc1 hc2 r
end DArr
end Jvm.OwnKit

namespace Jvm.OwnKit
open Sem ClassFile Op Lib Jvm.Stand Jvm.Free Jvm.LawKit Jvm.RoadKit Jvm.Free.Fl
section Grid
variable {Z : State} {y : MethodName} {bytes : ByteArray} {ml : Nat} {ret : Option FieldType} {n0 : Nat} {p : Program} {l : Launch} {e : Env} {R : Room} {s : State} {m : MethodId} {args : Array Value} {below : List Frame} {meth : Method} {c : Code} {T : State} {kc ks k j : Nat} {Q : Option Value → Heap → Prop} {E : Option Value → State → List Loc → Prop} {pc pc' : Nat} {ls : Array Slot} {st : List Value} {a0 : Array Value}
variable {h h' : Heap} {L : List HRow} {a b : Addr} {P P' : Cell → Prop} {cell : Cell} {i jx : Nat} {C O n d R0 K0 host : String} {fs : List FR} {v w : Value} {vs : List Value} {ty : FieldType}
/-! ### fields of a nest mate -/
theorem g_getfN (W : Wk Z y bytes ml ret n0 p l e R s m args below meth c T kc ks) {ix : Nat} (w : (Cond.fieldLinkNest y.cls ix R0 n d host).before a0 Z = true) (via : Via Z R0 O n d) (H : Hp Z n0 T.heap L) (hi : L[i]? = some (a, ObC Z C fs)) (hj : fs[jx]? = some (O, n, d, v)) (hd : decode bytes pc = .ok (.getfield ix, 3)) (hpc : pc + 3 = pc')
    (K : ∀ T', Wk Z y bytes ml ret n0 p l e R s m args below meth c T' kc ks → Hp Z n0 T'.heap L → Goes p e below E (T'.setTop (mkF m pc' ls (v :: st)))) : Goes p e below E (T.setTop (mkF m pc ls (.ref a :: st))) := by
  subst hpc
  have hx := W.hx; have hby := W.hby; have hown := W.hown; have hZ := W.hZ
  obtain ⟨A, locs, X, N⟩ := W
  obtain ⟨-, cl, q1, q2⟩ := H.get hi
  have F := (q2.2.2.2.1 _ (List.mem_of_getElem? hj)).fld q1 q2.2.1 q2.2.2.1
  obtain ⟨T', X', e', st'⟩ := getF X hx hZ hown (host := host) (Or.inr w) via rfl F (g := mkF m pc ls (.ref a :: st)) rfl rfl (hb hby hd)
  exact (K T' ⟨A, locs, X', N⟩ (e' ▸ H)).back st'
theorem g_getSN (W : Wk Z y bytes ml ret n0 p l e R s m args below meth c T kc ks) {ix : Nat} (w : (Cond.fieldLinkNest y.cls ix R0 n d host).before a0 Z = true) (via : Via Z R0 O n d) (F : Sta Z Z.heap O n d v) (H : Hp Z n0 T.heap L) (hd : decode bytes pc = .ok (.getstatic ix, 3)) (hpc : pc + 3 = pc')
    (K : ∀ T', Wk Z y bytes ml ret n0 p l e R s m args below meth c T' kc ks → T'.heap = T.heap → Hp Z n0 T'.heap L → Goes p e below E (T'.setTop (mkF m pc' ls (v :: st)))) : Goes p e below E (T.setTop (mkF m pc ls st)) := by
  subst hpc
  have hx := W.hx; have hby := W.hby; have hown := W.hown; have hZ := W.hZ
  obtain ⟨A, locs, X, N⟩ := W
  obtain ⟨T', X', e', st'⟩ := getS2 X hx hZ hown (host := host) (Or.inr w) via rfl (F.ext H.old) (g := mkF m pc ls st) rfl (hb hby hd)
  exact (K T' ⟨A, locs, X', N⟩ e' (e' ▸ H)).back st'
/-! ### bodies with handlers -/
def ConH (l : Launch) (Z : State) (n0 : Nat) (y : MethodName) (hs : List (Nat × Nat × Nat × Nat)) (bytes : ByteArray) (ml : Nat) (ret : Option FieldType) (rm : Room) (as : Array Value) (h0 : Heap) (Post : Option Value → Heap → Prop) : Prop :=
  MetFree l y (head1 [Cond.codeWith y bytes ml ret hs] rm) (fun a U => a = as ∧ Z.Warmed39 U.vm ∧ U.heap = h0) (fun _ _ _ _ _ => True) (fun _ U o U' => ∃ v L, o = .returned v ∧ (Fr n0 L ∧ Post v U'.heap) ∧ FrameEnd U o U' L rm.cells rm.slots)
theorem hisH {hs : List (Nat × Nat × Nat × Nat)} {rm : Room} : ∀ args (s : State) m, (head1 [Cond.codeWith y bytes ml ret hs] rm).pre.before args s = true → s.methodNamed? y = some m →
    ∃ meth c, s.vm.method? m = some meth ∧ meth.code = some c ∧ c.code = bytes ∧ c.maxLocals = ml ∧ meth.sig.returnType = ret ∧ meth.locks = false := fun args s m hh hn => by
  obtain ⟨m', meth, c, q1, h1, h2, h3, h4, -, h5, h6, -⟩ := Cond.codeWith_spec (atoms_spec (ws := [Cond.codeWith y bytes ml ret hs]) hh _ (List.mem_cons_self ..))
  cases hn.symm.trans q1
  exact ⟨meth, c, h1, h2, h3, h4, h5, h6⟩
theorem conH_of {hs : List (Nat × Nat × Nat × Nat)} {rm : Room} {as : Array Value} {h0 : Heap} {Post : Option Value → Heap → Prop} (hpn : plainFor y = true)
    (body : ∀ (p : Program) (e : Env) (s : State) (m : MethodId) (below : List Frame) (meth : Method) (c : Code) (T : State), Wk Z y bytes ml ret n0 p l e rm s m as below meth c T 0 0 → T.heap = h0 → Goes p e below (En s n0 rm.cells rm.slots Post) (T.setTop (entryFrame m as ml))) :
    ConH l Z n0 y hs bytes ml ret rm as h0 Post := by
  refine MetFree.of_bodySF hpn hisH ?_
  intro p e s m args below meth c s₁ Bd hml0 hP hK
  obtain ⟨rfl, hZ, hh⟩ := hP
  obtain ⟨s₂, v, L, g1, g2, g3, g4, g5⟩ := body p e s m below meth c s₁ ⟨⟨Bd.exec, hZ, findClass_of_methodNamed Bd.named, Bd.bytes, hml0, Bd.returns, Bd.notSynchronized, (name_of_methodNamed Bd.named Bd.method).1⟩, [], Stand.of_body Bd, Fr.nil n0⟩ (by rw [← hh, Bd.state]; rfl)
  exact ⟨s₂, _, g1, g2, g3, v, L, rfl, g4, g5⟩
theorem backOfH {hs : List (Nat × Nat × Nat × Nat)} {rm : Room} {len W : Nat} {as' : Array Value} {Q : Option Value → Heap → List Loc → Prop}
    (hM : MetFree l y (head1 [Cond.codeWith y bytes ml ret hs] rm) (fun a U => a = as' ∧ Z.Warmed39 U.vm ∧ U.heap = h) (fun _ _ _ _ _ => True) (fun _ U o U' => ∃ v L, o = .returned v ∧ Q v U'.heap L ∧ FrameEnd U o U' L rm.cells rm.slots))
    (hZ : Z.Warmed39 s.vm) (wc : (Cond.codeWith y bytes ml ret hs).before a0 Z = true) (wz : (Cond.initialized y.cls).before a0 Z = true) (hf : rm.frames + 1 ≤ R.frames) (hl : W + (ml + 11) + rm.locals ≤ R.locals) :
    Back l R p e below s args y len W (fun A a => a = as' ∧ A.U.heap = h ∧ A.cells + rm.cells ≤ R.cells ∧ A.slots + rm.slots ≤ R.slots)
      (fun A _ v B => ∃ L, Q v B.U.heap L ∧ B.locs = A.locs ++ L ∧ B.cells = A.cells + rm.cells ∧ B.slots = A.slots + rm.slots) :=
  Back.of_freeWith (handlers := hs) (bytes := bytes) (maxL := ml) (ret := ret) (E := fun _ _ o t L k n => k = rm.cells ∧ n = rm.slots ∧ ∃ v, o = .returned v ∧ Q v t.heap L) hM hf hl
    (fun m meth c A a Y hp => have hU : Z.Warmed39 A.U.vm := wtrans hZ Y.warmed
      ⟨by show (Cond.and _ .tt).before a A.U = true; rw [Cond.before_and, mv hU wc]; rfl, mv hU wc, mv hU wz, hp.2.2.1, hp.2.2.2⟩)
    (fun m meth c A a g mk Y hp => ⟨hp.1, wtrans hZ Y.warmed, hp.2.1⟩) (fun _ _ _ _ _ _ _ _ _ => trivial)
    (fun _ _ _ _ ⟨v, L, h1, h2, h3⟩ => ⟨L, _, _, h3, rfl, rfl, v, h1, h2⟩)
    (fun m meth c A a g mk v t L k n Y hp _ _ ⟨e1, e2, v', e3, e4⟩ => by cases e3; subst e1 e2; exact ⟨L, e4, rfl, rfl, rfl⟩)
theorem g_callFH {y' : MethodName} {ix cnt : Nat} {bytes' : ByteArray} {ml' : Nat} {ret' : Option FieldType} {rm : Room} {argsL : List Value} {Post : Option Value → Heap → Prop} {ps : List FieldType} {rt : Option FieldType} {stk : List Value} {Wn kc' ks' : Nat} (W : Wk Z y bytes ml ret n0 p l e R s m args below meth c T kc ks) {C : String} {z : MethodName} {hs' : List (Nat × Nat × Nat × Nat)} (w1 : (Cond.methodLink y.cls ix y').before a0 Z = true) (w2 : (Cond.declares y').before a0 Z = true) (w3 : ∀ (args : Array Value) (s : State), Z.Warmed39 s.vm → (Cond.interfaceMethod y'.cls y'.cls y'.name y'.desc).before args s = true) (w4 : (Cond.selects C y' z).before a0 Z = true) (w5 : (Cond.instanceMethod z).before a0 Z = true) (w6 : (Cond.publicMethod z).before a0 Z = true) (w7 : (Cond.unhidden C y'.name y'.desc).before a0 Z = true) (w8 : (Cond.castable C y'.cls).before a0 Z = true) (w9 : (Cond.initialized z.cls).before a0 Z = true) (w10 : (Cond.codeWith z bytes' ml' ret' hs').before a0 Z = true) (hy : y'.cls ≠ "java/lang/invoke/MethodHandle" ∧ y'.cls ≠ "java/lang/invoke/VarHandle")
    {a : Addr} (Ex : Exa Z T.heap a C) (con : ConH l Z n0 z hs' bytes' ml' ret' rm (.ref a :: argsL).toArray T.heap Post) (hpd : parseMethodDescriptor y'.desc = some ⟨ps, rt⟩) (hlen : argsL.length = ps.length) (hstk : stk = argsL.reverse ++ .ref a :: st) (hls : ls.size = ml) (hd : decode bytes pc = .ok (.invokeinterface ix cnt, 5)) (hpc : pc + 5 = pc')
    (hf : rm.frames + 1 ≤ R.frames) (hW : (st.map fun v => v.category).sum ≤ Wn) (hl : Wn + (ml' + 11) + rm.locals ≤ R.locals) (hkc : kc + rm.cells = kc') (hks : ks + rm.slots = ks') (hc : kc' ≤ R.cells) (hs : ks' ≤ R.slots)
    (K : ∀ T' v, Wk Z y bytes ml ret n0 p l e R s m args below meth c T' kc' ks' → Post v T'.heap → Goes p e below E (T'.setTop (mkF m pc' ls (v.toList ++ st)))) : Goes p e below E (T.setTop (mkF m pc ls stk)) := by
  subst hpc hkc hks hstk
  have hx := W.hx; have hby := W.hby; have hown := W.hown; have hZ := W.hZ; have hml := W.hml
  obtain ⟨A, locs, X, N⟩ := W
  obtain ⟨cB, kB, b1, b2, b3⟩ := isOf hZ rfl Ex
  obtain ⟨v, vm1, ⟨T', L', kk, jj⟩, -, X', ⟨Lc, ⟨hN, hQ⟩, l1, l2, l3⟩, st'⟩ := X.interfaceBack hx (xi := y') (y := z) hown (mvT hZ w1) (mvT hZ w2) (w3 _ _ hZ) (mvT hZ w4) (mvT hZ w5) (mvT hZ w6) (mvT hZ w7) (mvT hZ w8) hy (backOfH (Q := fun v h L => Fr n0 L ∧ Post v h) (W := Wn) con hZ w10 w9 hf hl) b1 b2 b3 (g := mkF m pc ls (argsL.reverse ++ .ref a :: st)) rfl (by rw [hml]; exact hls) (Steps.refl _) (argsL := argsL) (rest := st) (lenOf hpd hlen) rfl (by show 2 * 0 + _ ≤ _; omega) (hb hby hd) (fun _ _ => ⟨rfl, rfl, hc, hs⟩)
  dsimp only [Pt.U, Pt.locs, Pt.cells, Pt.slots] at X' l1 l2 l3 hQ st'
  subst l1 l2 l3
  exact (K T' v ⟨A, _, X', N.app hN⟩ hQ).back fun t r => st'.trans r
/-! ### arrays of arrays -/
theorem Hp.grow {G : List HRow} (H : Hp Z n0 h L) (E : Ext h h') (nd : (G.map (·.1)).Nodup) (hG : ∀ r ∈ G, h.size ≤ r.1 ∧ ∃ c : Cell, h'[r.1]? = some c ∧ r.2 c) : Hp Z n0 h' (G ++ L) := by
  refine ⟨H.1.ext E, ?_, fun r hr => ?_⟩
  · rw [List.map_append, List.nodup_append]
    refine ⟨nd, H.2.1, fun x hx z hz q => ?_⟩
    obtain ⟨r, hr, rfl⟩ := List.mem_map.mp hx
    obtain ⟨t, ht, rfl⟩ := List.mem_map.mp hz
    obtain ⟨-, c1, g2, -⟩ := H.2.2 t ht
    have h1 := (Array.getElem?_eq_some_iff.mp g2).1
    have h2 := (hG r hr).1
    rw [q] at h2; exact Nat.lt_irrefl _ (Nat.lt_of_lt_of_le h1 h2)
  · rcases List.mem_append.mp hr with hr | hr
    · obtain ⟨g1, c1, g2, g3⟩ := hG r hr
      exact ⟨Nat.le_trans H.1.1 g1, c1, g2, g3⟩
    · obtain ⟨g1, c1, g2, g3⟩ := H.2.2 r hr
      exact ⟨g1, c1, E.2 _ _ g2, g3⟩
theorem g_grid (W : Wk Z y bytes ml ret n0 p l e R s m args below meth c T kc ks) {ix : Nat} (w1 : (Cond.classLink y.cls ix "[[D").before a0 Z = true) (w2 : (Cond.arrayOver (.array .double)).before a0 Z = true) (w3 : (Cond.arrayClass .double).before a0 Z = true) (H : Hp Z n0 T.heap L) {x : Int32} {N : Nat} (hx0 : ¬ x < 0) (hN : x.toNatClampNeg = N) (hb1 : N ≤ 1000) (hd : decode bytes pc = .ok (.multianewarray ix 2, 4)) (hpc : pc + 4 = pc')
    {kc' ks' : Nat} (hkc : kc + (1 + N) = kc') (hks : ks + (N + N * N) = ks') (hc : kc' ≤ R.cells) (hl : ks' ≤ R.slots)
    (K : ∀ T' a (xs : List Addr), xs.length = N → Wk Z y bytes ml ret n0 p l e R s m args below meth c T' kc' ks' → Hp Z n0 T'.heap ((a, ArC Z (.array .double) (xs.map Value.ref)) :: (xs.map (fun x => (x, DaC Z (List.replicate N 0))) ++ L)) → Goes p e below E (T'.setTop (mkF m pc' ls (.ref a :: st)))) : Goes p e below E (T.setTop (mkF m pc ls (.int x :: .int x :: st))) := by
  subst hpc hkc hks
  have hx := W.hx; have hby := W.hby; have hZ := W.hZ; have hown := W.hown
  obtain ⟨A, locs, X, NN⟩ := W
  obtain ⟨T', h', cA, comp, X', e', E', ⟨cl, A1, -, A3, -, A5, -⟩, -, -, A6, st'⟩ := gridM (ty := .double) (C := "[D") (ad := "[[D") X hx hZ hown (by decide) (by decide) w1 w2 w3 rfl (g := mkF m pc ls (.int x :: .int x :: st)) rfl (hb hby hd) rfl hx0 hx0 (N := N) hN (xs := (List.range N).map fun j => T.heap.size + 1 + j) rfl (cap := N) (Nat.le_of_eq hN) (by omega) hb1 rfl rfl hc hl
  refine (K T' T.heap.size ((List.range N).map fun j => T.heap.size + 1 + j) (by simp) ⟨A, locs, X', NN⟩ ?_).back st'
  rw [e']
  refine H.grow (G := (T.heap.size, ArC Z (.array .double) (((List.range N).map fun j => T.heap.size + 1 + j).map Value.ref)) :: ((List.range N).map fun j => T.heap.size + 1 + j).map (fun x => (x, DaC Z (List.replicate N 0)))) E' ?_ ?_
  · simp only [List.map_cons, List.map_map, List.nodup_cons]
    refine ⟨fun q => ?_, ?_⟩
    · obtain ⟨j, -, q⟩ := List.mem_map.mp q
      have q' : (T.heap.size : Nat) + 1 + j = T.heap.size := q
      omega
    · refine List.Pairwise.map _ (fun a b (q : a ≠ b) => ?_) (List.nodup_range (n := N))
      simp; exact q
  · intro r hr
    rcases List.mem_cons.mp hr with rfl | hr
    · refine ⟨Nat.le_refl _, cl, A1.1, A1.2.1, A1.2.2, ?_, by simp; omega⟩
      apply Array.ext'
      apply List.ext_getElem?
      intro t
      by_cases q : t < cl.slots.size
      · have := A5 t q
        rw [Array.getElem?_toList, this, List.getD_eq_getElem?_getD]
        rw [A3, hN] at q
        simp [q]
      · rw [Array.getElem?_toList, Array.getElem?_eq_none (by omega)]
        rw [A3, hN] at q
        refine (List.getElem?_eq_none ?_).symm
        simp only [List.length_map, List.length_range]; omega
    · obtain ⟨z, hz, rfl⟩ := List.mem_map.mp hr
      obtain ⟨t, ht⟩ := List.getElem?_of_mem hz
      obtain ⟨B1, -⟩ := A6 t z ht
      obtain ⟨u, -, rfl⟩ := List.mem_map.mp hz
      exact ⟨by show T.heap.size ≤ T.heap.size + 1 + u; omega, _, B1.1, B1.2.1, B1.2.2, by simp [newA, hN, defaultValue], by simp; omega⟩
theorem g_aaloadG (W : Wk Z y bytes ml ret n0 p l e R s m args below meth c T kc ks) (H : Hp Z n0 T.heap L) (hi : L[i]? = some (a, ArC Z (.array .double) vs)) {x : Int32} (hx : x.toInt = (jx : Int)) (hv : vs[jx]? = some v) (hd : decode bytes pc = .ok (.aaload, 1)) (hpc : pc + 1 = pc') (K : Goes p e below E (T.setTop (mkF m pc' ls (v :: st)))) : Goes p e below E (T.setTop (mkF m pc ls (.int x :: .ref a :: st))) := by
  subst hpc
  have hxx := W.hx; have hby := W.hby; have hZ := W.hZ
  obtain ⟨A, locs, X, N⟩ := W
  obtain ⟨-, cl, q1, q2⟩ := H.get hi
  exact K.back fun t r => X.aaload hxx q1 (State.isArrayOf_alike hZ.alike q2.1) rfl q2.2.1 (idx_ok hx q2 (List.getElem?_eq_some_iff.mp hv).1) (by rw [idx_nat hx, q2.2.2.1]; simpa using hv) (g := mkF m pc ls (.int x :: .ref a :: st)) rfl rfl (hb hby hd) t r
/-- two objects of two classes lie apart -/
theorem exa_ne {D : String} (A : Exa Z h a C) (B : Exa Z h b D) (q : C ≠ D) : a ≠ b := by
  rintro rfl
  obtain ⟨c1, k1, f1, f2, -⟩ := A
  obtain ⟨c2, k2, g1, g2, -⟩ := B
  cases f1.symm.trans g1
  obtain ⟨k, hk, hn⟩ := Vm.findClass_spec f2
  obtain ⟨k', hk', hn'⟩ := Vm.findClass_spec g2
  cases hk.symm.trans hk'
  exact q (hn.symm.trans hn')
end Grid
end Jvm.OwnKit

namespace Jvm.OwnKit
open Sem ClassFile Op Lib Jvm.Stand Jvm.Free Jvm.LawKit Jvm.RoadKit Jvm.Free.Fl Jvm.Free.Fl.Abs
section Nat
variable {Z : State} {y : MethodName} {bytes : ByteArray} {ml : Nat} {ret : Option FieldType} {n0 : Nat} {p : Program} {l : Launch} {e : Env} {R : Room} {s : State} {m : MethodId} {args : Array Value} {below : List Frame} {meth : Method} {c : Code} {T : State} {kc ks k j : Nat} {Q : Option Value → Heap → Prop} {E : Option Value → State → List Loc → Prop} {pc pc' : Nat} {ls : Array Slot} {st : List Value} {a0 : Array Value}
variable {h h' : Heap} {L : List HRow} {a : Addr} {P P' : Cell → Prop} {cell : Cell} {i jx : Nat} {C O n d R0 K0 : String} {fs : List FR} {v w : Value} {vs : List Value} {ty : FieldType}
/-! ### native calls on doubles, boolean arrays, pop2 -/
end Nat
end Jvm.OwnKit

namespace Jvm.OwnKit
open Jvm.FP.Core Jvm.Free.Fl Jvm.Op Jvm.ClassFile
/-! ### doubles between two marks of the grid 2^-30 -/
def GU : Int := ((2 ^ 1044 : Nat) : Int)
theorem GU_pos : 0 < GU := Int.natCast_pos.mpr (Nat.two_pow_pos _)
abbrev zv (a : UInt64) : Int := zval b64 (val64 a)
def Iv (L U : Nat) (a : UInt64) : Prop := DFin a ∧ (L : Int) * GU ≤ zv a ∧ zv a ≤ (U : Int) * GU
theorem dy30 {n : Int} {a : UInt64} (h : Dy n (-30) a) : zv a = n * GU := by
  have := h.2
  rwa [show ((-30 : Int) + 1074).toNat = 1044 by decide] at this
theorem grid (n : Nat) (h : n < 2 ^ 53) : ∃ w : UInt64, DFin w ∧ zv w = (n : Int) * GU := by
  have hl : (Int64.ofNat n).toInt = (n : Int) := Int64.toInt_ofNat_of_lt (by omega)
  have h1 := dy_l2d (x := Int64.ofNat n) (by rw [hl]; omega)
  rw [hl] at h1
  have h2 := dy_div (k := 30) (b := 4742290407621132288) h1 (by decide) (by decide +kernel) (by omega) (by decide) (by decide)
  exact ⟨_, h2.1, dy30 h2⟩
theorem Iv.mono {L U L' U' : Nat} {a : UInt64} (h : Iv L U a) (h1 : L' ≤ L) (h2 : U ≤ U') : Iv L' U' a :=
  ⟨h.1, Int.le_trans (Int.mul_le_mul_of_nonneg_right (by omega) (Int.le_of_lt GU_pos)) h.2.1, Int.le_trans h.2.2 (Int.mul_le_mul_of_nonneg_right (by omega) (Int.le_of_lt GU_pos))⟩
theorem apart {p t p' t' d d' N : Nat} (hN : 801 * (1024 * 1024) ≤ N) (e1 : d * t ≤ p * N) (e3 : p' * N < (d' + 1) * t') (hlt : p * t' < p' * t) (ht0 : 1 ≤ t) (ht : t ≤ 1024) (ht' : t' ≤ 1024) : d + 400 < d' - 400 := by
  refine Nat.lt_of_not_le fun q => ?_
  have q1 : d' ≤ d + 800 := by omega
  have a1 : p' * N * t < (d' + 1) * t' * t := Nat.mul_lt_mul_of_pos_right e3 (by omega)
  have a2 : d * t * t' ≤ p * N * t' := Nat.mul_le_mul_right _ e1
  have a3 : (p * t' + 1) * N ≤ p' * t * N := Nat.mul_le_mul_right _ hlt
  have a4 : (d' + 1) * t' * t ≤ (d + 801) * t' * t := Nat.mul_le_mul_right _ (Nat.mul_le_mul_right _ (by omega))
  have a5 : 801 * (t' * t) ≤ 801 * (1024 * 1024) := Nat.mul_le_mul_left _ (Nat.mul_le_mul ht' ht)
  rw [Nat.mul_right_comm p' N t] at a1
  rw [Nat.mul_right_comm p N t', Nat.mul_assoc d t t', Nat.mul_comm t t'] at a2
  rw [Nat.mul_assoc (d + 801), Nat.add_mul d 801] at a4
  rw [Nat.add_mul] at a3
  clear e1 e3 hlt
  generalize p' * t * N = A at a1 a3
  generalize p * t' * N = B at a2 a3
  generalize (d' + 1) * t' * t = C at a1 a4
  generalize d * (t' * t) = D at a2 a4
  generalize 801 * (t' * t) = F at a4 a5
  omega
end Jvm.OwnKit

namespace Jvm.OwnKit
section Rows
variable {Z : State} {n0 : Nat} {h : Heap}
theorem Hp.dig {R G D : List HRow} {x : HRow} (H : Hp Z n0 h (R ++ (G ++ (x :: D)))) : Hp Z n0 h (x :: (R ++ (G ++ D))) := H.perm (by rw [← List.append_assoc, ← List.append_assoc]; exact List.perm_middle)
theorem Hp.fr1 {r0 x : HRow} {L : List HRow} (H : Hp Z n0 h (r0 :: x :: L)) : Hp Z n0 h (x :: r0 :: L) := H.front (i := 1) rfl rfl
theorem mc1 {x r0 : HRow} {L : List HRow} (hx : x ∈ L) : x ∈ r0 :: L := (List.mem_cons_of_mem _ hx)
theorem Hp.fr2 {r0 r1 x : HRow} {L : List HRow} (H : Hp Z n0 h (r0 :: r1 :: x :: L)) : Hp Z n0 h (x :: r0 :: r1 :: L) := H.front (i := 2) rfl rfl
theorem mc2 {x r0 r1 : HRow} {L : List HRow} (hx : x ∈ L) : x ∈ r0 :: r1 :: L := (List.mem_cons_of_mem _ (List.mem_cons_of_mem _ hx))
theorem Hp.fr3 {r0 r1 r2 x : HRow} {L : List HRow} (H : Hp Z n0 h (r0 :: r1 :: r2 :: x :: L)) : Hp Z n0 h (x :: r0 :: r1 :: r2 :: L) := H.front (i := 3) rfl rfl
theorem mc3 {x r0 r1 r2 : HRow} {L : List HRow} (hx : x ∈ L) : x ∈ r0 :: r1 :: r2 :: L := (List.mem_cons_of_mem _ (List.mem_cons_of_mem _ (List.mem_cons_of_mem _ hx)))
theorem Hp.fr4 {r0 r1 r2 r3 x : HRow} {L : List HRow} (H : Hp Z n0 h (r0 :: r1 :: r2 :: r3 :: x :: L)) : Hp Z n0 h (x :: r0 :: r1 :: r2 :: r3 :: L) := H.front (i := 4) rfl rfl
theorem Hp.fr5 {r0 r1 r2 r3 r4 x : HRow} {L : List HRow} (H : Hp Z n0 h (r0 :: r1 :: r2 :: r3 :: r4 :: x :: L)) : Hp Z n0 h (x :: r0 :: r1 :: r2 :: r3 :: r4 :: L) := H.front (i := 5) rfl rfl
theorem Hp.fr6 {r0 r1 r2 r3 r4 r5 x : HRow} {L : List HRow} (H : Hp Z n0 h (r0 :: r1 :: r2 :: r3 :: r4 :: r5 :: x :: L)) : Hp Z n0 h (x :: r0 :: r1 :: r2 :: r3 :: r4 :: r5 :: L) := H.front (i := 6) rfl rfl
theorem Hp.fr7 {r0 r1 r2 r3 r4 r5 r6 x : HRow} {L : List HRow} (H : Hp Z n0 h (r0 :: r1 :: r2 :: r3 :: r4 :: r5 :: r6 :: x :: L)) : Hp Z n0 h (x :: r0 :: r1 :: r2 :: r3 :: r4 :: r5 :: r6 :: L) := H.front (i := 7) rfl rfl
theorem Hp.fr8 {r0 r1 r2 r3 r4 r5 r6 r7 x : HRow} {L : List HRow} (H : Hp Z n0 h (r0 :: r1 :: r2 :: r3 :: r4 :: r5 :: r6 :: r7 :: x :: L)) : Hp Z n0 h (x :: r0 :: r1 :: r2 :: r3 :: r4 :: r5 :: r6 :: r7 :: L) := H.front (i := 8) rfl rfl
theorem Hp.fr9 {r0 r1 r2 r3 r4 r5 r6 r7 r8 x : HRow} {L : List HRow} (H : Hp Z n0 h (r0 :: r1 :: r2 :: r3 :: r4 :: r5 :: r6 :: r7 :: r8 :: x :: L)) : Hp Z n0 h (x :: r0 :: r1 :: r2 :: r3 :: r4 :: r5 :: r6 :: r7 :: r8 :: L) := H.front (i := 9) rfl rfl
theorem Hp.fr10 {r0 r1 r2 r3 r4 r5 r6 r7 r8 r9 x : HRow} {L : List HRow} (H : Hp Z n0 h (r0 :: r1 :: r2 :: r3 :: r4 :: r5 :: r6 :: r7 :: r8 :: r9 :: x :: L)) : Hp Z n0 h (x :: r0 :: r1 :: r2 :: r3 :: r4 :: r5 :: r6 :: r7 :: r8 :: r9 :: L) := H.front (i := 10) rfl rfl
theorem mc10 {x r0 r1 r2 r3 r4 r5 r6 r7 r8 r9 : HRow} {L : List HRow} (hx : x ∈ L) : x ∈ r0 :: r1 :: r2 :: r3 :: r4 :: r5 :: r6 :: r7 :: r8 :: r9 :: L := (List.mem_cons_of_mem _ (List.mem_cons_of_mem _ (List.mem_cons_of_mem _ (List.mem_cons_of_mem _ (List.mem_cons_of_mem _ (List.mem_cons_of_mem _ (List.mem_cons_of_mem _ (List.mem_cons_of_mem _ (List.mem_cons_of_mem _ (List.mem_cons_of_mem _ hx))))))))))
theorem Hp.fr11 {r0 r1 r2 r3 r4 r5 r6 r7 r8 r9 r10 x : HRow} {L : List HRow} (H : Hp Z n0 h (r0 :: r1 :: r2 :: r3 :: r4 :: r5 :: r6 :: r7 :: r8 :: r9 :: r10 :: x :: L)) : Hp Z n0 h (x :: r0 :: r1 :: r2 :: r3 :: r4 :: r5 :: r6 :: r7 :: r8 :: r9 :: r10 :: L) := H.front (i := 11) rfl rfl
theorem mc11 {x r0 r1 r2 r3 r4 r5 r6 r7 r8 r9 r10 : HRow} {L : List HRow} (hx : x ∈ L) : x ∈ r0 :: r1 :: r2 :: r3 :: r4 :: r5 :: r6 :: r7 :: r8 :: r9 :: r10 :: L := (List.mem_cons_of_mem _ (List.mem_cons_of_mem _ (List.mem_cons_of_mem _ (List.mem_cons_of_mem _ (List.mem_cons_of_mem _ (List.mem_cons_of_mem _ (List.mem_cons_of_mem _ (List.mem_cons_of_mem _ (List.mem_cons_of_mem _ (List.mem_cons_of_mem _ (List.mem_cons_of_mem _ hx)))))))))))
theorem Hp.fr12 {r0 r1 r2 r3 r4 r5 r6 r7 r8 r9 r10 r11 x : HRow} {L : List HRow} (H : Hp Z n0 h (r0 :: r1 :: r2 :: r3 :: r4 :: r5 :: r6 :: r7 :: r8 :: r9 :: r10 :: r11 :: x :: L)) : Hp Z n0 h (x :: r0 :: r1 :: r2 :: r3 :: r4 :: r5 :: r6 :: r7 :: r8 :: r9 :: r10 :: r11 :: L) := H.front (i := 12) rfl rfl
theorem mc12 {x r0 r1 r2 r3 r4 r5 r6 r7 r8 r9 r10 r11 : HRow} {L : List HRow} (hx : x ∈ L) : x ∈ r0 :: r1 :: r2 :: r3 :: r4 :: r5 :: r6 :: r7 :: r8 :: r9 :: r10 :: r11 :: L := (List.mem_cons_of_mem _ (List.mem_cons_of_mem _ (List.mem_cons_of_mem _ (List.mem_cons_of_mem _ (List.mem_cons_of_mem _ (List.mem_cons_of_mem _ (List.mem_cons_of_mem _ (List.mem_cons_of_mem _ (List.mem_cons_of_mem _ (List.mem_cons_of_mem _ (List.mem_cons_of_mem _ (List.mem_cons_of_mem _ hx))))))))))))
theorem Hp.fr13 {r0 r1 r2 r3 r4 r5 r6 r7 r8 r9 r10 r11 r12 x : HRow} {L : List HRow} (H : Hp Z n0 h (r0 :: r1 :: r2 :: r3 :: r4 :: r5 :: r6 :: r7 :: r8 :: r9 :: r10 :: r11 :: r12 :: x :: L)) : Hp Z n0 h (x :: r0 :: r1 :: r2 :: r3 :: r4 :: r5 :: r6 :: r7 :: r8 :: r9 :: r10 :: r11 :: r12 :: L) := H.front (i := 13) rfl rfl
theorem mc13 {x r0 r1 r2 r3 r4 r5 r6 r7 r8 r9 r10 r11 r12 : HRow} {L : List HRow} (hx : x ∈ L) : x ∈ r0 :: r1 :: r2 :: r3 :: r4 :: r5 :: r6 :: r7 :: r8 :: r9 :: r10 :: r11 :: r12 :: L := (List.mem_cons_of_mem _ (List.mem_cons_of_mem _ (List.mem_cons_of_mem _ (List.mem_cons_of_mem _ (List.mem_cons_of_mem _ (List.mem_cons_of_mem _ (List.mem_cons_of_mem _ (List.mem_cons_of_mem _ (List.mem_cons_of_mem _ (List.mem_cons_of_mem _ (List.mem_cons_of_mem _ (List.mem_cons_of_mem _ (List.mem_cons_of_mem _ hx)))))))))))))
theorem Hp.fr14 {r0 r1 r2 r3 r4 r5 r6 r7 r8 r9 r10 r11 r12 r13 x : HRow} {L : List HRow} (H : Hp Z n0 h (r0 :: r1 :: r2 :: r3 :: r4 :: r5 :: r6 :: r7 :: r8 :: r9 :: r10 :: r11 :: r12 :: r13 :: x :: L)) : Hp Z n0 h (x :: r0 :: r1 :: r2 :: r3 :: r4 :: r5 :: r6 :: r7 :: r8 :: r9 :: r10 :: r11 :: r12 :: r13 :: L) := H.front (i := 14) rfl rfl
theorem Hp.fr15 {r0 r1 r2 r3 r4 r5 r6 r7 r8 r9 r10 r11 r12 r13 r14 x : HRow} {L : List HRow} (H : Hp Z n0 h (r0 :: r1 :: r2 :: r3 :: r4 :: r5 :: r6 :: r7 :: r8 :: r9 :: r10 :: r11 :: r12 :: r13 :: r14 :: x :: L)) : Hp Z n0 h (x :: r0 :: r1 :: r2 :: r3 :: r4 :: r5 :: r6 :: r7 :: r8 :: r9 :: r10 :: r11 :: r12 :: r13 :: r14 :: L) := H.front (i := 15) rfl rfl
theorem Hp.fr16 {r0 r1 r2 r3 r4 r5 r6 r7 r8 r9 r10 r11 r12 r13 r14 r15 x : HRow} {L : List HRow} (H : Hp Z n0 h (r0 :: r1 :: r2 :: r3 :: r4 :: r5 :: r6 :: r7 :: r8 :: r9 :: r10 :: r11 :: r12 :: r13 :: r14 :: r15 :: x :: L)) : Hp Z n0 h (x :: r0 :: r1 :: r2 :: r3 :: r4 :: r5 :: r6 :: r7 :: r8 :: r9 :: r10 :: r11 :: r12 :: r13 :: r14 :: r15 :: L) := H.front (i := 16) rfl rfl
end Rows
end Jvm.OwnKit

namespace Jvm.Pilot.@@N@@
open Jvm Jvm.ClassFile Sem Op Lib Jvm.Free Jvm.Stand Jvm.LawKit Jvm.RoadKit Jvm.OwnKit Jvm.Free.Fl Bundle Jvm.Pilot.@@N@@.Jvm.D
abbrev HW (Z : State) (a0 : Array Value) : Prop := ∀ d ∈ tables_1, d.before a0 Z = true
theorem wk_ {Z : State} {a0 : Array Value} (hw : HW Z a0) (i : Nat) {d : Jvm.Cond} (e : tables_1[i]? = some d) : d.before a0 Z = true := hw d (List.mem_of_getElem? e)
section
variable {Z : State} {a0 : Array Value} (hw : HW Z a0)
def wd_0 := wk_ hw 0 rfl
def wd_1 := wk_ hw 1 rfl
def wd_2 := wk_ hw 2 rfl
def wd_3 := wk_ hw 3 rfl
def wd_4 := wk_ hw 4 rfl
def wd_5 := wk_ hw 5 rfl
def wd_6 := wk_ hw 6 rfl
def wd_7 := wk_ hw 7 rfl
def wd_8 := wk_ hw 8 rfl
def wd_9 := wk_ hw 9 rfl
def wd_10 := wk_ hw 10 rfl
def wd_11 := wk_ hw 11 rfl
def wd_14 := wk_ hw 14 rfl
def wd_15 := wk_ hw 15 rfl
def wd_16 := wk_ hw 16 rfl
def wd_17 := wk_ hw 17 rfl
def wd_20 := wk_ hw 20 rfl
def wd_21 := wk_ hw 21 rfl
def wd_22 := wk_ hw 22 rfl
def wd_23 := wk_ hw 23 rfl
def wd_24 := wk_ hw 24 rfl
def wd_25 := wk_ hw 25 rfl
def wd_26 := wk_ hw 26 rfl
def wd_27 := wk_ hw 27 rfl
def wd_28 := wk_ hw 28 rfl
def wd_29 := wk_ hw 29 rfl
def wd_30 := wk_ hw 30 rfl
def wd_31 := wk_ hw 31 rfl
def wd_32 := wk_ hw 32 rfl
def wd_33 := wk_ hw 33 rfl
def wd_34 := wk_ hw 34 rfl
def wd_35 := wk_ hw 35 rfl
def wd_36 := wk_ hw 36 rfl
def wd_37 := wk_ hw 37 rfl
def wd_39 := wk_ hw 39 rfl
def wd_40 := wk_ hw 40 rfl
def wd_41 := wk_ hw 41 rfl
def wd_42 := wk_ hw 42 rfl
def wd_43 := wk_ hw 43 rfl
def wd_44 := wk_ hw 44 rfl
def wd_45 := wk_ hw 45 rfl
def wd_46 := wk_ hw 46 rfl
def wd_47 := wk_ hw 47 rfl
def wd_48 := wk_ hw 48 rfl
def wd_49 := wk_ hw 49 rfl
def wd_50 := wk_ hw 50 rfl
def wd_51 := wk_ hw 51 rfl
def wd_52 := wk_ hw 52 rfl
def wd_53 := wk_ hw 53 rfl
def wd_54 := wk_ hw 54 rfl
def wd_55 := wk_ hw 55 rfl
def wd_56 := wk_ hw 56 rfl
def wd_57 := wk_ hw 57 rfl
def wd_58 := wk_ hw 58 rfl
def wd_59 := wk_ hw 59 rfl
def wd_60 := wk_ hw 60 rfl
def wd_61 := wk_ hw 61 rfl
def wd_62 := wk_ hw 62 rfl
def wd_63 := wk_ hw 63 rfl
def wd_64 := wk_ hw 64 rfl
def wd_65 := wk_ hw 65 rfl
def wd_66 := wk_ hw 66 rfl
def wd_67 := wk_ hw 67 rfl
def wd_68 := wk_ hw 68 rfl
def wd_69 := wk_ hw 69 rfl
def wd_71 := wk_ hw 71 rfl
def wd_72 := wk_ hw 72 rfl
def wd_73 := wk_ hw 73 rfl
def wd_74 := wk_ hw 74 rfl
def wd_76 := wk_ hw 76 rfl
def wd_77 := wk_ hw 77 rfl
def wd_78 := wk_ hw 78 rfl
def wd_79 := wk_ hw 79 rfl
def wd_81 := wk_ hw 81 rfl
def wd_82 := wk_ hw 82 rfl
def wd_83 := wk_ hw 83 rfl
def wd_84 := wk_ hw 84 rfl
def wd_85 := wk_ hw 85 rfl
def wd_86 := wk_ hw 86 rfl
def wd_87 := wk_ hw 87 rfl
def wd_88 := wk_ hw 88 rfl
def wd_89 := wk_ hw 89 rfl
def wd_90 := wk_ hw 90 rfl
def wd_91 := wk_ hw 91 rfl
def wd_92 := wk_ hw 92 rfl
def wd_93 := wk_ hw 93 rfl
def wd_94 := wk_ hw 94 rfl
def wd_95 := wk_ hw 95 rfl
def wd_96 := wk_ hw 96 rfl
def wd_97 := wk_ hw 97 rfl
def wd_98 := wk_ hw 98 rfl
def wd_99 := wk_ hw 99 rfl
def wd_100 := wk_ hw 100 rfl
def wd_101 := wk_ hw 101 rfl
def wd_102 := wk_ hw 102 rfl
def wd_103 := wk_ hw 103 rfl
def wd_104 := wk_ hw 104 rfl
def wd_105 := wk_ hw 105 rfl
def wd_106 := wk_ hw 106 rfl
def wd_107 := wk_ hw 107 rfl
def wd_108 := wk_ hw 108 rfl
def wd_109 := wk_ hw 109 rfl
def wd_110 := wk_ hw 110 rfl
def wd_111 := wk_ hw 111 rfl
def wd_112 := wk_ hw 112 rfl
def wd_113 := wk_ hw 113 rfl
def wd_114 := wk_ hw 114 rfl
def wd_115 := wk_ hw 115 rfl
def wd_116 := wk_ hw 116 rfl
def wd_117 := wk_ hw 117 rfl
def wd_118 := wk_ hw 118 rfl
def wd_119 := wk_ hw 119 rfl
def wd_120 := wk_ hw 120 rfl
def wd_121 := wk_ hw 121 rfl
def wd_122 := wk_ hw 122 rfl
def wd_123 := wk_ hw 123 rfl
def wd_124 := wk_ hw 124 rfl
def wd_125 := wk_ hw 125 rfl
def wd_126 := wk_ hw 126 rfl
def wd_127 := wk_ hw 127 rfl
def wd_128 := wk_ hw 128 rfl
def wd_129 := wk_ hw 129 rfl
def wd_130 := wk_ hw 130 rfl
def wd_131 := wk_ hw 131 rfl
def wd_132 := wk_ hw 132 rfl
def wd_133 := wk_ hw 133 rfl
def wd_134 := wk_ hw 134 rfl
def wd_135 := wk_ hw 135 rfl
def wd_136 := wk_ hw 136 rfl
def wd_137 := wk_ hw 137 rfl
def wd_138 := wk_ hw 138 rfl
def wd_139 := wk_ hw 139 rfl
def wd_140 := wk_ hw 140 rfl
def wd_141 := wk_ hw 141 rfl
def wd_142 := wk_ hw 142 rfl
def wd_143 := wk_ hw 143 rfl
def wd_144 := wk_ hw 144 rfl
def wd_145 := wk_ hw 145 rfl
def wd_147 := wk_ hw 147 rfl
def wd_148 := wk_ hw 148 rfl
def wd_149 := wk_ hw 149 rfl
def wd_150 := wk_ hw 150 rfl
def wd_151 := wk_ hw 151 rfl
def wd_152 := wk_ hw 152 rfl
def wd_153 := wk_ hw 153 rfl
def wd_154 := wk_ hw 154 rfl
def wd_155 := wk_ hw 155 rfl
def wd_156 := wk_ hw 156 rfl
def wd_157 := wk_ hw 157 rfl
def wd_158 := wk_ hw 158 rfl
def wd_159 := wk_ hw 159 rfl
def wd_160 := wk_ hw 160 rfl
def wd_161 := wk_ hw 161 rfl
def wd_162 := wk_ hw 162 rfl
def wd_163 := wk_ hw 163 rfl
def wd_164 := wk_ hw 164 rfl
def wd_165 := wk_ hw 165 rfl
def wd_166 := wk_ hw 166 rfl
def wd_167 := wk_ hw 167 rfl
def wd_168 := wk_ hw 168 rfl
def wd_169 := wk_ hw 169 rfl
def wd_170 := wk_ hw 170 rfl
def wd_171 := wk_ hw 171 rfl
def wd_172 := wk_ hw 172 rfl
def wd_173 := wk_ hw 173 rfl
def wd_174 := wk_ hw 174 rfl
def wd_175 := wk_ hw 175 rfl
def wd_176 := wk_ hw 176 rfl
def wd_177 := wk_ hw 177 rfl
def wd_178 := wk_ hw 178 rfl
def wd_179 := wk_ hw 179 rfl
def wd_180 := wk_ hw 180 rfl
def wd_182 := wk_ hw 182 rfl
def wd_183 := wk_ hw 183 rfl
def wd_184 := wk_ hw 184 rfl
def wd_185 := wk_ hw 185 rfl
def wd_186 := wk_ hw 186 rfl
def wd_188 := wk_ hw 188 rfl
def wd_189 := wk_ hw 189 rfl
def wd_190 := wk_ hw 190 rfl
def wd_191 := wk_ hw 191 rfl
def wd_192 := wk_ hw 192 rfl
def wd_193 := wk_ hw 193 rfl
def wd_194 := wk_ hw 194 rfl
def wd_195 := wk_ hw 195 rfl
def wd_196 := wk_ hw 196 rfl
def wd_197 := wk_ hw 197 rfl
def wd_198 := wk_ hw 198 rfl
def wd_199 := wk_ hw 199 rfl
def wd_200 := wk_ hw 200 rfl
def wd_201 := wk_ hw 201 rfl
def wd_202 := wk_ hw 202 rfl
def wd_203 := wk_ hw 203 rfl
def wd_204 := wk_ hw 204 rfl
def wd_205 := wk_ hw 205 rfl
def wd_206 := wk_ hw 206 rfl
def wd_207 := wk_ hw 207 rfl
def wd_208 := wk_ hw 208 rfl
def wd_209 := wk_ hw 209 rfl
def wd_210 := wk_ hw 210 rfl
def wd_211 := wk_ hw 211 rfl
def wd_212 := wk_ hw 212 rfl
def wd_213 := wk_ hw 213 rfl
def wd_214 := wk_ hw 214 rfl
def wd_215 := wk_ hw 215 rfl
def wd_216 := wk_ hw 216 rfl
def wd_217 := wk_ hw 217 rfl
def wd_218 := wk_ hw 218 rfl
def wd_219 := wk_ hw 219 rfl
def wd_220 := wk_ hw 220 rfl
def wd_221 := wk_ hw 221 rfl
def wd_222 := wk_ hw 222 rfl
def wd_223 := wk_ hw 223 rfl
def wd_224 := wk_ hw 224 rfl
def wd_225 := wk_ hw 225 rfl
def wd_226 := wk_ hw 226 rfl
def wd_227 := wk_ hw 227 rfl
def wd_228 := wk_ hw 228 rfl
def wd_229 := wk_ hw 229 rfl
def wd_230 := wk_ hw 230 rfl
def wd_232 := wk_ hw 232 rfl
def wd_233 := wk_ hw 233 rfl
def wd_234 := wk_ hw 234 rfl
def wd_235 := wk_ hw 235 rfl
def wd_236 := wk_ hw 236 rfl
def wd_237 := wk_ hw 237 rfl
def wd_238 := wk_ hw 238 rfl
def wd_239 := wk_ hw 239 rfl
def wd_240 := wk_ hw 240 rfl
def wd_241 := wk_ hw 241 rfl
def wd_242 := wk_ hw 242 rfl
def wd_243 := wk_ hw 243 rfl
def wd_244 := wk_ hw 244 rfl
def wd_245 := wk_ hw 245 rfl
def wd_246 := wk_ hw 246 rfl
def wd_247 := wk_ hw 247 rfl
def wd_248 := wk_ hw 248 rfl
def wd_249 := wk_ hw 249 rfl
def wd_250 := wk_ hw 250 rfl
def wd_251 := wk_ hw 251 rfl
def wd_252 := wk_ hw 252 rfl
def wd_253 := wk_ hw 253 rfl
def wd_254 := wk_ hw 254 rfl
def wd_255 := wk_ hw 255 rfl
def wd_256 := wk_ hw 256 rfl
def wd_257 := wk_ hw 257 rfl
def wd_258 := wk_ hw 258 rfl
def wd_259 := wk_ hw 259 rfl
def wd_260 := wk_ hw 260 rfl
def wd_261 := wk_ hw 261 rfl
def wd_262 := wk_ hw 262 rfl
def wd_263 := wk_ hw 263 rfl
def wd_264 := wk_ hw 264 rfl
def wd_265 := wk_ hw 265 rfl
def wd_266 := wk_ hw 266 rfl
def wd_267 := wk_ hw 267 rfl
def wd_269 := wk_ hw 269 rfl
def wd_270 := wk_ hw 270 rfl
def wd_271 := wk_ hw 271 rfl
def wd_272 := wk_ hw 272 rfl
def wd_273 := wk_ hw 273 rfl
def wd_274 := wk_ hw 274 rfl
def wd_275 := wk_ hw 275 rfl
def wd_276 := wk_ hw 276 rfl
def wd_277 := wk_ hw 277 rfl
def wd_278 := wk_ hw 278 rfl
def wd_279 := wk_ hw 279 rfl
def wd_280 := wk_ hw 280 rfl
def wd_281 := wk_ hw 281 rfl
def wd_282 := wk_ hw 282 rfl
def wd_283 := wk_ hw 283 rfl
def wd_284 := wk_ hw 284 rfl
def wd_285 := wk_ hw 285 rfl
def wd_286 := wk_ hw 286 rfl
def wd_287 := wk_ hw 287 rfl
def wd_288 := wk_ hw 288 rfl
def wd_289 := wk_ hw 289 rfl
def wd_290 := wk_ hw 290 rfl
def wd_291 := wk_ hw 291 rfl
def wd_292 := wk_ hw 292 rfl
def wd_293 := wk_ hw 293 rfl
def wd_294 := wk_ hw 294 rfl
def wd_296 := wk_ hw 296 rfl
def wd_297 := wk_ hw 297 rfl
def wd_298 := wk_ hw 298 rfl
def wd_301 := wk_ hw 301 rfl
def wd_302 := wk_ hw 302 rfl
def wd_303 := wk_ hw 303 rfl
def wd_304 := wk_ hw 304 rfl
def wd_307 := wk_ hw 307 rfl
def wd_308 := wk_ hw 308 rfl
def wd_309 := wk_ hw 309 rfl
def wd_311 := wk_ hw 311 rfl
def wd_312 := wk_ hw 312 rfl
def wd_313 := wk_ hw 313 rfl
def wd_314 := wk_ hw 314 rfl
def wd_315 := wk_ hw 315 rfl
def wd_316 := wk_ hw 316 rfl
def wd_317 := wk_ hw 317 rfl
def wd_318 := wk_ hw 318 rfl
def wd_319 := wk_ hw 319 rfl
def wd_320 := wk_ hw 320 rfl
def wd_321 := wk_ hw 321 rfl
def wd_322 := wk_ hw 322 rfl
def wd_323 := wk_ hw 323 rfl
def wd_324 := wk_ hw 324 rfl
def wd_325 := wk_ hw 325 rfl
def wd_326 := wk_ hw 326 rfl
def wd_327 := wk_ hw 327 rfl
def wd_328 := wk_ hw 328 rfl
def wd_329 := wk_ hw 329 rfl
def wd_330 := wk_ hw 330 rfl
def wd_331 := wk_ hw 331 rfl
def wd_332 := wk_ hw 332 rfl
def wd_333 := wk_ hw 333 rfl
def wd_335 := wk_ hw 335 rfl
def wd_336 := wk_ hw 336 rfl
def wd_338 := wk_ hw 338 rfl
def wd_339 := wk_ hw 339 rfl
def wd_340 := wk_ hw 340 rfl
def wd_341 := wk_ hw 341 rfl
def wd_342 := wk_ hw 342 rfl
def wd_343 := wk_ hw 343 rfl
def wd_344 := wk_ hw 344 rfl
def wd_345 := wk_ hw 345 rfl
def wd_346 := wk_ hw 346 rfl
def wd_347 := wk_ hw 347 rfl
def wd_348 := wk_ hw 348 rfl
def wd_349 := wk_ hw 349 rfl
def wd_350 := wk_ hw 350 rfl
def wd_351 := wk_ hw 351 rfl
def wd_352 := wk_ hw 352 rfl
def wd_353 := wk_ hw 353 rfl
def wd_354 := wk_ hw 354 rfl
def wd_355 := wk_ hw 355 rfl
def wd_356 := wk_ hw 356 rfl
def wd_357 := wk_ hw 357 rfl
def wd_358 := wk_ hw 358 rfl
def wd_359 := wk_ hw 359 rfl
def wd_360 := wk_ hw 360 rfl
def wd_361 := wk_ hw 361 rfl
def wd_362 := wk_ hw 362 rfl
def wd_363 := wk_ hw 363 rfl
def wd_364 := wk_ hw 364 rfl
def wd_365 := wk_ hw 365 rfl
def wd_367 := wk_ hw 367 rfl
def wd_368 := wk_ hw 368 rfl
def wd_369 := wk_ hw 369 rfl
def wd_370 := wk_ hw 370 rfl
def wd_371 := wk_ hw 371 rfl
def wd_372 := wk_ hw 372 rfl
def wd_374 := wk_ hw 374 rfl
def wd_375 := wk_ hw 375 rfl
def wd_376 := wk_ hw 376 rfl
def wd_377 := wk_ hw 377 rfl
def wd_378 := wk_ hw 378 rfl
def wd_379 := wk_ hw 379 rfl
def wd_380 := wk_ hw 380 rfl
def wd_381 := wk_ hw 381 rfl
def wd_382 := wk_ hw 382 rfl
def wd_383 := wk_ hw 383 rfl
def wd_384 := wk_ hw 384 rfl
def wd_385 := wk_ hw 385 rfl
def wd_386 := wk_ hw 386 rfl
def wd_387 := wk_ hw 387 rfl
def wd_388 := wk_ hw 388 rfl
def wd_389 := wk_ hw 389 rfl
def wd_390 := wk_ hw 390 rfl
def wd_391 := wk_ hw 391 rfl
def wd_392 := wk_ hw 392 rfl
def wd_393 := wk_ hw 393 rfl
def wd_394 := wk_ hw 394 rfl
def wd_395 := wk_ hw 395 rfl
def wd_396 := wk_ hw 396 rfl
def wd_397 := wk_ hw 397 rfl
def wd_398 := wk_ hw 398 rfl
def wd_399 := wk_ hw 399 rfl
def wd_400 := wk_ hw 400 rfl
def wd_401 := wk_ hw 401 rfl
def wd_402 := wk_ hw 402 rfl
def wd_403 := wk_ hw 403 rfl
def wd_404 := wk_ hw 404 rfl
def wd_405 := wk_ hw 405 rfl
def wd_406 := wk_ hw 406 rfl
def wd_407 := wk_ hw 407 rfl
def wd_408 := wk_ hw 408 rfl
def wd_409 := wk_ hw 409 rfl
def wd_410 := wk_ hw 410 rfl
def wd_411 := wk_ hw 411 rfl
def wd_412 := wk_ hw 412 rfl
def wd_413 := wk_ hw 413 rfl
def wd_414 := wk_ hw 414 rfl
def wd_415 := wk_ hw 415 rfl
def wd_416 := wk_ hw 416 rfl
def wd_417 := wk_ hw 417 rfl
def wd_418 := wk_ hw 418 rfl
def wd_419 := wk_ hw 419 rfl
def wd_420 := wk_ hw 420 rfl
def wd_421 := wk_ hw 421 rfl
def wd_422 := wk_ hw 422 rfl
def wd_423 := wk_ hw 423 rfl
def wd_424 := wk_ hw 424 rfl
def wd_425 := wk_ hw 425 rfl
def wd_426 := wk_ hw 426 rfl
def wd_427 := wk_ hw 427 rfl
def wd_428 := wk_ hw 428 rfl
def wd_429 := wk_ hw 429 rfl
def wd_430 := wk_ hw 430 rfl
def wd_431 := wk_ hw 431 rfl
def wd_432 := wk_ hw 432 rfl
def wd_433 := wk_ hw 433 rfl
def wd_434 := wk_ hw 434 rfl
def wd_435 := wk_ hw 435 rfl
def wd_436 := wk_ hw 436 rfl
def wd_437 := wk_ hw 437 rfl
def wd_438 := wk_ hw 438 rfl
def wd_439 := wk_ hw 439 rfl
def wd_440 := wk_ hw 440 rfl
def wd_441 := wk_ hw 441 rfl
def wd_442 := wk_ hw 442 rfl
def wd_443 := wk_ hw 443 rfl
def wd_444 := wk_ hw 444 rfl
def wd_445 := wk_ hw 445 rfl
def wd_446 := wk_ hw 446 rfl
def wd_447 := wk_ hw 447 rfl
def wd_448 := wk_ hw 448 rfl
def wd_449 := wk_ hw 449 rfl
def wd_450 := wk_ hw 450 rfl
def wd_451 := wk_ hw 451 rfl
def wd_452 := wk_ hw 452 rfl
def wd_453 := wk_ hw 453 rfl
def wd_454 := wk_ hw 454 rfl
def wd_455 := wk_ hw 455 rfl
def wd_456 := wk_ hw 456 rfl
def wd_457 := wk_ hw 457 rfl
def wd_458 := wk_ hw 458 rfl
def wd_459 := wk_ hw 459 rfl
def wd_460 := wk_ hw 460 rfl
def wd_461 := wk_ hw 461 rfl
def wd_462 := wk_ hw 462 rfl
def wd_463 := wk_ hw 463 rfl
def wd_464 := wk_ hw 464 rfl
def wd_465 := wk_ hw 465 rfl
end
set_option maxRecDepth 65536
set_option maxHeartbeats 40000000
theorem ef_r1 (m : MethodId) (x0 : Addr) : entryFrame m #[.ref x0] 1 = mkF m 0 #[.val (.ref x0)] [] := by first | (simp [entryFrame, mkF, argsToLocals, Value.category, maxLocals]; done) | rfl
abbrev K4 : ByteArray := jdk_22_method_1_code
theorem d4_0 : decode K4 0 = .ok (.aload_n 0, 1) := by decide +kernel
theorem d4_1 : decode K4 1 = .ok (.invokespecial 1, 3) := by decide +kernel
theorem d4_4 : decode K4 4 = .ok (.return_, 1) := by decide +kernel
theorem pf_4 : plainFor ⟨"java/util/AbstractCollection", "<init>", "()V"⟩ = true := by first | exact plainFor_of_name (by first | (simp [plainName, overriddenIn]; done) | decide +kernel) | decide +kernel
theorem la_ArrayList {Z : State} {a0 : Array Value} (hw : ∀ d ∈ tables_1, d.before a0 Z = true) : LaidAll Z a0 "java/util/ArrayList" [("java/util/AbstractList", "modCount", "I", .int 0), ("java/util/ArrayList", "elementData", "[Ljava/lang/Object;", .null), ("java/util/ArrayList", "size", "I", .int 0)] := LaidAll.cons (Or.inl (wd_26 hw)) (t := .int) (by decide) rfl (LaidAll.cons (Or.inl (wd_29 hw)) (t := (.array (.object "java/lang/Object"))) (by decide) rfl (LaidAll.cons (Or.inl (wd_66 hw)) (t := .int) (by decide) rfl (LaidAll.nil)))
abbrev o_ArrayList (Z : State) (v0 v1 v2 : Value) : Cell → Prop := ObC Z "java/util/ArrayList" [("java/util/AbstractList", "modCount", "I", v0), ("java/util/ArrayList", "elementData", "[Ljava/lang/Object;", v1), ("java/util/ArrayList", "size", "I", v2)]
abbrev K3 : ByteArray := jdk_39_method_1_code
theorem d3_0 : decode K3 0 = .ok (.aload_n 0, 1) := by decide +kernel
theorem d3_1 : decode K3 1 = .ok (.invokespecial 1, 3) := by decide +kernel
theorem pd_0 : parseMethodDescriptor "()V" = some ⟨[], none⟩ := by decide +kernel
theorem d3_4 : decode K3 4 = .ok (.aload_n 0, 1) := by decide +kernel
theorem d3_5 : decode K3 5 = .ok (.iconst 0, 1) := by decide +kernel
theorem d3_6 : decode K3 6 = .ok (.putfield 7, 3) := by decide +kernel
theorem d3_9 : decode K3 9 = .ok (.return_, 1) := by decide +kernel
theorem pf_3 : plainFor ⟨"java/util/AbstractList", "<init>", "()V"⟩ = true := by first | exact plainFor_of_name (by first | (simp [plainName, overriddenIn]; done) | decide +kernel) | decide +kernel
abbrev K2 : ByteArray := jdk_38_method_2_code
theorem d2_0 : decode K2 0 = .ok (.aload_n 0, 1) := by decide +kernel
theorem d2_1 : decode K2 1 = .ok (.invokespecial 1, 3) := by decide +kernel
theorem d2_4 : decode K2 4 = .ok (.aload_n 0, 1) := by decide +kernel
theorem d2_5 : decode K2 5 = .ok (.getstatic 39, 3) := by decide +kernel
theorem d2_8 : decode K2 8 = .ok (.putfield 9, 3) := by decide +kernel
theorem d2_11 : decode K2 11 = .ok (.return_, 1) := by decide +kernel
theorem pf_2 : plainFor ⟨"java/util/ArrayList", "<init>", "()V"⟩ = true := by first | exact plainFor_of_name (by first | (simp [plainName, overriddenIn]; done) | decide +kernel) | decide +kernel
theorem ef_ii2 (m : MethodId) (x0 : Int32) (x1 : Int32) : entryFrame m #[.int x0, .int x1] 2 = mkF m 0 #[.val (.int x0), .val (.int x1)] [] := by first | (simp [entryFrame, mkF, argsToLocals, Value.category, maxLocals]; done) | rfl
abbrev K12 : ByteArray := jdk_29_method_65_code
theorem d12_0 : decode K12 0 = .ok (.iload_n 0, 1) := by decide +kernel
theorem d12_1 : decode K12 1 = .ok (.iload_n 1, 1) := by decide +kernel
theorem d12_2 : decode K12 2 = .ok (.if_icmp .lt 7, 3) := by decide +kernel
theorem d12_5 : decode K12 5 = .ok (.iload_n 0, 1) := by decide +kernel
theorem d12_6 : decode K12 6 = .ok (.goto 4, 3) := by decide +kernel
theorem d12_10 : decode K12 10 = .ok (.ireturn, 1) := by decide +kernel
theorem pf_12 : plainFor ⟨"java/lang/Math", "max", "(II)I"⟩ = true := by first | exact plainFor_of_name (by first | (simp [plainName, overriddenIn]; done) | decide +kernel) | decide +kernel
theorem ef_ri4 (m : MethodId) (x0 : Addr) (x1 : Int32) : entryFrame m #[.ref x0, .int x1] 4 = mkF m 0 #[.val (.ref x0), .val (.int x1), .unset, .unset] [] := by first | (simp [entryFrame, mkF, argsToLocals, Value.category, maxLocals]; done) | rfl
abbrev K11 : ByteArray := jdk_38_method_6_code
theorem d11_0 : decode K11 0 = .ok (.aload_n 0, 1) := by decide +kernel
theorem d11_1 : decode K11 1 = .ok (.getfield 9, 3) := by decide +kernel
theorem d11_4 : decode K11 4 = .ok (.arraylength, 1) := by decide +kernel
theorem d11_5 : decode K11 5 = .ok (.istore_n 2, 1) := by decide +kernel
theorem d11_6 : decode K11 6 = .ok (.iload_n 2, 1) := by decide +kernel
theorem d11_7 : decode K11 7 = .ok (.ifCond .gt 13, 3) := by decide +kernel
theorem d11_10 : decode K11 10 = .ok (.aload_n 0, 1) := by decide +kernel
theorem d11_11 : decode K11 11 = .ok (.getfield 9, 3) := by decide +kernel
theorem d11_14 : decode K11 14 = .ok (.getstatic 39, 3) := by decide +kernel
theorem d11_17 : decode K11 17 = .ok (.if_acmp .eq 28, 3) := by decide +kernel
theorem d11_45 : decode K11 45 = .ok (.aload_n 0, 1) := by decide +kernel
theorem d11_46 : decode K11 46 = .ok (.bipush 10, 2) := by decide +kernel
theorem d11_48 : decode K11 48 = .ok (.iload_n 1, 1) := by decide +kernel
theorem d11_49 : decode K11 49 = .ok (.invokestatic 79, 3) := by decide +kernel
theorem pd_1 : parseMethodDescriptor "(II)I" = some ⟨[.int, .int], some .int⟩ := by decide +kernel
theorem d11_52 : decode K11 52 = .ok (.anewarray 7, 3) := by decide +kernel
theorem d11_55 : decode K11 55 = .ok (.dup_x1, 1) := by decide +kernel
theorem d11_56 : decode K11 56 = .ok (.putfield 9, 3) := by decide +kernel
theorem d11_59 : decode K11 59 = .ok (.areturn, 1) := by decide +kernel
theorem pf_11 : plainFor ⟨"java/util/ArrayList", "grow", "(I)[Ljava/lang/Object;"⟩ = true := by first | exact plainFor_of_name (by first | (simp [plainName, overriddenIn]; done) | decide +kernel) | decide +kernel
abbrev K10 : ByteArray := jdk_38_method_7_code
theorem d10_0 : decode K10 0 = .ok (.aload_n 0, 1) := by decide +kernel
theorem d10_1 : decode K10 1 = .ok (.aload_n 0, 1) := by decide +kernel
theorem d10_2 : decode K10 2 = .ok (.getfield 48, 3) := by decide +kernel
theorem d10_5 : decode K10 5 = .ok (.iconst 1, 1) := by decide +kernel
theorem d10_6 : decode K10 6 = .ok (.iadd, 1) := by decide +kernel
theorem d10_7 : decode K10 7 = .ok (.invokevirtual 69, 3) := by decide +kernel
theorem pd_2 : parseMethodDescriptor "(I)[Ljava/lang/Object;" = some ⟨[.int], some (.array (.object "java/lang/Object"))⟩ := by decide +kernel
theorem d10_10 : decode K10 10 = .ok (.areturn, 1) := by decide +kernel
theorem pf_10 : plainFor ⟨"java/util/ArrayList", "grow", "()[Ljava/lang/Object;"⟩ = true := by first | exact plainFor_of_name (by first | (simp [plainName, overriddenIn]; done) | decide +kernel) | decide +kernel
theorem ef_rrri4 (m : MethodId) (x0 : Addr) (x1 : Addr) (x2 : Addr) (x3 : Int32) : entryFrame m #[.ref x0, .ref x1, .ref x2, .int x3] 4 = mkF m 0 #[.val (.ref x0), .val (.ref x1), .val (.ref x2), .val (.int x3)] [] := by first | (simp [entryFrame, mkF, argsToLocals, Value.category, maxLocals]; done) | rfl
abbrev K9 : ByteArray := jdk_38_method_24_code
theorem d9_0 : decode K9 0 = .ok (.iload_n 3, 1) := by decide +kernel
theorem d9_1 : decode K9 1 = .ok (.aload_n 2, 1) := by decide +kernel
theorem d9_2 : decode K9 2 = .ok (.arraylength, 1) := by decide +kernel
theorem d9_3 : decode K9 3 = .ok (.if_icmp .ne 8, 3) := by decide +kernel
theorem d9_6 : decode K9 6 = .ok (.aload_n 0, 1) := by decide +kernel
theorem d9_7 : decode K9 7 = .ok (.invokevirtual 129, 3) := by decide +kernel
theorem pd_3 : parseMethodDescriptor "()[Ljava/lang/Object;" = some ⟨[], some (.array (.object "java/lang/Object"))⟩ := by decide +kernel
theorem d9_10 : decode K9 10 = .ok (.astore_n 2, 1) := by decide +kernel
theorem d9_11 : decode K9 11 = .ok (.aload_n 2, 1) := by decide +kernel
theorem d9_12 : decode K9 12 = .ok (.iload_n 3, 1) := by decide +kernel
theorem d9_13 : decode K9 13 = .ok (.aload_n 1, 1) := by decide +kernel
theorem d9_14 : decode K9 14 = .ok (.aastore, 1) := by decide +kernel
theorem d9_15 : decode K9 15 = .ok (.aload_n 0, 1) := by decide +kernel
theorem d9_16 : decode K9 16 = .ok (.iload_n 3, 1) := by decide +kernel
theorem d9_17 : decode K9 17 = .ok (.iconst 1, 1) := by decide +kernel
theorem d9_18 : decode K9 18 = .ok (.iadd, 1) := by decide +kernel
theorem d9_19 : decode K9 19 = .ok (.putfield 48, 3) := by decide +kernel
theorem d9_22 : decode K9 22 = .ok (.return_, 1) := by decide +kernel
theorem pf_9 : plainFor ⟨"java/util/ArrayList", "add", "(Ljava/lang/Object;[Ljava/lang/Object;I)V"⟩ = true := by first | exact plainFor_of_name (by first | (simp [plainName, overriddenIn]; done) | decide +kernel) | decide +kernel
theorem ef_rr2 (m : MethodId) (x0 : Addr) (x1 : Addr) : entryFrame m #[.ref x0, .ref x1] 2 = mkF m 0 #[.val (.ref x0), .val (.ref x1)] [] := by first | (simp [entryFrame, mkF, argsToLocals, Value.category, maxLocals]; done) | rfl
abbrev K8 : ByteArray := jdk_38_method_25_code
theorem d8_0 : decode K8 0 = .ok (.aload_n 0, 1) := by decide +kernel
theorem d8_1 : decode K8 1 = .ok (.dup, 1) := by decide +kernel
theorem d8_2 : decode K8 2 = .ok (.getfield 63, 3) := by decide +kernel
theorem d8_5 : decode K8 5 = .ok (.iconst 1, 1) := by decide +kernel
theorem d8_6 : decode K8 6 = .ok (.iadd, 1) := by decide +kernel
theorem d8_7 : decode K8 7 = .ok (.putfield 63, 3) := by decide +kernel
theorem d8_10 : decode K8 10 = .ok (.aload_n 0, 1) := by decide +kernel
theorem d8_11 : decode K8 11 = .ok (.aload_n 1, 1) := by decide +kernel
theorem d8_12 : decode K8 12 = .ok (.aload_n 0, 1) := by decide +kernel
theorem d8_13 : decode K8 13 = .ok (.getfield 9, 3) := by decide +kernel
theorem d8_16 : decode K8 16 = .ok (.aload_n 0, 1) := by decide +kernel
theorem d8_17 : decode K8 17 = .ok (.getfield 48, 3) := by decide +kernel
theorem d8_20 : decode K8 20 = .ok (.invokevirtual 131, 3) := by decide +kernel
theorem pd_4 : parseMethodDescriptor "(Ljava/lang/Object;[Ljava/lang/Object;I)V" = some ⟨[(.object "java/lang/Object"), (.array (.object "java/lang/Object")), .int], none⟩ := by decide +kernel
theorem d8_23 : decode K8 23 = .ok (.iconst 1, 1) := by decide +kernel
theorem d8_24 : decode K8 24 = .ok (.ireturn, 1) := by decide +kernel
theorem pf_8 : plainFor ⟨"java/util/ArrayList", "add", "(Ljava/lang/Object;)Z"⟩ = true := by first | exact plainFor_of_name (by first | (simp [plainName, overriddenIn]; done) | decide +kernel) | decide +kernel
abbrev K14 : ByteArray := jdk_38_method_8_code
theorem d14_0 : decode K14 0 = .ok (.aload_n 0, 1) := by decide +kernel
theorem d14_1 : decode K14 1 = .ok (.getfield 48, 3) := by decide +kernel
theorem d14_4 : decode K14 4 = .ok (.ireturn, 1) := by decide +kernel
theorem pf_14 : plainFor ⟨"java/util/ArrayList", "size", "()I"⟩ = true := by first | exact plainFor_of_name (by first | (simp [plainName, overriddenIn]; done) | decide +kernel) | decide +kernel
theorem ef_iin3 (m : MethodId) (x0 : Int32) (x1 : Int32) : entryFrame m #[.int x0, .int x1, .null] 3 = mkF m 0 #[.val (.int x0), .val (.int x1), .val (.null)] [] := by first | (simp [entryFrame, mkF, argsToLocals, Value.category, maxLocals]; done) | rfl
abbrev K17 : ByteArray := jdk_41_method_11_code
theorem d17_0 : decode K17 0 = .ok (.iload_n 0, 1) := by decide +kernel
theorem d17_1 : decode K17 1 = .ok (.ifCond .lt 8, 3) := by decide +kernel
theorem d17_4 : decode K17 4 = .ok (.iload_n 0, 1) := by decide +kernel
theorem d17_5 : decode K17 5 = .ok (.iload_n 1, 1) := by decide +kernel
theorem d17_6 : decode K17 6 = .ok (.if_icmp .lt 10, 3) := by decide +kernel
theorem d17_16 : decode K17 16 = .ok (.iload_n 0, 1) := by decide +kernel
theorem d17_17 : decode K17 17 = .ok (.ireturn, 1) := by decide +kernel
theorem pn_Preconditions : plainName "jdk/internal/util/Preconditions" = true := by first | (simp [plainName, overriddenIn]; done) | decide +kernel
abbrev K16 : ByteArray := jdk_31_method_17_code
theorem d16_0 : decode K16 0 = .ok (.iload_n 0, 1) := by decide +kernel
theorem d16_1 : decode K16 1 = .ok (.iload_n 1, 1) := by decide +kernel
theorem d16_2 : decode K16 2 = .ok (.aconst_null, 1) := by decide +kernel
theorem d16_3 : decode K16 3 = .ok (.invokestatic 105, 3) := by decide +kernel
theorem pd_5 : parseMethodDescriptor "(IILjava/util/function/BiFunction;)I" = some ⟨[.int, .int, (.object "java/util/function/BiFunction")], some .int⟩ := by decide +kernel
theorem d16_6 : decode K16 6 = .ok (.ireturn, 1) := by decide +kernel
theorem pf_16 : plainFor ⟨"java/util/Objects", "checkIndex", "(II)I"⟩ = true := by first | exact plainFor_of_name (by first | (simp [plainName, overriddenIn]; done) | decide +kernel) | decide +kernel
theorem ef_ri2 (m : MethodId) (x0 : Addr) (x1 : Int32) : entryFrame m #[.ref x0, .int x1] 2 = mkF m 0 #[.val (.ref x0), .val (.int x1)] [] := by first | (simp [entryFrame, mkF, argsToLocals, Value.category, maxLocals]; done) | rfl
abbrev K18 : ByteArray := jdk_38_method_18_code
theorem d18_0 : decode K18 0 = .ok (.aload_n 0, 1) := by decide +kernel
theorem d18_1 : decode K18 1 = .ok (.getfield 9, 3) := by decide +kernel
theorem d18_4 : decode K18 4 = .ok (.iload_n 1, 1) := by decide +kernel
theorem d18_5 : decode K18 5 = .ok (.aaload, 1) := by decide +kernel
theorem d18_6 : decode K18 6 = .ok (.areturn, 1) := by decide +kernel
theorem pf_18 : plainFor ⟨"java/util/ArrayList", "elementData", "(I)Ljava/lang/Object;"⟩ = true := by first | exact plainFor_of_name (by first | (simp [plainName, overriddenIn]; done) | decide +kernel) | decide +kernel
abbrev K15 : ByteArray := jdk_38_method_20_code
theorem d15_0 : decode K15 0 = .ok (.iload_n 1, 1) := by decide +kernel
theorem d15_1 : decode K15 1 = .ok (.aload_n 0, 1) := by decide +kernel
theorem d15_2 : decode K15 2 = .ok (.getfield 48, 3) := by decide +kernel
theorem d15_5 : decode K15 5 = .ok (.invokestatic 118, 3) := by decide +kernel
theorem d15_8 : decode K15 8 = .ok (.pop, 1) := by decide +kernel
theorem d15_9 : decode K15 9 = .ok (.aload_n 0, 1) := by decide +kernel
theorem d15_10 : decode K15 10 = .ok (.iload_n 1, 1) := by decide +kernel
theorem d15_11 : decode K15 11 = .ok (.invokevirtual 123, 3) := by decide +kernel
theorem pd_6 : parseMethodDescriptor "(I)Ljava/lang/Object;" = some ⟨[.int], some (.object "java/lang/Object")⟩ := by decide +kernel
theorem d15_14 : decode K15 14 = .ok (.areturn, 1) := by decide +kernel
theorem pf_15 : plainFor ⟨"java/util/ArrayList", "get", "(I)Ljava/lang/Object;"⟩ = true := by first | exact plainFor_of_name (by first | (simp [plainName, overriddenIn]; done) | decide +kernel) | decide +kernel
abbrev K7 : ByteArray := jdk_30_method_1_code
theorem d7_0 : decode K7 0 = .ok (.aload_n 0, 1) := by decide +kernel
theorem d7_1 : decode K7 1 = .ok (.invokespecial 1, 3) := by decide +kernel
theorem d7_4 : decode K7 4 = .ok (.return_, 1) := by decide +kernel
theorem pf_7 : plainFor ⟨"java/lang/Record", "<init>", "()V"⟩ = true := by first | exact plainFor_of_name (by first | (simp [plainName, overriddenIn]; done) | decide +kernel) | decide +kernel
theorem la_Network_Arc {Z : State} {a0 : Array Value} (hw : ∀ d ∈ tables_1, d.before a0 Z = true) : LaidAll Z a0 "com/example/lanewright/lanewright/Network$Arc" [("com/example/lanewright/lanewright/Network$Arc", "tail", "I", .int 0), ("com/example/lanewright/lanewright/Network$Arc", "head", "I", .int 0), ("com/example/lanewright/lanewright/Network$Arc", "capacity", "D", .double 0), ("com/example/lanewright/lanewright/Network$Arc", "freeFlowTime", "D", .double 0), ("com/example/lanewright/lanewright/Network$Arc", "b", "D", .double 0), ("com/example/lanewright/lanewright/Network$Arc", "power", "D", .double 0)] := LaidAll.cons (Or.inr (wd_43 hw)) (t := .int) (by decide) rfl (LaidAll.cons (Or.inr (wd_45 hw)) (t := .int) (by decide) rfl (LaidAll.cons (Or.inr (wd_47 hw)) (t := .double) (by decide) rfl (LaidAll.cons (Or.inr (wd_49 hw)) (t := .double) (by decide) rfl (LaidAll.cons (Or.inr (wd_51 hw)) (t := .double) (by decide) rfl (LaidAll.cons (Or.inr (wd_53 hw)) (t := .double) (by decide) rfl (LaidAll.nil))))))
abbrev o_Network_Arc (Z : State) (v0 v1 v2 v3 v4 v5 : Value) : Cell → Prop := ObC Z "com/example/lanewright/lanewright/Network$Arc" [("com/example/lanewright/lanewright/Network$Arc", "tail", "I", v0), ("com/example/lanewright/lanewright/Network$Arc", "head", "I", v1), ("com/example/lanewright/lanewright/Network$Arc", "capacity", "D", v2), ("com/example/lanewright/lanewright/Network$Arc", "freeFlowTime", "D", v3), ("com/example/lanewright/lanewright/Network$Arc", "b", "D", v4), ("com/example/lanewright/lanewright/Network$Arc", "power", "D", v5)]
theorem ef_riidddd11 (m : MethodId) (x0 : Addr) (x1 : Int32) (x2 : Int32) (x3 : UInt64) (x4 : UInt64) (x5 : UInt64) (x6 : UInt64) : entryFrame m #[.ref x0, .int x1, .int x2, .double x3, .double x4, .double x5, .double x6] 11 = mkF m 0 #[.val (.ref x0), .val (.int x1), .val (.int x2), .val (.double x3), .second, .val (.double x4), .second, .val (.double x5), .second, .val (.double x6), .second] [] := by first | (simp [entryFrame, mkF, argsToLocals, Value.category, maxLocals]; done) | rfl
abbrev K6 : ByteArray := prog_30_method_1_code
theorem d6_0 : decode K6 0 = .ok (.aload_n 0, 1) := by decide +kernel
theorem d6_1 : decode K6 1 = .ok (.invokespecial 1, 3) := by decide +kernel
theorem d6_4 : decode K6 4 = .ok (.aload_n 0, 1) := by decide +kernel
theorem d6_5 : decode K6 5 = .ok (.iload_n 1, 1) := by decide +kernel
theorem d6_6 : decode K6 6 = .ok (.putfield 7, 3) := by decide +kernel
theorem d6_9 : decode K6 9 = .ok (.aload_n 0, 1) := by decide +kernel
theorem d6_10 : decode K6 10 = .ok (.iload_n 2, 1) := by decide +kernel
theorem d6_11 : decode K6 11 = .ok (.putfield 13, 3) := by decide +kernel
theorem d6_14 : decode K6 14 = .ok (.aload_n 0, 1) := by decide +kernel
theorem d6_15 : decode K6 15 = .ok (.dload_n 3, 1) := by decide +kernel
theorem d6_16 : decode K6 16 = .ok (.putfield 16, 3) := by decide +kernel
theorem d6_19 : decode K6 19 = .ok (.aload_n 0, 1) := by decide +kernel
theorem d6_20 : decode K6 20 = .ok (.dload 5, 2) := by decide +kernel
theorem d6_22 : decode K6 22 = .ok (.putfield 20, 3) := by decide +kernel
theorem d6_25 : decode K6 25 = .ok (.aload_n 0, 1) := by decide +kernel
theorem d6_26 : decode K6 26 = .ok (.dload 7, 2) := by decide +kernel
theorem d6_28 : decode K6 28 = .ok (.putfield 23, 3) := by decide +kernel
theorem d6_31 : decode K6 31 = .ok (.aload_n 0, 1) := by decide +kernel
theorem d6_32 : decode K6 32 = .ok (.dload 9, 2) := by decide +kernel
theorem d6_34 : decode K6 34 = .ok (.putfield 26, 3) := by decide +kernel
theorem d6_37 : decode K6 37 = .ok (.return_, 1) := by decide +kernel
theorem pn_Network_Arc : plainName "com/example/lanewright/lanewright/Network$Arc" = true := by first | (simp [plainName, overriddenIn]; done) | decide +kernel
abbrev K19 : ByteArray := prog_30_method_5_code
theorem d19_0 : decode K19 0 = .ok (.aload_n 0, 1) := by decide +kernel
theorem d19_1 : decode K19 1 = .ok (.getfield 7, 3) := by decide +kernel
theorem d19_4 : decode K19 4 = .ok (.ireturn, 1) := by decide +kernel
abbrev K20 : ByteArray := prog_30_method_6_code
theorem d20_0 : decode K20 0 = .ok (.aload_n 0, 1) := by decide +kernel
theorem d20_1 : decode K20 1 = .ok (.getfield 13, 3) := by decide +kernel
theorem d20_4 : decode K20 4 = .ok (.ireturn, 1) := by decide +kernel
abbrev K21 : ByteArray := prog_30_method_7_code
theorem d21_0 : decode K21 0 = .ok (.aload_n 0, 1) := by decide +kernel
theorem d21_1 : decode K21 1 = .ok (.getfield 16, 3) := by decide +kernel
theorem d21_4 : decode K21 4 = .ok (.dreturn, 1) := by decide +kernel
abbrev K22 : ByteArray := prog_30_method_8_code
theorem d22_0 : decode K22 0 = .ok (.aload_n 0, 1) := by decide +kernel
theorem d22_1 : decode K22 1 = .ok (.getfield 20, 3) := by decide +kernel
theorem d22_4 : decode K22 4 = .ok (.dreturn, 1) := by decide +kernel
abbrev K23 : ByteArray := prog_30_method_9_code
theorem d23_0 : decode K23 0 = .ok (.aload_n 0, 1) := by decide +kernel
theorem d23_1 : decode K23 1 = .ok (.getfield 23, 3) := by decide +kernel
theorem d23_4 : decode K23 4 = .ok (.dreturn, 1) := by decide +kernel
abbrev K24 : ByteArray := prog_30_method_10_code
theorem d24_0 : decode K24 0 = .ok (.aload_n 0, 1) := by decide +kernel
theorem d24_1 : decode K24 1 = .ok (.getfield 26, 3) := by decide +kernel
theorem d24_4 : decode K24 4 = .ok (.dreturn, 1) := by decide +kernel
theorem la_Network {Z : State} {a0 : Array Value} (hw : ∀ d ∈ tables_1, d.before a0 Z = true) : LaidAll Z a0 "com/example/lanewright/lanewright/Network" [("com/example/lanewright/lanewright/Network", "nodeCount", "I", .int 0), ("com/example/lanewright/lanewright/Network", "firstThruNode", "I", .int 0), ("com/example/lanewright/lanewright/Network", "tails", "[I", .null), ("com/example/lanewright/lanewright/Network", "heads", "[I", .null), ("com/example/lanewright/lanewright/Network", "capacities", "[D", .null), ("com/example/lanewright/lanewright/Network", "freeFlowTimes", "[D", .null), ("com/example/lanewright/lanewright/Network", "bs", "[D", .null), ("com/example/lanewright/lanewright/Network", "powers", "[D", .null), ("com/example/lanewright/lanewright/Network", "firstOut", "[I", .null), ("com/example/lanewright/lanewright/Network", "outArcs", "[I", .null)] := LaidAll.cons (Or.inr (wd_97 hw)) (t := .int) (by decide) rfl (LaidAll.cons (Or.inr (wd_99 hw)) (t := .int) (by decide) rfl (LaidAll.cons (Or.inr (wd_110 hw)) (t := (.array .int)) (by decide) rfl (LaidAll.cons (Or.inr (wd_112 hw)) (t := (.array .int)) (by decide) rfl (LaidAll.cons (Or.inr (wd_115 hw)) (t := (.array .double)) (by decide) rfl (LaidAll.cons (Or.inr (wd_117 hw)) (t := (.array .double)) (by decide) rfl (LaidAll.cons (Or.inr (wd_119 hw)) (t := (.array .double)) (by decide) rfl (LaidAll.cons (Or.inr (wd_121 hw)) (t := (.array .double)) (by decide) rfl (LaidAll.cons (Or.inr (wd_123 hw)) (t := (.array .int)) (by decide) rfl (LaidAll.cons (Or.inr (wd_178 hw)) (t := (.array .int)) (by decide) rfl (LaidAll.nil))))))))))
abbrev o_Network (Z : State) (v0 v1 v2 v3 v4 v5 v6 v7 v8 v9 : Value) : Cell → Prop := ObC Z "com/example/lanewright/lanewright/Network" [("com/example/lanewright/lanewright/Network", "nodeCount", "I", v0), ("com/example/lanewright/lanewright/Network", "firstThruNode", "I", v1), ("com/example/lanewright/lanewright/Network", "tails", "[I", v2), ("com/example/lanewright/lanewright/Network", "heads", "[I", v3), ("com/example/lanewright/lanewright/Network", "capacities", "[D", v4), ("com/example/lanewright/lanewright/Network", "freeFlowTimes", "[D", v5), ("com/example/lanewright/lanewright/Network", "bs", "[D", v6), ("com/example/lanewright/lanewright/Network", "powers", "[D", v7), ("com/example/lanewright/lanewright/Network", "firstOut", "[I", v8), ("com/example/lanewright/lanewright/Network", "outArcs", "[I", v9)]
theorem ef_riir7 (m : MethodId) (x0 : Addr) (x1 : Int32) (x2 : Int32) (x3 : Addr) : entryFrame m #[.ref x0, .int x1, .int x2, .ref x3] 7 = mkF m 0 #[.val (.ref x0), .val (.int x1), .val (.int x2), .val (.ref x3), .unset, .unset, .unset] [] := by first | (simp [entryFrame, mkF, argsToLocals, Value.category, maxLocals]; done) | rfl
abbrev K13 : ByteArray := prog_29_method_1_code
theorem d13_0 : decode K13 0 = .ok (.aload_n 0, 1) := by decide +kernel
theorem d13_1 : decode K13 1 = .ok (.invokespecial 1, 3) := by decide +kernel
theorem d13_4 : decode K13 4 = .ok (.aload_n 0, 1) := by decide +kernel
theorem d13_5 : decode K13 5 = .ok (.iload_n 1, 1) := by decide +kernel
theorem d13_6 : decode K13 6 = .ok (.putfield 7, 3) := by decide +kernel
theorem d13_9 : decode K13 9 = .ok (.aload_n 0, 1) := by decide +kernel
theorem d13_10 : decode K13 10 = .ok (.iload_n 2, 1) := by decide +kernel
theorem d13_11 : decode K13 11 = .ok (.putfield 13, 3) := by decide +kernel
theorem d13_14 : decode K13 14 = .ok (.aload_n 3, 1) := by decide +kernel
theorem d13_15 : decode K13 15 = .ok (.invokeinterface 16 1, 5) := by decide +kernel
theorem pd_7 : parseMethodDescriptor "()I" = some ⟨[], some .int⟩ := by decide +kernel
theorem d13_20 : decode K13 20 = .ok (.istore 4, 2) := by decide +kernel
theorem d13_22 : decode K13 22 = .ok (.aload_n 0, 1) := by decide +kernel
theorem d13_23 : decode K13 23 = .ok (.iload 4, 2) := by decide +kernel
theorem d13_25 : decode K13 25 = .ok (.newarray .int, 2) := by decide +kernel
theorem d13_27 : decode K13 27 = .ok (.putfield 22, 3) := by decide +kernel
theorem d13_30 : decode K13 30 = .ok (.aload_n 0, 1) := by decide +kernel
theorem d13_31 : decode K13 31 = .ok (.iload 4, 2) := by decide +kernel
theorem d13_33 : decode K13 33 = .ok (.newarray .int, 2) := by decide +kernel
theorem d13_35 : decode K13 35 = .ok (.putfield 26, 3) := by decide +kernel
theorem d13_38 : decode K13 38 = .ok (.aload_n 0, 1) := by decide +kernel
theorem d13_39 : decode K13 39 = .ok (.iload 4, 2) := by decide +kernel
theorem d13_41 : decode K13 41 = .ok (.newarray .double, 2) := by decide +kernel
theorem d13_43 : decode K13 43 = .ok (.putfield 29, 3) := by decide +kernel
theorem d13_46 : decode K13 46 = .ok (.aload_n 0, 1) := by decide +kernel
theorem d13_47 : decode K13 47 = .ok (.iload 4, 2) := by decide +kernel
theorem d13_49 : decode K13 49 = .ok (.newarray .double, 2) := by decide +kernel
theorem d13_51 : decode K13 51 = .ok (.putfield 33, 3) := by decide +kernel
theorem d13_54 : decode K13 54 = .ok (.aload_n 0, 1) := by decide +kernel
theorem d13_55 : decode K13 55 = .ok (.iload 4, 2) := by decide +kernel
theorem d13_57 : decode K13 57 = .ok (.newarray .double, 2) := by decide +kernel
theorem d13_59 : decode K13 59 = .ok (.putfield 36, 3) := by decide +kernel
theorem d13_62 : decode K13 62 = .ok (.aload_n 0, 1) := by decide +kernel
theorem d13_63 : decode K13 63 = .ok (.iload 4, 2) := by decide +kernel
theorem d13_65 : decode K13 65 = .ok (.newarray .double, 2) := by decide +kernel
theorem d13_67 : decode K13 67 = .ok (.putfield 39, 3) := by decide +kernel
theorem d13_70 : decode K13 70 = .ok (.aload_n 0, 1) := by decide +kernel
theorem d13_71 : decode K13 71 = .ok (.iload_n 1, 1) := by decide +kernel
theorem d13_72 : decode K13 72 = .ok (.iconst 2, 1) := by decide +kernel
theorem d13_73 : decode K13 73 = .ok (.iadd, 1) := by decide +kernel
theorem d13_74 : decode K13 74 = .ok (.newarray .int, 2) := by decide +kernel
theorem d13_76 : decode K13 76 = .ok (.putfield 42, 3) := by decide +kernel
theorem d13_79 : decode K13 79 = .ok (.iconst 0, 1) := by decide +kernel
theorem d13_80 : decode K13 80 = .ok (.istore 5, 2) := by decide +kernel
theorem d13_82 : decode K13 82 = .ok (.iload 5, 2) := by decide +kernel
theorem d13_84 : decode K13 84 = .ok (.iload 4, 2) := by decide +kernel
theorem d13_86 : decode K13 86 = .ok (.if_icmp .ge 110, 3) := by decide +kernel
theorem d13_89 : decode K13 89 = .ok (.aload_n 3, 1) := by decide +kernel
theorem d13_90 : decode K13 90 = .ok (.iload 5, 2) := by decide +kernel
theorem d13_92 : decode K13 92 = .ok (.invokeinterface 45 2, 5) := by decide +kernel
theorem d13_97 : decode K13 97 = .ok (.checkcast 49, 3) := by decide +kernel
theorem d13_100 : decode K13 100 = .ok (.astore 6, 2) := by decide +kernel
theorem d13_102 : decode K13 102 = .ok (.aload_n 0, 1) := by decide +kernel
theorem d13_103 : decode K13 103 = .ok (.getfield 22, 3) := by decide +kernel
theorem d13_106 : decode K13 106 = .ok (.iload 5, 2) := by decide +kernel
theorem d13_108 : decode K13 108 = .ok (.aload 6, 2) := by decide +kernel
theorem d13_110 : decode K13 110 = .ok (.invokevirtual 51, 3) := by decide +kernel
theorem d13_113 : decode K13 113 = .ok (.iastore, 1) := by decide +kernel
theorem d13_114 : decode K13 114 = .ok (.aload_n 0, 1) := by decide +kernel
theorem d13_115 : decode K13 115 = .ok (.getfield 26, 3) := by decide +kernel
theorem d13_118 : decode K13 118 = .ok (.iload 5, 2) := by decide +kernel
theorem d13_120 : decode K13 120 = .ok (.aload 6, 2) := by decide +kernel
theorem d13_122 : decode K13 122 = .ok (.invokevirtual 54, 3) := by decide +kernel
theorem d13_125 : decode K13 125 = .ok (.iastore, 1) := by decide +kernel
theorem d13_126 : decode K13 126 = .ok (.aload_n 0, 1) := by decide +kernel
theorem d13_127 : decode K13 127 = .ok (.getfield 29, 3) := by decide +kernel
theorem d13_130 : decode K13 130 = .ok (.iload 5, 2) := by decide +kernel
theorem d13_132 : decode K13 132 = .ok (.aload 6, 2) := by decide +kernel
theorem d13_134 : decode K13 134 = .ok (.invokevirtual 57, 3) := by decide +kernel
theorem pd_8 : parseMethodDescriptor "()D" = some ⟨[], some .double⟩ := by decide +kernel
theorem d13_137 : decode K13 137 = .ok (.dastore, 1) := by decide +kernel
theorem d13_138 : decode K13 138 = .ok (.aload_n 0, 1) := by decide +kernel
theorem d13_139 : decode K13 139 = .ok (.getfield 33, 3) := by decide +kernel
theorem d13_142 : decode K13 142 = .ok (.iload 5, 2) := by decide +kernel
theorem d13_144 : decode K13 144 = .ok (.aload 6, 2) := by decide +kernel
theorem d13_146 : decode K13 146 = .ok (.invokevirtual 61, 3) := by decide +kernel
theorem d13_149 : decode K13 149 = .ok (.dastore, 1) := by decide +kernel
theorem d13_150 : decode K13 150 = .ok (.aload_n 0, 1) := by decide +kernel
theorem d13_151 : decode K13 151 = .ok (.getfield 36, 3) := by decide +kernel
theorem d13_154 : decode K13 154 = .ok (.iload 5, 2) := by decide +kernel
theorem d13_156 : decode K13 156 = .ok (.aload 6, 2) := by decide +kernel
theorem d13_158 : decode K13 158 = .ok (.invokevirtual 64, 3) := by decide +kernel
theorem d13_161 : decode K13 161 = .ok (.dastore, 1) := by decide +kernel
theorem d13_162 : decode K13 162 = .ok (.aload_n 0, 1) := by decide +kernel
theorem d13_163 : decode K13 163 = .ok (.getfield 39, 3) := by decide +kernel
theorem d13_166 : decode K13 166 = .ok (.iload 5, 2) := by decide +kernel
theorem d13_168 : decode K13 168 = .ok (.aload 6, 2) := by decide +kernel
theorem d13_170 : decode K13 170 = .ok (.invokevirtual 67, 3) := by decide +kernel
theorem d13_173 : decode K13 173 = .ok (.dastore, 1) := by decide +kernel
theorem d13_174 : decode K13 174 = .ok (.aload_n 0, 1) := by decide +kernel
theorem d13_175 : decode K13 175 = .ok (.getfield 42, 3) := by decide +kernel
theorem d13_178 : decode K13 178 = .ok (.aload 6, 2) := by decide +kernel
theorem d13_180 : decode K13 180 = .ok (.invokevirtual 51, 3) := by decide +kernel
theorem d13_183 : decode K13 183 = .ok (.iconst 1, 1) := by decide +kernel
theorem d13_184 : decode K13 184 = .ok (.iadd, 1) := by decide +kernel
theorem d13_185 : decode K13 185 = .ok (.dup2, 1) := by decide +kernel
theorem d13_186 : decode K13 186 = .ok (.iaload, 1) := by decide +kernel
theorem d13_187 : decode K13 187 = .ok (.iconst 1, 1) := by decide +kernel
theorem d13_188 : decode K13 188 = .ok (.iadd, 1) := by decide +kernel
theorem d13_189 : decode K13 189 = .ok (.iastore, 1) := by decide +kernel
theorem d13_190 : decode K13 190 = .ok (.iinc 5 1, 3) := by decide +kernel
theorem d13_193 : decode K13 193 = .ok (.goto (-111), 3) := by decide +kernel
theorem d13_196 : decode K13 196 = .ok (.iconst 1, 1) := by decide +kernel
theorem d13_197 : decode K13 197 = .ok (.istore 5, 2) := by decide +kernel
theorem d13_199 : decode K13 199 = .ok (.iload 5, 2) := by decide +kernel
theorem d13_201 : decode K13 201 = .ok (.iload_n 1, 1) := by decide +kernel
theorem d13_202 : decode K13 202 = .ok (.if_icmp .gt 28, 3) := by decide +kernel
theorem d13_205 : decode K13 205 = .ok (.aload_n 0, 1) := by decide +kernel
theorem d13_206 : decode K13 206 = .ok (.getfield 42, 3) := by decide +kernel
theorem d13_209 : decode K13 209 = .ok (.iload 5, 2) := by decide +kernel
theorem d13_211 : decode K13 211 = .ok (.iconst 1, 1) := by decide +kernel
theorem d13_212 : decode K13 212 = .ok (.iadd, 1) := by decide +kernel
theorem d13_213 : decode K13 213 = .ok (.dup2, 1) := by decide +kernel
theorem d13_214 : decode K13 214 = .ok (.iaload, 1) := by decide +kernel
theorem d13_215 : decode K13 215 = .ok (.aload_n 0, 1) := by decide +kernel
theorem d13_216 : decode K13 216 = .ok (.getfield 42, 3) := by decide +kernel
theorem d13_219 : decode K13 219 = .ok (.iload 5, 2) := by decide +kernel
theorem d13_221 : decode K13 221 = .ok (.iaload, 1) := by decide +kernel
theorem d13_222 : decode K13 222 = .ok (.iadd, 1) := by decide +kernel
theorem d13_223 : decode K13 223 = .ok (.iastore, 1) := by decide +kernel
theorem d13_224 : decode K13 224 = .ok (.iinc 5 1, 3) := by decide +kernel
theorem d13_227 : decode K13 227 = .ok (.goto (-28), 3) := by decide +kernel
theorem d13_230 : decode K13 230 = .ok (.aload_n 0, 1) := by decide +kernel
theorem d13_231 : decode K13 231 = .ok (.iload 4, 2) := by decide +kernel
theorem d13_233 : decode K13 233 = .ok (.newarray .int, 2) := by decide +kernel
theorem d13_235 : decode K13 235 = .ok (.putfield 70, 3) := by decide +kernel
theorem d13_238 : decode K13 238 = .ok (.aload_n 0, 1) := by decide +kernel
theorem d13_239 : decode K13 239 = .ok (.getfield 42, 3) := by decide +kernel
theorem d13_242 : decode K13 242 = .ok (.invokevirtual 73, 3) := by decide +kernel
theorem d13_245 : decode K13 245 = .ok (.checkcast 74, 3) := by decide +kernel
theorem d13_248 : decode K13 248 = .ok (.astore 5, 2) := by decide +kernel
theorem d13_250 : decode K13 250 = .ok (.iconst 0, 1) := by decide +kernel
theorem d13_251 : decode K13 251 = .ok (.istore 6, 2) := by decide +kernel
theorem d13_253 : decode K13 253 = .ok (.iload 6, 2) := by decide +kernel
theorem d13_255 : decode K13 255 = .ok (.iload 4, 2) := by decide +kernel
theorem d13_257 : decode K13 257 = .ok (.if_icmp .ge 31, 3) := by decide +kernel
theorem d13_260 : decode K13 260 = .ok (.aload_n 0, 1) := by decide +kernel
theorem d13_261 : decode K13 261 = .ok (.getfield 70, 3) := by decide +kernel
theorem d13_264 : decode K13 264 = .ok (.aload 5, 2) := by decide +kernel
theorem d13_266 : decode K13 266 = .ok (.aload_n 0, 1) := by decide +kernel
theorem d13_267 : decode K13 267 = .ok (.getfield 22, 3) := by decide +kernel
theorem d13_270 : decode K13 270 = .ok (.iload 6, 2) := by decide +kernel
theorem d13_272 : decode K13 272 = .ok (.iaload, 1) := by decide +kernel
theorem d13_273 : decode K13 273 = .ok (.dup2, 1) := by decide +kernel
theorem d13_274 : decode K13 274 = .ok (.iaload, 1) := by decide +kernel
theorem d13_275 : decode K13 275 = .ok (.dup_x2, 1) := by decide +kernel
theorem d13_276 : decode K13 276 = .ok (.iconst 1, 1) := by decide +kernel
theorem d13_277 : decode K13 277 = .ok (.iadd, 1) := by decide +kernel
theorem d13_278 : decode K13 278 = .ok (.iastore, 1) := by decide +kernel
theorem d13_279 : decode K13 279 = .ok (.iload 6, 2) := by decide +kernel
theorem d13_281 : decode K13 281 = .ok (.iastore, 1) := by decide +kernel
theorem d13_282 : decode K13 282 = .ok (.iinc 6 1, 3) := by decide +kernel
theorem d13_285 : decode K13 285 = .ok (.goto (-32), 3) := by decide +kernel
theorem d13_288 : decode K13 288 = .ok (.return_, 1) := by decide +kernel
theorem pn_Network : plainName "com/example/lanewright/lanewright/Network" = true := by first | (simp [plainName, overriddenIn]; done) | decide +kernel
theorem la_ShortestPathTree {Z : State} {a0 : Array Value} (hw : ∀ d ∈ tables_1, d.before a0 Z = true) : LaidAll Z a0 "com/example/lanewright/lanewright/ShortestPathTree" [("com/example/lanewright/lanewright/ShortestPathTree", "network", "Lcom/example/lanewright/lanewright/Network;", .null), ("com/example/lanewright/lanewright/ShortestPathTree", "distance", "[D", .null), ("com/example/lanewright/lanewright/ShortestPathTree", "predecessorArc", "[I", .null), ("com/example/lanewright/lanewright/ShortestPathTree", "heap", "[I", .null), ("com/example/lanewright/lanewright/ShortestPathTree", "position", "[I", .null), ("com/example/lanewright/lanewright/ShortestPathTree", "heapSize", "I", .int 0)] := LaidAll.cons (Or.inr (wd_386 hw)) (t := (.object "com/example/lanewright/lanewright/Network")) (by decide) rfl (LaidAll.cons (Or.inr (wd_389 hw)) (t := (.array .double)) (by decide) rfl (LaidAll.cons (Or.inr (wd_391 hw)) (t := (.array .int)) (by decide) rfl (LaidAll.cons (Or.inr (wd_393 hw)) (t := (.array .int)) (by decide) rfl (LaidAll.cons (Or.inr (wd_395 hw)) (t := (.array .int)) (by decide) rfl (LaidAll.cons (Or.inl (wd_407 hw)) (t := .int) (by decide) rfl (LaidAll.nil))))))
abbrev o_ShortestPathTree (Z : State) (v0 v1 v2 v3 v4 v5 : Value) : Cell → Prop := ObC Z "com/example/lanewright/lanewright/ShortestPathTree" [("com/example/lanewright/lanewright/ShortestPathTree", "network", "Lcom/example/lanewright/lanewright/Network;", v0), ("com/example/lanewright/lanewright/ShortestPathTree", "distance", "[D", v1), ("com/example/lanewright/lanewright/ShortestPathTree", "predecessorArc", "[I", v2), ("com/example/lanewright/lanewright/ShortestPathTree", "heap", "[I", v3), ("com/example/lanewright/lanewright/ShortestPathTree", "position", "[I", v4), ("com/example/lanewright/lanewright/ShortestPathTree", "heapSize", "I", v5)]
abbrev K52 : ByteArray := prog_58_method_8_code
theorem d52_0 : decode K52 0 = .ok (.aload_n 0, 1) := by decide +kernel
theorem d52_1 : decode K52 1 = .ok (.getfield 27, 3) := by decide +kernel
theorem d52_4 : decode K52 4 = .ok (.iload_n 1, 1) := by decide +kernel
theorem d52_5 : decode K52 5 = .ok (.iaload, 1) := by decide +kernel
theorem d52_6 : decode K52 6 = .ok (.istore_n 2, 1) := by decide +kernel
theorem d52_7 : decode K52 7 = .ok (.iload_n 1, 1) := by decide +kernel
theorem d52_8 : decode K52 8 = .ok (.ifCond .le 62, 3) := by decide +kernel
theorem d52_70 : decode K52 70 = .ok (.aload_n 0, 1) := by decide +kernel
theorem d52_71 : decode K52 71 = .ok (.getfield 27, 3) := by decide +kernel
theorem d52_74 : decode K52 74 = .ok (.iload_n 1, 1) := by decide +kernel
theorem d52_75 : decode K52 75 = .ok (.iload_n 2, 1) := by decide +kernel
theorem d52_76 : decode K52 76 = .ok (.iastore, 1) := by decide +kernel
theorem d52_77 : decode K52 77 = .ok (.aload_n 0, 1) := by decide +kernel
theorem d52_78 : decode K52 78 = .ok (.getfield 30, 3) := by decide +kernel
theorem d52_81 : decode K52 81 = .ok (.iload_n 2, 1) := by decide +kernel
theorem d52_82 : decode K52 82 = .ok (.iload_n 1, 1) := by decide +kernel
theorem d52_83 : decode K52 83 = .ok (.iastore, 1) := by decide +kernel
theorem d52_84 : decode K52 84 = .ok (.return_, 1) := by decide +kernel
theorem pn_ShortestPathTree : plainName "com/example/lanewright/lanewright/ShortestPathTree" = true := by first | (simp [plainName, overriddenIn]; done) | decide +kernel
theorem d52_11 : decode K52 11 = .ok (.iload_n 1, 1) := by decide +kernel
theorem d52_12 : decode K52 12 = .ok (.iconst 1, 1) := by decide +kernel
theorem d52_13 : decode K52 13 = .ok (.isub, 1) := by decide +kernel
theorem d52_14 : decode K52 14 = .ok (.iconst 2, 1) := by decide +kernel
theorem d52_15 : decode K52 15 = .ok (.idiv, 1) := by decide +kernel
theorem d52_16 : decode K52 16 = .ok (.istore_n 3, 1) := by decide +kernel
theorem d52_17 : decode K52 17 = .ok (.aload_n 0, 1) := by decide +kernel
theorem d52_18 : decode K52 18 = .ok (.getfield 19, 3) := by decide +kernel
theorem d52_21 : decode K52 21 = .ok (.aload_n 0, 1) := by decide +kernel
theorem d52_22 : decode K52 22 = .ok (.getfield 27, 3) := by decide +kernel
theorem d52_25 : decode K52 25 = .ok (.iload_n 3, 1) := by decide +kernel
theorem d52_26 : decode K52 26 = .ok (.iaload, 1) := by decide +kernel
theorem d52_27 : decode K52 27 = .ok (.daload, 1) := by decide +kernel
theorem d52_28 : decode K52 28 = .ok (.aload_n 0, 1) := by decide +kernel
theorem d52_29 : decode K52 29 = .ok (.getfield 19, 3) := by decide +kernel
theorem d52_32 : decode K52 32 = .ok (.iload_n 2, 1) := by decide +kernel
theorem d52_33 : decode K52 33 = .ok (.daload, 1) := by decide +kernel
theorem d52_34 : decode K52 34 = .ok (.dcmp .g, 1) := by decide +kernel
theorem d52_35 : decode K52 35 = .ok (.ifCond .gt 6, 3) := by decide +kernel
theorem d52_41 : decode K52 41 = .ok (.aload_n 0, 1) := by decide +kernel
theorem d52_42 : decode K52 42 = .ok (.getfield 27, 3) := by decide +kernel
theorem d52_45 : decode K52 45 = .ok (.iload_n 1, 1) := by decide +kernel
theorem d52_46 : decode K52 46 = .ok (.aload_n 0, 1) := by decide +kernel
theorem d52_47 : decode K52 47 = .ok (.getfield 27, 3) := by decide +kernel
theorem d52_50 : decode K52 50 = .ok (.iload_n 3, 1) := by decide +kernel
theorem d52_51 : decode K52 51 = .ok (.iaload, 1) := by decide +kernel
theorem d52_52 : decode K52 52 = .ok (.iastore, 1) := by decide +kernel
theorem d52_53 : decode K52 53 = .ok (.aload_n 0, 1) := by decide +kernel
theorem d52_54 : decode K52 54 = .ok (.getfield 30, 3) := by decide +kernel
theorem d52_57 : decode K52 57 = .ok (.aload_n 0, 1) := by decide +kernel
theorem d52_58 : decode K52 58 = .ok (.getfield 27, 3) := by decide +kernel
theorem d52_61 : decode K52 61 = .ok (.iload_n 1, 1) := by decide +kernel
theorem d52_62 : decode K52 62 = .ok (.iaload, 1) := by decide +kernel
theorem d52_63 : decode K52 63 = .ok (.iload_n 1, 1) := by decide +kernel
theorem d52_64 : decode K52 64 = .ok (.iastore, 1) := by decide +kernel
theorem d52_65 : decode K52 65 = .ok (.iload_n 3, 1) := by decide +kernel
theorem d52_66 : decode K52 66 = .ok (.istore_n 1, 1) := by decide +kernel
theorem d52_67 : decode K52 67 = .ok (.goto (-60), 3) := by decide +kernel
theorem d52_38 : decode K52 38 = .ok (.goto 32, 3) := by decide +kernel
abbrev K63 : ByteArray := prog_58_method_9_code
theorem d63_0 : decode K63 0 = .ok (.aload_n 0, 1) := by decide +kernel
theorem d63_1 : decode K63 1 = .ok (.getfield 27, 3) := by decide +kernel
theorem d63_4 : decode K63 4 = .ok (.iload_n 1, 1) := by decide +kernel
theorem d63_5 : decode K63 5 = .ok (.iaload, 1) := by decide +kernel
theorem d63_6 : decode K63 6 = .ok (.istore_n 2, 1) := by decide +kernel
theorem d63_7 : decode K63 7 = .ok (.iconst 2, 1) := by decide +kernel
theorem d63_8 : decode K63 8 = .ok (.iload_n 1, 1) := by decide +kernel
theorem d63_9 : decode K63 9 = .ok (.imul, 1) := by decide +kernel
theorem d63_10 : decode K63 10 = .ok (.iconst 1, 1) := by decide +kernel
theorem d63_11 : decode K63 11 = .ok (.iadd, 1) := by decide +kernel
theorem d63_12 : decode K63 12 = .ok (.istore_n 3, 1) := by decide +kernel
theorem d63_13 : decode K63 13 = .ok (.iload_n 3, 1) := by decide +kernel
theorem d63_14 : decode K63 14 = .ok (.aload_n 0, 1) := by decide +kernel
theorem d63_15 : decode K63 15 = .ok (.getfield 46, 3) := by decide +kernel
theorem d63_18 : decode K63 18 = .ok (.if_icmp .lt 6, 3) := by decide +kernel
theorem d63_21 : decode K63 21 = .ok (.goto 97, 3) := by decide +kernel
theorem d63_118 : decode K63 118 = .ok (.aload_n 0, 1) := by decide +kernel
theorem d63_119 : decode K63 119 = .ok (.getfield 27, 3) := by decide +kernel
theorem d63_122 : decode K63 122 = .ok (.iload_n 1, 1) := by decide +kernel
theorem d63_123 : decode K63 123 = .ok (.iload_n 2, 1) := by decide +kernel
theorem d63_124 : decode K63 124 = .ok (.iastore, 1) := by decide +kernel
theorem d63_125 : decode K63 125 = .ok (.aload_n 0, 1) := by decide +kernel
theorem d63_126 : decode K63 126 = .ok (.getfield 30, 3) := by decide +kernel
theorem d63_129 : decode K63 129 = .ok (.iload_n 2, 1) := by decide +kernel
theorem d63_130 : decode K63 130 = .ok (.iload_n 1, 1) := by decide +kernel
theorem d63_131 : decode K63 131 = .ok (.iastore, 1) := by decide +kernel
theorem d63_132 : decode K63 132 = .ok (.return_, 1) := by decide +kernel
abbrev K51 : ByteArray := prog_58_method_6_code
theorem d51_0 : decode K51 0 = .ok (.aload_n 0, 1) := by decide +kernel
theorem d51_1 : decode K51 1 = .ok (.getfield 27, 3) := by decide +kernel
theorem d51_4 : decode K51 4 = .ok (.aload_n 0, 1) := by decide +kernel
theorem d51_5 : decode K51 5 = .ok (.getfield 46, 3) := by decide +kernel
theorem d51_8 : decode K51 8 = .ok (.iload_n 1, 1) := by decide +kernel
theorem d51_9 : decode K51 9 = .ok (.iastore, 1) := by decide +kernel
theorem d51_10 : decode K51 10 = .ok (.aload_n 0, 1) := by decide +kernel
theorem d51_11 : decode K51 11 = .ok (.getfield 30, 3) := by decide +kernel
theorem d51_14 : decode K51 14 = .ok (.iload_n 1, 1) := by decide +kernel
theorem d51_15 : decode K51 15 = .ok (.aload_n 0, 1) := by decide +kernel
theorem d51_16 : decode K51 16 = .ok (.getfield 46, 3) := by decide +kernel
theorem d51_19 : decode K51 19 = .ok (.iastore, 1) := by decide +kernel
theorem d51_20 : decode K51 20 = .ok (.aload_n 0, 1) := by decide +kernel
theorem d51_21 : decode K51 21 = .ok (.dup, 1) := by decide +kernel
theorem d51_22 : decode K51 22 = .ok (.getfield 46, 3) := by decide +kernel
theorem d51_25 : decode K51 25 = .ok (.iconst 1, 1) := by decide +kernel
theorem d51_26 : decode K51 26 = .ok (.iadd, 1) := by decide +kernel
theorem d51_27 : decode K51 27 = .ok (.putfield 46, 3) := by decide +kernel
theorem d51_30 : decode K51 30 = .ok (.aload_n 0, 1) := by decide +kernel
theorem d51_31 : decode K51 31 = .ok (.aload_n 0, 1) := by decide +kernel
theorem d51_32 : decode K51 32 = .ok (.getfield 46, 3) := by decide +kernel
theorem d51_35 : decode K51 35 = .ok (.iconst 1, 1) := by decide +kernel
theorem d51_36 : decode K51 36 = .ok (.isub, 1) := by decide +kernel
theorem d51_37 : decode K51 37 = .ok (.invokevirtual 73, 3) := by decide +kernel
theorem pd_9 : parseMethodDescriptor "(I)V" = some ⟨[.int], none⟩ := by decide +kernel
theorem d51_40 : decode K51 40 = .ok (.return_, 1) := by decide +kernel
theorem ef_r2 (m : MethodId) (x0 : Addr) : entryFrame m #[.ref x0] 2 = mkF m 0 #[.val (.ref x0), .unset] [] := by first | (simp [entryFrame, mkF, argsToLocals, Value.category, maxLocals]; done) | rfl
abbrev K53 : ByteArray := prog_58_method_7_code
theorem d53_0 : decode K53 0 = .ok (.aload_n 0, 1) := by decide +kernel
theorem d53_1 : decode K53 1 = .ok (.getfield 27, 3) := by decide +kernel
theorem d53_4 : decode K53 4 = .ok (.iconst 0, 1) := by decide +kernel
theorem d53_5 : decode K53 5 = .ok (.iaload, 1) := by decide +kernel
theorem d53_6 : decode K53 6 = .ok (.istore_n 1, 1) := by decide +kernel
theorem d53_7 : decode K53 7 = .ok (.aload_n 0, 1) := by decide +kernel
theorem d53_8 : decode K53 8 = .ok (.getfield 30, 3) := by decide +kernel
theorem d53_11 : decode K53 11 = .ok (.iload_n 1, 1) := by decide +kernel
theorem d53_12 : decode K53 12 = .ok (.iconst (-1), 1) := by decide +kernel
theorem d53_13 : decode K53 13 = .ok (.iastore, 1) := by decide +kernel
theorem d53_14 : decode K53 14 = .ok (.aload_n 0, 1) := by decide +kernel
theorem d53_15 : decode K53 15 = .ok (.dup, 1) := by decide +kernel
theorem d53_16 : decode K53 16 = .ok (.getfield 46, 3) := by decide +kernel
theorem d53_19 : decode K53 19 = .ok (.iconst 1, 1) := by decide +kernel
theorem d53_20 : decode K53 20 = .ok (.isub, 1) := by decide +kernel
theorem d53_21 : decode K53 21 = .ok (.putfield 46, 3) := by decide +kernel
theorem d53_24 : decode K53 24 = .ok (.aload_n 0, 1) := by decide +kernel
theorem d53_25 : decode K53 25 = .ok (.getfield 46, 3) := by decide +kernel
theorem d53_28 : decode K53 28 = .ok (.ifCond .le 35, 3) := by decide +kernel
theorem d53_63 : decode K53 63 = .ok (.iload_n 1, 1) := by decide +kernel
theorem d53_64 : decode K53 64 = .ok (.ireturn, 1) := by decide +kernel
theorem d53_31 : decode K53 31 = .ok (.aload_n 0, 1) := by decide +kernel
theorem d53_32 : decode K53 32 = .ok (.getfield 27, 3) := by decide +kernel
theorem d53_35 : decode K53 35 = .ok (.iconst 0, 1) := by decide +kernel
theorem d53_36 : decode K53 36 = .ok (.aload_n 0, 1) := by decide +kernel
theorem d53_37 : decode K53 37 = .ok (.getfield 27, 3) := by decide +kernel
theorem d53_40 : decode K53 40 = .ok (.aload_n 0, 1) := by decide +kernel
theorem d53_41 : decode K53 41 = .ok (.getfield 46, 3) := by decide +kernel
theorem d53_44 : decode K53 44 = .ok (.iaload, 1) := by decide +kernel
theorem d53_45 : decode K53 45 = .ok (.iastore, 1) := by decide +kernel
theorem d53_46 : decode K53 46 = .ok (.aload_n 0, 1) := by decide +kernel
theorem d53_47 : decode K53 47 = .ok (.getfield 30, 3) := by decide +kernel
theorem d53_50 : decode K53 50 = .ok (.aload_n 0, 1) := by decide +kernel
theorem d53_51 : decode K53 51 = .ok (.getfield 27, 3) := by decide +kernel
theorem d53_54 : decode K53 54 = .ok (.iconst 0, 1) := by decide +kernel
theorem d53_55 : decode K53 55 = .ok (.iaload, 1) := by decide +kernel
theorem d53_56 : decode K53 56 = .ok (.iconst 0, 1) := by decide +kernel
theorem d53_57 : decode K53 57 = .ok (.iastore, 1) := by decide +kernel
theorem d53_58 : decode K53 58 = .ok (.aload_n 0, 1) := by decide +kernel
theorem d53_59 : decode K53 59 = .ok (.iconst 0, 1) := by decide +kernel
theorem d53_60 : decode K53 60 = .ok (.invokevirtual 79, 3) := by decide +kernel
abbrev K62 : ByteArray := prog_29_method_3_code
theorem d62_0 : decode K62 0 = .ok (.aload_n 0, 1) := by decide +kernel
theorem d62_1 : decode K62 1 = .ok (.getfield 13, 3) := by decide +kernel
theorem d62_4 : decode K62 4 = .ok (.ireturn, 1) := by decide +kernel
abbrev K27 : ByteArray := prog_29_method_2_code
theorem d27_0 : decode K27 0 = .ok (.aload_n 0, 1) := by decide +kernel
theorem d27_1 : decode K27 1 = .ok (.getfield 7, 3) := by decide +kernel
theorem d27_4 : decode K27 4 = .ok (.ireturn, 1) := by decide +kernel
abbrev K54 : ByteArray := prog_29_method_8_code
theorem d54_0 : decode K54 0 = .ok (.aload_n 0, 1) := by decide +kernel
theorem d54_1 : decode K54 1 = .ok (.getfield 42, 3) := by decide +kernel
theorem d54_4 : decode K54 4 = .ok (.iload_n 1, 1) := by decide +kernel
theorem d54_5 : decode K54 5 = .ok (.iaload, 1) := by decide +kernel
theorem d54_6 : decode K54 6 = .ok (.ireturn, 1) := by decide +kernel
abbrev K55 : ByteArray := prog_29_method_9_code
theorem d55_0 : decode K55 0 = .ok (.aload_n 0, 1) := by decide +kernel
theorem d55_1 : decode K55 1 = .ok (.getfield 42, 3) := by decide +kernel
theorem d55_4 : decode K55 4 = .ok (.iload_n 1, 1) := by decide +kernel
theorem d55_5 : decode K55 5 = .ok (.iconst 1, 1) := by decide +kernel
theorem d55_6 : decode K55 6 = .ok (.iadd, 1) := by decide +kernel
theorem d55_7 : decode K55 7 = .ok (.iaload, 1) := by decide +kernel
theorem d55_8 : decode K55 8 = .ok (.ireturn, 1) := by decide +kernel
abbrev K57 : ByteArray := prog_29_method_10_code
theorem d57_0 : decode K57 0 = .ok (.aload_n 0, 1) := by decide +kernel
theorem d57_1 : decode K57 1 = .ok (.getfield 70, 3) := by decide +kernel
theorem d57_4 : decode K57 4 = .ok (.iload_n 1, 1) := by decide +kernel
theorem d57_5 : decode K57 5 = .ok (.iaload, 1) := by decide +kernel
theorem d57_6 : decode K57 6 = .ok (.ireturn, 1) := by decide +kernel
abbrev K58 : ByteArray := prog_29_method_6_code
theorem d58_0 : decode K58 0 = .ok (.aload_n 0, 1) := by decide +kernel
theorem d58_1 : decode K58 1 = .ok (.getfield 26, 3) := by decide +kernel
theorem d58_4 : decode K58 4 = .ok (.iload_n 1, 1) := by decide +kernel
theorem d58_5 : decode K58 5 = .ok (.iaload, 1) := by decide +kernel
theorem d58_6 : decode K58 6 = .ok (.ireturn, 1) := by decide +kernel
abbrev K56 : ByteArray := prog_58_method_3_code
theorem d56_0 : decode K56 0 = .ok (.aload_n 0, 1) := by decide +kernel
theorem d56_1 : decode K56 1 = .ok (.getfield 19, 3) := by decide +kernel
theorem d56_4 : decode K56 4 = .ok (.iload_n 1, 1) := by decide +kernel
theorem d56_5 : decode K56 5 = .ok (.daload, 1) := by decide +kernel
theorem d56_6 : decode K56 6 = .ok (.dreturn, 1) := by decide +kernel
theorem ef_rr3 (m : MethodId) (x0 : Addr) (x1 : Addr) : entryFrame m #[.ref x0, .ref x1] 3 = mkF m 0 #[.val (.ref x0), .val (.ref x1), .unset] [] := by first | (simp [entryFrame, mkF, argsToLocals, Value.category, maxLocals]; done) | rfl
abbrev K48 : ByteArray := prog_58_method_1_code
theorem d48_0 : decode K48 0 = .ok (.aload_n 0, 1) := by decide +kernel
theorem d48_1 : decode K48 1 = .ok (.invokespecial 1, 3) := by decide +kernel
theorem d48_4 : decode K48 4 = .ok (.aload_n 0, 1) := by decide +kernel
theorem d48_5 : decode K48 5 = .ok (.aload_n 1, 1) := by decide +kernel
theorem d48_6 : decode K48 6 = .ok (.putfield 7, 3) := by decide +kernel
theorem d48_9 : decode K48 9 = .ok (.aload_n 1, 1) := by decide +kernel
theorem d48_10 : decode K48 10 = .ok (.invokevirtual 13, 3) := by decide +kernel
theorem d48_13 : decode K48 13 = .ok (.iconst 1, 1) := by decide +kernel
theorem d48_14 : decode K48 14 = .ok (.iadd, 1) := by decide +kernel
theorem d48_15 : decode K48 15 = .ok (.istore_n 2, 1) := by decide +kernel
theorem d48_16 : decode K48 16 = .ok (.aload_n 0, 1) := by decide +kernel
theorem d48_17 : decode K48 17 = .ok (.iload_n 2, 1) := by decide +kernel
theorem d48_18 : decode K48 18 = .ok (.newarray .double, 2) := by decide +kernel
theorem d48_20 : decode K48 20 = .ok (.putfield 19, 3) := by decide +kernel
theorem d48_23 : decode K48 23 = .ok (.aload_n 0, 1) := by decide +kernel
theorem d48_24 : decode K48 24 = .ok (.iload_n 2, 1) := by decide +kernel
theorem d48_25 : decode K48 25 = .ok (.newarray .int, 2) := by decide +kernel
theorem d48_27 : decode K48 27 = .ok (.putfield 23, 3) := by decide +kernel
theorem d48_30 : decode K48 30 = .ok (.aload_n 0, 1) := by decide +kernel
theorem d48_31 : decode K48 31 = .ok (.iload_n 2, 1) := by decide +kernel
theorem d48_32 : decode K48 32 = .ok (.newarray .int, 2) := by decide +kernel
theorem d48_34 : decode K48 34 = .ok (.putfield 27, 3) := by decide +kernel
theorem d48_37 : decode K48 37 = .ok (.aload_n 0, 1) := by decide +kernel
theorem d48_38 : decode K48 38 = .ok (.iload_n 2, 1) := by decide +kernel
theorem d48_39 : decode K48 39 = .ok (.newarray .int, 2) := by decide +kernel
theorem d48_41 : decode K48 41 = .ok (.putfield 30, 3) := by decide +kernel
theorem d48_44 : decode K48 44 = .ok (.return_, 1) := by decide +kernel
theorem ef_rd5 (m : MethodId) (x0 : Addr) (x1 : UInt64) : entryFrame m #[.ref x0, .double x1] 5 = mkF m 0 #[.val (.ref x0), .val (.double x1), .second, .unset, .unset] [] := by first | (simp [entryFrame, mkF, argsToLocals, Value.category, maxLocals]; done) | rfl
abbrev K50 : ByteArray := jdk_65_method_113_code
theorem d50_0 : decode K50 0 = .ok (.iconst 0, 1) := by decide +kernel
theorem d50_1 : decode K50 1 = .ok (.istore_n 3, 1) := by decide +kernel
theorem d50_2 : decode K50 2 = .ok (.aload_n 0, 1) := by decide +kernel
theorem d50_3 : decode K50 3 = .ok (.arraylength, 1) := by decide +kernel
theorem d50_4 : decode K50 4 = .ok (.istore 4, 2) := by decide +kernel
theorem d50_6 : decode K50 6 = .ok (.iload_n 3, 1) := by decide +kernel
theorem d50_7 : decode K50 7 = .ok (.iload 4, 2) := by decide +kernel
theorem d50_9 : decode K50 9 = .ok (.if_icmp .ge 13, 3) := by decide +kernel
theorem d50_12 : decode K50 12 = .ok (.aload_n 0, 1) := by decide +kernel
theorem d50_13 : decode K50 13 = .ok (.iload_n 3, 1) := by decide +kernel
theorem d50_14 : decode K50 14 = .ok (.dload_n 1, 1) := by decide +kernel
theorem d50_15 : decode K50 15 = .ok (.dastore, 1) := by decide +kernel
theorem d50_16 : decode K50 16 = .ok (.iinc 3 1, 3) := by decide +kernel
theorem d50_19 : decode K50 19 = .ok (.goto (-13), 3) := by decide +kernel
theorem d50_22 : decode K50 22 = .ok (.return_, 1) := by decide +kernel
theorem pf_50 : plainFor ⟨"java/util/Arrays", "fill", "([DD)V"⟩ = true := by first | exact plainFor_of_name (by first | (simp [plainName, overriddenIn]; done) | decide +kernel) | decide +kernel
abbrev K28 : ByteArray := jdk_65_method_103_code
theorem d28_0 : decode K28 0 = .ok (.iconst 0, 1) := by decide +kernel
theorem d28_1 : decode K28 1 = .ok (.istore_n 2, 1) := by decide +kernel
theorem d28_2 : decode K28 2 = .ok (.aload_n 0, 1) := by decide +kernel
theorem d28_3 : decode K28 3 = .ok (.arraylength, 1) := by decide +kernel
theorem d28_4 : decode K28 4 = .ok (.istore_n 3, 1) := by decide +kernel
theorem d28_5 : decode K28 5 = .ok (.iload_n 2, 1) := by decide +kernel
theorem d28_6 : decode K28 6 = .ok (.iload_n 3, 1) := by decide +kernel
theorem d28_7 : decode K28 7 = .ok (.if_icmp .ge 13, 3) := by decide +kernel
theorem d28_10 : decode K28 10 = .ok (.aload_n 0, 1) := by decide +kernel
theorem d28_11 : decode K28 11 = .ok (.iload_n 2, 1) := by decide +kernel
theorem d28_12 : decode K28 12 = .ok (.iload_n 1, 1) := by decide +kernel
theorem d28_13 : decode K28 13 = .ok (.iastore, 1) := by decide +kernel
theorem d28_14 : decode K28 14 = .ok (.iinc 2 1, 3) := by decide +kernel
theorem d28_17 : decode K28 17 = .ok (.goto (-12), 3) := by decide +kernel
theorem d28_20 : decode K28 20 = .ok (.return_, 1) := by decide +kernel
theorem pf_28 : plainFor ⟨"java/util/Arrays", "fill", "([II)V"⟩ = true := by first | exact plainFor_of_name (by first | (simp [plainName, overriddenIn]; done) | decide +kernel) | decide +kernel
abbrev K49 : ByteArray := prog_58_method_2_code
theorem d49_84 : decode K49 84 = .ok (.iload 4, 2) := by decide +kernel
theorem d49_86 : decode K49 86 = .ok (.aload_n 0, 1) := by decide +kernel
theorem d49_87 : decode K49 87 = .ok (.getfield 7, 3) := by decide +kernel
theorem d49_90 : decode K49 90 = .ok (.iload_n 3, 1) := by decide +kernel
theorem d49_91 : decode K49 91 = .ok (.invokevirtual 64, 3) := by decide +kernel
theorem pd_10 : parseMethodDescriptor "(I)I" = some ⟨[.int], some .int⟩ := by decide +kernel
theorem d49_94 : decode K49 94 = .ok (.if_icmp .ge 105, 3) := by decide +kernel
theorem d49_199 : decode K49 199 = .ok (.goto (-156), 3) := by decide +kernel
theorem d49_97 : decode K49 97 = .ok (.aload_n 0, 1) := by decide +kernel
theorem d49_98 : decode K49 98 = .ok (.getfield 7, 3) := by decide +kernel
theorem d49_101 : decode K49 101 = .ok (.iload 4, 2) := by decide +kernel
theorem d49_103 : decode K49 103 = .ok (.invokevirtual 67, 3) := by decide +kernel
theorem d49_106 : decode K49 106 = .ok (.istore 5, 2) := by decide +kernel
theorem d49_108 : decode K49 108 = .ok (.aload_n 0, 1) := by decide +kernel
theorem d49_109 : decode K49 109 = .ok (.getfield 7, 3) := by decide +kernel
theorem d49_112 : decode K49 112 = .ok (.iload 5, 2) := by decide +kernel
theorem d49_114 : decode K49 114 = .ok (.invokevirtual 70, 3) := by decide +kernel
theorem d49_117 : decode K49 117 = .ok (.istore 6, 2) := by decide +kernel
theorem d49_119 : decode K49 119 = .ok (.aload_n 0, 1) := by decide +kernel
theorem d49_120 : decode K49 120 = .ok (.getfield 19, 3) := by decide +kernel
theorem d49_123 : decode K49 123 = .ok (.iload_n 3, 1) := by decide +kernel
theorem d49_124 : decode K49 124 = .ok (.daload, 1) := by decide +kernel
theorem d49_125 : decode K49 125 = .ok (.aload_n 2, 1) := by decide +kernel
theorem d49_126 : decode K49 126 = .ok (.iload 5, 2) := by decide +kernel
theorem d49_128 : decode K49 128 = .ok (.daload, 1) := by decide +kernel
theorem d49_129 : decode K49 129 = .ok (.dadd, 1) := by decide +kernel
theorem d49_130 : decode K49 130 = .ok (.dstore 7, 2) := by decide +kernel
theorem d49_132 : decode K49 132 = .ok (.dload 7, 2) := by decide +kernel
theorem d49_134 : decode K49 134 = .ok (.aload_n 0, 1) := by decide +kernel
theorem d49_135 : decode K49 135 = .ok (.getfield 19, 3) := by decide +kernel
theorem d49_138 : decode K49 138 = .ok (.iload 6, 2) := by decide +kernel
theorem d49_140 : decode K49 140 = .ok (.daload, 1) := by decide +kernel
theorem d49_141 : decode K49 141 = .ok (.dcmp .g, 1) := by decide +kernel
theorem d49_142 : decode K49 142 = .ok (.ifCond .ge 51, 3) := by decide +kernel
theorem d49_193 : decode K49 193 = .ok (.iinc 4 1, 3) := by decide +kernel
theorem d49_196 : decode K49 196 = .ok (.goto (-112), 3) := by decide +kernel
theorem d49_145 : decode K49 145 = .ok (.aload_n 0, 1) := by decide +kernel
theorem d49_146 : decode K49 146 = .ok (.getfield 19, 3) := by decide +kernel
theorem d49_149 : decode K49 149 = .ok (.iload 6, 2) := by decide +kernel
theorem d49_151 : decode K49 151 = .ok (.dload 7, 2) := by decide +kernel
theorem d49_153 : decode K49 153 = .ok (.dastore, 1) := by decide +kernel
theorem d49_154 : decode K49 154 = .ok (.aload_n 0, 1) := by decide +kernel
theorem d49_155 : decode K49 155 = .ok (.getfield 23, 3) := by decide +kernel
theorem d49_158 : decode K49 158 = .ok (.iload 6, 2) := by decide +kernel
theorem d49_160 : decode K49 160 = .ok (.iload 5, 2) := by decide +kernel
theorem d49_162 : decode K49 162 = .ok (.iastore, 1) := by decide +kernel
theorem d49_163 : decode K49 163 = .ok (.aload_n 0, 1) := by decide +kernel
theorem d49_164 : decode K49 164 = .ok (.getfield 30, 3) := by decide +kernel
theorem d49_167 : decode K49 167 = .ok (.iload 6, 2) := by decide +kernel
theorem d49_169 : decode K49 169 = .ok (.iaload, 1) := by decide +kernel
theorem d49_170 : decode K49 170 = .ok (.ifCond .ge 12, 3) := by decide +kernel
theorem d49_182 : decode K49 182 = .ok (.aload_n 0, 1) := by decide +kernel
theorem d49_183 : decode K49 183 = .ok (.aload_n 0, 1) := by decide +kernel
theorem d49_184 : decode K49 184 = .ok (.getfield 30, 3) := by decide +kernel
theorem d49_187 : decode K49 187 = .ok (.iload 6, 2) := by decide +kernel
theorem d49_189 : decode K49 189 = .ok (.iaload, 1) := by decide +kernel
theorem d49_190 : decode K49 190 = .ok (.invokevirtual 73, 3) := by decide +kernel
theorem d49_173 : decode K49 173 = .ok (.aload_n 0, 1) := by decide +kernel
theorem d49_174 : decode K49 174 = .ok (.iload 6, 2) := by decide +kernel
theorem d49_176 : decode K49 176 = .ok (.invokevirtual 50, 3) := by decide +kernel
theorem d49_179 : decode K49 179 = .ok (.goto 14, 3) := by decide +kernel
theorem d49_43 : decode K49 43 = .ok (.aload_n 0, 1) := by decide +kernel
theorem d49_44 : decode K49 44 = .ok (.getfield 46, 3) := by decide +kernel
theorem d49_47 : decode K49 47 = .ok (.ifCond .le 155, 3) := by decide +kernel
theorem d49_202 : decode K49 202 = .ok (.return_, 1) := by decide +kernel
theorem d49_50 : decode K49 50 = .ok (.aload_n 0, 1) := by decide +kernel
theorem d49_51 : decode K49 51 = .ok (.invokevirtual 54, 3) := by decide +kernel
theorem d49_54 : decode K49 54 = .ok (.istore_n 3, 1) := by decide +kernel
theorem d49_55 : decode K49 55 = .ok (.iload_n 3, 1) := by decide +kernel
theorem d49_56 : decode K49 56 = .ok (.iload_n 1, 1) := by decide +kernel
theorem d49_57 : decode K49 57 = .ok (.if_icmp .eq 17, 3) := by decide +kernel
theorem d49_74 : decode K49 74 = .ok (.aload_n 0, 1) := by decide +kernel
theorem d49_75 : decode K49 75 = .ok (.getfield 7, 3) := by decide +kernel
theorem d49_78 : decode K49 78 = .ok (.iload_n 3, 1) := by decide +kernel
theorem d49_79 : decode K49 79 = .ok (.invokevirtual 60, 3) := by decide +kernel
theorem d49_82 : decode K49 82 = .ok (.istore 4, 2) := by decide +kernel
theorem d49_60 : decode K49 60 = .ok (.iload_n 3, 1) := by decide +kernel
theorem d49_61 : decode K49 61 = .ok (.aload_n 0, 1) := by decide +kernel
theorem d49_62 : decode K49 62 = .ok (.getfield 7, 3) := by decide +kernel
theorem d49_65 : decode K49 65 = .ok (.invokevirtual 57, 3) := by decide +kernel
theorem d49_68 : decode K49 68 = .ok (.if_icmp .ge 6, 3) := by decide +kernel
theorem d49_71 : decode K49 71 = .ok (.goto (-28), 3) := by decide +kernel
theorem ef_rir9 (m : MethodId) (x0 : Addr) (x1 : Int32) (x2 : Addr) : entryFrame m #[.ref x0, .int x1, .ref x2] 9 = mkF m 0 #[.val (.ref x0), .val (.int x1), .val (.ref x2), .unset, .unset, .unset, .unset, .unset, .unset] [] := by first | (simp [entryFrame, mkF, argsToLocals, Value.category, maxLocals]; done) | rfl
theorem d49_0 : decode K49 0 = .ok (.aload_n 0, 1) := by decide +kernel
theorem d49_1 : decode K49 1 = .ok (.getfield 19, 3) := by decide +kernel
theorem d49_4 : decode K49 4 = .ok (.ldc2_w 35, 3) := by decide +kernel
theorem d49_7 : decode K49 7 = .ok (.invokestatic 37, 3) := by decide +kernel
theorem pd_11 : parseMethodDescriptor "([DD)V" = some ⟨[(.array .double), .double], none⟩ := by decide +kernel
theorem d49_10 : decode K49 10 = .ok (.aload_n 0, 1) := by decide +kernel
theorem d49_11 : decode K49 11 = .ok (.getfield 23, 3) := by decide +kernel
theorem d49_14 : decode K49 14 = .ok (.iconst (-1), 1) := by decide +kernel
theorem d49_15 : decode K49 15 = .ok (.invokestatic 43, 3) := by decide +kernel
theorem pd_12 : parseMethodDescriptor "([II)V" = some ⟨[(.array .int), .int], none⟩ := by decide +kernel
theorem d49_18 : decode K49 18 = .ok (.aload_n 0, 1) := by decide +kernel
theorem d49_19 : decode K49 19 = .ok (.getfield 30, 3) := by decide +kernel
theorem d49_22 : decode K49 22 = .ok (.iconst (-1), 1) := by decide +kernel
theorem d49_23 : decode K49 23 = .ok (.invokestatic 43, 3) := by decide +kernel
theorem d49_26 : decode K49 26 = .ok (.aload_n 0, 1) := by decide +kernel
theorem d49_27 : decode K49 27 = .ok (.iconst 0, 1) := by decide +kernel
theorem d49_28 : decode K49 28 = .ok (.putfield 46, 3) := by decide +kernel
theorem d49_31 : decode K49 31 = .ok (.aload_n 0, 1) := by decide +kernel
theorem d49_32 : decode K49 32 = .ok (.getfield 19, 3) := by decide +kernel
theorem d49_35 : decode K49 35 = .ok (.iload_n 1, 1) := by decide +kernel
theorem d49_36 : decode K49 36 = .ok (.dconst 0, 1) := by decide +kernel
theorem d49_37 : decode K49 37 = .ok (.dastore, 1) := by decide +kernel
theorem d49_38 : decode K49 38 = .ok (.aload_n 0, 1) := by decide +kernel
theorem d49_39 : decode K49 39 = .ok (.iload_n 1, 1) := by decide +kernel
theorem d49_40 : decode K49 40 = .ok (.invokevirtual 50, 3) := by decide +kernel
theorem la_TripTable_Pair {Z : State} {a0 : Array Value} (hw : ∀ d ∈ tables_1, d.before a0 Z = true) : LaidAll Z a0 "com/example/lanewright/lanewright/TripTable$Pair" [("com/example/lanewright/lanewright/TripTable$Pair", "origin", "I", .int 0), ("com/example/lanewright/lanewright/TripTable$Pair", "destination", "I", .int 0)] := LaidAll.cons (Or.inr (wd_196 hw)) (t := .int) (by decide) rfl (LaidAll.cons (Or.inr (wd_198 hw)) (t := .int) (by decide) rfl (LaidAll.nil))
abbrev o_TripTable_Pair (Z : State) (v0 v1 : Value) : Cell → Prop := ObC Z "com/example/lanewright/lanewright/TripTable$Pair" [("com/example/lanewright/lanewright/TripTable$Pair", "origin", "I", v0), ("com/example/lanewright/lanewright/TripTable$Pair", "destination", "I", v1)]
theorem ef_rii3 (m : MethodId) (x0 : Addr) (x1 : Int32) (x2 : Int32) : entryFrame m #[.ref x0, .int x1, .int x2] 3 = mkF m 0 #[.val (.ref x0), .val (.int x1), .val (.int x2)] [] := by first | (simp [entryFrame, mkF, argsToLocals, Value.category, maxLocals]; done) | rfl
abbrev K25 : ByteArray := prog_73_method_1_code
theorem d25_0 : decode K25 0 = .ok (.aload_n 0, 1) := by decide +kernel
theorem d25_1 : decode K25 1 = .ok (.invokespecial 1, 3) := by decide +kernel
theorem d25_4 : decode K25 4 = .ok (.aload_n 0, 1) := by decide +kernel
theorem d25_5 : decode K25 5 = .ok (.iload_n 1, 1) := by decide +kernel
theorem d25_6 : decode K25 6 = .ok (.putfield 7, 3) := by decide +kernel
theorem d25_9 : decode K25 9 = .ok (.aload_n 0, 1) := by decide +kernel
theorem d25_10 : decode K25 10 = .ok (.iload_n 2, 1) := by decide +kernel
theorem d25_11 : decode K25 11 = .ok (.putfield 13, 3) := by decide +kernel
theorem d25_14 : decode K25 14 = .ok (.return_, 1) := by decide +kernel
theorem pn_TripTable_Pair : plainName "com/example/lanewright/lanewright/TripTable$Pair" = true := by first | (simp [plainName, overriddenIn]; done) | decide +kernel
abbrev K34 : ByteArray := prog_73_method_5_code
theorem d34_0 : decode K34 0 = .ok (.aload_n 0, 1) := by decide +kernel
theorem d34_1 : decode K34 1 = .ok (.getfield 7, 3) := by decide +kernel
theorem d34_4 : decode K34 4 = .ok (.ireturn, 1) := by decide +kernel
abbrev K36 : ByteArray := prog_73_method_6_code
theorem d36_0 : decode K36 0 = .ok (.aload_n 0, 1) := by decide +kernel
theorem d36_1 : decode K36 1 = .ok (.getfield 13, 3) := by decide +kernel
theorem d36_4 : decode K36 4 = .ok (.ireturn, 1) := by decide +kernel
theorem la_ArrayList_Itr {Z : State} {a0 : Array Value} (hw : ∀ d ∈ tables_1, d.before a0 Z = true) : LaidAll Z a0 "java/util/ArrayList$Itr" [("java/util/ArrayList$Itr", "this$0", "Ljava/util/ArrayList;", .null), ("java/util/ArrayList$Itr", "lastRet", "I", .int 0), ("java/util/ArrayList$Itr", "expectedModCount", "I", .int 0), ("java/util/ArrayList$Itr", "cursor", "I", .int 0)] := LaidAll.cons (Or.inr (wd_234 hw)) (t := (.object "java/util/ArrayList")) (by decide) rfl (LaidAll.cons (Or.inl (wd_237 hw)) (t := .int) (by decide) rfl (LaidAll.cons (Or.inl (wd_240 hw)) (t := .int) (by decide) rfl (LaidAll.cons (Or.inl (wd_251 hw)) (t := .int) (by decide) rfl (LaidAll.nil))))
abbrev o_ArrayList_Itr (Z : State) (v0 v1 v2 v3 : Value) : Cell → Prop := ObC Z "java/util/ArrayList$Itr" [("java/util/ArrayList$Itr", "this$0", "Ljava/util/ArrayList;", v0), ("java/util/ArrayList$Itr", "lastRet", "I", v1), ("java/util/ArrayList$Itr", "expectedModCount", "I", v2), ("java/util/ArrayList$Itr", "cursor", "I", v3)]
abbrev K30 : ByteArray := jdk_49_method_1_code
theorem d30_0 : decode K30 0 = .ok (.aload_n 0, 1) := by decide +kernel
theorem d30_1 : decode K30 1 = .ok (.aload_n 1, 1) := by decide +kernel
theorem d30_2 : decode K30 2 = .ok (.putfield 1, 3) := by decide +kernel
theorem d30_5 : decode K30 5 = .ok (.aload_n 0, 1) := by decide +kernel
theorem d30_6 : decode K30 6 = .ok (.invokespecial 7, 3) := by decide +kernel
theorem d30_9 : decode K30 9 = .ok (.aload_n 0, 1) := by decide +kernel
theorem d30_10 : decode K30 10 = .ok (.iconst (-1), 1) := by decide +kernel
theorem d30_11 : decode K30 11 = .ok (.putfield 13, 3) := by decide +kernel
theorem d30_14 : decode K30 14 = .ok (.aload_n 0, 1) := by decide +kernel
theorem d30_15 : decode K30 15 = .ok (.aload_n 0, 1) := by decide +kernel
theorem d30_16 : decode K30 16 = .ok (.getfield 1, 3) := by decide +kernel
theorem d30_19 : decode K30 19 = .ok (.getfield 17, 3) := by decide +kernel
theorem d30_22 : decode K30 22 = .ok (.putfield 22, 3) := by decide +kernel
theorem d30_25 : decode K30 25 = .ok (.return_, 1) := by decide +kernel
theorem pf_30 : plainFor ⟨"java/util/ArrayList$Itr", "<init>", "(Ljava/util/ArrayList;)V"⟩ = true := by first | exact plainFor_of_name (by first | (simp [plainName, overriddenIn]; done) | decide +kernel) | decide +kernel
abbrev K29 : ByteArray := jdk_38_method_55_code
theorem d29_0 : decode K29 0 = .ok (.new 267, 3) := by decide +kernel
theorem d29_3 : decode K29 3 = .ok (.dup, 1) := by decide +kernel
theorem d29_4 : decode K29 4 = .ok (.aload_n 0, 1) := by decide +kernel
theorem d29_5 : decode K29 5 = .ok (.invokespecial 269, 3) := by decide +kernel
theorem pd_13 : parseMethodDescriptor "(Ljava/util/ArrayList;)V" = some ⟨[(.object "java/util/ArrayList")], none⟩ := by decide +kernel
theorem d29_8 : decode K29 8 = .ok (.areturn, 1) := by decide +kernel
theorem pf_29 : plainFor ⟨"java/util/ArrayList", "iterator", "()Ljava/util/Iterator;"⟩ = true := by first | exact plainFor_of_name (by first | (simp [plainName, overriddenIn]; done) | decide +kernel) | decide +kernel
abbrev K31 : ByteArray := jdk_49_method_2_code
theorem d31_0 : decode K31 0 = .ok (.aload_n 0, 1) := by decide +kernel
theorem d31_1 : decode K31 1 = .ok (.getfield 25, 3) := by decide +kernel
theorem d31_4 : decode K31 4 = .ok (.aload_n 0, 1) := by decide +kernel
theorem d31_5 : decode K31 5 = .ok (.getfield 1, 3) := by decide +kernel
theorem d31_8 : decode K31 8 = .ok (.getfield 28, 3) := by decide +kernel
theorem d31_11 : decode K31 11 = .ok (.if_icmp .eq 7, 3) := by decide +kernel
theorem d31_18 : decode K31 18 = .ok (.iconst 0, 1) := by decide +kernel
theorem d31_19 : decode K31 19 = .ok (.ireturn, 1) := by decide +kernel
theorem d31_14 : decode K31 14 = .ok (.iconst 1, 1) := by decide +kernel
theorem d31_15 : decode K31 15 = .ok (.goto 4, 3) := by decide +kernel
theorem pf_31 : plainFor ⟨"java/util/ArrayList$Itr", "hasNext", "()Z"⟩ = true := by first | exact plainFor_of_name (by first | (simp [plainName, overriddenIn]; done) | decide +kernel) | decide +kernel
abbrev K33 : ByteArray := jdk_49_method_6_code
theorem d33_0 : decode K33 0 = .ok (.aload_n 0, 1) := by decide +kernel
theorem d33_1 : decode K33 1 = .ok (.getfield 1, 3) := by decide +kernel
theorem d33_4 : decode K33 4 = .ok (.getfield 17, 3) := by decide +kernel
theorem d33_7 : decode K33 7 = .ok (.aload_n 0, 1) := by decide +kernel
theorem d33_8 : decode K33 8 = .ok (.getfield 22, 3) := by decide +kernel
theorem d33_11 : decode K33 11 = .ok (.if_icmp .eq 11, 3) := by decide +kernel
theorem d33_22 : decode K33 22 = .ok (.return_, 1) := by decide +kernel
theorem pf_33 : plainFor ⟨"java/util/ArrayList$Itr", "checkForComodification", "()V"⟩ = true := by first | exact plainFor_of_name (by first | (simp [plainName, overriddenIn]; done) | decide +kernel) | decide +kernel
theorem ef_r3 (m : MethodId) (x0 : Addr) : entryFrame m #[.ref x0] 3 = mkF m 0 #[.val (.ref x0), .unset, .unset] [] := by first | (simp [entryFrame, mkF, argsToLocals, Value.category, maxLocals]; done) | rfl
abbrev K32 : ByteArray := jdk_49_method_3_code
theorem d32_0 : decode K32 0 = .ok (.aload_n 0, 1) := by decide +kernel
theorem d32_1 : decode K32 1 = .ok (.invokevirtual 31, 3) := by decide +kernel
theorem d32_4 : decode K32 4 = .ok (.aload_n 0, 1) := by decide +kernel
theorem d32_5 : decode K32 5 = .ok (.getfield 25, 3) := by decide +kernel
theorem d32_8 : decode K32 8 = .ok (.istore_n 1, 1) := by decide +kernel
theorem d32_9 : decode K32 9 = .ok (.iload_n 1, 1) := by decide +kernel
theorem d32_10 : decode K32 10 = .ok (.aload_n 0, 1) := by decide +kernel
theorem d32_11 : decode K32 11 = .ok (.getfield 1, 3) := by decide +kernel
theorem d32_14 : decode K32 14 = .ok (.getfield 28, 3) := by decide +kernel
theorem d32_17 : decode K32 17 = .ok (.if_icmp .lt 11, 3) := by decide +kernel
theorem d32_28 : decode K32 28 = .ok (.aload_n 0, 1) := by decide +kernel
theorem d32_29 : decode K32 29 = .ok (.getfield 1, 3) := by decide +kernel
theorem d32_32 : decode K32 32 = .ok (.getfield 37, 3) := by decide +kernel
theorem d32_35 : decode K32 35 = .ok (.astore_n 2, 1) := by decide +kernel
theorem d32_36 : decode K32 36 = .ok (.iload_n 1, 1) := by decide +kernel
theorem d32_37 : decode K32 37 = .ok (.aload_n 2, 1) := by decide +kernel
theorem d32_38 : decode K32 38 = .ok (.arraylength, 1) := by decide +kernel
theorem d32_39 : decode K32 39 = .ok (.if_icmp .lt 11, 3) := by decide +kernel
theorem d32_50 : decode K32 50 = .ok (.aload_n 0, 1) := by decide +kernel
theorem d32_51 : decode K32 51 = .ok (.iload_n 1, 1) := by decide +kernel
theorem d32_52 : decode K32 52 = .ok (.iconst 1, 1) := by decide +kernel
theorem d32_53 : decode K32 53 = .ok (.iadd, 1) := by decide +kernel
theorem d32_54 : decode K32 54 = .ok (.putfield 25, 3) := by decide +kernel
theorem d32_57 : decode K32 57 = .ok (.aload_n 2, 1) := by decide +kernel
theorem d32_58 : decode K32 58 = .ok (.aload_n 0, 1) := by decide +kernel
theorem d32_59 : decode K32 59 = .ok (.iload_n 1, 1) := by decide +kernel
theorem d32_60 : decode K32 60 = .ok (.dup_x1, 1) := by decide +kernel
theorem d32_61 : decode K32 61 = .ok (.putfield 13, 3) := by decide +kernel
theorem d32_64 : decode K32 64 = .ok (.aaload, 1) := by decide +kernel
theorem d32_65 : decode K32 65 = .ok (.areturn, 1) := by decide +kernel
theorem pf_32 : plainFor ⟨"java/util/ArrayList$Itr", "next", "()Ljava/lang/Object;"⟩ = true := by first | exact plainFor_of_name (by first | (simp [plainName, overriddenIn]; done) | decide +kernel) | decide +kernel
theorem ef_i1 (m : MethodId) (x0 : Int32) : entryFrame m #[.int x0] 1 = mkF m 0 #[.val (.int x0)] [] := by first | (simp [entryFrame, mkF, argsToLocals, Value.category, maxLocals]; done) | rfl
abbrev K35 : ByteArray := jdk_33_method_22_code
theorem d35_0 : decode K35 0 = .ok (.iload_n 0, 1) := by decide +kernel
theorem d35_1 : decode K35 1 = .ok (.bipush (-128), 2) := by decide +kernel
theorem d35_3 : decode K35 3 = .ok (.if_icmp .lt 20, 3) := by decide +kernel
theorem d35_6 : decode K35 6 = .ok (.iload_n 0, 1) := by decide +kernel
theorem d35_7 : decode K35 7 = .ok (.getstatic 191, 3) := by decide +kernel
theorem d35_10 : decode K35 10 = .ok (.if_icmp .gt 13, 3) := by decide +kernel
theorem d35_13 : decode K35 13 = .ok (.getstatic 195, 3) := by decide +kernel
theorem d35_16 : decode K35 16 = .ok (.iload_n 0, 1) := by decide +kernel
theorem d35_17 : decode K35 17 = .ok (.sipush 128, 3) := by decide +kernel
theorem d35_20 : decode K35 20 = .ok (.iadd, 1) := by decide +kernel
theorem d35_21 : decode K35 21 = .ok (.aaload, 1) := by decide +kernel
theorem d35_22 : decode K35 22 = .ok (.areturn, 1) := by decide +kernel
theorem pf_35 : plainFor ⟨"java/lang/Integer", "valueOf", "(I)Ljava/lang/Integer;"⟩ = true := by first | exact plainFor_of_name (by first | (simp [plainName, overriddenIn]; done) | decide +kernel) | decide +kernel
abbrev K47 : ByteArray := jdk_33_method_27_code
theorem d47_0 : decode K47 0 = .ok (.aload_n 0, 1) := by decide +kernel
theorem d47_1 : decode K47 1 = .ok (.getfield 205, 3) := by decide +kernel
theorem d47_4 : decode K47 4 = .ok (.ireturn, 1) := by decide +kernel
theorem pf_47 : plainFor ⟨"java/lang/Integer", "intValue", "()I"⟩ = true := by first | exact plainFor_of_name (by first | (simp [plainName, overriddenIn]; done) | decide +kernel) | decide +kernel
abbrev K40 : ByteArray := jdk_47_method_1_code
theorem d40_0 : decode K40 0 = .ok (.aload_n 0, 1) := by decide +kernel
theorem d40_1 : decode K40 1 = .ok (.invokespecial 1, 3) := by decide +kernel
theorem d40_4 : decode K40 4 = .ok (.return_, 1) := by decide +kernel
theorem pf_40 : plainFor ⟨"java/util/ImmutableCollections$AbstractImmutableCollection", "<init>", "()V"⟩ = true := by first | exact plainFor_of_name (by first | (simp [plainName, overriddenIn]; done) | decide +kernel) | decide +kernel
abbrev K39 : ByteArray := jdk_46_method_1_code
theorem d39_0 : decode K39 0 = .ok (.aload_n 0, 1) := by decide +kernel
theorem d39_1 : decode K39 1 = .ok (.invokespecial 1, 3) := by decide +kernel
theorem d39_4 : decode K39 4 = .ok (.return_, 1) := by decide +kernel
theorem pf_39 : plainFor ⟨"java/util/ImmutableCollections$AbstractImmutableList", "<init>", "()V"⟩ = true := by first | exact plainFor_of_name (by first | (simp [plainName, overriddenIn]; done) | decide +kernel) | decide +kernel
abbrev K41 : ByteArray := jdk_31_method_10_code
theorem d41_0 : decode K41 0 = .ok (.aload_n 0, 1) := by decide +kernel
theorem d41_1 : decode K41 1 = .ok (.ifnonnull 11, 3) := by decide +kernel
theorem d41_12 : decode K41 12 = .ok (.aload_n 0, 1) := by decide +kernel
theorem d41_13 : decode K41 13 = .ok (.areturn, 1) := by decide +kernel
theorem pf_41 : plainFor ⟨"java/util/Objects", "requireNonNull", "(Ljava/lang/Object;)Ljava/lang/Object;"⟩ = true := by first | exact plainFor_of_name (by first | (simp [plainName, overriddenIn]; done) | decide +kernel) | decide +kernel
theorem la_ImmutableCollections_List12 {Z : State} {a0 : Array Value} (hw : ∀ d ∈ tables_1, d.before a0 Z = true) : LaidAll Z a0 "java/util/ImmutableCollections$List12" [("java/util/ImmutableCollections$List12", "e0", "Ljava/lang/Object;", .null), ("java/util/ImmutableCollections$List12", "e1", "Ljava/lang/Object;", .null)] := LaidAll.cons (Or.inr (wd_315 hw)) (t := (.object "java/lang/Object")) (by decide) rfl (LaidAll.cons (Or.inr (wd_317 hw)) (t := (.object "java/lang/Object")) (by decide) rfl (LaidAll.nil))
abbrev o_ImmutableCollections_List12 (Z : State) (v0 v1 : Value) : Cell → Prop := ObC Z "java/util/ImmutableCollections$List12" [("java/util/ImmutableCollections$List12", "e0", "Ljava/lang/Object;", v0), ("java/util/ImmutableCollections$List12", "e1", "Ljava/lang/Object;", v1)]
theorem ef_rrr3 (m : MethodId) (x0 : Addr) (x1 : Addr) (x2 : Addr) : entryFrame m #[.ref x0, .ref x1, .ref x2] 3 = mkF m 0 #[.val (.ref x0), .val (.ref x1), .val (.ref x2)] [] := by first | (simp [entryFrame, mkF, argsToLocals, Value.category, maxLocals]; done) | rfl
abbrev K38 : ByteArray := jdk_44_method_2_code
theorem d38_0 : decode K38 0 = .ok (.aload_n 0, 1) := by decide +kernel
theorem d38_1 : decode K38 1 = .ok (.invokespecial 1, 3) := by decide +kernel
theorem d38_4 : decode K38 4 = .ok (.aload_n 0, 1) := by decide +kernel
theorem d38_5 : decode K38 5 = .ok (.aload_n 1, 1) := by decide +kernel
theorem d38_6 : decode K38 6 = .ok (.invokestatic 7, 3) := by decide +kernel
theorem pd_14 : parseMethodDescriptor "(Ljava/lang/Object;)Ljava/lang/Object;" = some ⟨[(.object "java/lang/Object")], some (.object "java/lang/Object")⟩ := by decide +kernel
theorem d38_9 : decode K38 9 = .ok (.putfield 13, 3) := by decide +kernel
theorem d38_12 : decode K38 12 = .ok (.aload_n 0, 1) := by decide +kernel
theorem d38_13 : decode K38 13 = .ok (.aload_n 2, 1) := by decide +kernel
theorem d38_14 : decode K38 14 = .ok (.invokestatic 7, 3) := by decide +kernel
theorem d38_17 : decode K38 17 = .ok (.putfield 24, 3) := by decide +kernel
theorem d38_20 : decode K38 20 = .ok (.return_, 1) := by decide +kernel
theorem pf_38 : plainFor ⟨"java/util/ImmutableCollections$List12", "<init>", "(Ljava/lang/Object;Ljava/lang/Object;)V"⟩ = true := by first | exact plainFor_of_name (by first | (simp [plainName, overriddenIn]; done) | decide +kernel) | decide +kernel
abbrev K37 : ByteArray := jdk_40_method_38_code
theorem d37_0 : decode K37 0 = .ok (.new 96, 3) := by decide +kernel
theorem d37_3 : decode K37 3 = .ok (.dup, 1) := by decide +kernel
theorem d37_4 : decode K37 4 = .ok (.aload_n 0, 1) := by decide +kernel
theorem d37_5 : decode K37 5 = .ok (.aload_n 1, 1) := by decide +kernel
theorem d37_6 : decode K37 6 = .ok (.invokespecial 100, 3) := by decide +kernel
theorem pd_15 : parseMethodDescriptor "(Ljava/lang/Object;Ljava/lang/Object;)V" = some ⟨[(.object "java/lang/Object"), (.object "java/lang/Object")], none⟩ := by decide +kernel
theorem d37_9 : decode K37 9 = .ok (.areturn, 1) := by decide +kernel
theorem pf_37 : plainFor ⟨"java/util/List", "of", "(Ljava/lang/Object;Ljava/lang/Object;)Ljava/util/List;"⟩ = true := by first | exact plainFor_of_name (by first | (simp [plainName, overriddenIn]; done) | decide +kernel) | decide +kernel
abbrev K43 : ByteArray := jdk_44_method_3_code
theorem d43_0 : decode K43 0 = .ok (.aload_n 0, 1) := by decide +kernel
theorem d43_1 : decode K43 1 = .ok (.getfield 24, 3) := by decide +kernel
theorem d43_4 : decode K43 4 = .ok (.getstatic 19, 3) := by decide +kernel
theorem d43_7 : decode K43 7 = .ok (.if_acmp .eq 7, 3) := by decide +kernel
theorem d43_10 : decode K43 10 = .ok (.iconst 2, 1) := by decide +kernel
theorem d43_11 : decode K43 11 = .ok (.goto 4, 3) := by decide +kernel
theorem d43_15 : decode K43 15 = .ok (.ireturn, 1) := by decide +kernel
theorem pf_43 : plainFor ⟨"java/util/ImmutableCollections$List12", "size", "()I"⟩ = true := by first | exact plainFor_of_name (by first | (simp [plainName, overriddenIn]; done) | decide +kernel) | decide +kernel
theorem la_ImmutableCollections_ListItr {Z : State} {a0 : Array Value} (hw : ∀ d ∈ tables_1, d.before a0 Z = true) : LaidAll Z a0 "java/util/ImmutableCollections$ListItr" [("java/util/ImmutableCollections$ListItr", "list", "Ljava/util/List;", .null), ("java/util/ImmutableCollections$ListItr", "size", "I", .int 0), ("java/util/ImmutableCollections$ListItr", "cursor", "I", .int 0), ("java/util/ImmutableCollections$ListItr", "isListIterator", "Z", .int 0)] := LaidAll.cons (Or.inr (wd_341 hw)) (t := (.object "java/util/List")) (by decide) rfl (LaidAll.cons (Or.inr (wd_343 hw)) (t := .int) (by decide) rfl (LaidAll.cons (Or.inl (wd_345 hw)) (t := .int) (by decide) rfl (LaidAll.cons (Or.inr (wd_347 hw)) (t := .boolean) (by decide) rfl (LaidAll.nil))))
abbrev o_ImmutableCollections_ListItr (Z : State) (v0 v1 v2 v3 : Value) : Cell → Prop := ObC Z "java/util/ImmutableCollections$ListItr" [("java/util/ImmutableCollections$ListItr", "list", "Ljava/util/List;", v0), ("java/util/ImmutableCollections$ListItr", "size", "I", v1), ("java/util/ImmutableCollections$ListItr", "cursor", "I", v2), ("java/util/ImmutableCollections$ListItr", "isListIterator", "Z", v3)]
theorem ef_rri3 (m : MethodId) (x0 : Addr) (x1 : Addr) (x2 : Int32) : entryFrame m #[.ref x0, .ref x1, .int x2] 3 = mkF m 0 #[.val (.ref x0), .val (.ref x1), .val (.int x2)] [] := by first | (simp [entryFrame, mkF, argsToLocals, Value.category, maxLocals]; done) | rfl
abbrev K44 : ByteArray := jdk_53_method_1_code
theorem d44_0 : decode K44 0 = .ok (.aload_n 0, 1) := by decide +kernel
theorem d44_1 : decode K44 1 = .ok (.invokespecial 1, 3) := by decide +kernel
theorem d44_4 : decode K44 4 = .ok (.aload_n 0, 1) := by decide +kernel
theorem d44_5 : decode K44 5 = .ok (.aload_n 1, 1) := by decide +kernel
theorem d44_6 : decode K44 6 = .ok (.putfield 7, 3) := by decide +kernel
theorem d44_9 : decode K44 9 = .ok (.aload_n 0, 1) := by decide +kernel
theorem d44_10 : decode K44 10 = .ok (.iload_n 2, 1) := by decide +kernel
theorem d44_11 : decode K44 11 = .ok (.putfield 13, 3) := by decide +kernel
theorem d44_14 : decode K44 14 = .ok (.aload_n 0, 1) := by decide +kernel
theorem d44_15 : decode K44 15 = .ok (.iconst 0, 1) := by decide +kernel
theorem d44_16 : decode K44 16 = .ok (.putfield 17, 3) := by decide +kernel
theorem d44_19 : decode K44 19 = .ok (.aload_n 0, 1) := by decide +kernel
theorem d44_20 : decode K44 20 = .ok (.iconst 0, 1) := by decide +kernel
theorem d44_21 : decode K44 21 = .ok (.putfield 20, 3) := by decide +kernel
theorem d44_24 : decode K44 24 = .ok (.return_, 1) := by decide +kernel
theorem pf_44 : plainFor ⟨"java/util/ImmutableCollections$ListItr", "<init>", "(Ljava/util/List;I)V"⟩ = true := by first | exact plainFor_of_name (by first | (simp [plainName, overriddenIn]; done) | decide +kernel) | decide +kernel
abbrev K42 : ByteArray := jdk_46_method_10_code
theorem d42_0 : decode K42 0 = .ok (.new 61, 3) := by decide +kernel
theorem d42_3 : decode K42 3 = .ok (.dup, 1) := by decide +kernel
theorem d42_4 : decode K42 4 = .ok (.aload_n 0, 1) := by decide +kernel
theorem d42_5 : decode K42 5 = .ok (.aload_n 0, 1) := by decide +kernel
theorem d42_6 : decode K42 6 = .ok (.invokevirtual 13, 3) := by decide +kernel
theorem d42_9 : decode K42 9 = .ok (.invokespecial 63, 3) := by decide +kernel
theorem pd_16 : parseMethodDescriptor "(Ljava/util/List;I)V" = some ⟨[(.object "java/util/List"), .int], none⟩ := by decide +kernel
theorem d42_12 : decode K42 12 = .ok (.areturn, 1) := by decide +kernel
theorem pf_42 : plainFor ⟨"java/util/ImmutableCollections$AbstractImmutableList", "iterator", "()Ljava/util/Iterator;"⟩ = true := by first | exact plainFor_of_name (by first | (simp [plainName, overriddenIn]; done) | decide +kernel) | decide +kernel
abbrev K45 : ByteArray := jdk_53_method_3_code
theorem d45_0 : decode K45 0 = .ok (.aload_n 0, 1) := by decide +kernel
theorem d45_1 : decode K45 1 = .ok (.getfield 17, 3) := by decide +kernel
theorem d45_4 : decode K45 4 = .ok (.aload_n 0, 1) := by decide +kernel
theorem d45_5 : decode K45 5 = .ok (.getfield 13, 3) := by decide +kernel
theorem d45_8 : decode K45 8 = .ok (.if_icmp .eq 7, 3) := by decide +kernel
theorem d45_15 : decode K45 15 = .ok (.iconst 0, 1) := by decide +kernel
theorem d45_16 : decode K45 16 = .ok (.ireturn, 1) := by decide +kernel
theorem d45_11 : decode K45 11 = .ok (.iconst 1, 1) := by decide +kernel
theorem d45_12 : decode K45 12 = .ok (.goto 4, 3) := by decide +kernel
theorem pf_45 : plainFor ⟨"java/util/ImmutableCollections$ListItr", "hasNext", "()Z"⟩ = true := by first | exact plainFor_of_name (by first | (simp [plainName, overriddenIn]; done) | decide +kernel) | decide +kernel
abbrev K46 : ByteArray := jdk_44_method_5_code
theorem d46_0 : decode K46 0 = .ok (.iload_n 1, 1) := by decide +kernel
theorem d46_1 : decode K46 1 = .ok (.ifCond .ne 8, 3) := by decide +kernel
theorem d46_4 : decode K46 4 = .ok (.aload_n 0, 1) := by decide +kernel
theorem d46_5 : decode K46 5 = .ok (.getfield 13, 3) := by decide +kernel
theorem d46_8 : decode K46 8 = .ok (.areturn, 1) := by decide +kernel
theorem pf_46 : plainFor ⟨"java/util/ImmutableCollections$List12", "get", "(I)Ljava/lang/Object;"⟩ = true := by first | exact plainFor_of_name (by first | (simp [plainName, overriddenIn]; done) | decide +kernel) | decide +kernel
abbrev K65 : ByteArray := jdk_53_method_4_code
theorem d65_0 : decode K65 0 = .ok (.aload_n 0, 1) := by decide +kernel
theorem d65_1 : decode K65 1 = .ok (.getfield 17, 3) := by decide +kernel
theorem d65_4 : decode K65 4 = .ok (.istore_n 1, 1) := by decide +kernel
theorem d65_5 : decode K65 5 = .ok (.aload_n 0, 1) := by decide +kernel
theorem d65_6 : decode K65 6 = .ok (.getfield 7, 3) := by decide +kernel
theorem d65_9 : decode K65 9 = .ok (.iload_n 1, 1) := by decide +kernel
theorem d65_10 : decode K65 10 = .ok (.invokeinterface 24 2, 5) := by decide +kernel
theorem d65_15 : decode K65 15 = .ok (.astore_n 2, 1) := by decide +kernel
theorem d65_16 : decode K65 16 = .ok (.aload_n 0, 1) := by decide +kernel
theorem d65_17 : decode K65 17 = .ok (.iload_n 1, 1) := by decide +kernel
theorem d65_18 : decode K65 18 = .ok (.iconst 1, 1) := by decide +kernel
theorem d65_19 : decode K65 19 = .ok (.iadd, 1) := by decide +kernel
theorem d65_20 : decode K65 20 = .ok (.putfield 17, 3) := by decide +kernel
theorem d65_23 : decode K65 23 = .ok (.aload_n 2, 1) := by decide +kernel
theorem d65_24 : decode K65 24 = .ok (.areturn, 1) := by decide +kernel
theorem pf_65 : plainFor ⟨"java/util/ImmutableCollections$ListItr", "next", "()Ljava/lang/Object;"⟩ = true := by first | exact plainFor_of_name (by first | (simp [plainName, overriddenIn]; done) | decide +kernel) | decide +kernel
theorem d46_9 : decode K46 9 = .ok (.iload_n 1, 1) := by decide +kernel
theorem d46_10 : decode K46 10 = .ok (.iconst 1, 1) := by decide +kernel
theorem d46_11 : decode K46 11 = .ok (.if_icmp .ne 18, 3) := by decide +kernel
theorem d46_14 : decode K46 14 = .ok (.aload_n 0, 1) := by decide +kernel
theorem d46_15 : decode K46 15 = .ok (.getfield 24, 3) := by decide +kernel
theorem d46_18 : decode K46 18 = .ok (.getstatic 19, 3) := by decide +kernel
theorem d46_21 : decode K46 21 = .ok (.if_acmp .eq 8, 3) := by decide +kernel
theorem d46_24 : decode K46 24 = .ok (.aload_n 0, 1) := by decide +kernel
theorem d46_25 : decode K46 25 = .ok (.getfield 24, 3) := by decide +kernel
theorem d46_28 : decode K46 28 = .ok (.areturn, 1) := by decide +kernel
theorem la_RouteTimes {Z : State} {a0 : Array Value} (hw : ∀ d ∈ tables_1, d.before a0 Z = true) : LaidAll Z a0 "com/example/lanewright/lanewright/RouteTimes" [("com/example/lanewright/lanewright/RouteTimes", "rows", "[I", .null), ("com/example/lanewright/lanewright/RouteTimes", "times", "[[D", .null)] := LaidAll.cons (Or.inr (wd_213 hw)) (t := (.array .int)) (by decide) rfl (LaidAll.cons (Or.inr (wd_377 hw)) (t := (.array (.array .double))) (by decide) rfl (LaidAll.nil))
abbrev o_RouteTimes (Z : State) (v0 v1 : Value) : Cell → Prop := ObC Z "com/example/lanewright/lanewright/RouteTimes" [("com/example/lanewright/lanewright/RouteTimes", "rows", "[I", v0), ("com/example/lanewright/lanewright/RouteTimes", "times", "[[D", v1)]
theorem ef_rrrr10 (m : MethodId) (x0 : Addr) (x1 : Addr) (x2 : Addr) (x3 : Addr) : entryFrame m #[.ref x0, .ref x1, .ref x2, .ref x3] 10 = mkF m 0 #[.val (.ref x0), .val (.ref x1), .val (.ref x2), .val (.ref x3), .unset, .unset, .unset, .unset, .unset, .unset] [] := by first | (simp [entryFrame, mkF, argsToLocals, Value.category, maxLocals]; done) | rfl
abbrev K26 : ByteArray := prog_47_method_1_code
theorem d26_0 : decode K26 0 = .ok (.aload_n 0, 1) := by decide +kernel
theorem d26_1 : decode K26 1 = .ok (.invokespecial 1, 3) := by decide +kernel
theorem d26_4 : decode K26 4 = .ok (.aload_n 0, 1) := by decide +kernel
theorem d26_5 : decode K26 5 = .ok (.aload_n 1, 1) := by decide +kernel
theorem d26_6 : decode K26 6 = .ok (.invokevirtual 7, 3) := by decide +kernel
theorem d26_9 : decode K26 9 = .ok (.iconst 1, 1) := by decide +kernel
theorem d26_10 : decode K26 10 = .ok (.iadd, 1) := by decide +kernel
theorem d26_11 : decode K26 11 = .ok (.newarray .int, 2) := by decide +kernel
theorem d26_13 : decode K26 13 = .ok (.putfield 13, 3) := by decide +kernel
theorem d26_16 : decode K26 16 = .ok (.aload_n 0, 1) := by decide +kernel
theorem d26_17 : decode K26 17 = .ok (.getfield 13, 3) := by decide +kernel
theorem d26_20 : decode K26 20 = .ok (.iconst (-1), 1) := by decide +kernel
theorem d26_21 : decode K26 21 = .ok (.invokestatic 19, 3) := by decide +kernel
theorem d26_24 : decode K26 24 = .ok (.aload_n 1, 1) := by decide +kernel
theorem d26_25 : decode K26 25 = .ok (.invokevirtual 7, 3) := by decide +kernel
theorem d26_28 : decode K26 28 = .ok (.newarray .int, 2) := by decide +kernel
theorem d26_30 : decode K26 30 = .ok (.astore 4, 2) := by decide +kernel
theorem d26_32 : decode K26 32 = .ok (.iconst 0, 1) := by decide +kernel
theorem d26_33 : decode K26 33 = .ok (.istore 5, 2) := by decide +kernel
theorem d26_35 : decode K26 35 = .ok (.aload_n 3, 1) := by decide +kernel
theorem d26_36 : decode K26 36 = .ok (.invokeinterface 25 1, 5) := by decide +kernel
theorem pd_17 : parseMethodDescriptor "()Ljava/util/Iterator;" = some ⟨[], some (.object "java/util/Iterator")⟩ := by decide +kernel
theorem d26_41 : decode K26 41 = .ok (.astore 6, 2) := by decide +kernel
theorem d26_152 : decode K26 152 = .ok (.aload_n 0, 1) := by decide +kernel
theorem d26_153 : decode K26 153 = .ok (.iload 5, 2) := by decide +kernel
theorem d26_155 : decode K26 155 = .ok (.iload 5, 2) := by decide +kernel
theorem d26_157 : decode K26 157 = .ok (.multianewarray 62 2, 4) := by decide +kernel
theorem d26_161 : decode K26 161 = .ok (.putfield 64, 3) := by decide +kernel
theorem d26_164 : decode K26 164 = .ok (.new 67, 3) := by decide +kernel
theorem d26_167 : decode K26 167 = .ok (.dup, 1) := by decide +kernel
theorem d26_168 : decode K26 168 = .ok (.aload_n 1, 1) := by decide +kernel
theorem d26_169 : decode K26 169 = .ok (.invokespecial 69, 3) := by decide +kernel
theorem pd_18 : parseMethodDescriptor "(Lcom/example/lanewright/lanewright/Network;)V" = some ⟨[(.object "com/example/lanewright/lanewright/Network")], none⟩ := by decide +kernel
theorem d26_172 : decode K26 172 = .ok (.astore 6, 2) := by decide +kernel
theorem d26_174 : decode K26 174 = .ok (.iconst 0, 1) := by decide +kernel
theorem d26_175 : decode K26 175 = .ok (.istore 7, 2) := by decide +kernel
theorem d26_177 : decode K26 177 = .ok (.iload 7, 2) := by decide +kernel
theorem d26_179 : decode K26 179 = .ok (.iload 5, 2) := by decide +kernel
theorem d26_181 : decode K26 181 = .ok (.if_icmp .ge 56, 3) := by decide +kernel
theorem d26_184 : decode K26 184 = .ok (.aload 6, 2) := by decide +kernel
theorem d26_186 : decode K26 186 = .ok (.aload 4, 2) := by decide +kernel
theorem d26_188 : decode K26 188 = .ok (.iload 7, 2) := by decide +kernel
theorem d26_190 : decode K26 190 = .ok (.iaload, 1) := by decide +kernel
theorem d26_191 : decode K26 191 = .ok (.aload_n 2, 1) := by decide +kernel
theorem d26_192 : decode K26 192 = .ok (.invokevirtual 72, 3) := by decide +kernel
theorem pd_19 : parseMethodDescriptor "(I[D)V" = some ⟨[.int, (.array .double)], none⟩ := by decide +kernel
theorem d26_195 : decode K26 195 = .ok (.iconst 0, 1) := by decide +kernel
theorem d26_196 : decode K26 196 = .ok (.istore 8, 2) := by decide +kernel
theorem d26_198 : decode K26 198 = .ok (.iload 8, 2) := by decide +kernel
theorem d26_200 : decode K26 200 = .ok (.iload 5, 2) := by decide +kernel
theorem d26_202 : decode K26 202 = .ok (.if_icmp .ge 29, 3) := by decide +kernel
theorem d26_205 : decode K26 205 = .ok (.aload_n 0, 1) := by decide +kernel
theorem d26_206 : decode K26 206 = .ok (.getfield 64, 3) := by decide +kernel
theorem d26_209 : decode K26 209 = .ok (.iload 7, 2) := by decide +kernel
theorem d26_211 : decode K26 211 = .ok (.aaload, 1) := by decide +kernel
theorem d26_212 : decode K26 212 = .ok (.iload 8, 2) := by decide +kernel
theorem d26_214 : decode K26 214 = .ok (.aload 6, 2) := by decide +kernel
theorem d26_216 : decode K26 216 = .ok (.aload 4, 2) := by decide +kernel
theorem d26_218 : decode K26 218 = .ok (.iload 8, 2) := by decide +kernel
theorem d26_220 : decode K26 220 = .ok (.iaload, 1) := by decide +kernel
theorem d26_221 : decode K26 221 = .ok (.invokevirtual 76, 3) := by decide +kernel
theorem pd_20 : parseMethodDescriptor "(I)D" = some ⟨[.int], some .double⟩ := by decide +kernel
theorem d26_224 : decode K26 224 = .ok (.dastore, 1) := by decide +kernel
theorem d26_225 : decode K26 225 = .ok (.iinc 8 1, 3) := by decide +kernel
theorem d26_228 : decode K26 228 = .ok (.goto (-30), 3) := by decide +kernel
theorem d26_231 : decode K26 231 = .ok (.iinc 7 1, 3) := by decide +kernel
theorem d26_234 : decode K26 234 = .ok (.goto (-57), 3) := by decide +kernel
theorem d26_237 : decode K26 237 = .ok (.return_, 1) := by decide +kernel
theorem d26_43 : decode K26 43 = .ok (.aload 6, 2) := by decide +kernel
theorem d26_45 : decode K26 45 = .ok (.invokeinterface 31 1, 5) := by decide +kernel
theorem pd_21 : parseMethodDescriptor "()Z" = some ⟨[], some .boolean⟩ := by decide +kernel
theorem d26_50 : decode K26 50 = .ok (.ifCond .eq 102, 3) := by decide +kernel
theorem d26_53 : decode K26 53 = .ok (.aload 6, 2) := by decide +kernel
theorem d26_55 : decode K26 55 = .ok (.invokeinterface 37 1, 5) := by decide +kernel
theorem pd_22 : parseMethodDescriptor "()Ljava/lang/Object;" = some ⟨[], some (.object "java/lang/Object")⟩ := by decide +kernel
theorem d26_60 : decode K26 60 = .ok (.checkcast 41, 3) := by decide +kernel
theorem d26_63 : decode K26 63 = .ok (.astore 7, 2) := by decide +kernel
theorem d26_65 : decode K26 65 = .ok (.aload 7, 2) := by decide +kernel
theorem d26_67 : decode K26 67 = .ok (.invokevirtual 43, 3) := by decide +kernel
theorem d26_70 : decode K26 70 = .ok (.invokestatic 46, 3) := by decide +kernel
theorem pd_23 : parseMethodDescriptor "(I)Ljava/lang/Integer;" = some ⟨[.int], some (.object "java/lang/Integer")⟩ := by decide +kernel
theorem d26_73 : decode K26 73 = .ok (.aload 7, 2) := by decide +kernel
theorem d26_75 : decode K26 75 = .ok (.invokevirtual 52, 3) := by decide +kernel
theorem d26_78 : decode K26 78 = .ok (.invokestatic 46, 3) := by decide +kernel
theorem d26_81 : decode K26 81 = .ok (.invokestatic 55, 3) := by decide +kernel
theorem pd_24 : parseMethodDescriptor "(Ljava/lang/Object;Ljava/lang/Object;)Ljava/util/List;" = some ⟨[(.object "java/lang/Object"), (.object "java/lang/Object")], some (.object "java/util/List")⟩ := by decide +kernel
theorem d26_84 : decode K26 84 = .ok (.invokeinterface 25 1, 5) := by decide +kernel
theorem d26_89 : decode K26 89 = .ok (.astore 8, 2) := by decide +kernel
theorem d26_91 : decode K26 91 = .ok (.aload 8, 2) := by decide +kernel
theorem d26_93 : decode K26 93 = .ok (.invokeinterface 31 1, 5) := by decide +kernel
theorem d26_98 : decode K26 98 = .ok (.ifCond .eq 51, 3) := by decide +kernel
theorem d26_149 : decode K26 149 = .ok (.goto (-106), 3) := by decide +kernel
theorem d26_101 : decode K26 101 = .ok (.aload 8, 2) := by decide +kernel
theorem d26_103 : decode K26 103 = .ok (.invokeinterface 37 1, 5) := by decide +kernel
theorem d26_108 : decode K26 108 = .ok (.checkcast 47, 3) := by decide +kernel
theorem d26_111 : decode K26 111 = .ok (.invokevirtual 59, 3) := by decide +kernel
theorem d26_114 : decode K26 114 = .ok (.istore 9, 2) := by decide +kernel
theorem d26_116 : decode K26 116 = .ok (.aload_n 0, 1) := by decide +kernel
theorem d26_117 : decode K26 117 = .ok (.getfield 13, 3) := by decide +kernel
theorem d26_120 : decode K26 120 = .ok (.iload 9, 2) := by decide +kernel
theorem d26_122 : decode K26 122 = .ok (.iaload, 1) := by decide +kernel
theorem d26_123 : decode K26 123 = .ok (.iconst (-1), 1) := by decide +kernel
theorem d26_124 : decode K26 124 = .ok (.if_icmp .ne 22, 3) := by decide +kernel
theorem d26_146 : decode K26 146 = .ok (.goto (-55), 3) := by decide +kernel
theorem d26_127 : decode K26 127 = .ok (.aload_n 0, 1) := by decide +kernel
theorem d26_128 : decode K26 128 = .ok (.getfield 13, 3) := by decide +kernel
theorem d26_131 : decode K26 131 = .ok (.iload 9, 2) := by decide +kernel
theorem d26_133 : decode K26 133 = .ok (.iload 5, 2) := by decide +kernel
theorem d26_135 : decode K26 135 = .ok (.iastore, 1) := by decide +kernel
theorem d26_136 : decode K26 136 = .ok (.aload 4, 2) := by decide +kernel
theorem d26_138 : decode K26 138 = .ok (.iload 5, 2) := by decide +kernel
theorem d26_140 : decode K26 140 = .ok (.iload 9, 2) := by decide +kernel
theorem d26_142 : decode K26 142 = .ok (.iastore, 1) := by decide +kernel
theorem d26_143 : decode K26 143 = .ok (.iinc 5 1, 3) := by decide +kernel
theorem pn_RouteTimes : plainName "com/example/lanewright/lanewright/RouteTimes" = true := by first | (simp [plainName, overriddenIn]; done) | decide +kernel
abbrev K1 : ByteArray := method_2_code
theorem d1_0 : decode K1 0 = .ok (.iload_n 0, 1) := by decide +kernel
theorem d1_1 : decode K1 1 = .ok (.iload_n 1, 1) := by decide +kernel
theorem d1_2 : decode K1 2 = .ok (.iushr, 1) := by decide +kernel
theorem d1_3 : decode K1 3 = .ok (.bipush 15, 2) := by decide +kernel
theorem d1_5 : decode K1 5 = .ok (.iand, 1) := by decide +kernel
theorem d1_6 : decode K1 6 = .ok (.iconst 3, 1) := by decide +kernel
theorem d1_7 : decode K1 7 = .ok (.irem, 1) := by decide +kernel
theorem d1_8 : decode K1 8 = .ok (.iconst 1, 1) := by decide +kernel
theorem d1_9 : decode K1 9 = .ok (.iadd, 1) := by decide +kernel
theorem d1_10 : decode K1 10 = .ok (.ireturn, 1) := by decide +kernel
theorem pn_RouteTimesTimePinLaw : plainName "com/example/lanewright/lanewright/RouteTimesTimePinLaw" = true := by first | (simp [plainName, overriddenIn]; done) | decide +kernel
abbrev K61 : ByteArray := jdk_29_method_69_code
theorem d61_0 : decode K61 0 = .ok (.iload_n 0, 1) := by decide +kernel
theorem d61_1 : decode K61 1 = .ok (.iload_n 1, 1) := by decide +kernel
theorem d61_2 : decode K61 2 = .ok (.if_icmp .gt 7, 3) := by decide +kernel
theorem d61_9 : decode K61 9 = .ok (.iload_n 1, 1) := by decide +kernel
theorem d61_10 : decode K61 10 = .ok (.ireturn, 1) := by decide +kernel
theorem d61_5 : decode K61 5 = .ok (.iload_n 0, 1) := by decide +kernel
theorem d61_6 : decode K61 6 = .ok (.goto 4, 3) := by decide +kernel
theorem pf_61 : plainFor ⟨"java/lang/Math", "min", "(II)I"⟩ = true := by first | exact plainFor_of_name (by first | (simp [plainName, overriddenIn]; done) | decide +kernel) | decide +kernel
theorem ef_iirrr6 (m : MethodId) (x0 : Int32) (x1 : Int32) (x2 : Addr) (x3 : Addr) (x4 : Addr) : entryFrame m #[.int x0, .int x1, .ref x2, .ref x3, .ref x4] 6 = mkF m 0 #[.val (.int x0), .val (.int x1), .val (.ref x2), .val (.ref x3), .val (.ref x4), .unset] [] := by first | (simp [entryFrame, mkF, argsToLocals, Value.category, maxLocals]; done) | rfl
abbrev K60 : ByteArray := method_3_code
theorem d60_0 : decode K60 0 = .ok (.sipush 1000, 3) := by decide +kernel
theorem d60_3 : decode K60 3 = .ok (.istore 5, 2) := by decide +kernel
theorem d60_80 : decode K60 80 = .ok (.iload 5, 2) := by decide +kernel
theorem d60_82 : decode K60 82 = .ok (.ireturn, 1) := by decide +kernel
theorem d60_55 : decode K60 55 = .ok (.aload_n 2, 1) := by decide +kernel
theorem d60_56 : decode K60 56 = .ok (.iconst 2, 1) := by decide +kernel
theorem d60_57 : decode K60 57 = .ok (.iaload, 1) := by decide +kernel
theorem d60_58 : decode K60 58 = .ok (.iload_n 0, 1) := by decide +kernel
theorem d60_59 : decode K60 59 = .ok (.if_icmp .ne 21, 3) := by decide +kernel
theorem d60_62 : decode K60 62 = .ok (.aload_n 3, 1) := by decide +kernel
theorem d60_63 : decode K60 63 = .ok (.iconst 2, 1) := by decide +kernel
theorem d60_64 : decode K60 64 = .ok (.iaload, 1) := by decide +kernel
theorem d60_65 : decode K60 65 = .ok (.iload_n 1, 1) := by decide +kernel
theorem d60_66 : decode K60 66 = .ok (.if_icmp .ne 14, 3) := by decide +kernel
theorem d60_69 : decode K60 69 = .ok (.iload 5, 2) := by decide +kernel
theorem d60_71 : decode K60 71 = .ok (.aload 4, 2) := by decide +kernel
theorem d60_73 : decode K60 73 = .ok (.iconst 2, 1) := by decide +kernel
theorem d60_74 : decode K60 74 = .ok (.iaload, 1) := by decide +kernel
theorem d60_75 : decode K60 75 = .ok (.invokestatic 7, 3) := by decide +kernel
theorem d60_78 : decode K60 78 = .ok (.istore 5, 2) := by decide +kernel
theorem d60_30 : decode K60 30 = .ok (.aload_n 2, 1) := by decide +kernel
theorem d60_31 : decode K60 31 = .ok (.iconst 1, 1) := by decide +kernel
theorem d60_32 : decode K60 32 = .ok (.iaload, 1) := by decide +kernel
theorem d60_33 : decode K60 33 = .ok (.iload_n 0, 1) := by decide +kernel
theorem d60_34 : decode K60 34 = .ok (.if_icmp .ne 21, 3) := by decide +kernel
theorem d60_37 : decode K60 37 = .ok (.aload_n 3, 1) := by decide +kernel
theorem d60_38 : decode K60 38 = .ok (.iconst 1, 1) := by decide +kernel
theorem d60_39 : decode K60 39 = .ok (.iaload, 1) := by decide +kernel
theorem d60_40 : decode K60 40 = .ok (.iload_n 1, 1) := by decide +kernel
theorem d60_41 : decode K60 41 = .ok (.if_icmp .ne 14, 3) := by decide +kernel
theorem d60_44 : decode K60 44 = .ok (.iload 5, 2) := by decide +kernel
theorem d60_46 : decode K60 46 = .ok (.aload 4, 2) := by decide +kernel
theorem d60_48 : decode K60 48 = .ok (.iconst 1, 1) := by decide +kernel
theorem d60_49 : decode K60 49 = .ok (.iaload, 1) := by decide +kernel
theorem d60_50 : decode K60 50 = .ok (.invokestatic 7, 3) := by decide +kernel
theorem d60_53 : decode K60 53 = .ok (.istore 5, 2) := by decide +kernel
theorem d60_5 : decode K60 5 = .ok (.aload_n 2, 1) := by decide +kernel
theorem d60_6 : decode K60 6 = .ok (.iconst 0, 1) := by decide +kernel
theorem d60_7 : decode K60 7 = .ok (.iaload, 1) := by decide +kernel
theorem d60_8 : decode K60 8 = .ok (.iload_n 0, 1) := by decide +kernel
theorem d60_9 : decode K60 9 = .ok (.if_icmp .ne 21, 3) := by decide +kernel
theorem d60_12 : decode K60 12 = .ok (.aload_n 3, 1) := by decide +kernel
theorem d60_13 : decode K60 13 = .ok (.iconst 0, 1) := by decide +kernel
theorem d60_14 : decode K60 14 = .ok (.iaload, 1) := by decide +kernel
theorem d60_15 : decode K60 15 = .ok (.iload_n 1, 1) := by decide +kernel
theorem d60_16 : decode K60 16 = .ok (.if_icmp .ne 14, 3) := by decide +kernel
theorem d60_19 : decode K60 19 = .ok (.iload 5, 2) := by decide +kernel
theorem d60_21 : decode K60 21 = .ok (.aload 4, 2) := by decide +kernel
theorem d60_23 : decode K60 23 = .ok (.iconst 0, 1) := by decide +kernel
theorem d60_24 : decode K60 24 = .ok (.iaload, 1) := by decide +kernel
theorem d60_25 : decode K60 25 = .ok (.invokestatic 7, 3) := by decide +kernel
theorem d60_28 : decode K60 28 = .ok (.istore 5, 2) := by decide +kernel
abbrev K59 : ByteArray := prog_47_method_2_code
theorem d59_0 : decode K59 0 = .ok (.aload_n 0, 1) := by decide +kernel
theorem d59_1 : decode K59 1 = .ok (.getfield 64, 3) := by decide +kernel
theorem d59_4 : decode K59 4 = .ok (.aload_n 0, 1) := by decide +kernel
theorem d59_5 : decode K59 5 = .ok (.getfield 13, 3) := by decide +kernel
theorem d59_8 : decode K59 8 = .ok (.iload_n 1, 1) := by decide +kernel
theorem d59_9 : decode K59 9 = .ok (.iaload, 1) := by decide +kernel
theorem d59_10 : decode K59 10 = .ok (.aaload, 1) := by decide +kernel
theorem d59_11 : decode K59 11 = .ok (.aload_n 0, 1) := by decide +kernel
theorem d59_12 : decode K59 12 = .ok (.getfield 13, 3) := by decide +kernel
theorem d59_15 : decode K59 15 = .ok (.iload_n 2, 1) := by decide +kernel
theorem d59_16 : decode K59 16 = .ok (.iaload, 1) := by decide +kernel
theorem d59_17 : decode K59 17 = .ok (.daload, 1) := by decide +kernel
theorem d59_18 : decode K59 18 = .ok (.dreturn, 1) := by decide +kernel
theorem ef_0 (m : MethodId) (x0 : Int32) (x1 : Int32) (x2 : Int32) (x3 : Int32) : entryFrame m #[.int x0, .int x1, .int x2, .int x3] maxLocals = mkF m 0 #[.val (.int x0), .val (.int x1), .val (.int x2), .val (.int x3), .unset, .unset, .unset, .unset, .unset, .unset, .unset, .unset, .unset, .unset, .unset, .unset, .unset, .unset, .unset, .unset, .unset, .unset, .unset, .unset, .unset, .unset, .unset, .unset, .unset, .unset, .unset, .unset, .unset, .unset, .unset] [] := by first | (simp [entryFrame, mkF, argsToLocals, Value.category, maxLocals]; done) | rfl
theorem pd_25 : parseMethodDescriptor "(IIDDDD)V" = some ⟨[.int, .int, .double, .double, .double, .double], none⟩ := by decide +kernel
theorem pd_26 : parseMethodDescriptor "(Ljava/lang/Object;)Z" = some ⟨[(.object "java/lang/Object")], some .boolean⟩ := by decide +kernel
theorem pd_27 : parseMethodDescriptor "(IILjava/util/List;)V" = some ⟨[.int, .int, (.object "java/util/List")], none⟩ := by decide +kernel
theorem pd_28 : parseMethodDescriptor "(II)V" = some ⟨[.int, .int], none⟩ := by decide +kernel
theorem pd_29 : parseMethodDescriptor "(Lcom/example/lanewright/lanewright/Network;[DLjava/util/List;)V" = some ⟨[(.object "com/example/lanewright/lanewright/Network"), (.array .double), (.object "java/util/List")], none⟩ := by decide +kernel
theorem pd_30 : parseMethodDescriptor "(II)D" = some ⟨[.int, .int], some .double⟩ := by decide +kernel
theorem pd_31 : parseMethodDescriptor "(II[I[I[I)I" = some ⟨[.int, .int, (.array .int), (.array .int), (.array .int)], some .int⟩ := by decide +kernel
theorem c_ac (l : Launch) (Z : State) (a0 : Array Value) (hw : ∀ d ∈ tables_1, d.before a0 Z = true) (n0 : Nat) (a : Addr) (h0 : Heap) (F : List HRow) (H00 : Hp Z n0 h0 F) :
    Con l Z n0 ⟨"java/util/AbstractCollection", "<init>", "()V"⟩ [] jdk_22_method_1_code 1 none ({ frames := 1, cells := 0, slots := 0, locals := 12 } : Room) #[.ref a] h0 (fun v h => v = none ∧ Hp Z n0 h F) := by
  refine con_of pf_4 ?_
  intro p e s m below meth c T0 W0 e0
  subst e0
  have H0 := H00
  refine g_cast (ef_r1 m a) ?_
  refine g_aloadN W0 d4_0 (pc' := 1) rfl rfl rfl ?_
  refine g_initO W0 (wd_22 hw) (wd_23 hw) (wd_24 hw) H0 rfl d4_1 (pc' := 4) rfl (by decide) (Wn := 0) (Nat.le_of_eq rfl) (by decide) ?_
  intro T1 W1 H1
  exact g_return W1 d4_4 ⟨rfl, H1⟩ (by decide) (by decide)
theorem c_abl (l : Launch) (Z : State) (a0 : Array Value) (hw : ∀ d ∈ tables_1, d.before a0 Z = true) (n0 : Nat) (a : Addr) (h0 : Heap) (F : List HRow) (H00 : Hp Z n0 h0 ((a, o_ArrayList Z (.int (0 : Int32)) .null (.int (0 : Int32))) :: F)) :
    Con l Z n0 ⟨"java/util/AbstractList", "<init>", "()V"⟩ [] jdk_39_method_1_code 1 none ({ frames := 2, cells := 0, slots := 0, locals := 24 } : Room) #[.ref a] h0 (fun v h => v = none ∧ Hp Z n0 h ((a, o_ArrayList Z (.int (0 : Int32)) .null (.int (0 : Int32))) :: F)) := by
  refine con_of pf_3 ?_
  intro p e s m below meth c T0 W0 e0
  subst e0
  have H0 := H00
  refine g_cast (ef_r1 m a) ?_
  refine g_aloadN W0 d3_0 (pc' := 1) rfl rfl rfl ?_
  refine g_callI W0 (argsL := []) (st := []) rfl (wd_16 hw) (wd_17 hw) (wd_20 hw) (wd_21 hw) (by decide) (a := a) (c_ac l Z a0 hw n0 a _ _ H0) pd_0 rfl rfl rfl d3_1 (pc' := 4) rfl (by decide) (Wn := 0) (Nat.le_of_eq rfl) (by decide) (kc' := 0) (ks' := 0) rfl rfl (by decide) (by decide) ?_
  intro T1 v1 W1 hp1
  obtain ⟨rfl, H1⟩ := hp1
  show Goes _ _ _ _ (State.setTop _ (mkF _ _ _ []))
  refine g_aloadN W1 d3_4 (pc' := 5) rfl rfl rfl ?_
  refine g_iconst W1 d3_5 (pc' := 6) rfl (v := (0 : Int32)) (by decide) ?_
  refine g_putf W1 (wd_25 hw) Via.refl (Or.inl (wd_26 hw)) (wd_5 hw) (ty := .int) (by decide) rfl rfl H1 (i := 0) rfl (jx := 0) rfl d3_6 (pc' := 9) rfl (L' := ((a, o_ArrayList Z (.int (0 : Int32)) .null (.int (0 : Int32))) :: F)) rfl ?_
  intro T2 W2 H2
  exact g_return W2 d3_9 ⟨rfl, H2⟩ (by decide) (by decide)
theorem c_alini (l : Launch) (Z : State) (a0 : Array Value) (hw : ∀ d ∈ tables_1, d.before a0 Z = true) (n0 : Nat) (de : Addr) (dc : Cell) (hD : Sta Z Z.heap "java/util/ArrayList" "DEFAULTCAPACITY_EMPTY_ELEMENTDATA" "[Ljava/lang/Object;" (.ref de)) (hA : Arr Z Z.heap de dc (.object "java/lang/Object")) (hA0 : dc.slots.size.toInt32 = 0) (a : Addr) (h0 : Heap) (F : List HRow) (H00 : Hp Z n0 h0 ((a, o_ArrayList Z (.int (0 : Int32)) .null (.int (0 : Int32))) :: F)) :
    Con l Z n0 ⟨"java/util/ArrayList", "<init>", "()V"⟩ [] jdk_38_method_2_code 1 none ({ frames := 3, cells := 0, slots := 0, locals := 36 } : Room) #[.ref a] h0 (fun v h => v = none ∧ Hp Z n0 h ((a, o_ArrayList Z (.int (0 : Int32)) (.ref de) (.int (0 : Int32))) :: F)) := by
  refine con_of pf_2 ?_
  intro p e s m below meth c T0 W0 e0
  subst e0
  have H0 := H00
  refine g_cast (ef_r1 m a) ?_
  refine g_aloadN W0 d2_0 (pc' := 1) rfl rfl rfl ?_
  refine g_callI W0 (argsL := []) (st := []) rfl (wd_10 hw) (wd_11 hw) (wd_14 hw) (wd_15 hw) (by decide) (a := a) (c_abl l Z a0 hw n0 a _ _ H0) pd_0 rfl rfl rfl d2_1 (pc' := 4) rfl (by decide) (Wn := 0) (Nat.le_of_eq rfl) (by decide) (kc' := 0) (ks' := 0) rfl rfl (by decide) (by decide) ?_
  intro T1 v1 W1 hp1
  obtain ⟨rfl, H1⟩ := hp1
  show Goes _ _ _ _ (State.setTop _ (mkF _ _ _ []))
  refine g_aloadN W1 d2_4 (pc' := 5) rfl rfl rfl ?_
  refine g_getS W1 (wd_27 hw) Via.refl hD H1 d2_5 (pc' := 8) rfl ?_
  intro T2 W2 _ H2
  refine g_putf W2 (wd_28 hw) Via.refl (Or.inl (wd_29 hw)) (wd_5 hw) (ty := (.array (.object "java/lang/Object"))) (by decide) rfl rfl H2 (i := 0) rfl (jx := 1) rfl d2_8 (pc' := 11) rfl (L' := ((a, o_ArrayList Z (.int (0 : Int32)) (.ref de) (.int (0 : Int32))) :: F)) rfl ?_
  intro T3 W3 H3
  exact g_return W3 d2_11 ⟨rfl, H3⟩ (by decide) (by decide)
theorem c_max (l : Launch) (Z : State) (a0 : Array Value) (hw : ∀ d ∈ tables_1, d.before a0 Z = true) (n0 : Nat)  (h0 : Heap) (F : List HRow) (H00 : Hp Z n0 h0 F) :
    Con l Z n0 ⟨"java/lang/Math", "max", "(II)I"⟩ [] jdk_29_method_65_code 2 (some .int) ({ frames := 0, cells := 0, slots := 0, locals := 0 } : Room) #[.int (10 : Int32), .int (1 : Int32)] h0 (fun v h => v = some (.int 10) ∧ Hp Z n0 h F) := by
  refine con_of pf_12 ?_
  intro p e s m below meth c T0 W0 e0
  subst e0
  have H0 := H00
  refine g_cast (ef_ii2 m (10 : Int32) (1 : Int32)) ?_
  refine g_iloadN W0 d12_0 (pc' := 1) rfl rfl ?_
  refine g_iloadN W0 d12_1 (pc' := 2) rfl rfl ?_
  refine g_icmp W0 d12_2 (pcy := 9) (by decide) (pc' := 5) rfl (fun (h : (10 : Int32) < (1 : Int32)) => absurd h (by decide)) (fun _ => ?_)
  refine g_iloadN W0 d12_5 (pc' := 6) rfl rfl ?_
  refine g_goto W0 d12_6 (pc' := 10) (by decide) ?_
  exact g_ireturn W0 d12_10 ⟨rfl, H0⟩ (by decide) (by decide)
theorem c_growI (l : Launch) (Z : State) (a0 : Array Value) (hw : ∀ d ∈ tables_1, d.before a0 Z = true) (n0 : Nat) (de : Addr) (dc : Cell) (hD : Sta Z Z.heap "java/util/ArrayList" "DEFAULTCAPACITY_EMPTY_ELEMENTDATA" "[Ljava/lang/Object;" (.ref de)) (hA : Arr Z Z.heap de dc (.object "java/lang/Object")) (hA0 : dc.slots.size.toInt32 = 0) (a : Addr) (mc : Int32) (h0 : Heap) (F : List HRow) (H00 : Hp Z n0 h0 ((a, o_ArrayList Z (.int mc) (.ref de) (.int (0 : Int32))) :: F)) :
    Con l Z n0 ⟨"java/util/ArrayList", "grow", "(I)[Ljava/lang/Object;"⟩ [] jdk_38_method_6_code 4 (some (.array (.object "java/lang/Object"))) ({ frames := 1, cells := 1, slots := 10, locals := 14 } : Room) #[.ref a, .int (1 : Int32)] h0 (fun v h => ∃ el, v = some (.ref el) ∧ Hp Z n0 h ((el, RaC Z "java/lang/Object" (List.replicate 10 Value.null)) :: (a, o_ArrayList Z (.int mc) (.ref el) (.int (0 : Int32))) :: F)) := by
  refine con_of pf_11 ?_
  intro p e s m below meth c T0 W0 e0
  subst e0
  have H0 := H00
  refine g_cast (ef_ri4 m a (1 : Int32)) ?_
  refine g_aloadN W0 d11_0 (pc' := 1) rfl rfl rfl ?_
  refine g_getf W0 (wd_28 hw) Via.refl H0 (i := 0) rfl (jx := 1) rfl d11_1 (pc' := 4) rfl ?_
  intro T1 W1 H1
  refine g_arrlenF W1 (cl := dc) ⟨H1.old.2 _ _ hA.1, hA.2⟩ (x := (0 : Int32)) hA0 d11_4 (pc' := 5) rfl ?_
  refine g_istoreN W1 d11_5 (pc' := 6) rfl (ls' := #[.val (.ref a), .val (.int (1 : Int32)), .val (.int (0 : Int32)), .unset]) rfl ?_
  refine g_iloadN W1 d11_6 (pc' := 7) rfl rfl ?_
  refine g_if W1 d11_7 (pcy := 20) (by decide) (pc' := 10) rfl (fun (h : (0 : Int32) < (0 : Int32)) => absurd h (by decide)) (fun _ => ?_)
  refine g_aloadN W1 d11_10 (pc' := 11) rfl rfl rfl ?_
  refine g_getf W1 (wd_28 hw) Via.refl H1 (i := 0) rfl (jx := 1) rfl d11_11 (pc' := 14) rfl ?_
  intro T2 W2 H2
  refine g_getS W2 (wd_27 hw) Via.refl hD H2 d11_14 (pc' := 17) rfl ?_
  intro T3 W3 _ H3
  refine g_acmpY W3 rfl rfl (acmp_same _) d11_17 (pcy := 45) (by decide) ?_
  refine g_aloadN W3 d11_45 (pc' := 46) rfl rfl rfl ?_
  refine g_bipush W3 d11_46 (pc' := 48) rfl (v := (10 : Int32)) (by decide) ?_
  refine g_iloadN W3 d11_48 (pc' := 49) rfl rfl ?_
  refine g_callS W3 (argsL := [.int (10 : Int32), .int (1 : Int32)]) (st := [.ref a]) (wd_82 hw) (wd_83 hw) (wd_84 hw) (wd_85 hw) (by decide) (c_max l Z a0 hw n0 _ _ H3) pd_1 rfl rfl rfl d11_49 (pc' := 52) rfl (by decide) (Wn := 1) (Nat.le_of_eq rfl) (by decide) (kc' := 0) (ks' := 0) rfl rfl (by decide) (by decide) ?_
  intro T4 v4 W4 hp4
  obtain ⟨rfl, H4⟩ := hp4
  show Goes _ _ _ _ (State.setTop _ (mkF _ _ _ [.int (10 : Int32), .ref a]))
  refine g_anewarr W4 (wd_86 hw) (wd_87 hw) H4 (by decide) (vs := (List.replicate 10 Value.null)) rfl (cap := 10) (by decide) (by decide) d11_52 (pc' := 55) rfl (kc' := 1) (ks' := 10) rfl rfl (by decide) (by decide) ?_
  intro T5 a5 W5 H5
  refine g_dup_x1 W5 d11_55 (pc' := 56) rfl rfl rfl ?_
  refine g_putf W5 (wd_28 hw) Via.refl (Or.inl (wd_29 hw)) (wd_5 hw) (ty := (.array (.object "java/lang/Object"))) (by decide) rfl rfl H5 (i := 1) rfl (jx := 1) rfl d11_56 (pc' := 59) rfl (L' := ((a5, RaC Z "java/lang/Object" (List.replicate 10 Value.null)) :: (a, o_ArrayList Z (.int mc) (.ref a5) (.int (0 : Int32))) :: F)) rfl ?_
  intro T6 W6 H6
  exact g_areturn W6 rfl rfl d11_59 ⟨_, rfl, H6⟩ (by decide) (by decide)
theorem c_grow (l : Launch) (Z : State) (a0 : Array Value) (hw : ∀ d ∈ tables_1, d.before a0 Z = true) (n0 : Nat) (de : Addr) (dc : Cell) (hD : Sta Z Z.heap "java/util/ArrayList" "DEFAULTCAPACITY_EMPTY_ELEMENTDATA" "[Ljava/lang/Object;" (.ref de)) (hA : Arr Z Z.heap de dc (.object "java/lang/Object")) (hA0 : dc.slots.size.toInt32 = 0) (a : Addr) (mc : Int32) (h0 : Heap) (F : List HRow) (H00 : Hp Z n0 h0 ((a, o_ArrayList Z (.int mc) (.ref de) (.int (0 : Int32))) :: F)) :
    Con l Z n0 ⟨"java/util/ArrayList", "grow", "()[Ljava/lang/Object;"⟩ [] jdk_38_method_7_code 1 (some (.array (.object "java/lang/Object"))) ({ frames := 2, cells := 1, slots := 10, locals := 29 } : Room) #[.ref a] h0 (fun v h => ∃ el, v = some (.ref el) ∧ Hp Z n0 h ((el, RaC Z "java/lang/Object" (List.replicate 10 Value.null)) :: (a, o_ArrayList Z (.int mc) (.ref el) (.int (0 : Int32))) :: F)) := by
  refine con_of pf_10 ?_
  intro p e s m below meth c T0 W0 e0
  subst e0
  have H0 := H00
  refine g_cast (ef_r1 m a) ?_
  refine g_aloadN W0 d10_0 (pc' := 1) rfl rfl rfl ?_
  refine g_aloadN W0 d10_1 (pc' := 2) rfl rfl rfl ?_
  refine g_getf W0 (wd_65 hw) Via.refl H0 (i := 0) rfl (jx := 2) rfl d10_2 (pc' := 5) rfl ?_
  intro T1 W1 H1
  refine g_iconst W1 d10_5 (pc' := 6) rfl (v := (1 : Int32)) (by decide) ?_
  refine g_iadd W1 d10_6 (pc' := 7) rfl (v := (1 : Int32)) (by decide) ?_
  refine g_callP W1 (argsL := [.int (1 : Int32)]) (st := []) (wd_77 hw) (wd_78 hw) (wd_79 hw) (wd_5 hw) (wd_6 hw) (wd_81 hw) (by decide) (a := a) H1 (i := 0) rfl (c_growI l Z a0 hw n0 de dc hD hA hA0 a mc _ _ H1) pd_2 rfl rfl rfl d10_7 (pc' := 10) rfl (by decide) (Wn := 0) (Nat.le_of_eq rfl) (by decide) (kc' := 1) (ks' := 10) rfl rfl (by decide) (by decide) ?_
  intro T2 v2 W2 hp2
  obtain ⟨e1, rfl, H2⟩ := hp2
  show Goes _ _ _ _ (State.setTop _ (mkF _ _ _ [.ref e1]))
  exact g_areturn W2 rfl rfl d10_10 ⟨_, rfl, H2⟩ (by decide) (by decide)
theorem c_add20 (l : Launch) (Z : State) (a0 : Array Value) (hw : ∀ d ∈ tables_1, d.before a0 Z = true) (n0 : Nat) (de : Addr) (dc : Cell) (hD : Sta Z Z.heap "java/util/ArrayList" "DEFAULTCAPACITY_EMPTY_ELEMENTDATA" "[Ljava/lang/Object;" (.ref de)) (hA : Arr Z Z.heap de dc (.object "java/lang/Object")) (hA0 : dc.slots.size.toInt32 = 0) (a : Addr) (mc : Int32) (F : List HRow) (d : Addr) (dfs : List FR) (hd : ∀ (h : Heap) (L : List HRow), Hp Z n0 h L → (∀ r ∈ F, r ∈ L) → Ins Z h d "java/lang/Object" true)  (h0 : Heap) (H00 : Hp Z n0 h0 ((a, o_ArrayList Z (.int mc) (.ref de) (.int (0 : Int32))) :: F)) :
    Con l Z n0 ⟨"java/util/ArrayList", "add", "(Ljava/lang/Object;[Ljava/lang/Object;I)V"⟩ [] jdk_38_method_24_code 4 none ({ frames := 3, cells := 1, slots := 10, locals := 41 } : Room) #[.ref a, .ref d, .ref de, .int (0 : Int32)] h0 (fun v h => ∃ el, v = none ∧ Hp Z n0 h ((el, RaC Z "java/lang/Object" ((List.replicate 10 Value.null).set 0 (.ref d))) :: (a, o_ArrayList Z (.int mc) (.ref el) (.int (1 : Int32))) :: F)) := by
  refine con_of pf_9 ?_
  intro p e s m below meth c T0 W0 e0
  subst e0
  have H0 := H00
  refine g_cast (ef_rrri4 m a d de (0 : Int32)) ?_
  refine g_iloadN W0 d9_0 (pc' := 1) rfl rfl ?_
  refine g_aloadN W0 d9_1 (pc' := 2) rfl rfl rfl ?_
  refine g_arrlenF W0 (cl := dc) ⟨H0.old.2 _ _ hA.1, hA.2⟩ (x := (0 : Int32)) hA0 d9_2 (pc' := 3) rfl ?_
  refine g_icmp W0 d9_3 (pcy := 11) (by decide) (pc' := 6) rfl (fun (h : ¬ (0 : Int32) = (0 : Int32)) => absurd h (by decide)) (fun _ => ?_)
  refine g_aloadN W0 d9_6 (pc' := 7) rfl rfl rfl ?_
  refine g_callP W0 (argsL := []) (st := []) (wd_72 hw) (wd_73 hw) (wd_74 hw) (wd_5 hw) (wd_6 hw) (wd_76 hw) (by decide) (a := a) H0 (i := 0) rfl (c_grow l Z a0 hw n0 de dc hD hA hA0 a mc _ _ H0) pd_3 rfl rfl rfl d9_7 (pc' := 10) rfl (by decide) (Wn := 0) (Nat.le_of_eq rfl) (by decide) (kc' := 1) (ks' := 10) rfl rfl (by decide) (by decide) ?_
  intro T1 v1 W1 hp1
  obtain ⟨e1, rfl, H1⟩ := hp1
  show Goes _ _ _ _ (State.setTop _ (mkF _ _ _ [.ref e1]))
  refine g_astoreN W1 d9_10 (pc' := 11) rfl rfl (ls' := #[.val (.ref a), .val (.ref d), .val (.ref e1), .val (.int (0 : Int32))]) rfl ?_
  refine g_aloadN W1 d9_11 (pc' := 12) rfl rfl rfl ?_
  refine g_iloadN W1 d9_12 (pc' := 13) rfl rfl ?_
  refine g_aloadN W1 d9_13 (pc' := 14) rfl rfl rfl ?_
  refine g_aastore W1 H1 (i := 0) rfl (hd _ _ H1 (fun r hr => (mc2 hr))) (jx := 0) (by decide) (by decide) d9_14 (pc' := 15) rfl (L' := ((e1, RaC Z "java/lang/Object" ((List.replicate 10 Value.null).set 0 (.ref d))) :: (a, o_ArrayList Z (.int mc) (.ref e1) (.int (0 : Int32))) :: F)) rfl ?_
  intro T2 W2 H2
  refine g_aloadN W2 d9_15 (pc' := 16) rfl rfl rfl ?_
  refine g_iloadN W2 d9_16 (pc' := 17) rfl rfl ?_
  refine g_iconst W2 d9_17 (pc' := 18) rfl (v := (1 : Int32)) (by decide) ?_
  refine g_iadd W2 d9_18 (pc' := 19) rfl (v := (1 : Int32)) (by decide) ?_
  refine g_putf W2 (wd_65 hw) Via.refl (Or.inl (wd_66 hw)) (wd_5 hw) (ty := .int) (by decide) rfl rfl H2 (i := 1) rfl (jx := 2) rfl d9_19 (pc' := 22) rfl (L' := ((e1, RaC Z "java/lang/Object" ((List.replicate 10 Value.null).set 0 (.ref d))) :: (a, o_ArrayList Z (.int mc) (.ref e1) (.int (1 : Int32))) :: F)) rfl ?_
  intro T3 W3 H3
  exact g_return W3 d9_22 ⟨_, rfl, H3⟩ (by decide) (by decide)
theorem c_add10 (l : Launch) (Z : State) (a0 : Array Value) (hw : ∀ d ∈ tables_1, d.before a0 Z = true) (n0 : Nat) (de : Addr) (dc : Cell) (hD : Sta Z Z.heap "java/util/ArrayList" "DEFAULTCAPACITY_EMPTY_ELEMENTDATA" "[Ljava/lang/Object;" (.ref de)) (hA : Arr Z Z.heap de dc (.object "java/lang/Object")) (hA0 : dc.slots.size.toInt32 = 0) (a : Addr) (mc : Int32) (F : List HRow) (d : Addr) (dfs : List FR) (hd : ∀ (h : Heap) (L : List HRow), Hp Z n0 h L → (∀ r ∈ F, r ∈ L) → Ins Z h d "java/lang/Object" true)  (h0 : Heap) (H00 : Hp Z n0 h0 ((a, o_ArrayList Z (.int mc) (.ref de) (.int (0 : Int32))) :: F)) :
    Con l Z n0 ⟨"java/util/ArrayList", "add", "(Ljava/lang/Object;)Z"⟩ [] jdk_38_method_25_code 2 (some .boolean) ({ frames := 4, cells := 1, slots := 10, locals := 56 } : Room) #[.ref a, .ref d] h0 (fun v h => ∃ el, v = some (.int 1) ∧ Hp Z n0 h ((el, RaC Z "java/lang/Object" ((List.replicate 10 Value.null).set 0 (.ref d))) :: (a, o_ArrayList Z (.int (mc + (1 : Int32))) (.ref el) (.int (1 : Int32))) :: F)) := by
  refine con_of pf_8 ?_
  intro p e s m below meth c T0 W0 e0
  subst e0
  have H0 := H00
  refine g_cast (ef_rr2 m a d) ?_
  refine g_aloadN W0 d8_0 (pc' := 1) rfl rfl rfl ?_
  refine g_dup W0 d8_1 (pc' := 2) rfl rfl ?_
  refine g_getf W0 (wd_63 hw) (Via.of (wd_64 hw)) H0 (i := 0) rfl (jx := 0) rfl d8_2 (pc' := 5) rfl ?_
  intro T1 W1 H1
  refine g_iconst W1 d8_5 (pc' := 6) rfl (v := (1 : Int32)) (by decide) ?_
  refine g_iadd W1 d8_6 (pc' := 7) rfl rfl ?_
  refine g_putf W1 (wd_63 hw) (Via.of (wd_64 hw)) (Or.inl (wd_26 hw)) (wd_5 hw) (ty := .int) (by decide) rfl rfl H1 (i := 0) rfl (jx := 0) rfl d8_7 (pc' := 10) rfl (L' := ((a, o_ArrayList Z (.int (mc + (1 : Int32))) (.ref de) (.int (0 : Int32))) :: F)) rfl ?_
  intro T2 W2 H2
  refine g_aloadN W2 d8_10 (pc' := 11) rfl rfl rfl ?_
  refine g_aloadN W2 d8_11 (pc' := 12) rfl rfl rfl ?_
  refine g_aloadN W2 d8_12 (pc' := 13) rfl rfl rfl ?_
  refine g_getf W2 (wd_28 hw) Via.refl H2 (i := 0) rfl (jx := 1) rfl d8_13 (pc' := 16) rfl ?_
  intro T3 W3 H3
  refine g_aloadN W3 d8_16 (pc' := 17) rfl rfl rfl ?_
  refine g_getf W3 (wd_65 hw) Via.refl H3 (i := 0) rfl (jx := 2) rfl d8_17 (pc' := 20) rfl ?_
  intro T4 W4 H4
  refine g_callP W4 (argsL := [.ref d, .ref de, .int (0 : Int32)]) (st := []) (wd_67 hw) (wd_68 hw) (wd_69 hw) (wd_5 hw) (wd_6 hw) (wd_71 hw) (by decide) (a := a) H4 (i := 0) rfl (c_add20 l Z a0 hw n0 de dc hD hA hA0 a (mc + (1 : Int32)) _ d dfs hd _ H4) pd_4 rfl rfl rfl d8_20 (pc' := 23) rfl (by decide) (Wn := 0) (Nat.le_of_eq rfl) (by decide) (kc' := 1) (ks' := 10) rfl rfl (by decide) (by decide) ?_
  intro T5 v5 W5 hp5
  obtain ⟨e1, rfl, H5⟩ := hp5
  show Goes _ _ _ _ (State.setTop _ (mkF _ _ _ []))
  refine g_iconst W5 d8_23 (pc' := 24) rfl (v := (1 : Int32)) (by decide) ?_
  exact g_zreturn W5 (by decide) d8_24 ⟨_, rfl, H5⟩ (by decide) (by decide)
theorem c_add21 (l : Launch) (Z : State) (a0 : Array Value) (hw : ∀ d ∈ tables_1, d.before a0 Z = true) (n0 : Nat) (a : Addr) (mc : Int32) (F : List HRow) (d : Addr) (dfs : List FR) (hd : ∀ (h : Heap) (L : List HRow), Hp Z n0 h L → (∀ r ∈ F, r ∈ L) → Ins Z h d "java/lang/Object" true) (el : Addr) (vs : List Value) (sz : Int32) (jx : Nat) (hlen : vs.length.toInt32 = 10) (hne : ¬ sz = 10) (hjx : sz.toInt = (jx : Int)) (hlt : jx < vs.length)  (h0 : Heap) (H00 : Hp Z n0 h0 ((a, o_ArrayList Z (.int mc) (.ref el) (.int sz)) :: (el, RaC Z "java/lang/Object" vs) :: F)) :
    Con l Z n0 ⟨"java/util/ArrayList", "add", "(Ljava/lang/Object;[Ljava/lang/Object;I)V"⟩ [] jdk_38_method_24_code 4 none ({ frames := 0, cells := 0, slots := 0, locals := 0 } : Room) #[.ref a, .ref d, .ref el, .int sz] h0 (fun v h => v = none ∧ Hp Z n0 h ((a, o_ArrayList Z (.int mc) (.ref el) (.int (sz + (1 : Int32)))) :: (el, RaC Z "java/lang/Object" (vs.set jx (.ref d))) :: F)) := by
  refine con_of pf_9 ?_
  intro p e s m below meth c T0 W0 e0
  subst e0
  have H0 := H00
  refine g_cast (ef_rrri4 m a d el sz) ?_
  refine g_iloadN W0 d9_0 (pc' := 1) rfl rfl ?_
  refine g_aloadN W0 d9_1 (pc' := 2) rfl rfl rfl ?_
  refine g_arrlenR W0 H0 (i := 1) rfl (x := (10 : Int32)) hlen d9_2 (pc' := 3) rfl ?_
  refine g_icmp W0 d9_3 (pcy := 11) (by decide) (pc' := 6) rfl (fun (_ : ¬ sz = (10 : Int32)) => ?_) (fun (h : ¬ ¬ sz = (10 : Int32)) => absurd hne h)
  refine g_aloadN W0 d9_11 (pc' := 12) rfl rfl rfl ?_
  refine g_iloadN W0 d9_12 (pc' := 13) rfl rfl ?_
  refine g_aloadN W0 d9_13 (pc' := 14) rfl rfl rfl ?_
  refine g_aastore W0 H0 (i := 1) rfl (hd _ _ H0 (fun r hr => (mc2 hr))) (jx := jx) hjx hlt d9_14 (pc' := 15) rfl (L' := ((a, o_ArrayList Z (.int mc) (.ref el) (.int sz)) :: (el, RaC Z "java/lang/Object" (vs.set jx (.ref d))) :: F)) rfl ?_
  intro T1 W1 H1
  refine g_aloadN W1 d9_15 (pc' := 16) rfl rfl rfl ?_
  refine g_iloadN W1 d9_16 (pc' := 17) rfl rfl ?_
  refine g_iconst W1 d9_17 (pc' := 18) rfl (v := (1 : Int32)) (by decide) ?_
  refine g_iadd W1 d9_18 (pc' := 19) rfl rfl ?_
  refine g_putf W1 (wd_65 hw) Via.refl (Or.inl (wd_66 hw)) (wd_5 hw) (ty := .int) (by decide) rfl rfl H1 (i := 0) rfl (jx := 2) rfl d9_19 (pc' := 22) rfl (L' := ((a, o_ArrayList Z (.int mc) (.ref el) (.int (sz + (1 : Int32)))) :: (el, RaC Z "java/lang/Object" (vs.set jx (.ref d))) :: F)) rfl ?_
  intro T2 W2 H2
  exact g_return W2 d9_22 ⟨rfl, H2⟩ (by decide) (by decide)
theorem c_add11 (l : Launch) (Z : State) (a0 : Array Value) (hw : ∀ d ∈ tables_1, d.before a0 Z = true) (n0 : Nat) (a : Addr) (mc : Int32) (F : List HRow) (d : Addr) (dfs : List FR) (hd : ∀ (h : Heap) (L : List HRow), Hp Z n0 h L → (∀ r ∈ F, r ∈ L) → Ins Z h d "java/lang/Object" true) (el : Addr) (vs : List Value) (sz : Int32) (jx : Nat) (hlen : vs.length.toInt32 = 10) (hne : ¬ sz = 10) (hjx : sz.toInt = (jx : Int)) (hlt : jx < vs.length)  (h0 : Heap) (H00 : Hp Z n0 h0 ((a, o_ArrayList Z (.int mc) (.ref el) (.int sz)) :: (el, RaC Z "java/lang/Object" vs) :: F)) :
    Con l Z n0 ⟨"java/util/ArrayList", "add", "(Ljava/lang/Object;)Z"⟩ [] jdk_38_method_25_code 2 (some .boolean) ({ frames := 1, cells := 0, slots := 0, locals := 15 } : Room) #[.ref a, .ref d] h0 (fun v h => v = some (.int 1) ∧ Hp Z n0 h ((a, o_ArrayList Z (.int (mc + (1 : Int32))) (.ref el) (.int (sz + (1 : Int32)))) :: (el, RaC Z "java/lang/Object" (vs.set jx (.ref d))) :: F)) := by
  refine con_of pf_8 ?_
  intro p e s m below meth c T0 W0 e0
  subst e0
  have H0 := H00
  refine g_cast (ef_rr2 m a d) ?_
  refine g_aloadN W0 d8_0 (pc' := 1) rfl rfl rfl ?_
  refine g_dup W0 d8_1 (pc' := 2) rfl rfl ?_
  refine g_getf W0 (wd_63 hw) (Via.of (wd_64 hw)) H0 (i := 0) rfl (jx := 0) rfl d8_2 (pc' := 5) rfl ?_
  intro T1 W1 H1
  refine g_iconst W1 d8_5 (pc' := 6) rfl (v := (1 : Int32)) (by decide) ?_
  refine g_iadd W1 d8_6 (pc' := 7) rfl rfl ?_
  refine g_putf W1 (wd_63 hw) (Via.of (wd_64 hw)) (Or.inl (wd_26 hw)) (wd_5 hw) (ty := .int) (by decide) rfl rfl H1 (i := 0) rfl (jx := 0) rfl d8_7 (pc' := 10) rfl (L' := ((a, o_ArrayList Z (.int (mc + (1 : Int32))) (.ref el) (.int sz)) :: (el, RaC Z "java/lang/Object" vs) :: F)) rfl ?_
  intro T2 W2 H2
  refine g_aloadN W2 d8_10 (pc' := 11) rfl rfl rfl ?_
  refine g_aloadN W2 d8_11 (pc' := 12) rfl rfl rfl ?_
  refine g_aloadN W2 d8_12 (pc' := 13) rfl rfl rfl ?_
  refine g_getf W2 (wd_28 hw) Via.refl H2 (i := 0) rfl (jx := 1) rfl d8_13 (pc' := 16) rfl ?_
  intro T3 W3 H3
  refine g_aloadN W3 d8_16 (pc' := 17) rfl rfl rfl ?_
  refine g_getf W3 (wd_65 hw) Via.refl H3 (i := 0) rfl (jx := 2) rfl d8_17 (pc' := 20) rfl ?_
  intro T4 W4 H4
  refine g_callP W4 (argsL := [.ref d, .ref el, .int sz]) (st := []) (wd_67 hw) (wd_68 hw) (wd_69 hw) (wd_5 hw) (wd_6 hw) (wd_71 hw) (by decide) (a := a) H4 (i := 0) rfl (c_add21 l Z a0 hw n0 a (mc + (1 : Int32)) _ d dfs hd el vs sz jx hlen hne hjx hlt _ H4) pd_4 rfl rfl rfl d8_20 (pc' := 23) rfl (by decide) (Wn := 0) (Nat.le_of_eq rfl) (by decide) (kc' := 0) (ks' := 0) rfl rfl (by decide) (by decide) ?_
  intro T5 v5 W5 hp5
  obtain ⟨rfl, H5⟩ := hp5
  show Goes _ _ _ _ (State.setTop _ (mkF _ _ _ []))
  refine g_iconst W5 d8_23 (pc' := 24) rfl (v := (1 : Int32)) (by decide) ?_
  exact g_zreturn W5 (by decide) d8_24 ⟨rfl, H5⟩ (by decide) (by decide)
theorem c_size (l : Launch) (Z : State) (a0 : Array Value) (hw : ∀ d ∈ tables_1, d.before a0 Z = true) (n0 : Nat) (a el : Addr) (mc sz : Int32) (h0 : Heap) (F : List HRow) (H00 : Hp Z n0 h0 ((a, o_ArrayList Z (.int mc) (.ref el) (.int sz)) :: F)) :
    Con l Z n0 ⟨"java/util/ArrayList", "size", "()I"⟩ [] jdk_38_method_8_code 1 (some .int) ({ frames := 0, cells := 0, slots := 0, locals := 0 } : Room) #[.ref a] h0 (fun v h => v = some (.int sz) ∧ Hp Z n0 h ((a, o_ArrayList Z (.int mc) (.ref el) (.int sz)) :: F)) := by
  refine con_of pf_14 ?_
  intro p e s m below meth c T0 W0 e0
  subst e0
  have H0 := H00
  refine g_cast (ef_r1 m a) ?_
  refine g_aloadN W0 d14_0 (pc' := 1) rfl rfl rfl ?_
  refine g_getf W0 (wd_65 hw) Via.refl H0 (i := 0) rfl (jx := 2) rfl d14_1 (pc' := 4) rfl ?_
  intro T1 W1 H1
  exact g_ireturn W1 d14_4 ⟨rfl, H1⟩ (by decide) (by decide)
theorem c_prei (l : Launch) (Z : State) (a0 : Array Value) (hw : ∀ d ∈ tables_1, d.before a0 Z = true) (n0 : Nat) (i n : Int32) (hi0 : ¬ i < 0) (hlt : i < n) (h0 : Heap) (F : List HRow) (H00 : Hp Z n0 h0 F) :
    Con l Z n0 ⟨"jdk/internal/util/Preconditions", "checkIndex", "(IILjava/util/function/BiFunction;)I"⟩ [] jdk_41_method_11_code 3 (some .int) ({ frames := 0, cells := 0, slots := 0, locals := 0 } : Room) #[.int i, .int n, .null] h0 (fun v h => v = some (.int i) ∧ Hp Z n0 h F) := by
  refine con_of (plainFor_of_name pn_Preconditions) ?_
  intro p e s m below meth c T0 W0 e0
  subst e0
  have H0 := H00
  refine g_cast (ef_iin3 m i n) ?_
  refine g_iloadN W0 d17_0 (pc' := 1) rfl rfl ?_
  refine g_if W0 d17_1 (pcy := 9) (by decide) (pc' := 4) rfl (fun (h : i < (0 : Int32)) => absurd h hi0) (fun (_ : ¬ i < (0 : Int32)) => ?_)
  refine g_iloadN W0 d17_4 (pc' := 5) rfl rfl ?_
  refine g_iloadN W0 d17_5 (pc' := 6) rfl rfl ?_
  refine g_icmp W0 d17_6 (pcy := 16) (by decide) (pc' := 9) rfl (fun (_ : i < n) => ?_) (fun (h : ¬ i < n) => absurd hlt h)
  refine g_iloadN W0 d17_16 (pc' := 17) rfl rfl ?_
  exact g_ireturn W0 d17_17 ⟨rfl, H0⟩ (by decide) (by decide)
theorem c_chk (l : Launch) (Z : State) (a0 : Array Value) (hw : ∀ d ∈ tables_1, d.before a0 Z = true) (n0 : Nat) (i n : Int32) (hi0 : ¬ i < 0) (hlt : i < n) (h0 : Heap) (F : List HRow) (H00 : Hp Z n0 h0 F) :
    Con l Z n0 ⟨"java/util/Objects", "checkIndex", "(II)I"⟩ [] jdk_31_method_17_code 2 (some .int) ({ frames := 1, cells := 0, slots := 0, locals := 14 } : Room) #[.int i, .int n] h0 (fun v h => v = some (.int i) ∧ Hp Z n0 h F) := by
  refine con_of pf_16 ?_
  intro p e s m below meth c T0 W0 e0
  subst e0
  have H0 := H00
  refine g_cast (ef_ii2 m i n) ?_
  refine g_iloadN W0 d16_0 (pc' := 1) rfl rfl ?_
  refine g_iloadN W0 d16_1 (pc' := 2) rfl rfl ?_
  refine g_aconst_null W0 d16_2 (pc' := 3) rfl ?_
  refine g_callS W0 (argsL := [.int i, .int n, .null]) (st := []) (wd_136 hw) (wd_137 hw) (wd_138 hw) (wd_139 hw) (by decide) (c_prei l Z a0 hw n0 i n hi0 hlt _ _ H0) pd_5 rfl rfl rfl d16_3 (pc' := 6) rfl (by decide) (Wn := 0) (Nat.le_of_eq rfl) (by decide) (kc' := 0) (ks' := 0) rfl rfl (by decide) (by decide) ?_
  intro T1 v1 W1 hp1
  obtain ⟨rfl, H1⟩ := hp1
  show Goes _ _ _ _ (State.setTop _ (mkF _ _ _ [.int i]))
  exact g_ireturn W1 d16_6 ⟨rfl, H1⟩ (by decide) (by decide)
theorem c_eld (l : Launch) (Z : State) (a0 : Array Value) (hw : ∀ d ∈ tables_1, d.before a0 Z = true) (n0 : Nat) (a el : Addr) (mc sz i : Int32) (vs : List Value) (d : Addr) (jx : Nat) (hjx : i.toInt = (jx : Int)) (hv : vs[jx]? = some (.ref d)) (h0 : Heap) (F : List HRow) (H00 : Hp Z n0 h0 ((a, o_ArrayList Z (.int mc) (.ref el) (.int sz)) :: (el, RaC Z "java/lang/Object" vs) :: F)) :
    Con l Z n0 ⟨"java/util/ArrayList", "elementData", "(I)Ljava/lang/Object;"⟩ [] jdk_38_method_18_code 2 (some (.object "java/lang/Object")) ({ frames := 0, cells := 0, slots := 0, locals := 0 } : Room) #[.ref a, .int i] h0 (fun v h => v = some (.ref d) ∧ Hp Z n0 h ((a, o_ArrayList Z (.int mc) (.ref el) (.int sz)) :: (el, RaC Z "java/lang/Object" vs) :: F)) := by
  refine con_of pf_18 ?_
  intro p e s m below meth c T0 W0 e0
  subst e0
  have H0 := H00
  refine g_cast (ef_ri2 m a i) ?_
  refine g_aloadN W0 d18_0 (pc' := 1) rfl rfl rfl ?_
  refine g_getf W0 (wd_28 hw) Via.refl H0 (i := 0) rfl (jx := 1) rfl d18_1 (pc' := 4) rfl ?_
  intro T1 W1 H1
  refine g_iloadN W1 d18_4 (pc' := 5) rfl rfl ?_
  refine g_aaload W1 H1 (i := 1) rfl (jx := jx) hjx (v := .ref d) hv d18_5 (pc' := 6) rfl ?_
  exact g_areturn W1 rfl rfl d18_6 ⟨rfl, H1⟩ (by decide) (by decide)
theorem c_get (l : Launch) (Z : State) (a0 : Array Value) (hw : ∀ d ∈ tables_1, d.before a0 Z = true) (n0 : Nat) (a el : Addr) (mc sz i : Int32) (vs : List Value) (d : Addr) (jx : Nat) (hjx : i.toInt = (jx : Int)) (hv : vs[jx]? = some (.ref d)) (hi0 : ¬ i < 0) (hlt : i < sz) (h0 : Heap) (F : List HRow) (H00 : Hp Z n0 h0 ((a, o_ArrayList Z (.int mc) (.ref el) (.int sz)) :: (el, RaC Z "java/lang/Object" vs) :: F)) :
    Con l Z n0 ⟨"java/util/ArrayList", "get", "(I)Ljava/lang/Object;"⟩ [] jdk_38_method_20_code 2 (some (.object "java/lang/Object")) ({ frames := 2, cells := 0, slots := 0, locals := 27 } : Room) #[.ref a, .int i] h0 (fun v h => v = some (.ref d) ∧ Hp Z n0 h ((a, o_ArrayList Z (.int mc) (.ref el) (.int sz)) :: (el, RaC Z "java/lang/Object" vs) :: F)) := by
  refine con_of pf_15 ?_
  intro p e s m below meth c T0 W0 e0
  subst e0
  have H0 := H00
  refine g_cast (ef_ri2 m a i) ?_
  refine g_iloadN W0 d15_0 (pc' := 1) rfl rfl ?_
  refine g_aloadN W0 d15_1 (pc' := 2) rfl rfl rfl ?_
  refine g_getf W0 (wd_65 hw) Via.refl H0 (i := 0) rfl (jx := 2) rfl d15_2 (pc' := 5) rfl ?_
  intro T1 W1 H1
  refine g_callS W1 (argsL := [.int i, .int sz]) (st := []) (wd_132 hw) (wd_133 hw) (wd_134 hw) (wd_135 hw) (by decide) (c_chk l Z a0 hw n0 i sz hi0 hlt _ _ H1) pd_1 rfl rfl rfl d15_5 (pc' := 8) rfl (by decide) (Wn := 0) (Nat.le_of_eq rfl) (by decide) (kc' := 0) (ks' := 0) rfl rfl (by decide) (by decide) ?_
  intro T2 v2 W2 hp2
  obtain ⟨rfl, H2⟩ := hp2
  show Goes _ _ _ _ (State.setTop _ (mkF _ _ _ [.int i]))
  refine g_pop W2 d15_8 (pc' := 9) rfl rfl ?_
  refine g_aloadN W2 d15_9 (pc' := 10) rfl rfl rfl ?_
  refine g_iloadN W2 d15_10 (pc' := 11) rfl rfl ?_
  refine g_callV W2 (argsL := [.int i]) (st := []) (wd_140 hw) (wd_141 hw) (wd_143 hw) (wd_142 hw) (wd_6 hw) (wd_144 hw) (by decide) (a := a) H2 (i := 0) rfl (c_eld l Z a0 hw n0 a el mc sz i vs d jx hjx hv _ _ H2) pd_6 rfl rfl rfl d15_11 (pc' := 14) rfl (by decide) (Wn := 0) (Nat.le_of_eq rfl) (by decide) (kc' := 0) (ks' := 0) rfl rfl (by decide) (by decide) ?_
  intro T3 v3 W3 hp3
  obtain ⟨rfl, H3⟩ := hp3
  show Goes _ _ _ _ (State.setTop _ (mkF _ _ _ [.ref d]))
  exact g_areturn W3 rfl rfl d15_14 ⟨rfl, H3⟩ (by decide) (by decide)
theorem c_rec (l : Launch) (Z : State) (a0 : Array Value) (hw : ∀ d ∈ tables_1, d.before a0 Z = true) (n0 : Nat) (a : Addr) (h0 : Heap) (F : List HRow) (H00 : Hp Z n0 h0 F) :
    Con l Z n0 ⟨"java/lang/Record", "<init>", "()V"⟩ [] jdk_30_method_1_code 1 none ({ frames := 1, cells := 0, slots := 0, locals := 12 } : Room) #[.ref a] h0 (fun v h => v = none ∧ Hp Z n0 h F) := by
  refine con_of pf_7 ?_
  intro p e s m below meth c T0 W0 e0
  subst e0
  have H0 := H00
  refine g_cast (ef_r1 m a) ?_
  refine g_aloadN W0 d7_0 (pc' := 1) rfl rfl rfl ?_
  refine g_initO W0 (wd_41 hw) (wd_23 hw) (wd_24 hw) H0 rfl d7_1 (pc' := 4) rfl (by decide) (Wn := 0) (Nat.le_of_eq rfl) (by decide) ?_
  intro T1 W1 H1
  exact g_return W1 d7_4 ⟨rfl, H1⟩ (by decide) (by decide)
theorem c_arci (l : Launch) (Z : State) (a0 : Array Value) (hw : ∀ d ∈ tables_1, d.before a0 Z = true) (n0 : Nat) (a : Addr) (t h0_ : Int32) (x1 x2 x3 x4 : UInt64) (h0 : Heap) (F : List HRow) (H00 : Hp Z n0 h0 ((a, o_Network_Arc Z (.int (0 : Int32)) (.int (0 : Int32)) (.double 0) (.double 0) (.double 0) (.double 0)) :: F)) :
    Con l Z n0 ⟨"com/example/lanewright/lanewright/Network$Arc", "<init>", "(IIDDDD)V"⟩ [] prog_30_method_1_code 11 none ({ frames := 2, cells := 0, slots := 0, locals := 24 } : Room) #[.ref a, .int t, .int h0_, .double x1, .double x2, .double x3, .double x4] h0 (fun v h => v = none ∧ Hp Z n0 h ((a, o_Network_Arc Z (.int t) (.int h0_) (.double x1) (.double x2) (.double x3) (.double x4)) :: F)) := by
  refine con_of (plainFor_of_name pn_Network_Arc) ?_
  intro p e s m below meth c T0 W0 e0
  subst e0
  have H0 := H00
  refine g_cast (ef_riidddd11 m a t h0_ x1 x2 x3 x4) ?_
  refine g_aloadN W0 d6_0 (pc' := 1) rfl rfl rfl ?_
  refine g_callI W0 (argsL := []) (st := []) rfl (wd_36 hw) (wd_37 hw) (wd_39 hw) (wd_40 hw) (by decide) (a := a) (c_rec l Z a0 hw n0 a _ _ H0) pd_0 rfl rfl rfl d6_1 (pc' := 4) rfl (by decide) (Wn := 0) (Nat.le_of_eq rfl) (by decide) (kc' := 0) (ks' := 0) rfl rfl (by decide) (by decide) ?_
  intro T1 v1 W1 hp1
  obtain ⟨rfl, H1⟩ := hp1
  show Goes _ _ _ _ (State.setTop _ (mkF _ _ _ []))
  refine g_aloadN W1 d6_4 (pc' := 5) rfl rfl rfl ?_
  refine g_iloadN W1 d6_5 (pc' := 6) rfl rfl ?_
  refine g_putf W1 (wd_42 hw) Via.refl (Or.inr ⟨(wd_43 hw), rfl, rfl⟩) (wd_31 hw) (ty := .int) (by decide) rfl rfl H1 (i := 0) rfl (jx := 0) rfl d6_6 (pc' := 9) rfl (L' := ((a, o_Network_Arc Z (.int t) (.int (0 : Int32)) (.double 0) (.double 0) (.double 0) (.double 0)) :: F)) rfl ?_
  intro T2 W2 H2
  refine g_aloadN W2 d6_9 (pc' := 10) rfl rfl rfl ?_
  refine g_iloadN W2 d6_10 (pc' := 11) rfl rfl ?_
  refine g_putf W2 (wd_44 hw) Via.refl (Or.inr ⟨(wd_45 hw), rfl, rfl⟩) (wd_31 hw) (ty := .int) (by decide) rfl rfl H2 (i := 0) rfl (jx := 1) rfl d6_11 (pc' := 14) rfl (L' := ((a, o_Network_Arc Z (.int t) (.int h0_) (.double 0) (.double 0) (.double 0) (.double 0)) :: F)) rfl ?_
  intro T3 W3 H3
  refine g_aloadN W3 d6_14 (pc' := 15) rfl rfl rfl ?_
  refine g_dloadN W3 d6_15 (pc' := 16) rfl rfl ?_
  refine g_putf W3 (wd_46 hw) Via.refl (Or.inr ⟨(wd_47 hw), rfl, rfl⟩) (wd_31 hw) (ty := .double) (by decide) rfl rfl H3 (i := 0) rfl (jx := 2) rfl d6_16 (pc' := 19) rfl (L' := ((a, o_Network_Arc Z (.int t) (.int h0_) (.double x1) (.double 0) (.double 0) (.double 0)) :: F)) rfl ?_
  intro T4 W4 H4
  refine g_aloadN W4 d6_19 (pc' := 20) rfl rfl rfl ?_
  refine g_dload W4 d6_20 (pc' := 22) rfl rfl ?_
  refine g_putf W4 (wd_48 hw) Via.refl (Or.inr ⟨(wd_49 hw), rfl, rfl⟩) (wd_31 hw) (ty := .double) (by decide) rfl rfl H4 (i := 0) rfl (jx := 3) rfl d6_22 (pc' := 25) rfl (L' := ((a, o_Network_Arc Z (.int t) (.int h0_) (.double x1) (.double x2) (.double 0) (.double 0)) :: F)) rfl ?_
  intro T5 W5 H5
  refine g_aloadN W5 d6_25 (pc' := 26) rfl rfl rfl ?_
  refine g_dload W5 d6_26 (pc' := 28) rfl rfl ?_
  refine g_putf W5 (wd_50 hw) Via.refl (Or.inr ⟨(wd_51 hw), rfl, rfl⟩) (wd_31 hw) (ty := .double) (by decide) rfl rfl H5 (i := 0) rfl (jx := 4) rfl d6_28 (pc' := 31) rfl (L' := ((a, o_Network_Arc Z (.int t) (.int h0_) (.double x1) (.double x2) (.double x3) (.double 0)) :: F)) rfl ?_
  intro T6 W6 H6
  refine g_aloadN W6 d6_31 (pc' := 32) rfl rfl rfl ?_
  refine g_dload W6 d6_32 (pc' := 34) rfl rfl ?_
  refine g_putf W6 (wd_52 hw) Via.refl (Or.inr ⟨(wd_53 hw), rfl, rfl⟩) (wd_31 hw) (ty := .double) (by decide) rfl rfl H6 (i := 0) rfl (jx := 5) rfl d6_34 (pc' := 37) rfl (L' := ((a, o_Network_Arc Z (.int t) (.int h0_) (.double x1) (.double x2) (.double x3) (.double x4)) :: F)) rfl ?_
  intro T7 W7 H7
  exact g_return W7 d6_37 ⟨rfl, H7⟩ (by decide) (by decide)
theorem c_a_tail (l : Launch) (Z : State) (a0 : Array Value) (hw : ∀ d ∈ tables_1, d.before a0 Z = true) (n0 : Nat) (a : Addr) (t h0_ : Int32) (x1 x2 x3 x4 : UInt64) (F : List HRow) (hd : (a, o_Network_Arc Z (.int t) (.int h0_) (.double x1) (.double x2) (.double x3) (.double x4)) ∈ F) (h0 : Heap) (H00 : Hp Z n0 h0 F) :
    Con l Z n0 ⟨"com/example/lanewright/lanewright/Network$Arc", "tail", "()I"⟩ [] prog_30_method_5_code 1 (some .int) ({ frames := 0, cells := 0, slots := 0, locals := 0 } : Room) #[.ref a] h0 (fun v h => v = some (.int t) ∧ Hp Z n0 h F) := by
  refine con_of (plainFor_of_name pn_Network_Arc) ?_
  intro p e s m below meth c T0 W0 e0
  subst e0
  have H0 := H00
  refine g_cast (ef_r1 m a) ?_
  refine g_aloadN W0 d19_0 (pc' := 1) rfl rfl rfl ?_
  refine g_getfF W0 (wd_42 hw) Via.refl H0 (H0.fldm hd (jx := 0) rfl) d19_1 (pc' := 4) rfl ?_
  intro T1 W1 _ H1
  exact g_ireturn W1 d19_4 ⟨rfl, H1⟩ (by decide) (by decide)
theorem c_a_head (l : Launch) (Z : State) (a0 : Array Value) (hw : ∀ d ∈ tables_1, d.before a0 Z = true) (n0 : Nat) (a : Addr) (t h0_ : Int32) (x1 x2 x3 x4 : UInt64) (F : List HRow) (hd : (a, o_Network_Arc Z (.int t) (.int h0_) (.double x1) (.double x2) (.double x3) (.double x4)) ∈ F) (h0 : Heap) (H00 : Hp Z n0 h0 F) :
    Con l Z n0 ⟨"com/example/lanewright/lanewright/Network$Arc", "head", "()I"⟩ [] prog_30_method_6_code 1 (some .int) ({ frames := 0, cells := 0, slots := 0, locals := 0 } : Room) #[.ref a] h0 (fun v h => v = some (.int h0_) ∧ Hp Z n0 h F) := by
  refine con_of (plainFor_of_name pn_Network_Arc) ?_
  intro p e s m below meth c T0 W0 e0
  subst e0
  have H0 := H00
  refine g_cast (ef_r1 m a) ?_
  refine g_aloadN W0 d20_0 (pc' := 1) rfl rfl rfl ?_
  refine g_getfF W0 (wd_44 hw) Via.refl H0 (H0.fldm hd (jx := 1) rfl) d20_1 (pc' := 4) rfl ?_
  intro T1 W1 _ H1
  exact g_ireturn W1 d20_4 ⟨rfl, H1⟩ (by decide) (by decide)
theorem c_a_capacity (l : Launch) (Z : State) (a0 : Array Value) (hw : ∀ d ∈ tables_1, d.before a0 Z = true) (n0 : Nat) (a : Addr) (t h0_ : Int32) (x1 x2 x3 x4 : UInt64) (F : List HRow) (hd : (a, o_Network_Arc Z (.int t) (.int h0_) (.double x1) (.double x2) (.double x3) (.double x4)) ∈ F) (h0 : Heap) (H00 : Hp Z n0 h0 F) :
    Con l Z n0 ⟨"com/example/lanewright/lanewright/Network$Arc", "capacity", "()D"⟩ [] prog_30_method_7_code 1 (some .double) ({ frames := 0, cells := 0, slots := 0, locals := 0 } : Room) #[.ref a] h0 (fun v h => v = some (.double x1) ∧ Hp Z n0 h F) := by
  refine con_of (plainFor_of_name pn_Network_Arc) ?_
  intro p e s m below meth c T0 W0 e0
  subst e0
  have H0 := H00
  refine g_cast (ef_r1 m a) ?_
  refine g_aloadN W0 d21_0 (pc' := 1) rfl rfl rfl ?_
  refine g_getfF W0 (wd_46 hw) Via.refl H0 (H0.fldm hd (jx := 2) rfl) d21_1 (pc' := 4) rfl ?_
  intro T1 W1 _ H1
  exact g_dreturn W1 d21_4 ⟨rfl, H1⟩ (by decide) (by decide)
theorem c_a_freeFlowTime (l : Launch) (Z : State) (a0 : Array Value) (hw : ∀ d ∈ tables_1, d.before a0 Z = true) (n0 : Nat) (a : Addr) (t h0_ : Int32) (x1 x2 x3 x4 : UInt64) (F : List HRow) (hd : (a, o_Network_Arc Z (.int t) (.int h0_) (.double x1) (.double x2) (.double x3) (.double x4)) ∈ F) (h0 : Heap) (H00 : Hp Z n0 h0 F) :
    Con l Z n0 ⟨"com/example/lanewright/lanewright/Network$Arc", "freeFlowTime", "()D"⟩ [] prog_30_method_8_code 1 (some .double) ({ frames := 0, cells := 0, slots := 0, locals := 0 } : Room) #[.ref a] h0 (fun v h => v = some (.double x2) ∧ Hp Z n0 h F) := by
  refine con_of (plainFor_of_name pn_Network_Arc) ?_
  intro p e s m below meth c T0 W0 e0
  subst e0
  have H0 := H00
  refine g_cast (ef_r1 m a) ?_
  refine g_aloadN W0 d22_0 (pc' := 1) rfl rfl rfl ?_
  refine g_getfF W0 (wd_48 hw) Via.refl H0 (H0.fldm hd (jx := 3) rfl) d22_1 (pc' := 4) rfl ?_
  intro T1 W1 _ H1
  exact g_dreturn W1 d22_4 ⟨rfl, H1⟩ (by decide) (by decide)
theorem c_a_b (l : Launch) (Z : State) (a0 : Array Value) (hw : ∀ d ∈ tables_1, d.before a0 Z = true) (n0 : Nat) (a : Addr) (t h0_ : Int32) (x1 x2 x3 x4 : UInt64) (F : List HRow) (hd : (a, o_Network_Arc Z (.int t) (.int h0_) (.double x1) (.double x2) (.double x3) (.double x4)) ∈ F) (h0 : Heap) (H00 : Hp Z n0 h0 F) :
    Con l Z n0 ⟨"com/example/lanewright/lanewright/Network$Arc", "b", "()D"⟩ [] prog_30_method_9_code 1 (some .double) ({ frames := 0, cells := 0, slots := 0, locals := 0 } : Room) #[.ref a] h0 (fun v h => v = some (.double x3) ∧ Hp Z n0 h F) := by
  refine con_of (plainFor_of_name pn_Network_Arc) ?_
  intro p e s m below meth c T0 W0 e0
  subst e0
  have H0 := H00
  refine g_cast (ef_r1 m a) ?_
  refine g_aloadN W0 d23_0 (pc' := 1) rfl rfl rfl ?_
  refine g_getfF W0 (wd_50 hw) Via.refl H0 (H0.fldm hd (jx := 4) rfl) d23_1 (pc' := 4) rfl ?_
  intro T1 W1 _ H1
  exact g_dreturn W1 d23_4 ⟨rfl, H1⟩ (by decide) (by decide)
theorem c_a_power (l : Launch) (Z : State) (a0 : Array Value) (hw : ∀ d ∈ tables_1, d.before a0 Z = true) (n0 : Nat) (a : Addr) (t h0_ : Int32) (x1 x2 x3 x4 : UInt64) (F : List HRow) (hd : (a, o_Network_Arc Z (.int t) (.int h0_) (.double x1) (.double x2) (.double x3) (.double x4)) ∈ F) (h0 : Heap) (H00 : Hp Z n0 h0 F) :
    Con l Z n0 ⟨"com/example/lanewright/lanewright/Network$Arc", "power", "()D"⟩ [] prog_30_method_10_code 1 (some .double) ({ frames := 0, cells := 0, slots := 0, locals := 0 } : Room) #[.ref a] h0 (fun v h => v = some (.double x4) ∧ Hp Z n0 h F) := by
  refine con_of (plainFor_of_name pn_Network_Arc) ?_
  intro p e s m below meth c T0 W0 e0
  subst e0
  have H0 := H00
  refine g_cast (ef_r1 m a) ?_
  refine g_aloadN W0 d24_0 (pc' := 1) rfl rfl rfl ?_
  refine g_getfF W0 (wd_52 hw) Via.refl H0 (H0.fldm hd (jx := 5) rfl) d24_1 (pc' := 4) rfl ?_
  intro T1 W1 _ H1
  exact g_dreturn W1 d24_4 ⟨rfl, H1⟩ (by decide) (by decide)

def nf1 (l : List Int32) (n : Nat) : List Int32 := l.set (n + 1) (l.getD (n + 1) 0 + 1)
def pf1 (l : List Int32) (v : Nat) : List Int32 := l.set (v + 1) (l.getD (v + 1) 0 + l.getD v 0)
def nx1 (l : List Int32) (n : Nat) : List Int32 := l.set n (l.getD n 0 + 1)
def oa1 (o l : List Int32) (n : Nat) (a : Int32) : List Int32 := o.set (l.getD n 0).toInt.toNat a
theorem nf1_len {l : List Int32} {n : Nat} : (nf1 l n).length = l.length := List.length_set
theorem pf1_len {l : List Int32} {n : Nat} : (pf1 l n).length = l.length := List.length_set
theorem nx1_len {l : List Int32} {n : Nat} : (nx1 l n).length = l.length := List.length_set
theorem oa1_len {o l : List Int32} {n : Nat} {a : Int32} : (oa1 o l n a).length = o.length := List.length_set
theorem getD_some {l : List Int32} {n : Nat} (h : n < l.length) : l[n]? = some (l.getD n 0) := by
  rw [List.getD_eq_getElem?_getD, List.getElem?_eq_getElem h]; rfl
theorem i_p1 {t : Int32} {n : Nat} (h : t.toInt = (n : Int)) (hn : n < 1000) : (t + (1 : Int32)).toInt = ((n + 1 : Nat) : Int) := by
  have e1 : (1 : Int32).toInt = 1 := by decide
  rw [Int32.toInt_add, e1, h, Kit.bmod32 (by omega) (by omega)]; omega
abbrev zA0 : List Int32 := List.replicate 5 (0 : Int32)
theorem lzA0 : zA0.length = 5 := List.length_replicate
abbrev zA1 (j0 : Nat) : List Int32 := nf1 zA0 j0
theorem lzA1 {j0 : Nat} : (zA1 j0).length = 5 := nf1_len.trans lzA0
abbrev zA2 (j0 j1 : Nat) : List Int32 := nf1 (zA1 j0) j1
theorem lzA2 {j0 j1 : Nat} : (zA2 j0 j1).length = 5 := nf1_len.trans lzA1
abbrev zA3 (j0 j1 j2 : Nat) : List Int32 := nf1 (zA2 j0 j1) j2
theorem lzA3 {j0 j1 j2 : Nat} : (zA3 j0 j1 j2).length = 5 := nf1_len.trans lzA2
abbrev zP1 (j0 j1 j2 : Nat) : List Int32 := pf1 (zA3 j0 j1 j2) 1
theorem lzP1 {j0 j1 j2 : Nat} : (zP1 j0 j1 j2).length = 5 := pf1_len.trans lzA3
abbrev zP2 (j0 j1 j2 : Nat) : List Int32 := pf1 (zP1 j0 j1 j2) 2
theorem lzP2 {j0 j1 j2 : Nat} : (zP2 j0 j1 j2).length = 5 := pf1_len.trans lzP1
abbrev zP3 (j0 j1 j2 : Nat) : List Int32 := pf1 (zP2 j0 j1 j2) 3
theorem lzP3 {j0 j1 j2 : Nat} : (zP3 j0 j1 j2).length = 5 := pf1_len.trans lzP2
abbrev zO0 : List Int32 := List.replicate 3 (0 : Int32)
theorem lzO0 : zO0.length = 3 := List.length_replicate
abbrev zO1 (j0 j1 j2 : Nat) : List Int32 := oa1 zO0 (zP3 j0 j1 j2) j0 0
theorem lzO1 {j0 j1 j2 : Nat} : (zO1 j0 j1 j2).length = 3 := oa1_len.trans lzO0
abbrev zX1 (j0 j1 j2 : Nat) : List Int32 := nx1 (zP3 j0 j1 j2) j0
theorem lzX1 {j0 j1 j2 : Nat} : (zX1 j0 j1 j2).length = 5 := nx1_len.trans lzP3
abbrev zO2 (j0 j1 j2 : Nat) : List Int32 := oa1 (zO1 j0 j1 j2) (zX1 j0 j1 j2) j1 1
theorem lzO2 {j0 j1 j2 : Nat} : (zO2 j0 j1 j2).length = 3 := oa1_len.trans lzO1
abbrev zX2 (j0 j1 j2 : Nat) : List Int32 := nx1 (zX1 j0 j1 j2) j1
theorem lzX2 {j0 j1 j2 : Nat} : (zX2 j0 j1 j2).length = 5 := nx1_len.trans lzX1
abbrev zO3 (j0 j1 j2 : Nat) : List Int32 := oa1 (zO2 j0 j1 j2) (zX2 j0 j1 j2) j2 2
theorem lzO3 {j0 j1 j2 : Nat} : (zO3 j0 j1 j2).length = 3 := oa1_len.trans lzO2
abbrev zX3 (j0 j1 j2 : Nat) : List Int32 := nx1 (zX2 j0 j1 j2) j2
theorem lzX3 {j0 j1 j2 : Nat} : (zX3 j0 j1 j2).length = 5 := nx1_len.trans lzX2
theorem net_ok : ∀ j0 ∈ ([1, 2, 3] : List Nat), ∀ j1 ∈ ([1, 2, 3] : List Nat), ∀ j2 ∈ ([1, 2, 3] : List Nat), ((0 ≤ ((zP3 j0 j1 j2).getD j0 0).toInt ∧ ((zP3 j0 j1 j2).getD j0 0).toInt < 3) ∧ (0 ≤ ((zX1 j0 j1 j2).getD j1 0).toInt ∧ ((zX1 j0 j1 j2).getD j1 0).toInt < 3) ∧ (0 ≤ ((zX2 j0 j1 j2).getD j2 0).toInt ∧ ((zX2 j0 j1 j2).getD j2 0).toInt < 3)) ∧ (∀ v ∈ ([1, 2, 3] : List Nat), 0 ≤ ((zP3 j0 j1 j2).getD v 0).toInt ∧ ((zP3 j0 j1 j2).getD v 0).toInt ≤ ((zP3 j0 j1 j2).getD (v + 1) 0).toInt ∧ ((zP3 j0 j1 j2).getD (v + 1) 0).toInt ≤ 3 ∧ ∀ i ∈ (List.range 3), ((zP3 j0 j1 j2).getD v 0).toInt ≤ (i : Int) → (i : Int) < ((zP3 j0 j1 j2).getD (v + 1) 0).toInt → (0 ≤ ((zO3 j0 j1 j2).getD i 0).toInt ∧ ((zO3 j0 j1 j2).getD i 0).toInt < 3 ∧ ([j0, j1, j2] : List Nat).getD ((zO3 j0 j1 j2).getD i 0).toInt.toNat 0 = v)) := by decide +kernel

theorem c_net (l : Launch) (Z : State) (a0 : Array Value) (hw : ∀ d ∈ tables_1, d.before a0 Z = true) (n0 : Nat) (nt a el : Addr) (mcL ft : Int32) (lv : List Value) (x1 x2 x3 x4 : UInt64) (F : List HRow) (k0 : Addr) (t0 g0 : Int32) (j0 : Nat) (hl0 : lv[0]? = some (.ref k0)) (hd0 : (k0, o_Network_Arc Z (.int t0) (.int g0) (.double x1) (.double x2) (.double x3) (.double x4)) ∈ F) (ht0 : t0.toInt = (j0 : Int)) (m0 : j0 ∈ ([1, 2, 3] : List Nat)) (k1 : Addr) (t1 g1 : Int32) (j1 : Nat) (hl1 : lv[1]? = some (.ref k1)) (hd1 : (k1, o_Network_Arc Z (.int t1) (.int g1) (.double x1) (.double x2) (.double x3) (.double x4)) ∈ F) (ht1 : t1.toInt = (j1 : Int)) (m1 : j1 ∈ ([1, 2, 3] : List Nat)) (k2 : Addr) (t2 g2 : Int32) (j2 : Nat) (hl2 : lv[2]? = some (.ref k2)) (hd2 : (k2, o_Network_Arc Z (.int t2) (.int g2) (.double x1) (.double x2) (.double x3) (.double x4)) ∈ F) (ht2 : t2.toInt = (j2 : Int)) (m2 : j2 ∈ ([1, 2, 3] : List Nat))  (h0 : Heap) (H00 : Hp Z n0 h0 ((nt, o_Network Z (.int (0 : Int32)) (.int (0 : Int32)) .null .null .null .null .null .null .null .null) :: (a, o_ArrayList Z (.int mcL) (.ref el) (.int (3 : Int32))) :: (el, RaC Z "java/lang/Object" lv) :: F)) :
    Con l Z n0 ⟨"com/example/lanewright/lanewright/Network", "<init>", "(IILjava/util/List;)V"⟩ [] prog_29_method_1_code 7 none ({ frames := 3, cells := 9, slots := 31, locals := 40 } : Room) #[.ref nt, .int (3 : Int32), .int ft, .ref a] h0 (fun v h => ∃ (tlA hdA caA ffA bsA pwA foA oaA : Addr) (J : List HRow), v = none ∧ Hp Z n0 h ((nt, o_Network Z (.int (3 : Int32)) (.int ft) (.ref tlA) (.ref hdA) (.ref caA) (.ref ffA) (.ref bsA) (.ref pwA) (.ref foA) (.ref oaA)) :: (tlA, IaC Z ([t0, t1, t2] : List Int32)) :: (hdA, IaC Z ([g0, g1, g2] : List Int32)) :: (foA, IaC Z (zP3 j0 j1 j2)) :: (oaA, IaC Z (zO3 j0 j1 j2)) :: (J ++ F))) := by
  refine con_of (plainFor_of_name pn_Network) ?_
  intro p e s m below meth c T0 W0 e0
  subst e0
  have H0 := H00
  refine g_cast (ef_riir7 m nt (3 : Int32) ft a) ?_
  have bd0 : 1 ≤ j0 ∧ j0 ≤ 3 := by simp at m0; omega
  have bd1 : 1 ≤ j1 ∧ j1 ≤ 3 := by simp at m1; omega
  have bd2 : 1 ≤ j2 ∧ j2 ≤ 3 := by simp at m2; omega
  obtain ⟨⟨z0, z1, z2⟩, hfin⟩ := net_ok j0 m0 j1 m1 j2 m2
  refine g_aloadN W0 d13_0 (pc' := 1) rfl rfl rfl ?_
  refine g_initO W0 (wd_95 hw) (wd_23 hw) (wd_24 hw) H0 rfl d13_1 (pc' := 4) rfl (by decide) (Wn := 0) (Nat.le_of_eq rfl) (by decide) ?_
  intro T1 W1 H1
  refine g_aloadN W1 d13_4 (pc' := 5) rfl rfl rfl ?_
  refine g_iloadN W1 d13_5 (pc' := 6) rfl rfl ?_
  refine g_putf W1 (wd_96 hw) Via.refl (Or.inr ⟨(wd_97 hw), rfl, rfl⟩) (wd_90 hw) (ty := .int) (by decide) rfl rfl H1 (i := 0) rfl (jx := 0) rfl d13_6 (pc' := 9) rfl (L' := ((nt, o_Network Z (.int (3 : Int32)) (.int (0 : Int32)) .null .null .null .null .null .null .null .null) :: (a, o_ArrayList Z (.int mcL) (.ref el) (.int (3 : Int32))) :: (el, RaC Z "java/lang/Object" lv) :: F)) rfl ?_
  intro T2 W2 H2
  refine g_aloadN W2 d13_9 (pc' := 10) rfl rfl rfl ?_
  refine g_iloadN W2 d13_10 (pc' := 11) rfl rfl ?_
  refine g_putf W2 (wd_98 hw) Via.refl (Or.inr ⟨(wd_99 hw), rfl, rfl⟩) (wd_90 hw) (ty := .int) (by decide) rfl rfl H2 (i := 0) rfl (jx := 1) rfl d13_11 (pc' := 14) rfl (L' := ((nt, o_Network Z (.int (3 : Int32)) (.int ft) .null .null .null .null .null .null .null .null) :: (a, o_ArrayList Z (.int mcL) (.ref el) (.int (3 : Int32))) :: (el, RaC Z "java/lang/Object" lv) :: F)) rfl ?_
  intro T3 W3 H3
  refine g_aloadN W3 d13_14 (pc' := 15) rfl rfl rfl ?_
  have H4f := Hp.fr1 H3
  refine g_callF W3 (argsL := []) (st := []) (wd_100 hw) (wd_101 hw) (fun _ _ hZ => mvT hZ (wd_102 hw)) (wd_103 hw) (wd_104 hw) (wd_105 hw) (wd_106 hw) (wd_61 hw) (wd_6 hw) (wd_107 hw) (by decide) (a := a) (H4f.exa (i := 0) rfl) (c_size l Z a0 hw n0 a el mcL (3 : Int32) _ _ H4f) pd_7 rfl rfl rfl d13_15 (pc' := 20) rfl (by decide) (Wn := 0) (Nat.le_of_eq rfl) (by decide) (kc' := 0) (ks' := 0) rfl rfl (by decide) (by decide) ?_
  intro T5 v5 W5 hp5
  obtain ⟨rfl, H5⟩ := hp5
  show Goes _ _ _ _ (State.setTop _ (mkF _ _ _ [.int (3 : Int32)]))
  refine g_istore W5 d13_20 (pc' := 22) rfl (ls' := #[.val (.ref nt), .val (.int (3 : Int32)), .val (.int ft), .val (.ref a), .val (.int (3 : Int32)), .unset, .unset]) rfl ?_
  refine g_aloadN W5 d13_22 (pc' := 23) rfl rfl rfl ?_
  refine g_iload W5 d13_23 (pc' := 25) rfl rfl ?_
  refine g_newarrI W5 (wd_108 hw) H5 (by decide) (n := 3) (by decide) (cap := 3) (by decide) (by decide) d13_25 (pc' := 27) rfl (kc' := 1) (ks' := 3) rfl rfl (by decide) (by decide) ?_
  intro T6 a6 W6 H6
  refine g_putf W6 (wd_109 hw) Via.refl (Or.inr ⟨(wd_110 hw), rfl, rfl⟩) (wd_90 hw) (ty := (.array .int)) (by decide) rfl rfl H6 (i := 2) rfl (jx := 2) rfl d13_27 (pc' := 30) rfl (L' := ((a6, IaC Z (List.replicate 3 0)) :: (a, o_ArrayList Z (.int mcL) (.ref el) (.int (3 : Int32))) :: (nt, o_Network Z (.int (3 : Int32)) (.int ft) (.ref a6) .null .null .null .null .null .null .null) :: (el, RaC Z "java/lang/Object" lv) :: F)) rfl ?_
  intro T7 W7 H7
  refine g_aloadN W7 d13_30 (pc' := 31) rfl rfl rfl ?_
  refine g_iload W7 d13_31 (pc' := 33) rfl rfl ?_
  refine g_newarrI W7 (wd_108 hw) H7 (by decide) (n := 3) (by decide) (cap := 3) (by decide) (by decide) d13_33 (pc' := 35) rfl (kc' := 2) (ks' := 6) rfl rfl (by decide) (by decide) ?_
  intro T8 a8 W8 H8
  refine g_putf W8 (wd_111 hw) Via.refl (Or.inr ⟨(wd_112 hw), rfl, rfl⟩) (wd_90 hw) (ty := (.array .int)) (by decide) rfl rfl H8 (i := 3) rfl (jx := 3) rfl d13_35 (pc' := 38) rfl (L' := ((a8, IaC Z (List.replicate 3 0)) :: (a6, IaC Z (List.replicate 3 0)) :: (a, o_ArrayList Z (.int mcL) (.ref el) (.int (3 : Int32))) :: (nt, o_Network Z (.int (3 : Int32)) (.int ft) (.ref a6) (.ref a8) .null .null .null .null .null .null) :: (el, RaC Z "java/lang/Object" lv) :: F)) rfl ?_
  intro T9 W9 H9
  refine g_aloadN W9 d13_38 (pc' := 39) rfl rfl rfl ?_
  refine g_iload W9 d13_39 (pc' := 41) rfl rfl ?_
  refine g_newarr (aty := .double) W9 (wd_113 hw) H9 (by decide) (vs := [.double 0, .double 0, .double 0]) rfl (cap := 3) (Nat.le_of_eq rfl) (by decide) d13_41 (pc' := 43) rfl (kc' := 3) (ks' := 9) rfl rfl (by decide) (by decide) ?_
  intro T10 a10 W10 H10
  replace H10 : Hp Z n0 T10.heap ((a10, ArC Z .double [.double 0, .double 0, .double 0]) :: (a8, IaC Z (List.replicate 3 0)) :: (a6, IaC Z (List.replicate 3 0)) :: (a, o_ArrayList Z (.int mcL) (.ref el) (.int (3 : Int32))) :: (nt, o_Network Z (.int (3 : Int32)) (.int ft) (.ref a6) (.ref a8) .null .null .null .null .null .null) :: (el, RaC Z "java/lang/Object" lv) :: F) := H10
  refine g_putf W10 (wd_114 hw) Via.refl (Or.inr ⟨(wd_115 hw), rfl, rfl⟩) (wd_90 hw) (ty := (.array .double)) (by decide) rfl rfl H10 (i := 4) rfl (jx := 4) rfl d13_43 (pc' := 46) rfl (L' := ((a10, ArC Z .double [.double 0, .double 0, .double 0]) :: (a8, IaC Z (List.replicate 3 0)) :: (a6, IaC Z (List.replicate 3 0)) :: (a, o_ArrayList Z (.int mcL) (.ref el) (.int (3 : Int32))) :: (nt, o_Network Z (.int (3 : Int32)) (.int ft) (.ref a6) (.ref a8) (.ref a10) .null .null .null .null .null) :: (el, RaC Z "java/lang/Object" lv) :: F)) rfl ?_
  intro T11 W11 H11
  refine g_aloadN W11 d13_46 (pc' := 47) rfl rfl rfl ?_
  refine g_iload W11 d13_47 (pc' := 49) rfl rfl ?_
  refine g_newarr (aty := .double) W11 (wd_113 hw) H11 (by decide) (vs := [.double 0, .double 0, .double 0]) rfl (cap := 3) (Nat.le_of_eq rfl) (by decide) d13_49 (pc' := 51) rfl (kc' := 4) (ks' := 12) rfl rfl (by decide) (by decide) ?_
  intro T12 a12 W12 H12
  replace H12 : Hp Z n0 T12.heap ((a12, ArC Z .double [.double 0, .double 0, .double 0]) :: (a10, ArC Z .double [.double 0, .double 0, .double 0]) :: (a8, IaC Z (List.replicate 3 0)) :: (a6, IaC Z (List.replicate 3 0)) :: (a, o_ArrayList Z (.int mcL) (.ref el) (.int (3 : Int32))) :: (nt, o_Network Z (.int (3 : Int32)) (.int ft) (.ref a6) (.ref a8) (.ref a10) .null .null .null .null .null) :: (el, RaC Z "java/lang/Object" lv) :: F) := H12
  refine g_putf W12 (wd_116 hw) Via.refl (Or.inr ⟨(wd_117 hw), rfl, rfl⟩) (wd_90 hw) (ty := (.array .double)) (by decide) rfl rfl H12 (i := 5) rfl (jx := 5) rfl d13_51 (pc' := 54) rfl (L' := ((a12, ArC Z .double [.double 0, .double 0, .double 0]) :: (a10, ArC Z .double [.double 0, .double 0, .double 0]) :: (a8, IaC Z (List.replicate 3 0)) :: (a6, IaC Z (List.replicate 3 0)) :: (a, o_ArrayList Z (.int mcL) (.ref el) (.int (3 : Int32))) :: (nt, o_Network Z (.int (3 : Int32)) (.int ft) (.ref a6) (.ref a8) (.ref a10) (.ref a12) .null .null .null .null) :: (el, RaC Z "java/lang/Object" lv) :: F)) rfl ?_
  intro T13 W13 H13
  refine g_aloadN W13 d13_54 (pc' := 55) rfl rfl rfl ?_
  refine g_iload W13 d13_55 (pc' := 57) rfl rfl ?_
  refine g_newarr (aty := .double) W13 (wd_113 hw) H13 (by decide) (vs := [.double 0, .double 0, .double 0]) rfl (cap := 3) (Nat.le_of_eq rfl) (by decide) d13_57 (pc' := 59) rfl (kc' := 5) (ks' := 15) rfl rfl (by decide) (by decide) ?_
  intro T14 a14 W14 H14
  replace H14 : Hp Z n0 T14.heap ((a14, ArC Z .double [.double 0, .double 0, .double 0]) :: (a12, ArC Z .double [.double 0, .double 0, .double 0]) :: (a10, ArC Z .double [.double 0, .double 0, .double 0]) :: (a8, IaC Z (List.replicate 3 0)) :: (a6, IaC Z (List.replicate 3 0)) :: (a, o_ArrayList Z (.int mcL) (.ref el) (.int (3 : Int32))) :: (nt, o_Network Z (.int (3 : Int32)) (.int ft) (.ref a6) (.ref a8) (.ref a10) (.ref a12) .null .null .null .null) :: (el, RaC Z "java/lang/Object" lv) :: F) := H14
  refine g_putf W14 (wd_118 hw) Via.refl (Or.inr ⟨(wd_119 hw), rfl, rfl⟩) (wd_90 hw) (ty := (.array .double)) (by decide) rfl rfl H14 (i := 6) rfl (jx := 6) rfl d13_59 (pc' := 62) rfl (L' := ((a14, ArC Z .double [.double 0, .double 0, .double 0]) :: (a12, ArC Z .double [.double 0, .double 0, .double 0]) :: (a10, ArC Z .double [.double 0, .double 0, .double 0]) :: (a8, IaC Z (List.replicate 3 0)) :: (a6, IaC Z (List.replicate 3 0)) :: (a, o_ArrayList Z (.int mcL) (.ref el) (.int (3 : Int32))) :: (nt, o_Network Z (.int (3 : Int32)) (.int ft) (.ref a6) (.ref a8) (.ref a10) (.ref a12) (.ref a14) .null .null .null) :: (el, RaC Z "java/lang/Object" lv) :: F)) rfl ?_
  intro T15 W15 H15
  refine g_aloadN W15 d13_62 (pc' := 63) rfl rfl rfl ?_
  refine g_iload W15 d13_63 (pc' := 65) rfl rfl ?_
  refine g_newarr (aty := .double) W15 (wd_113 hw) H15 (by decide) (vs := [.double 0, .double 0, .double 0]) rfl (cap := 3) (Nat.le_of_eq rfl) (by decide) d13_65 (pc' := 67) rfl (kc' := 6) (ks' := 18) rfl rfl (by decide) (by decide) ?_
  intro T16 a16 W16 H16
  replace H16 : Hp Z n0 T16.heap ((a16, ArC Z .double [.double 0, .double 0, .double 0]) :: (a14, ArC Z .double [.double 0, .double 0, .double 0]) :: (a12, ArC Z .double [.double 0, .double 0, .double 0]) :: (a10, ArC Z .double [.double 0, .double 0, .double 0]) :: (a8, IaC Z (List.replicate 3 0)) :: (a6, IaC Z (List.replicate 3 0)) :: (a, o_ArrayList Z (.int mcL) (.ref el) (.int (3 : Int32))) :: (nt, o_Network Z (.int (3 : Int32)) (.int ft) (.ref a6) (.ref a8) (.ref a10) (.ref a12) (.ref a14) .null .null .null) :: (el, RaC Z "java/lang/Object" lv) :: F) := H16
  refine g_putf W16 (wd_120 hw) Via.refl (Or.inr ⟨(wd_121 hw), rfl, rfl⟩) (wd_90 hw) (ty := (.array .double)) (by decide) rfl rfl H16 (i := 7) rfl (jx := 7) rfl d13_67 (pc' := 70) rfl (L' := ((a16, ArC Z .double [.double 0, .double 0, .double 0]) :: (a14, ArC Z .double [.double 0, .double 0, .double 0]) :: (a12, ArC Z .double [.double 0, .double 0, .double 0]) :: (a10, ArC Z .double [.double 0, .double 0, .double 0]) :: (a8, IaC Z (List.replicate 3 0)) :: (a6, IaC Z (List.replicate 3 0)) :: (a, o_ArrayList Z (.int mcL) (.ref el) (.int (3 : Int32))) :: (nt, o_Network Z (.int (3 : Int32)) (.int ft) (.ref a6) (.ref a8) (.ref a10) (.ref a12) (.ref a14) (.ref a16) .null .null) :: (el, RaC Z "java/lang/Object" lv) :: F)) rfl ?_
  intro T17 W17 H17
  refine g_aloadN W17 d13_70 (pc' := 71) rfl rfl rfl ?_
  refine g_iloadN W17 d13_71 (pc' := 72) rfl rfl ?_
  refine g_iconst W17 d13_72 (pc' := 73) rfl (v := (2 : Int32)) (by decide) ?_
  refine g_iadd W17 d13_73 (pc' := 74) rfl (v := (5 : Int32)) (by decide) ?_
  refine g_newarrI W17 (wd_108 hw) H17 (by decide) (n := 5) (by decide) (cap := 5) (by decide) (by decide) d13_74 (pc' := 76) rfl (kc' := 7) (ks' := 23) rfl rfl (by decide) (by decide) ?_
  intro T18 a18 W18 H18
  refine g_putf W18 (wd_122 hw) Via.refl (Or.inr ⟨(wd_123 hw), rfl, rfl⟩) (wd_90 hw) (ty := (.array .int)) (by decide) rfl rfl H18 (i := 8) rfl (jx := 8) rfl d13_76 (pc' := 79) rfl (L' := ((a18, IaC Z (List.replicate 5 0)) :: (a16, ArC Z .double [.double 0, .double 0, .double 0]) :: (a14, ArC Z .double [.double 0, .double 0, .double 0]) :: (a12, ArC Z .double [.double 0, .double 0, .double 0]) :: (a10, ArC Z .double [.double 0, .double 0, .double 0]) :: (a8, IaC Z (List.replicate 3 0)) :: (a6, IaC Z (List.replicate 3 0)) :: (a, o_ArrayList Z (.int mcL) (.ref el) (.int (3 : Int32))) :: (nt, o_Network Z (.int (3 : Int32)) (.int ft) (.ref a6) (.ref a8) (.ref a10) (.ref a12) (.ref a14) (.ref a16) (.ref a18) .null) :: (el, RaC Z "java/lang/Object" lv) :: F)) rfl ?_
  intro T19 W19 H19
  refine g_iconst W19 d13_79 (pc' := 80) rfl (v := (0 : Int32)) (by decide) ?_
  refine g_istore W19 d13_80 (pc' := 82) rfl (ls' := #[.val (.ref nt), .val (.int (3 : Int32)), .val (.int ft), .val (.ref a), .val (.int (3 : Int32)), .val (.int (0 : Int32)), .unset]) rfl ?_
  refine g_iload W19 d13_82 (pc' := 84) rfl rfl ?_
  refine g_iload W19 d13_84 (pc' := 86) rfl rfl ?_
  refine g_icmp W19 d13_86 (pcy := 196) (by decide) (pc' := 89) rfl (fun (h : ¬ (0 : Int32) < (3 : Int32)) => absurd h (by decide)) (fun _ => ?_)
  refine g_aloadN W19 d13_89 (pc' := 90) rfl rfl rfl ?_
  refine g_iload W19 d13_90 (pc' := 92) rfl rfl ?_
  have H20f := Hp.fr9 H19
  have H21f := Hp.fr8 H20f
  refine g_callF W19 (argsL := [.int (0 : Int32)]) (st := []) (wd_124 hw) (wd_125 hw) (fun _ _ hZ => mvT hZ (wd_126 hw)) (wd_127 hw) (wd_128 hw) (wd_129 hw) (wd_130 hw) (wd_61 hw) (wd_6 hw) (wd_131 hw) (by decide) (a := a) (H21f.exa (i := 0) rfl) (c_get l Z a0 hw n0 a el mcL (3 : Int32) (0 : Int32) lv k0 0 (by decide) hl0 (by decide) (by decide) _ _ H21f) pd_6 rfl rfl rfl d13_92 (pc' := 97) rfl (by decide) (Wn := 0) (Nat.le_of_eq rfl) (by decide) (kc' := 7) (ks' := 23) rfl rfl (by decide) (by decide) ?_
  intro T22 v22 W22 hp22
  obtain ⟨rfl, H22⟩ := hp22
  show Goes _ _ _ _ (State.setTop _ (mkF _ _ _ [.ref k0]))
  refine g_cast1 W22 (wd_145 hw) (Ins.self (H22.exam (mc10 hd0))) H22 d13_97 (pc' := 100) rfl ?_
  intro T23 W23 _ H23
  refine g_astore W23 d13_100 (pc' := 102) rfl rfl (ls' := #[.val (.ref nt), .val (.int (3 : Int32)), .val (.int ft), .val (.ref a), .val (.int (3 : Int32)), .val (.int (0 : Int32)), .val (.ref k0)]) rfl ?_
  refine g_aloadN W23 d13_102 (pc' := 103) rfl rfl rfl ?_
  refine g_getf W23 (wd_109 hw) Via.refl H23 (i := 9) rfl (jx := 2) rfl d13_103 (pc' := 106) rfl ?_
  intro T24 W24 H24
  refine g_iload W24 d13_106 (pc' := 108) rfl rfl ?_
  refine g_aload W24 d13_108 (pc' := 110) rfl rfl rfl ?_
  refine g_callVE W24 (argsL := []) (st := [.int (0 : Int32), .ref a6]) (wd_147 hw) (wd_148 hw) (wd_150 hw) (wd_149 hw) (wd_32 hw) (wd_151 hw) (fun _ hZ => notFace_of_selects (args := #[]) (mvT hZ (wd_150 hw))) (by decide) (a := k0) (H24.exam (mc10 hd0)) (c_a_tail l Z a0 hw n0 k0 t0 g0 x1 x2 x3 x4 _ (mc10 hd0) _ H24) pd_7 rfl rfl rfl d13_110 (pc' := 113) rfl (by decide) (Wn := 2) (Nat.le_of_eq rfl) (by decide) (kc' := 7) (ks' := 23) rfl rfl (by decide) (by decide) ?_
  intro T25 v25 W25 hp25
  obtain ⟨rfl, H25⟩ := hp25
  show Goes _ _ _ _ (State.setTop _ (mkF _ _ _ [.int t0, .int (0 : Int32), .ref a6]))
  refine g_iastoreI W25 H25 (i := 8) rfl (jx := 0) (by decide) (by exact (by decide : 0 < 3)) d13_113 (pc' := 114) rfl (L' := ((a, o_ArrayList Z (.int mcL) (.ref el) (.int (3 : Int32))) :: (el, RaC Z "java/lang/Object" lv) :: (a18, IaC Z (List.replicate 5 0)) :: (a16, ArC Z .double [.double 0, .double 0, .double 0]) :: (a14, ArC Z .double [.double 0, .double 0, .double 0]) :: (a12, ArC Z .double [.double 0, .double 0, .double 0]) :: (a10, ArC Z .double [.double 0, .double 0, .double 0]) :: (a8, IaC Z (List.replicate 3 0)) :: (a6, IaC Z ([t0, 0, 0] : List Int32)) :: (nt, o_Network Z (.int (3 : Int32)) (.int ft) (.ref a6) (.ref a8) (.ref a10) (.ref a12) (.ref a14) (.ref a16) (.ref a18) .null) :: F)) rfl ?_
  intro T26 W26 H26
  refine g_aloadN W26 d13_114 (pc' := 115) rfl rfl rfl ?_
  refine g_getf W26 (wd_111 hw) Via.refl H26 (i := 9) rfl (jx := 3) rfl d13_115 (pc' := 118) rfl ?_
  intro T27 W27 H27
  refine g_iload W27 d13_118 (pc' := 120) rfl rfl ?_
  refine g_aload W27 d13_120 (pc' := 122) rfl rfl rfl ?_
  refine g_callVE W27 (argsL := []) (st := [.int (0 : Int32), .ref a8]) (wd_152 hw) (wd_153 hw) (wd_155 hw) (wd_154 hw) (wd_32 hw) (wd_156 hw) (fun _ hZ => notFace_of_selects (args := #[]) (mvT hZ (wd_155 hw))) (by decide) (a := k0) (H27.exam (mc10 hd0)) (c_a_head l Z a0 hw n0 k0 t0 g0 x1 x2 x3 x4 _ (mc10 hd0) _ H27) pd_7 rfl rfl rfl d13_122 (pc' := 125) rfl (by decide) (Wn := 2) (Nat.le_of_eq rfl) (by decide) (kc' := 7) (ks' := 23) rfl rfl (by decide) (by decide) ?_
  intro T28 v28 W28 hp28
  obtain ⟨rfl, H28⟩ := hp28
  show Goes _ _ _ _ (State.setTop _ (mkF _ _ _ [.int g0, .int (0 : Int32), .ref a8]))
  refine g_iastoreI W28 H28 (i := 7) rfl (jx := 0) (by decide) (by exact (by decide : 0 < 3)) d13_125 (pc' := 126) rfl (L' := ((a, o_ArrayList Z (.int mcL) (.ref el) (.int (3 : Int32))) :: (el, RaC Z "java/lang/Object" lv) :: (a18, IaC Z (List.replicate 5 0)) :: (a16, ArC Z .double [.double 0, .double 0, .double 0]) :: (a14, ArC Z .double [.double 0, .double 0, .double 0]) :: (a12, ArC Z .double [.double 0, .double 0, .double 0]) :: (a10, ArC Z .double [.double 0, .double 0, .double 0]) :: (a8, IaC Z ([g0, 0, 0] : List Int32)) :: (a6, IaC Z ([t0, 0, 0] : List Int32)) :: (nt, o_Network Z (.int (3 : Int32)) (.int ft) (.ref a6) (.ref a8) (.ref a10) (.ref a12) (.ref a14) (.ref a16) (.ref a18) .null) :: F)) rfl ?_
  intro T29 W29 H29
  refine g_aloadN W29 d13_126 (pc' := 127) rfl rfl rfl ?_
  refine g_getf W29 (wd_114 hw) Via.refl H29 (i := 9) rfl (jx := 4) rfl d13_127 (pc' := 130) rfl ?_
  intro T30 W30 H30
  refine g_iload W30 d13_130 (pc' := 132) rfl rfl ?_
  refine g_aload W30 d13_132 (pc' := 134) rfl rfl rfl ?_
  refine g_callVE W30 (argsL := []) (st := [.int (0 : Int32), .ref a10]) (wd_157 hw) (wd_158 hw) (wd_160 hw) (wd_159 hw) (wd_32 hw) (wd_161 hw) (fun _ hZ => notFace_of_selects (args := #[]) (mvT hZ (wd_160 hw))) (by decide) (a := k0) (H30.exam (mc10 hd0)) (c_a_capacity l Z a0 hw n0 k0 t0 g0 x1 x2 x3 x4 _ (mc10 hd0) _ H30) pd_8 rfl rfl rfl d13_134 (pc' := 137) rfl (by decide) (Wn := 2) (Nat.le_of_eq rfl) (by decide) (kc' := 7) (ks' := 23) rfl rfl (by decide) (by decide) ?_
  intro T31 v31 W31 hp31
  obtain ⟨rfl, H31⟩ := hp31
  show Goes _ _ _ _ (State.setTop _ (mkF _ _ _ [.double x1, .int (0 : Int32), .ref a10]))
  refine g_dastore W31 H31 (i := 6) rfl (jx := 0) (by decide) (by exact (by decide : 0 < 3)) d13_137 (pc' := 138) rfl (L' := ((a, o_ArrayList Z (.int mcL) (.ref el) (.int (3 : Int32))) :: (el, RaC Z "java/lang/Object" lv) :: (a18, IaC Z (List.replicate 5 0)) :: (a16, ArC Z .double [.double 0, .double 0, .double 0]) :: (a14, ArC Z .double [.double 0, .double 0, .double 0]) :: (a12, ArC Z .double [.double 0, .double 0, .double 0]) :: (a10, ArC Z .double [.double x1, .double 0, .double 0]) :: (a8, IaC Z ([g0, 0, 0] : List Int32)) :: (a6, IaC Z ([t0, 0, 0] : List Int32)) :: (nt, o_Network Z (.int (3 : Int32)) (.int ft) (.ref a6) (.ref a8) (.ref a10) (.ref a12) (.ref a14) (.ref a16) (.ref a18) .null) :: F)) rfl ?_
  intro T32 W32 H32
  refine g_aloadN W32 d13_138 (pc' := 139) rfl rfl rfl ?_
  refine g_getf W32 (wd_116 hw) Via.refl H32 (i := 9) rfl (jx := 5) rfl d13_139 (pc' := 142) rfl ?_
  intro T33 W33 H33
  refine g_iload W33 d13_142 (pc' := 144) rfl rfl ?_
  refine g_aload W33 d13_144 (pc' := 146) rfl rfl rfl ?_
  refine g_callVE W33 (argsL := []) (st := [.int (0 : Int32), .ref a12]) (wd_162 hw) (wd_163 hw) (wd_165 hw) (wd_164 hw) (wd_32 hw) (wd_166 hw) (fun _ hZ => notFace_of_selects (args := #[]) (mvT hZ (wd_165 hw))) (by decide) (a := k0) (H33.exam (mc10 hd0)) (c_a_freeFlowTime l Z a0 hw n0 k0 t0 g0 x1 x2 x3 x4 _ (mc10 hd0) _ H33) pd_8 rfl rfl rfl d13_146 (pc' := 149) rfl (by decide) (Wn := 2) (Nat.le_of_eq rfl) (by decide) (kc' := 7) (ks' := 23) rfl rfl (by decide) (by decide) ?_
  intro T34 v34 W34 hp34
  obtain ⟨rfl, H34⟩ := hp34
  show Goes _ _ _ _ (State.setTop _ (mkF _ _ _ [.double x2, .int (0 : Int32), .ref a12]))
  refine g_dastore W34 H34 (i := 5) rfl (jx := 0) (by decide) (by exact (by decide : 0 < 3)) d13_149 (pc' := 150) rfl (L' := ((a, o_ArrayList Z (.int mcL) (.ref el) (.int (3 : Int32))) :: (el, RaC Z "java/lang/Object" lv) :: (a18, IaC Z (List.replicate 5 0)) :: (a16, ArC Z .double [.double 0, .double 0, .double 0]) :: (a14, ArC Z .double [.double 0, .double 0, .double 0]) :: (a12, ArC Z .double [.double x2, .double 0, .double 0]) :: (a10, ArC Z .double [.double x1, .double 0, .double 0]) :: (a8, IaC Z ([g0, 0, 0] : List Int32)) :: (a6, IaC Z ([t0, 0, 0] : List Int32)) :: (nt, o_Network Z (.int (3 : Int32)) (.int ft) (.ref a6) (.ref a8) (.ref a10) (.ref a12) (.ref a14) (.ref a16) (.ref a18) .null) :: F)) rfl ?_
  intro T35 W35 H35
  refine g_aloadN W35 d13_150 (pc' := 151) rfl rfl rfl ?_
  refine g_getf W35 (wd_118 hw) Via.refl H35 (i := 9) rfl (jx := 6) rfl d13_151 (pc' := 154) rfl ?_
  intro T36 W36 H36
  refine g_iload W36 d13_154 (pc' := 156) rfl rfl ?_
  refine g_aload W36 d13_156 (pc' := 158) rfl rfl rfl ?_
  refine g_callVE W36 (argsL := []) (st := [.int (0 : Int32), .ref a14]) (wd_167 hw) (wd_168 hw) (wd_170 hw) (wd_169 hw) (wd_32 hw) (wd_171 hw) (fun _ hZ => notFace_of_selects (args := #[]) (mvT hZ (wd_170 hw))) (by decide) (a := k0) (H36.exam (mc10 hd0)) (c_a_b l Z a0 hw n0 k0 t0 g0 x1 x2 x3 x4 _ (mc10 hd0) _ H36) pd_8 rfl rfl rfl d13_158 (pc' := 161) rfl (by decide) (Wn := 2) (Nat.le_of_eq rfl) (by decide) (kc' := 7) (ks' := 23) rfl rfl (by decide) (by decide) ?_
  intro T37 v37 W37 hp37
  obtain ⟨rfl, H37⟩ := hp37
  show Goes _ _ _ _ (State.setTop _ (mkF _ _ _ [.double x3, .int (0 : Int32), .ref a14]))
  refine g_dastore W37 H37 (i := 4) rfl (jx := 0) (by decide) (by exact (by decide : 0 < 3)) d13_161 (pc' := 162) rfl (L' := ((a, o_ArrayList Z (.int mcL) (.ref el) (.int (3 : Int32))) :: (el, RaC Z "java/lang/Object" lv) :: (a18, IaC Z (List.replicate 5 0)) :: (a16, ArC Z .double [.double 0, .double 0, .double 0]) :: (a14, ArC Z .double [.double x3, .double 0, .double 0]) :: (a12, ArC Z .double [.double x2, .double 0, .double 0]) :: (a10, ArC Z .double [.double x1, .double 0, .double 0]) :: (a8, IaC Z ([g0, 0, 0] : List Int32)) :: (a6, IaC Z ([t0, 0, 0] : List Int32)) :: (nt, o_Network Z (.int (3 : Int32)) (.int ft) (.ref a6) (.ref a8) (.ref a10) (.ref a12) (.ref a14) (.ref a16) (.ref a18) .null) :: F)) rfl ?_
  intro T38 W38 H38
  refine g_aloadN W38 d13_162 (pc' := 163) rfl rfl rfl ?_
  refine g_getf W38 (wd_120 hw) Via.refl H38 (i := 9) rfl (jx := 7) rfl d13_163 (pc' := 166) rfl ?_
  intro T39 W39 H39
  refine g_iload W39 d13_166 (pc' := 168) rfl rfl ?_
  refine g_aload W39 d13_168 (pc' := 170) rfl rfl rfl ?_
  refine g_callVE W39 (argsL := []) (st := [.int (0 : Int32), .ref a16]) (wd_172 hw) (wd_173 hw) (wd_175 hw) (wd_174 hw) (wd_32 hw) (wd_176 hw) (fun _ hZ => notFace_of_selects (args := #[]) (mvT hZ (wd_175 hw))) (by decide) (a := k0) (H39.exam (mc10 hd0)) (c_a_power l Z a0 hw n0 k0 t0 g0 x1 x2 x3 x4 _ (mc10 hd0) _ H39) pd_8 rfl rfl rfl d13_170 (pc' := 173) rfl (by decide) (Wn := 2) (Nat.le_of_eq rfl) (by decide) (kc' := 7) (ks' := 23) rfl rfl (by decide) (by decide) ?_
  intro T40 v40 W40 hp40
  obtain ⟨rfl, H40⟩ := hp40
  show Goes _ _ _ _ (State.setTop _ (mkF _ _ _ [.double x4, .int (0 : Int32), .ref a16]))
  refine g_dastore W40 H40 (i := 3) rfl (jx := 0) (by decide) (by exact (by decide : 0 < 3)) d13_173 (pc' := 174) rfl (L' := ((a, o_ArrayList Z (.int mcL) (.ref el) (.int (3 : Int32))) :: (el, RaC Z "java/lang/Object" lv) :: (a18, IaC Z (List.replicate 5 0)) :: (a16, ArC Z .double [.double x4, .double 0, .double 0]) :: (a14, ArC Z .double [.double x3, .double 0, .double 0]) :: (a12, ArC Z .double [.double x2, .double 0, .double 0]) :: (a10, ArC Z .double [.double x1, .double 0, .double 0]) :: (a8, IaC Z ([g0, 0, 0] : List Int32)) :: (a6, IaC Z ([t0, 0, 0] : List Int32)) :: (nt, o_Network Z (.int (3 : Int32)) (.int ft) (.ref a6) (.ref a8) (.ref a10) (.ref a12) (.ref a14) (.ref a16) (.ref a18) .null) :: F)) rfl ?_
  intro T41 W41 H41
  refine g_aloadN W41 d13_174 (pc' := 175) rfl rfl rfl ?_
  refine g_getf W41 (wd_122 hw) Via.refl H41 (i := 9) rfl (jx := 8) rfl d13_175 (pc' := 178) rfl ?_
  intro T42 W42 H42
  refine g_aload W42 d13_178 (pc' := 180) rfl rfl rfl ?_
  refine g_callVE W42 (argsL := []) (st := [.ref a18]) (wd_147 hw) (wd_148 hw) (wd_150 hw) (wd_149 hw) (wd_32 hw) (wd_151 hw) (fun _ hZ => notFace_of_selects (args := #[]) (mvT hZ (wd_150 hw))) (by decide) (a := k0) (H42.exam (mc10 hd0)) (c_a_tail l Z a0 hw n0 k0 t0 g0 x1 x2 x3 x4 _ (mc10 hd0) _ H42) pd_7 rfl rfl rfl d13_180 (pc' := 183) rfl (by decide) (Wn := 1) (Nat.le_of_eq rfl) (by decide) (kc' := 7) (ks' := 23) rfl rfl (by decide) (by decide) ?_
  intro T43 v43 W43 hp43
  obtain ⟨rfl, H43⟩ := hp43
  show Goes _ _ _ _ (State.setTop _ (mkF _ _ _ [.int t0, .ref a18]))
  refine g_iconst W43 d13_183 (pc' := 184) rfl (v := (1 : Int32)) (by decide) ?_
  refine g_iadd W43 d13_184 (pc' := 185) rfl rfl ?_
  refine g_dup2 W43 d13_185 (pc' := 186) rfl rfl rfl ?_
  refine g_ialoadI W43 H43 (i := 2) rfl (jx := (j0 + 1)) (i_p1 ht0 (by omega)) (u := (zA0.getD (j0 + 1) 0)) (getD_some (by rw [lzA0]; omega)) d13_186 (pc' := 187) rfl ?_
  refine g_iconst W43 d13_187 (pc' := 188) rfl (v := (1 : Int32)) (by decide) ?_
  refine g_iadd W43 d13_188 (pc' := 189) rfl rfl ?_
  refine g_iastoreI W43 H43 (i := 2) rfl (jx := (j0 + 1)) (i_p1 ht0 (by omega)) (by rw [lzA0]; omega) d13_189 (pc' := 190) rfl (L' := ((a, o_ArrayList Z (.int mcL) (.ref el) (.int (3 : Int32))) :: (el, RaC Z "java/lang/Object" lv) :: (a18, IaC Z (zA1 j0)) :: (a16, ArC Z .double [.double x4, .double 0, .double 0]) :: (a14, ArC Z .double [.double x3, .double 0, .double 0]) :: (a12, ArC Z .double [.double x2, .double 0, .double 0]) :: (a10, ArC Z .double [.double x1, .double 0, .double 0]) :: (a8, IaC Z ([g0, 0, 0] : List Int32)) :: (a6, IaC Z ([t0, 0, 0] : List Int32)) :: (nt, o_Network Z (.int (3 : Int32)) (.int ft) (.ref a6) (.ref a8) (.ref a10) (.ref a12) (.ref a14) (.ref a16) (.ref a18) .null) :: F)) rfl ?_
  intro T44 W44 H44
  refine g_iinc W44 d13_190 (pc' := 193) rfl rfl (v := (1 : Int32)) (by decide) (ls' := #[.val (.ref nt), .val (.int (3 : Int32)), .val (.int ft), .val (.ref a), .val (.int (3 : Int32)), .val (.int (1 : Int32)), .val (.ref k0)]) rfl ?_
  refine g_goto W44 d13_193 (pc' := 82) (by decide) ?_
  refine g_iload W44 d13_82 (pc' := 84) rfl rfl ?_
  refine g_iload W44 d13_84 (pc' := 86) rfl rfl ?_
  refine g_icmp W44 d13_86 (pcy := 196) (by decide) (pc' := 89) rfl (fun (h : ¬ (1 : Int32) < (3 : Int32)) => absurd h (by decide)) (fun _ => ?_)
  refine g_aloadN W44 d13_89 (pc' := 90) rfl rfl rfl ?_
  refine g_iload W44 d13_90 (pc' := 92) rfl rfl ?_
  have H45f := Hp.fr1 H44
  have H46f := Hp.fr1 H45f
  refine g_callF W44 (argsL := [.int (1 : Int32)]) (st := []) (wd_124 hw) (wd_125 hw) (fun _ _ hZ => mvT hZ (wd_126 hw)) (wd_127 hw) (wd_128 hw) (wd_129 hw) (wd_130 hw) (wd_61 hw) (wd_6 hw) (wd_131 hw) (by decide) (a := a) (H46f.exa (i := 0) rfl) (c_get l Z a0 hw n0 a el mcL (3 : Int32) (1 : Int32) lv k1 1 (by decide) hl1 (by decide) (by decide) _ _ H46f) pd_6 rfl rfl rfl d13_92 (pc' := 97) rfl (by decide) (Wn := 0) (Nat.le_of_eq rfl) (by decide) (kc' := 7) (ks' := 23) rfl rfl (by decide) (by decide) ?_
  intro T47 v47 W47 hp47
  obtain ⟨rfl, H47⟩ := hp47
  show Goes _ _ _ _ (State.setTop _ (mkF _ _ _ [.ref k1]))
  refine g_cast1 W47 (wd_145 hw) (Ins.self (H47.exam (mc10 hd1))) H47 d13_97 (pc' := 100) rfl ?_
  intro T48 W48 _ H48
  refine g_astore W48 d13_100 (pc' := 102) rfl rfl (ls' := #[.val (.ref nt), .val (.int (3 : Int32)), .val (.int ft), .val (.ref a), .val (.int (3 : Int32)), .val (.int (1 : Int32)), .val (.ref k1)]) rfl ?_
  refine g_aloadN W48 d13_102 (pc' := 103) rfl rfl rfl ?_
  refine g_getf W48 (wd_109 hw) Via.refl H48 (i := 9) rfl (jx := 2) rfl d13_103 (pc' := 106) rfl ?_
  intro T49 W49 H49
  refine g_iload W49 d13_106 (pc' := 108) rfl rfl ?_
  refine g_aload W49 d13_108 (pc' := 110) rfl rfl rfl ?_
  refine g_callVE W49 (argsL := []) (st := [.int (1 : Int32), .ref a6]) (wd_147 hw) (wd_148 hw) (wd_150 hw) (wd_149 hw) (wd_32 hw) (wd_151 hw) (fun _ hZ => notFace_of_selects (args := #[]) (mvT hZ (wd_150 hw))) (by decide) (a := k1) (H49.exam (mc10 hd1)) (c_a_tail l Z a0 hw n0 k1 t1 g1 x1 x2 x3 x4 _ (mc10 hd1) _ H49) pd_7 rfl rfl rfl d13_110 (pc' := 113) rfl (by decide) (Wn := 2) (Nat.le_of_eq rfl) (by decide) (kc' := 7) (ks' := 23) rfl rfl (by decide) (by decide) ?_
  intro T50 v50 W50 hp50
  obtain ⟨rfl, H50⟩ := hp50
  show Goes _ _ _ _ (State.setTop _ (mkF _ _ _ [.int t1, .int (1 : Int32), .ref a6]))
  refine g_iastoreI W50 H50 (i := 8) rfl (jx := 1) (by decide) (by exact (by decide : 1 < 3)) d13_113 (pc' := 114) rfl (L' := ((a, o_ArrayList Z (.int mcL) (.ref el) (.int (3 : Int32))) :: (el, RaC Z "java/lang/Object" lv) :: (a18, IaC Z (zA1 j0)) :: (a16, ArC Z .double [.double x4, .double 0, .double 0]) :: (a14, ArC Z .double [.double x3, .double 0, .double 0]) :: (a12, ArC Z .double [.double x2, .double 0, .double 0]) :: (a10, ArC Z .double [.double x1, .double 0, .double 0]) :: (a8, IaC Z ([g0, 0, 0] : List Int32)) :: (a6, IaC Z ([t0, t1, 0] : List Int32)) :: (nt, o_Network Z (.int (3 : Int32)) (.int ft) (.ref a6) (.ref a8) (.ref a10) (.ref a12) (.ref a14) (.ref a16) (.ref a18) .null) :: F)) rfl ?_
  intro T51 W51 H51
  refine g_aloadN W51 d13_114 (pc' := 115) rfl rfl rfl ?_
  refine g_getf W51 (wd_111 hw) Via.refl H51 (i := 9) rfl (jx := 3) rfl d13_115 (pc' := 118) rfl ?_
  intro T52 W52 H52
  refine g_iload W52 d13_118 (pc' := 120) rfl rfl ?_
  refine g_aload W52 d13_120 (pc' := 122) rfl rfl rfl ?_
  refine g_callVE W52 (argsL := []) (st := [.int (1 : Int32), .ref a8]) (wd_152 hw) (wd_153 hw) (wd_155 hw) (wd_154 hw) (wd_32 hw) (wd_156 hw) (fun _ hZ => notFace_of_selects (args := #[]) (mvT hZ (wd_155 hw))) (by decide) (a := k1) (H52.exam (mc10 hd1)) (c_a_head l Z a0 hw n0 k1 t1 g1 x1 x2 x3 x4 _ (mc10 hd1) _ H52) pd_7 rfl rfl rfl d13_122 (pc' := 125) rfl (by decide) (Wn := 2) (Nat.le_of_eq rfl) (by decide) (kc' := 7) (ks' := 23) rfl rfl (by decide) (by decide) ?_
  intro T53 v53 W53 hp53
  obtain ⟨rfl, H53⟩ := hp53
  show Goes _ _ _ _ (State.setTop _ (mkF _ _ _ [.int g1, .int (1 : Int32), .ref a8]))
  refine g_iastoreI W53 H53 (i := 7) rfl (jx := 1) (by decide) (by exact (by decide : 1 < 3)) d13_125 (pc' := 126) rfl (L' := ((a, o_ArrayList Z (.int mcL) (.ref el) (.int (3 : Int32))) :: (el, RaC Z "java/lang/Object" lv) :: (a18, IaC Z (zA1 j0)) :: (a16, ArC Z .double [.double x4, .double 0, .double 0]) :: (a14, ArC Z .double [.double x3, .double 0, .double 0]) :: (a12, ArC Z .double [.double x2, .double 0, .double 0]) :: (a10, ArC Z .double [.double x1, .double 0, .double 0]) :: (a8, IaC Z ([g0, g1, 0] : List Int32)) :: (a6, IaC Z ([t0, t1, 0] : List Int32)) :: (nt, o_Network Z (.int (3 : Int32)) (.int ft) (.ref a6) (.ref a8) (.ref a10) (.ref a12) (.ref a14) (.ref a16) (.ref a18) .null) :: F)) rfl ?_
  intro T54 W54 H54
  refine g_aloadN W54 d13_126 (pc' := 127) rfl rfl rfl ?_
  refine g_getf W54 (wd_114 hw) Via.refl H54 (i := 9) rfl (jx := 4) rfl d13_127 (pc' := 130) rfl ?_
  intro T55 W55 H55
  refine g_iload W55 d13_130 (pc' := 132) rfl rfl ?_
  refine g_aload W55 d13_132 (pc' := 134) rfl rfl rfl ?_
  refine g_callVE W55 (argsL := []) (st := [.int (1 : Int32), .ref a10]) (wd_157 hw) (wd_158 hw) (wd_160 hw) (wd_159 hw) (wd_32 hw) (wd_161 hw) (fun _ hZ => notFace_of_selects (args := #[]) (mvT hZ (wd_160 hw))) (by decide) (a := k1) (H55.exam (mc10 hd1)) (c_a_capacity l Z a0 hw n0 k1 t1 g1 x1 x2 x3 x4 _ (mc10 hd1) _ H55) pd_8 rfl rfl rfl d13_134 (pc' := 137) rfl (by decide) (Wn := 2) (Nat.le_of_eq rfl) (by decide) (kc' := 7) (ks' := 23) rfl rfl (by decide) (by decide) ?_
  intro T56 v56 W56 hp56
  obtain ⟨rfl, H56⟩ := hp56
  show Goes _ _ _ _ (State.setTop _ (mkF _ _ _ [.double x1, .int (1 : Int32), .ref a10]))
  refine g_dastore W56 H56 (i := 6) rfl (jx := 1) (by decide) (by exact (by decide : 1 < 3)) d13_137 (pc' := 138) rfl (L' := ((a, o_ArrayList Z (.int mcL) (.ref el) (.int (3 : Int32))) :: (el, RaC Z "java/lang/Object" lv) :: (a18, IaC Z (zA1 j0)) :: (a16, ArC Z .double [.double x4, .double 0, .double 0]) :: (a14, ArC Z .double [.double x3, .double 0, .double 0]) :: (a12, ArC Z .double [.double x2, .double 0, .double 0]) :: (a10, ArC Z .double [.double x1, .double x1, .double 0]) :: (a8, IaC Z ([g0, g1, 0] : List Int32)) :: (a6, IaC Z ([t0, t1, 0] : List Int32)) :: (nt, o_Network Z (.int (3 : Int32)) (.int ft) (.ref a6) (.ref a8) (.ref a10) (.ref a12) (.ref a14) (.ref a16) (.ref a18) .null) :: F)) rfl ?_
  intro T57 W57 H57
  refine g_aloadN W57 d13_138 (pc' := 139) rfl rfl rfl ?_
  refine g_getf W57 (wd_116 hw) Via.refl H57 (i := 9) rfl (jx := 5) rfl d13_139 (pc' := 142) rfl ?_
  intro T58 W58 H58
  refine g_iload W58 d13_142 (pc' := 144) rfl rfl ?_
  refine g_aload W58 d13_144 (pc' := 146) rfl rfl rfl ?_
  refine g_callVE W58 (argsL := []) (st := [.int (1 : Int32), .ref a12]) (wd_162 hw) (wd_163 hw) (wd_165 hw) (wd_164 hw) (wd_32 hw) (wd_166 hw) (fun _ hZ => notFace_of_selects (args := #[]) (mvT hZ (wd_165 hw))) (by decide) (a := k1) (H58.exam (mc10 hd1)) (c_a_freeFlowTime l Z a0 hw n0 k1 t1 g1 x1 x2 x3 x4 _ (mc10 hd1) _ H58) pd_8 rfl rfl rfl d13_146 (pc' := 149) rfl (by decide) (Wn := 2) (Nat.le_of_eq rfl) (by decide) (kc' := 7) (ks' := 23) rfl rfl (by decide) (by decide) ?_
  intro T59 v59 W59 hp59
  obtain ⟨rfl, H59⟩ := hp59
  show Goes _ _ _ _ (State.setTop _ (mkF _ _ _ [.double x2, .int (1 : Int32), .ref a12]))
  refine g_dastore W59 H59 (i := 5) rfl (jx := 1) (by decide) (by exact (by decide : 1 < 3)) d13_149 (pc' := 150) rfl (L' := ((a, o_ArrayList Z (.int mcL) (.ref el) (.int (3 : Int32))) :: (el, RaC Z "java/lang/Object" lv) :: (a18, IaC Z (zA1 j0)) :: (a16, ArC Z .double [.double x4, .double 0, .double 0]) :: (a14, ArC Z .double [.double x3, .double 0, .double 0]) :: (a12, ArC Z .double [.double x2, .double x2, .double 0]) :: (a10, ArC Z .double [.double x1, .double x1, .double 0]) :: (a8, IaC Z ([g0, g1, 0] : List Int32)) :: (a6, IaC Z ([t0, t1, 0] : List Int32)) :: (nt, o_Network Z (.int (3 : Int32)) (.int ft) (.ref a6) (.ref a8) (.ref a10) (.ref a12) (.ref a14) (.ref a16) (.ref a18) .null) :: F)) rfl ?_
  intro T60 W60 H60
  refine g_aloadN W60 d13_150 (pc' := 151) rfl rfl rfl ?_
  refine g_getf W60 (wd_118 hw) Via.refl H60 (i := 9) rfl (jx := 6) rfl d13_151 (pc' := 154) rfl ?_
  intro T61 W61 H61
  refine g_iload W61 d13_154 (pc' := 156) rfl rfl ?_
  refine g_aload W61 d13_156 (pc' := 158) rfl rfl rfl ?_
  refine g_callVE W61 (argsL := []) (st := [.int (1 : Int32), .ref a14]) (wd_167 hw) (wd_168 hw) (wd_170 hw) (wd_169 hw) (wd_32 hw) (wd_171 hw) (fun _ hZ => notFace_of_selects (args := #[]) (mvT hZ (wd_170 hw))) (by decide) (a := k1) (H61.exam (mc10 hd1)) (c_a_b l Z a0 hw n0 k1 t1 g1 x1 x2 x3 x4 _ (mc10 hd1) _ H61) pd_8 rfl rfl rfl d13_158 (pc' := 161) rfl (by decide) (Wn := 2) (Nat.le_of_eq rfl) (by decide) (kc' := 7) (ks' := 23) rfl rfl (by decide) (by decide) ?_
  intro T62 v62 W62 hp62
  obtain ⟨rfl, H62⟩ := hp62
  show Goes _ _ _ _ (State.setTop _ (mkF _ _ _ [.double x3, .int (1 : Int32), .ref a14]))
  refine g_dastore W62 H62 (i := 4) rfl (jx := 1) (by decide) (by exact (by decide : 1 < 3)) d13_161 (pc' := 162) rfl (L' := ((a, o_ArrayList Z (.int mcL) (.ref el) (.int (3 : Int32))) :: (el, RaC Z "java/lang/Object" lv) :: (a18, IaC Z (zA1 j0)) :: (a16, ArC Z .double [.double x4, .double 0, .double 0]) :: (a14, ArC Z .double [.double x3, .double x3, .double 0]) :: (a12, ArC Z .double [.double x2, .double x2, .double 0]) :: (a10, ArC Z .double [.double x1, .double x1, .double 0]) :: (a8, IaC Z ([g0, g1, 0] : List Int32)) :: (a6, IaC Z ([t0, t1, 0] : List Int32)) :: (nt, o_Network Z (.int (3 : Int32)) (.int ft) (.ref a6) (.ref a8) (.ref a10) (.ref a12) (.ref a14) (.ref a16) (.ref a18) .null) :: F)) rfl ?_
  intro T63 W63 H63
  refine g_aloadN W63 d13_162 (pc' := 163) rfl rfl rfl ?_
  refine g_getf W63 (wd_120 hw) Via.refl H63 (i := 9) rfl (jx := 7) rfl d13_163 (pc' := 166) rfl ?_
  intro T64 W64 H64
  refine g_iload W64 d13_166 (pc' := 168) rfl rfl ?_
  refine g_aload W64 d13_168 (pc' := 170) rfl rfl rfl ?_
  refine g_callVE W64 (argsL := []) (st := [.int (1 : Int32), .ref a16]) (wd_172 hw) (wd_173 hw) (wd_175 hw) (wd_174 hw) (wd_32 hw) (wd_176 hw) (fun _ hZ => notFace_of_selects (args := #[]) (mvT hZ (wd_175 hw))) (by decide) (a := k1) (H64.exam (mc10 hd1)) (c_a_power l Z a0 hw n0 k1 t1 g1 x1 x2 x3 x4 _ (mc10 hd1) _ H64) pd_8 rfl rfl rfl d13_170 (pc' := 173) rfl (by decide) (Wn := 2) (Nat.le_of_eq rfl) (by decide) (kc' := 7) (ks' := 23) rfl rfl (by decide) (by decide) ?_
  intro T65 v65 W65 hp65
  obtain ⟨rfl, H65⟩ := hp65
  show Goes _ _ _ _ (State.setTop _ (mkF _ _ _ [.double x4, .int (1 : Int32), .ref a16]))
  refine g_dastore W65 H65 (i := 3) rfl (jx := 1) (by decide) (by exact (by decide : 1 < 3)) d13_173 (pc' := 174) rfl (L' := ((a, o_ArrayList Z (.int mcL) (.ref el) (.int (3 : Int32))) :: (el, RaC Z "java/lang/Object" lv) :: (a18, IaC Z (zA1 j0)) :: (a16, ArC Z .double [.double x4, .double x4, .double 0]) :: (a14, ArC Z .double [.double x3, .double x3, .double 0]) :: (a12, ArC Z .double [.double x2, .double x2, .double 0]) :: (a10, ArC Z .double [.double x1, .double x1, .double 0]) :: (a8, IaC Z ([g0, g1, 0] : List Int32)) :: (a6, IaC Z ([t0, t1, 0] : List Int32)) :: (nt, o_Network Z (.int (3 : Int32)) (.int ft) (.ref a6) (.ref a8) (.ref a10) (.ref a12) (.ref a14) (.ref a16) (.ref a18) .null) :: F)) rfl ?_
  intro T66 W66 H66
  refine g_aloadN W66 d13_174 (pc' := 175) rfl rfl rfl ?_
  refine g_getf W66 (wd_122 hw) Via.refl H66 (i := 9) rfl (jx := 8) rfl d13_175 (pc' := 178) rfl ?_
  intro T67 W67 H67
  refine g_aload W67 d13_178 (pc' := 180) rfl rfl rfl ?_
  refine g_callVE W67 (argsL := []) (st := [.ref a18]) (wd_147 hw) (wd_148 hw) (wd_150 hw) (wd_149 hw) (wd_32 hw) (wd_151 hw) (fun _ hZ => notFace_of_selects (args := #[]) (mvT hZ (wd_150 hw))) (by decide) (a := k1) (H67.exam (mc10 hd1)) (c_a_tail l Z a0 hw n0 k1 t1 g1 x1 x2 x3 x4 _ (mc10 hd1) _ H67) pd_7 rfl rfl rfl d13_180 (pc' := 183) rfl (by decide) (Wn := 1) (Nat.le_of_eq rfl) (by decide) (kc' := 7) (ks' := 23) rfl rfl (by decide) (by decide) ?_
  intro T68 v68 W68 hp68
  obtain ⟨rfl, H68⟩ := hp68
  show Goes _ _ _ _ (State.setTop _ (mkF _ _ _ [.int t1, .ref a18]))
  refine g_iconst W68 d13_183 (pc' := 184) rfl (v := (1 : Int32)) (by decide) ?_
  refine g_iadd W68 d13_184 (pc' := 185) rfl rfl ?_
  refine g_dup2 W68 d13_185 (pc' := 186) rfl rfl rfl ?_
  refine g_ialoadI W68 H68 (i := 2) rfl (jx := (j1 + 1)) (i_p1 ht1 (by omega)) (u := ((zA1 j0).getD (j1 + 1) 0)) (getD_some (by rw [lzA1]; omega)) d13_186 (pc' := 187) rfl ?_
  refine g_iconst W68 d13_187 (pc' := 188) rfl (v := (1 : Int32)) (by decide) ?_
  refine g_iadd W68 d13_188 (pc' := 189) rfl rfl ?_
  refine g_iastoreI W68 H68 (i := 2) rfl (jx := (j1 + 1)) (i_p1 ht1 (by omega)) (by rw [lzA1]; omega) d13_189 (pc' := 190) rfl (L' := ((a, o_ArrayList Z (.int mcL) (.ref el) (.int (3 : Int32))) :: (el, RaC Z "java/lang/Object" lv) :: (a18, IaC Z (zA2 j0 j1)) :: (a16, ArC Z .double [.double x4, .double x4, .double 0]) :: (a14, ArC Z .double [.double x3, .double x3, .double 0]) :: (a12, ArC Z .double [.double x2, .double x2, .double 0]) :: (a10, ArC Z .double [.double x1, .double x1, .double 0]) :: (a8, IaC Z ([g0, g1, 0] : List Int32)) :: (a6, IaC Z ([t0, t1, 0] : List Int32)) :: (nt, o_Network Z (.int (3 : Int32)) (.int ft) (.ref a6) (.ref a8) (.ref a10) (.ref a12) (.ref a14) (.ref a16) (.ref a18) .null) :: F)) rfl ?_
  intro T69 W69 H69
  refine g_iinc W69 d13_190 (pc' := 193) rfl rfl (v := (2 : Int32)) (by decide) (ls' := #[.val (.ref nt), .val (.int (3 : Int32)), .val (.int ft), .val (.ref a), .val (.int (3 : Int32)), .val (.int (2 : Int32)), .val (.ref k1)]) rfl ?_
  refine g_goto W69 d13_193 (pc' := 82) (by decide) ?_
  refine g_iload W69 d13_82 (pc' := 84) rfl rfl ?_
  refine g_iload W69 d13_84 (pc' := 86) rfl rfl ?_
  refine g_icmp W69 d13_86 (pcy := 196) (by decide) (pc' := 89) rfl (fun (h : ¬ (2 : Int32) < (3 : Int32)) => absurd h (by decide)) (fun _ => ?_)
  refine g_aloadN W69 d13_89 (pc' := 90) rfl rfl rfl ?_
  refine g_iload W69 d13_90 (pc' := 92) rfl rfl ?_
  have H70f := Hp.fr1 H69
  have H71f := Hp.fr1 H70f
  refine g_callF W69 (argsL := [.int (2 : Int32)]) (st := []) (wd_124 hw) (wd_125 hw) (fun _ _ hZ => mvT hZ (wd_126 hw)) (wd_127 hw) (wd_128 hw) (wd_129 hw) (wd_130 hw) (wd_61 hw) (wd_6 hw) (wd_131 hw) (by decide) (a := a) (H71f.exa (i := 0) rfl) (c_get l Z a0 hw n0 a el mcL (3 : Int32) (2 : Int32) lv k2 2 (by decide) hl2 (by decide) (by decide) _ _ H71f) pd_6 rfl rfl rfl d13_92 (pc' := 97) rfl (by decide) (Wn := 0) (Nat.le_of_eq rfl) (by decide) (kc' := 7) (ks' := 23) rfl rfl (by decide) (by decide) ?_
  intro T72 v72 W72 hp72
  obtain ⟨rfl, H72⟩ := hp72
  show Goes _ _ _ _ (State.setTop _ (mkF _ _ _ [.ref k2]))
  refine g_cast1 W72 (wd_145 hw) (Ins.self (H72.exam (mc10 hd2))) H72 d13_97 (pc' := 100) rfl ?_
  intro T73 W73 _ H73
  refine g_astore W73 d13_100 (pc' := 102) rfl rfl (ls' := #[.val (.ref nt), .val (.int (3 : Int32)), .val (.int ft), .val (.ref a), .val (.int (3 : Int32)), .val (.int (2 : Int32)), .val (.ref k2)]) rfl ?_
  refine g_aloadN W73 d13_102 (pc' := 103) rfl rfl rfl ?_
  refine g_getf W73 (wd_109 hw) Via.refl H73 (i := 9) rfl (jx := 2) rfl d13_103 (pc' := 106) rfl ?_
  intro T74 W74 H74
  refine g_iload W74 d13_106 (pc' := 108) rfl rfl ?_
  refine g_aload W74 d13_108 (pc' := 110) rfl rfl rfl ?_
  refine g_callVE W74 (argsL := []) (st := [.int (2 : Int32), .ref a6]) (wd_147 hw) (wd_148 hw) (wd_150 hw) (wd_149 hw) (wd_32 hw) (wd_151 hw) (fun _ hZ => notFace_of_selects (args := #[]) (mvT hZ (wd_150 hw))) (by decide) (a := k2) (H74.exam (mc10 hd2)) (c_a_tail l Z a0 hw n0 k2 t2 g2 x1 x2 x3 x4 _ (mc10 hd2) _ H74) pd_7 rfl rfl rfl d13_110 (pc' := 113) rfl (by decide) (Wn := 2) (Nat.le_of_eq rfl) (by decide) (kc' := 7) (ks' := 23) rfl rfl (by decide) (by decide) ?_
  intro T75 v75 W75 hp75
  obtain ⟨rfl, H75⟩ := hp75
  show Goes _ _ _ _ (State.setTop _ (mkF _ _ _ [.int t2, .int (2 : Int32), .ref a6]))
  refine g_iastoreI W75 H75 (i := 8) rfl (jx := 2) (by decide) (by exact (by decide : 2 < 3)) d13_113 (pc' := 114) rfl (L' := ((a, o_ArrayList Z (.int mcL) (.ref el) (.int (3 : Int32))) :: (el, RaC Z "java/lang/Object" lv) :: (a18, IaC Z (zA2 j0 j1)) :: (a16, ArC Z .double [.double x4, .double x4, .double 0]) :: (a14, ArC Z .double [.double x3, .double x3, .double 0]) :: (a12, ArC Z .double [.double x2, .double x2, .double 0]) :: (a10, ArC Z .double [.double x1, .double x1, .double 0]) :: (a8, IaC Z ([g0, g1, 0] : List Int32)) :: (a6, IaC Z ([t0, t1, t2] : List Int32)) :: (nt, o_Network Z (.int (3 : Int32)) (.int ft) (.ref a6) (.ref a8) (.ref a10) (.ref a12) (.ref a14) (.ref a16) (.ref a18) .null) :: F)) rfl ?_
  intro T76 W76 H76
  refine g_aloadN W76 d13_114 (pc' := 115) rfl rfl rfl ?_
  refine g_getf W76 (wd_111 hw) Via.refl H76 (i := 9) rfl (jx := 3) rfl d13_115 (pc' := 118) rfl ?_
  intro T77 W77 H77
  refine g_iload W77 d13_118 (pc' := 120) rfl rfl ?_
  refine g_aload W77 d13_120 (pc' := 122) rfl rfl rfl ?_
  refine g_callVE W77 (argsL := []) (st := [.int (2 : Int32), .ref a8]) (wd_152 hw) (wd_153 hw) (wd_155 hw) (wd_154 hw) (wd_32 hw) (wd_156 hw) (fun _ hZ => notFace_of_selects (args := #[]) (mvT hZ (wd_155 hw))) (by decide) (a := k2) (H77.exam (mc10 hd2)) (c_a_head l Z a0 hw n0 k2 t2 g2 x1 x2 x3 x4 _ (mc10 hd2) _ H77) pd_7 rfl rfl rfl d13_122 (pc' := 125) rfl (by decide) (Wn := 2) (Nat.le_of_eq rfl) (by decide) (kc' := 7) (ks' := 23) rfl rfl (by decide) (by decide) ?_
  intro T78 v78 W78 hp78
  obtain ⟨rfl, H78⟩ := hp78
  show Goes _ _ _ _ (State.setTop _ (mkF _ _ _ [.int g2, .int (2 : Int32), .ref a8]))
  refine g_iastoreI W78 H78 (i := 7) rfl (jx := 2) (by decide) (by exact (by decide : 2 < 3)) d13_125 (pc' := 126) rfl (L' := ((a, o_ArrayList Z (.int mcL) (.ref el) (.int (3 : Int32))) :: (el, RaC Z "java/lang/Object" lv) :: (a18, IaC Z (zA2 j0 j1)) :: (a16, ArC Z .double [.double x4, .double x4, .double 0]) :: (a14, ArC Z .double [.double x3, .double x3, .double 0]) :: (a12, ArC Z .double [.double x2, .double x2, .double 0]) :: (a10, ArC Z .double [.double x1, .double x1, .double 0]) :: (a8, IaC Z ([g0, g1, g2] : List Int32)) :: (a6, IaC Z ([t0, t1, t2] : List Int32)) :: (nt, o_Network Z (.int (3 : Int32)) (.int ft) (.ref a6) (.ref a8) (.ref a10) (.ref a12) (.ref a14) (.ref a16) (.ref a18) .null) :: F)) rfl ?_
  intro T79 W79 H79
  refine g_aloadN W79 d13_126 (pc' := 127) rfl rfl rfl ?_
  refine g_getf W79 (wd_114 hw) Via.refl H79 (i := 9) rfl (jx := 4) rfl d13_127 (pc' := 130) rfl ?_
  intro T80 W80 H80
  refine g_iload W80 d13_130 (pc' := 132) rfl rfl ?_
  refine g_aload W80 d13_132 (pc' := 134) rfl rfl rfl ?_
  refine g_callVE W80 (argsL := []) (st := [.int (2 : Int32), .ref a10]) (wd_157 hw) (wd_158 hw) (wd_160 hw) (wd_159 hw) (wd_32 hw) (wd_161 hw) (fun _ hZ => notFace_of_selects (args := #[]) (mvT hZ (wd_160 hw))) (by decide) (a := k2) (H80.exam (mc10 hd2)) (c_a_capacity l Z a0 hw n0 k2 t2 g2 x1 x2 x3 x4 _ (mc10 hd2) _ H80) pd_8 rfl rfl rfl d13_134 (pc' := 137) rfl (by decide) (Wn := 2) (Nat.le_of_eq rfl) (by decide) (kc' := 7) (ks' := 23) rfl rfl (by decide) (by decide) ?_
  intro T81 v81 W81 hp81
  obtain ⟨rfl, H81⟩ := hp81
  show Goes _ _ _ _ (State.setTop _ (mkF _ _ _ [.double x1, .int (2 : Int32), .ref a10]))
  refine g_dastore W81 H81 (i := 6) rfl (jx := 2) (by decide) (by exact (by decide : 2 < 3)) d13_137 (pc' := 138) rfl (L' := ((a, o_ArrayList Z (.int mcL) (.ref el) (.int (3 : Int32))) :: (el, RaC Z "java/lang/Object" lv) :: (a18, IaC Z (zA2 j0 j1)) :: (a16, ArC Z .double [.double x4, .double x4, .double 0]) :: (a14, ArC Z .double [.double x3, .double x3, .double 0]) :: (a12, ArC Z .double [.double x2, .double x2, .double 0]) :: (a10, ArC Z .double [.double x1, .double x1, .double x1]) :: (a8, IaC Z ([g0, g1, g2] : List Int32)) :: (a6, IaC Z ([t0, t1, t2] : List Int32)) :: (nt, o_Network Z (.int (3 : Int32)) (.int ft) (.ref a6) (.ref a8) (.ref a10) (.ref a12) (.ref a14) (.ref a16) (.ref a18) .null) :: F)) rfl ?_
  intro T82 W82 H82
  refine g_aloadN W82 d13_138 (pc' := 139) rfl rfl rfl ?_
  refine g_getf W82 (wd_116 hw) Via.refl H82 (i := 9) rfl (jx := 5) rfl d13_139 (pc' := 142) rfl ?_
  intro T83 W83 H83
  refine g_iload W83 d13_142 (pc' := 144) rfl rfl ?_
  refine g_aload W83 d13_144 (pc' := 146) rfl rfl rfl ?_
  refine g_callVE W83 (argsL := []) (st := [.int (2 : Int32), .ref a12]) (wd_162 hw) (wd_163 hw) (wd_165 hw) (wd_164 hw) (wd_32 hw) (wd_166 hw) (fun _ hZ => notFace_of_selects (args := #[]) (mvT hZ (wd_165 hw))) (by decide) (a := k2) (H83.exam (mc10 hd2)) (c_a_freeFlowTime l Z a0 hw n0 k2 t2 g2 x1 x2 x3 x4 _ (mc10 hd2) _ H83) pd_8 rfl rfl rfl d13_146 (pc' := 149) rfl (by decide) (Wn := 2) (Nat.le_of_eq rfl) (by decide) (kc' := 7) (ks' := 23) rfl rfl (by decide) (by decide) ?_
  intro T84 v84 W84 hp84
  obtain ⟨rfl, H84⟩ := hp84
  show Goes _ _ _ _ (State.setTop _ (mkF _ _ _ [.double x2, .int (2 : Int32), .ref a12]))
  refine g_dastore W84 H84 (i := 5) rfl (jx := 2) (by decide) (by exact (by decide : 2 < 3)) d13_149 (pc' := 150) rfl (L' := ((a, o_ArrayList Z (.int mcL) (.ref el) (.int (3 : Int32))) :: (el, RaC Z "java/lang/Object" lv) :: (a18, IaC Z (zA2 j0 j1)) :: (a16, ArC Z .double [.double x4, .double x4, .double 0]) :: (a14, ArC Z .double [.double x3, .double x3, .double 0]) :: (a12, ArC Z .double [.double x2, .double x2, .double x2]) :: (a10, ArC Z .double [.double x1, .double x1, .double x1]) :: (a8, IaC Z ([g0, g1, g2] : List Int32)) :: (a6, IaC Z ([t0, t1, t2] : List Int32)) :: (nt, o_Network Z (.int (3 : Int32)) (.int ft) (.ref a6) (.ref a8) (.ref a10) (.ref a12) (.ref a14) (.ref a16) (.ref a18) .null) :: F)) rfl ?_
  intro T85 W85 H85
  refine g_aloadN W85 d13_150 (pc' := 151) rfl rfl rfl ?_
  refine g_getf W85 (wd_118 hw) Via.refl H85 (i := 9) rfl (jx := 6) rfl d13_151 (pc' := 154) rfl ?_
  intro T86 W86 H86
  refine g_iload W86 d13_154 (pc' := 156) rfl rfl ?_
  refine g_aload W86 d13_156 (pc' := 158) rfl rfl rfl ?_
  refine g_callVE W86 (argsL := []) (st := [.int (2 : Int32), .ref a14]) (wd_167 hw) (wd_168 hw) (wd_170 hw) (wd_169 hw) (wd_32 hw) (wd_171 hw) (fun _ hZ => notFace_of_selects (args := #[]) (mvT hZ (wd_170 hw))) (by decide) (a := k2) (H86.exam (mc10 hd2)) (c_a_b l Z a0 hw n0 k2 t2 g2 x1 x2 x3 x4 _ (mc10 hd2) _ H86) pd_8 rfl rfl rfl d13_158 (pc' := 161) rfl (by decide) (Wn := 2) (Nat.le_of_eq rfl) (by decide) (kc' := 7) (ks' := 23) rfl rfl (by decide) (by decide) ?_
  intro T87 v87 W87 hp87
  obtain ⟨rfl, H87⟩ := hp87
  show Goes _ _ _ _ (State.setTop _ (mkF _ _ _ [.double x3, .int (2 : Int32), .ref a14]))
  refine g_dastore W87 H87 (i := 4) rfl (jx := 2) (by decide) (by exact (by decide : 2 < 3)) d13_161 (pc' := 162) rfl (L' := ((a, o_ArrayList Z (.int mcL) (.ref el) (.int (3 : Int32))) :: (el, RaC Z "java/lang/Object" lv) :: (a18, IaC Z (zA2 j0 j1)) :: (a16, ArC Z .double [.double x4, .double x4, .double 0]) :: (a14, ArC Z .double [.double x3, .double x3, .double x3]) :: (a12, ArC Z .double [.double x2, .double x2, .double x2]) :: (a10, ArC Z .double [.double x1, .double x1, .double x1]) :: (a8, IaC Z ([g0, g1, g2] : List Int32)) :: (a6, IaC Z ([t0, t1, t2] : List Int32)) :: (nt, o_Network Z (.int (3 : Int32)) (.int ft) (.ref a6) (.ref a8) (.ref a10) (.ref a12) (.ref a14) (.ref a16) (.ref a18) .null) :: F)) rfl ?_
  intro T88 W88 H88
  refine g_aloadN W88 d13_162 (pc' := 163) rfl rfl rfl ?_
  refine g_getf W88 (wd_120 hw) Via.refl H88 (i := 9) rfl (jx := 7) rfl d13_163 (pc' := 166) rfl ?_
  intro T89 W89 H89
  refine g_iload W89 d13_166 (pc' := 168) rfl rfl ?_
  refine g_aload W89 d13_168 (pc' := 170) rfl rfl rfl ?_
  refine g_callVE W89 (argsL := []) (st := [.int (2 : Int32), .ref a16]) (wd_172 hw) (wd_173 hw) (wd_175 hw) (wd_174 hw) (wd_32 hw) (wd_176 hw) (fun _ hZ => notFace_of_selects (args := #[]) (mvT hZ (wd_175 hw))) (by decide) (a := k2) (H89.exam (mc10 hd2)) (c_a_power l Z a0 hw n0 k2 t2 g2 x1 x2 x3 x4 _ (mc10 hd2) _ H89) pd_8 rfl rfl rfl d13_170 (pc' := 173) rfl (by decide) (Wn := 2) (Nat.le_of_eq rfl) (by decide) (kc' := 7) (ks' := 23) rfl rfl (by decide) (by decide) ?_
  intro T90 v90 W90 hp90
  obtain ⟨rfl, H90⟩ := hp90
  show Goes _ _ _ _ (State.setTop _ (mkF _ _ _ [.double x4, .int (2 : Int32), .ref a16]))
  refine g_dastore W90 H90 (i := 3) rfl (jx := 2) (by decide) (by exact (by decide : 2 < 3)) d13_173 (pc' := 174) rfl (L' := ((a, o_ArrayList Z (.int mcL) (.ref el) (.int (3 : Int32))) :: (el, RaC Z "java/lang/Object" lv) :: (a18, IaC Z (zA2 j0 j1)) :: (a16, ArC Z .double [.double x4, .double x4, .double x4]) :: (a14, ArC Z .double [.double x3, .double x3, .double x3]) :: (a12, ArC Z .double [.double x2, .double x2, .double x2]) :: (a10, ArC Z .double [.double x1, .double x1, .double x1]) :: (a8, IaC Z ([g0, g1, g2] : List Int32)) :: (a6, IaC Z ([t0, t1, t2] : List Int32)) :: (nt, o_Network Z (.int (3 : Int32)) (.int ft) (.ref a6) (.ref a8) (.ref a10) (.ref a12) (.ref a14) (.ref a16) (.ref a18) .null) :: F)) rfl ?_
  intro T91 W91 H91
  refine g_aloadN W91 d13_174 (pc' := 175) rfl rfl rfl ?_
  refine g_getf W91 (wd_122 hw) Via.refl H91 (i := 9) rfl (jx := 8) rfl d13_175 (pc' := 178) rfl ?_
  intro T92 W92 H92
  refine g_aload W92 d13_178 (pc' := 180) rfl rfl rfl ?_
  refine g_callVE W92 (argsL := []) (st := [.ref a18]) (wd_147 hw) (wd_148 hw) (wd_150 hw) (wd_149 hw) (wd_32 hw) (wd_151 hw) (fun _ hZ => notFace_of_selects (args := #[]) (mvT hZ (wd_150 hw))) (by decide) (a := k2) (H92.exam (mc10 hd2)) (c_a_tail l Z a0 hw n0 k2 t2 g2 x1 x2 x3 x4 _ (mc10 hd2) _ H92) pd_7 rfl rfl rfl d13_180 (pc' := 183) rfl (by decide) (Wn := 1) (Nat.le_of_eq rfl) (by decide) (kc' := 7) (ks' := 23) rfl rfl (by decide) (by decide) ?_
  intro T93 v93 W93 hp93
  obtain ⟨rfl, H93⟩ := hp93
  show Goes _ _ _ _ (State.setTop _ (mkF _ _ _ [.int t2, .ref a18]))
  refine g_iconst W93 d13_183 (pc' := 184) rfl (v := (1 : Int32)) (by decide) ?_
  refine g_iadd W93 d13_184 (pc' := 185) rfl rfl ?_
  refine g_dup2 W93 d13_185 (pc' := 186) rfl rfl rfl ?_
  refine g_ialoadI W93 H93 (i := 2) rfl (jx := (j2 + 1)) (i_p1 ht2 (by omega)) (u := ((zA2 j0 j1).getD (j2 + 1) 0)) (getD_some (by rw [lzA2]; omega)) d13_186 (pc' := 187) rfl ?_
  refine g_iconst W93 d13_187 (pc' := 188) rfl (v := (1 : Int32)) (by decide) ?_
  refine g_iadd W93 d13_188 (pc' := 189) rfl rfl ?_
  refine g_iastoreI W93 H93 (i := 2) rfl (jx := (j2 + 1)) (i_p1 ht2 (by omega)) (by rw [lzA2]; omega) d13_189 (pc' := 190) rfl (L' := ((a, o_ArrayList Z (.int mcL) (.ref el) (.int (3 : Int32))) :: (el, RaC Z "java/lang/Object" lv) :: (a18, IaC Z (zA3 j0 j1 j2)) :: (a16, ArC Z .double [.double x4, .double x4, .double x4]) :: (a14, ArC Z .double [.double x3, .double x3, .double x3]) :: (a12, ArC Z .double [.double x2, .double x2, .double x2]) :: (a10, ArC Z .double [.double x1, .double x1, .double x1]) :: (a8, IaC Z ([g0, g1, g2] : List Int32)) :: (a6, IaC Z ([t0, t1, t2] : List Int32)) :: (nt, o_Network Z (.int (3 : Int32)) (.int ft) (.ref a6) (.ref a8) (.ref a10) (.ref a12) (.ref a14) (.ref a16) (.ref a18) .null) :: F)) rfl ?_
  intro T94 W94 H94
  refine g_iinc W94 d13_190 (pc' := 193) rfl rfl (v := (3 : Int32)) (by decide) (ls' := #[.val (.ref nt), .val (.int (3 : Int32)), .val (.int ft), .val (.ref a), .val (.int (3 : Int32)), .val (.int (3 : Int32)), .val (.ref k2)]) rfl ?_
  refine g_goto W94 d13_193 (pc' := 82) (by decide) ?_
  refine g_iload W94 d13_82 (pc' := 84) rfl rfl ?_
  refine g_iload W94 d13_84 (pc' := 86) rfl rfl ?_
  refine g_icmp W94 d13_86 (pcy := 196) (by decide) (pc' := 89) rfl (fun _ => ?_) (fun (h : ¬ ¬ (3 : Int32) < (3 : Int32)) => absurd h (by decide))
  refine g_iconst W94 d13_196 (pc' := 197) rfl (v := (1 : Int32)) (by decide) ?_
  refine g_istore W94 d13_197 (pc' := 199) rfl (ls' := #[.val (.ref nt), .val (.int (3 : Int32)), .val (.int ft), .val (.ref a), .val (.int (3 : Int32)), .val (.int (1 : Int32)), .val (.ref k2)]) rfl ?_
  refine g_iload W94 d13_199 (pc' := 201) rfl rfl ?_
  refine g_iloadN W94 d13_201 (pc' := 202) rfl rfl ?_
  refine g_icmp W94 d13_202 (pcy := 230) (by decide) (pc' := 205) rfl (fun (h : (3 : Int32) < (1 : Int32)) => absurd h (by decide)) (fun _ => ?_)
  refine g_aloadN W94 d13_205 (pc' := 206) rfl rfl rfl ?_
  refine g_getf W94 (wd_122 hw) Via.refl H94 (i := 9) rfl (jx := 8) rfl d13_206 (pc' := 209) rfl ?_
  intro T95 W95 H95
  refine g_iload W95 d13_209 (pc' := 211) rfl rfl ?_
  refine g_iconst W95 d13_211 (pc' := 212) rfl (v := (1 : Int32)) (by decide) ?_
  refine g_iadd W95 d13_212 (pc' := 213) rfl (v := (2 : Int32)) (by decide) ?_
  refine g_dup2 W95 d13_213 (pc' := 214) rfl rfl rfl ?_
  refine g_ialoadI W95 H95 (i := 2) rfl (jx := 2) (by decide) (u := ((zA3 j0 j1 j2).getD 2 0)) (getD_some (by rw [lzA3]; omega)) d13_214 (pc' := 215) rfl ?_
  refine g_aloadN W95 d13_215 (pc' := 216) rfl rfl rfl ?_
  refine g_getf W95 (wd_122 hw) Via.refl H95 (i := 9) rfl (jx := 8) rfl d13_216 (pc' := 219) rfl ?_
  intro T96 W96 H96
  refine g_iload W96 d13_219 (pc' := 221) rfl rfl ?_
  refine g_ialoadI W96 H96 (i := 2) rfl (jx := 1) (by decide) (u := ((zA3 j0 j1 j2).getD 1 0)) (getD_some (by rw [lzA3]; omega)) d13_221 (pc' := 222) rfl ?_
  refine g_iadd W96 d13_222 (pc' := 223) rfl rfl ?_
  refine g_iastoreI W96 H96 (i := 2) rfl (jx := 2) (by decide) (by rw [lzA3]; omega) d13_223 (pc' := 224) rfl (L' := ((a, o_ArrayList Z (.int mcL) (.ref el) (.int (3 : Int32))) :: (el, RaC Z "java/lang/Object" lv) :: (a18, IaC Z (zP1 j0 j1 j2)) :: (a16, ArC Z .double [.double x4, .double x4, .double x4]) :: (a14, ArC Z .double [.double x3, .double x3, .double x3]) :: (a12, ArC Z .double [.double x2, .double x2, .double x2]) :: (a10, ArC Z .double [.double x1, .double x1, .double x1]) :: (a8, IaC Z ([g0, g1, g2] : List Int32)) :: (a6, IaC Z ([t0, t1, t2] : List Int32)) :: (nt, o_Network Z (.int (3 : Int32)) (.int ft) (.ref a6) (.ref a8) (.ref a10) (.ref a12) (.ref a14) (.ref a16) (.ref a18) .null) :: F)) rfl ?_
  intro T97 W97 H97
  refine g_iinc W97 d13_224 (pc' := 227) rfl rfl (v := (2 : Int32)) (by decide) (ls' := #[.val (.ref nt), .val (.int (3 : Int32)), .val (.int ft), .val (.ref a), .val (.int (3 : Int32)), .val (.int (2 : Int32)), .val (.ref k2)]) rfl ?_
  refine g_goto W97 d13_227 (pc' := 199) (by decide) ?_
  refine g_iload W97 d13_199 (pc' := 201) rfl rfl ?_
  refine g_iloadN W97 d13_201 (pc' := 202) rfl rfl ?_
  refine g_icmp W97 d13_202 (pcy := 230) (by decide) (pc' := 205) rfl (fun (h : (3 : Int32) < (2 : Int32)) => absurd h (by decide)) (fun _ => ?_)
  refine g_aloadN W97 d13_205 (pc' := 206) rfl rfl rfl ?_
  refine g_getf W97 (wd_122 hw) Via.refl H97 (i := 9) rfl (jx := 8) rfl d13_206 (pc' := 209) rfl ?_
  intro T98 W98 H98
  refine g_iload W98 d13_209 (pc' := 211) rfl rfl ?_
  refine g_iconst W98 d13_211 (pc' := 212) rfl (v := (1 : Int32)) (by decide) ?_
  refine g_iadd W98 d13_212 (pc' := 213) rfl (v := (3 : Int32)) (by decide) ?_
  refine g_dup2 W98 d13_213 (pc' := 214) rfl rfl rfl ?_
  refine g_ialoadI W98 H98 (i := 2) rfl (jx := 3) (by decide) (u := ((zP1 j0 j1 j2).getD 3 0)) (getD_some (by rw [lzP1]; omega)) d13_214 (pc' := 215) rfl ?_
  refine g_aloadN W98 d13_215 (pc' := 216) rfl rfl rfl ?_
  refine g_getf W98 (wd_122 hw) Via.refl H98 (i := 9) rfl (jx := 8) rfl d13_216 (pc' := 219) rfl ?_
  intro T99 W99 H99
  refine g_iload W99 d13_219 (pc' := 221) rfl rfl ?_
  refine g_ialoadI W99 H99 (i := 2) rfl (jx := 2) (by decide) (u := ((zP1 j0 j1 j2).getD 2 0)) (getD_some (by rw [lzP1]; omega)) d13_221 (pc' := 222) rfl ?_
  refine g_iadd W99 d13_222 (pc' := 223) rfl rfl ?_
  refine g_iastoreI W99 H99 (i := 2) rfl (jx := 3) (by decide) (by rw [lzP1]; omega) d13_223 (pc' := 224) rfl (L' := ((a, o_ArrayList Z (.int mcL) (.ref el) (.int (3 : Int32))) :: (el, RaC Z "java/lang/Object" lv) :: (a18, IaC Z (zP2 j0 j1 j2)) :: (a16, ArC Z .double [.double x4, .double x4, .double x4]) :: (a14, ArC Z .double [.double x3, .double x3, .double x3]) :: (a12, ArC Z .double [.double x2, .double x2, .double x2]) :: (a10, ArC Z .double [.double x1, .double x1, .double x1]) :: (a8, IaC Z ([g0, g1, g2] : List Int32)) :: (a6, IaC Z ([t0, t1, t2] : List Int32)) :: (nt, o_Network Z (.int (3 : Int32)) (.int ft) (.ref a6) (.ref a8) (.ref a10) (.ref a12) (.ref a14) (.ref a16) (.ref a18) .null) :: F)) rfl ?_
  intro T100 W100 H100
  refine g_iinc W100 d13_224 (pc' := 227) rfl rfl (v := (3 : Int32)) (by decide) (ls' := #[.val (.ref nt), .val (.int (3 : Int32)), .val (.int ft), .val (.ref a), .val (.int (3 : Int32)), .val (.int (3 : Int32)), .val (.ref k2)]) rfl ?_
  refine g_goto W100 d13_227 (pc' := 199) (by decide) ?_
  refine g_iload W100 d13_199 (pc' := 201) rfl rfl ?_
  refine g_iloadN W100 d13_201 (pc' := 202) rfl rfl ?_
  refine g_icmp W100 d13_202 (pcy := 230) (by decide) (pc' := 205) rfl (fun (h : (3 : Int32) < (3 : Int32)) => absurd h (by decide)) (fun _ => ?_)
  refine g_aloadN W100 d13_205 (pc' := 206) rfl rfl rfl ?_
  refine g_getf W100 (wd_122 hw) Via.refl H100 (i := 9) rfl (jx := 8) rfl d13_206 (pc' := 209) rfl ?_
  intro T101 W101 H101
  refine g_iload W101 d13_209 (pc' := 211) rfl rfl ?_
  refine g_iconst W101 d13_211 (pc' := 212) rfl (v := (1 : Int32)) (by decide) ?_
  refine g_iadd W101 d13_212 (pc' := 213) rfl (v := (4 : Int32)) (by decide) ?_
  refine g_dup2 W101 d13_213 (pc' := 214) rfl rfl rfl ?_
  refine g_ialoadI W101 H101 (i := 2) rfl (jx := 4) (by decide) (u := ((zP2 j0 j1 j2).getD 4 0)) (getD_some (by rw [lzP2]; omega)) d13_214 (pc' := 215) rfl ?_
  refine g_aloadN W101 d13_215 (pc' := 216) rfl rfl rfl ?_
  refine g_getf W101 (wd_122 hw) Via.refl H101 (i := 9) rfl (jx := 8) rfl d13_216 (pc' := 219) rfl ?_
  intro T102 W102 H102
  refine g_iload W102 d13_219 (pc' := 221) rfl rfl ?_
  refine g_ialoadI W102 H102 (i := 2) rfl (jx := 3) (by decide) (u := ((zP2 j0 j1 j2).getD 3 0)) (getD_some (by rw [lzP2]; omega)) d13_221 (pc' := 222) rfl ?_
  refine g_iadd W102 d13_222 (pc' := 223) rfl rfl ?_
  refine g_iastoreI W102 H102 (i := 2) rfl (jx := 4) (by decide) (by rw [lzP2]; omega) d13_223 (pc' := 224) rfl (L' := ((a, o_ArrayList Z (.int mcL) (.ref el) (.int (3 : Int32))) :: (el, RaC Z "java/lang/Object" lv) :: (a18, IaC Z (zP3 j0 j1 j2)) :: (a16, ArC Z .double [.double x4, .double x4, .double x4]) :: (a14, ArC Z .double [.double x3, .double x3, .double x3]) :: (a12, ArC Z .double [.double x2, .double x2, .double x2]) :: (a10, ArC Z .double [.double x1, .double x1, .double x1]) :: (a8, IaC Z ([g0, g1, g2] : List Int32)) :: (a6, IaC Z ([t0, t1, t2] : List Int32)) :: (nt, o_Network Z (.int (3 : Int32)) (.int ft) (.ref a6) (.ref a8) (.ref a10) (.ref a12) (.ref a14) (.ref a16) (.ref a18) .null) :: F)) rfl ?_
  intro T103 W103 H103
  refine g_iinc W103 d13_224 (pc' := 227) rfl rfl (v := (4 : Int32)) (by decide) (ls' := #[.val (.ref nt), .val (.int (3 : Int32)), .val (.int ft), .val (.ref a), .val (.int (3 : Int32)), .val (.int (4 : Int32)), .val (.ref k2)]) rfl ?_
  refine g_goto W103 d13_227 (pc' := 199) (by decide) ?_
  refine g_iload W103 d13_199 (pc' := 201) rfl rfl ?_
  refine g_iloadN W103 d13_201 (pc' := 202) rfl rfl ?_
  refine g_icmp W103 d13_202 (pcy := 230) (by decide) (pc' := 205) rfl (fun _ => ?_) (fun (h : ¬ (3 : Int32) < (4 : Int32)) => absurd h (by decide))
  refine g_aloadN W103 d13_230 (pc' := 231) rfl rfl rfl ?_
  refine g_iload W103 d13_231 (pc' := 233) rfl rfl ?_
  refine g_newarrI W103 (wd_108 hw) H103 (by decide) (n := 3) (by decide) (cap := 3) (by decide) (by decide) d13_233 (pc' := 235) rfl (kc' := 8) (ks' := 26) rfl rfl (by decide) (by decide) ?_
  intro T104 a104 W104 H104
  refine g_putf W104 (wd_177 hw) Via.refl (Or.inr ⟨(wd_178 hw), rfl, rfl⟩) (wd_90 hw) (ty := (.array .int)) (by decide) rfl rfl H104 (i := 10) rfl (jx := 9) rfl d13_235 (pc' := 238) rfl (L' := ((a104, IaC Z (List.replicate 3 0)) :: (a, o_ArrayList Z (.int mcL) (.ref el) (.int (3 : Int32))) :: (el, RaC Z "java/lang/Object" lv) :: (a18, IaC Z (zP3 j0 j1 j2)) :: (a16, ArC Z .double [.double x4, .double x4, .double x4]) :: (a14, ArC Z .double [.double x3, .double x3, .double x3]) :: (a12, ArC Z .double [.double x2, .double x2, .double x2]) :: (a10, ArC Z .double [.double x1, .double x1, .double x1]) :: (a8, IaC Z ([g0, g1, g2] : List Int32)) :: (a6, IaC Z ([t0, t1, t2] : List Int32)) :: (nt, o_Network Z (.int (3 : Int32)) (.int ft) (.ref a6) (.ref a8) (.ref a10) (.ref a12) (.ref a14) (.ref a16) (.ref a18) (.ref a104)) :: F)) rfl ?_
  intro T105 W105 H105
  refine g_aloadN W105 d13_238 (pc' := 239) rfl rfl rfl ?_
  refine g_getf W105 (wd_122 hw) Via.refl H105 (i := 10) rfl (jx := 8) rfl d13_239 (pc' := 242) rfl ?_
  intro T106 W106 H106
  refine g_cloneI W106 (wd_179 hw) (wd_180 hw) (wd_184 hw) (wd_182 hw) (wd_183 hw) (wd_185 hw) H106 (i := 3) rfl rfl d13_242 (pc' := 245) rfl (by decide) (Wn := 0) (by decide) (by decide) (cap := 5) (by rw [lzP3]; omega) (kc' := 9) (ks' := 31) rfl rfl (by decide) (by decide) ?_
  intro T107 b1 W107 H107
  refine g_cast1 W107 (wd_186 hw) (Ins.self (by obtain ⟨-, cl, q1, q2⟩ := H107.get (i := 0) rfl; exact q2.exa q1)) H107 d13_245 (pc' := 248) rfl ?_
  intro T108 W108 _ H108
  refine g_astore W108 d13_248 (pc' := 250) rfl rfl (ls' := #[.val (.ref nt), .val (.int (3 : Int32)), .val (.int ft), .val (.ref a), .val (.int (3 : Int32)), .val (.ref b1), .val (.ref k2)]) rfl ?_
  refine g_iconst W108 d13_250 (pc' := 251) rfl (v := (0 : Int32)) (by decide) ?_
  refine g_istore W108 d13_251 (pc' := 253) rfl (ls' := #[.val (.ref nt), .val (.int (3 : Int32)), .val (.int ft), .val (.ref a), .val (.int (3 : Int32)), .val (.ref b1), .val (.int (0 : Int32))]) rfl ?_
  refine g_iload W108 d13_253 (pc' := 255) rfl rfl ?_
  refine g_iload W108 d13_255 (pc' := 257) rfl rfl ?_
  refine g_icmp W108 d13_257 (pcy := 288) (by decide) (pc' := 260) rfl (fun (h : ¬ (0 : Int32) < (3 : Int32)) => absurd h (by decide)) (fun _ => ?_)
  refine g_aloadN W108 d13_260 (pc' := 261) rfl rfl rfl ?_
  refine g_getf W108 (wd_177 hw) Via.refl H108 (i := 11) rfl (jx := 9) rfl d13_261 (pc' := 264) rfl ?_
  intro T109 W109 H109
  refine g_aload W109 d13_264 (pc' := 266) rfl rfl rfl ?_
  refine g_aloadN W109 d13_266 (pc' := 267) rfl rfl rfl ?_
  refine g_getf W109 (wd_109 hw) Via.refl H109 (i := 11) rfl (jx := 2) rfl d13_267 (pc' := 270) rfl ?_
  intro T110 W110 H110
  refine g_iload W110 d13_270 (pc' := 272) rfl rfl ?_
  refine g_ialoadI W110 H110 (i := 10) rfl (jx := 0) (by decide) (u := t0) rfl d13_272 (pc' := 273) rfl ?_
  refine g_dup2 W110 d13_273 (pc' := 274) rfl rfl rfl ?_
  refine g_ialoadI W110 H110 (i := 0) rfl (jx := j0) ht0 (u := ((zP3 j0 j1 j2).getD j0 0)) (getD_some (by rw [lzP3]; omega)) d13_274 (pc' := 275) rfl ?_
  refine g_dup_x2 W110 d13_275 (pc' := 276) rfl rfl rfl rfl ?_
  refine g_iconst W110 d13_276 (pc' := 277) rfl (v := (1 : Int32)) (by decide) ?_
  refine g_iadd W110 d13_277 (pc' := 278) rfl rfl ?_
  refine g_iastoreI W110 H110 (i := 0) rfl (jx := j0) ht0 (by rw [lzP3]; omega) d13_278 (pc' := 279) rfl (L' := ((b1, IaC Z (zX1 j0 j1 j2)) :: (a104, IaC Z (List.replicate 3 0)) :: (a, o_ArrayList Z (.int mcL) (.ref el) (.int (3 : Int32))) :: (el, RaC Z "java/lang/Object" lv) :: (a18, IaC Z (zP3 j0 j1 j2)) :: (a16, ArC Z .double [.double x4, .double x4, .double x4]) :: (a14, ArC Z .double [.double x3, .double x3, .double x3]) :: (a12, ArC Z .double [.double x2, .double x2, .double x2]) :: (a10, ArC Z .double [.double x1, .double x1, .double x1]) :: (a8, IaC Z ([g0, g1, g2] : List Int32)) :: (a6, IaC Z ([t0, t1, t2] : List Int32)) :: (nt, o_Network Z (.int (3 : Int32)) (.int ft) (.ref a6) (.ref a8) (.ref a10) (.ref a12) (.ref a14) (.ref a16) (.ref a18) (.ref a104)) :: F)) rfl ?_
  intro T111 W111 H111
  refine g_iload W111 d13_279 (pc' := 281) rfl rfl ?_
  refine g_iastoreI W111 H111 (i := 1) rfl (jx := ((zP3 j0 j1 j2).getD j0 0).toInt.toNat) ((Int.toNat_of_nonneg z0.1).symm) (by rw [lzO0]; omega) d13_281 (pc' := 282) rfl (L' := ((b1, IaC Z (zX1 j0 j1 j2)) :: (a104, IaC Z (zO1 j0 j1 j2)) :: (a, o_ArrayList Z (.int mcL) (.ref el) (.int (3 : Int32))) :: (el, RaC Z "java/lang/Object" lv) :: (a18, IaC Z (zP3 j0 j1 j2)) :: (a16, ArC Z .double [.double x4, .double x4, .double x4]) :: (a14, ArC Z .double [.double x3, .double x3, .double x3]) :: (a12, ArC Z .double [.double x2, .double x2, .double x2]) :: (a10, ArC Z .double [.double x1, .double x1, .double x1]) :: (a8, IaC Z ([g0, g1, g2] : List Int32)) :: (a6, IaC Z ([t0, t1, t2] : List Int32)) :: (nt, o_Network Z (.int (3 : Int32)) (.int ft) (.ref a6) (.ref a8) (.ref a10) (.ref a12) (.ref a14) (.ref a16) (.ref a18) (.ref a104)) :: F)) rfl ?_
  intro T112 W112 H112
  refine g_iinc W112 d13_282 (pc' := 285) rfl rfl (v := (1 : Int32)) (by decide) (ls' := #[.val (.ref nt), .val (.int (3 : Int32)), .val (.int ft), .val (.ref a), .val (.int (3 : Int32)), .val (.ref b1), .val (.int (1 : Int32))]) rfl ?_
  refine g_goto W112 d13_285 (pc' := 253) (by decide) ?_
  refine g_iload W112 d13_253 (pc' := 255) rfl rfl ?_
  refine g_iload W112 d13_255 (pc' := 257) rfl rfl ?_
  refine g_icmp W112 d13_257 (pcy := 288) (by decide) (pc' := 260) rfl (fun (h : ¬ (1 : Int32) < (3 : Int32)) => absurd h (by decide)) (fun _ => ?_)
  refine g_aloadN W112 d13_260 (pc' := 261) rfl rfl rfl ?_
  refine g_getf W112 (wd_177 hw) Via.refl H112 (i := 11) rfl (jx := 9) rfl d13_261 (pc' := 264) rfl ?_
  intro T113 W113 H113
  refine g_aload W113 d13_264 (pc' := 266) rfl rfl rfl ?_
  refine g_aloadN W113 d13_266 (pc' := 267) rfl rfl rfl ?_
  refine g_getf W113 (wd_109 hw) Via.refl H113 (i := 11) rfl (jx := 2) rfl d13_267 (pc' := 270) rfl ?_
  intro T114 W114 H114
  refine g_iload W114 d13_270 (pc' := 272) rfl rfl ?_
  refine g_ialoadI W114 H114 (i := 10) rfl (jx := 1) (by decide) (u := t1) rfl d13_272 (pc' := 273) rfl ?_
  refine g_dup2 W114 d13_273 (pc' := 274) rfl rfl rfl ?_
  refine g_ialoadI W114 H114 (i := 0) rfl (jx := j1) ht1 (u := ((zX1 j0 j1 j2).getD j1 0)) (getD_some (by rw [lzX1]; omega)) d13_274 (pc' := 275) rfl ?_
  refine g_dup_x2 W114 d13_275 (pc' := 276) rfl rfl rfl rfl ?_
  refine g_iconst W114 d13_276 (pc' := 277) rfl (v := (1 : Int32)) (by decide) ?_
  refine g_iadd W114 d13_277 (pc' := 278) rfl rfl ?_
  refine g_iastoreI W114 H114 (i := 0) rfl (jx := j1) ht1 (by rw [lzX1]; omega) d13_278 (pc' := 279) rfl (L' := ((b1, IaC Z (zX2 j0 j1 j2)) :: (a104, IaC Z (zO1 j0 j1 j2)) :: (a, o_ArrayList Z (.int mcL) (.ref el) (.int (3 : Int32))) :: (el, RaC Z "java/lang/Object" lv) :: (a18, IaC Z (zP3 j0 j1 j2)) :: (a16, ArC Z .double [.double x4, .double x4, .double x4]) :: (a14, ArC Z .double [.double x3, .double x3, .double x3]) :: (a12, ArC Z .double [.double x2, .double x2, .double x2]) :: (a10, ArC Z .double [.double x1, .double x1, .double x1]) :: (a8, IaC Z ([g0, g1, g2] : List Int32)) :: (a6, IaC Z ([t0, t1, t2] : List Int32)) :: (nt, o_Network Z (.int (3 : Int32)) (.int ft) (.ref a6) (.ref a8) (.ref a10) (.ref a12) (.ref a14) (.ref a16) (.ref a18) (.ref a104)) :: F)) rfl ?_
  intro T115 W115 H115
  refine g_iload W115 d13_279 (pc' := 281) rfl rfl ?_
  refine g_iastoreI W115 H115 (i := 1) rfl (jx := ((zX1 j0 j1 j2).getD j1 0).toInt.toNat) ((Int.toNat_of_nonneg z1.1).symm) (by rw [lzO1]; omega) d13_281 (pc' := 282) rfl (L' := ((b1, IaC Z (zX2 j0 j1 j2)) :: (a104, IaC Z (zO2 j0 j1 j2)) :: (a, o_ArrayList Z (.int mcL) (.ref el) (.int (3 : Int32))) :: (el, RaC Z "java/lang/Object" lv) :: (a18, IaC Z (zP3 j0 j1 j2)) :: (a16, ArC Z .double [.double x4, .double x4, .double x4]) :: (a14, ArC Z .double [.double x3, .double x3, .double x3]) :: (a12, ArC Z .double [.double x2, .double x2, .double x2]) :: (a10, ArC Z .double [.double x1, .double x1, .double x1]) :: (a8, IaC Z ([g0, g1, g2] : List Int32)) :: (a6, IaC Z ([t0, t1, t2] : List Int32)) :: (nt, o_Network Z (.int (3 : Int32)) (.int ft) (.ref a6) (.ref a8) (.ref a10) (.ref a12) (.ref a14) (.ref a16) (.ref a18) (.ref a104)) :: F)) rfl ?_
  intro T116 W116 H116
  refine g_iinc W116 d13_282 (pc' := 285) rfl rfl (v := (2 : Int32)) (by decide) (ls' := #[.val (.ref nt), .val (.int (3 : Int32)), .val (.int ft), .val (.ref a), .val (.int (3 : Int32)), .val (.ref b1), .val (.int (2 : Int32))]) rfl ?_
  refine g_goto W116 d13_285 (pc' := 253) (by decide) ?_
  refine g_iload W116 d13_253 (pc' := 255) rfl rfl ?_
  refine g_iload W116 d13_255 (pc' := 257) rfl rfl ?_
  refine g_icmp W116 d13_257 (pcy := 288) (by decide) (pc' := 260) rfl (fun (h : ¬ (2 : Int32) < (3 : Int32)) => absurd h (by decide)) (fun _ => ?_)
  refine g_aloadN W116 d13_260 (pc' := 261) rfl rfl rfl ?_
  refine g_getf W116 (wd_177 hw) Via.refl H116 (i := 11) rfl (jx := 9) rfl d13_261 (pc' := 264) rfl ?_
  intro T117 W117 H117
  refine g_aload W117 d13_264 (pc' := 266) rfl rfl rfl ?_
  refine g_aloadN W117 d13_266 (pc' := 267) rfl rfl rfl ?_
  refine g_getf W117 (wd_109 hw) Via.refl H117 (i := 11) rfl (jx := 2) rfl d13_267 (pc' := 270) rfl ?_
  intro T118 W118 H118
  refine g_iload W118 d13_270 (pc' := 272) rfl rfl ?_
  refine g_ialoadI W118 H118 (i := 10) rfl (jx := 2) (by decide) (u := t2) rfl d13_272 (pc' := 273) rfl ?_
  refine g_dup2 W118 d13_273 (pc' := 274) rfl rfl rfl ?_
  refine g_ialoadI W118 H118 (i := 0) rfl (jx := j2) ht2 (u := ((zX2 j0 j1 j2).getD j2 0)) (getD_some (by rw [lzX2]; omega)) d13_274 (pc' := 275) rfl ?_
  refine g_dup_x2 W118 d13_275 (pc' := 276) rfl rfl rfl rfl ?_
  refine g_iconst W118 d13_276 (pc' := 277) rfl (v := (1 : Int32)) (by decide) ?_
  refine g_iadd W118 d13_277 (pc' := 278) rfl rfl ?_
  refine g_iastoreI W118 H118 (i := 0) rfl (jx := j2) ht2 (by rw [lzX2]; omega) d13_278 (pc' := 279) rfl (L' := ((b1, IaC Z (zX3 j0 j1 j2)) :: (a104, IaC Z (zO2 j0 j1 j2)) :: (a, o_ArrayList Z (.int mcL) (.ref el) (.int (3 : Int32))) :: (el, RaC Z "java/lang/Object" lv) :: (a18, IaC Z (zP3 j0 j1 j2)) :: (a16, ArC Z .double [.double x4, .double x4, .double x4]) :: (a14, ArC Z .double [.double x3, .double x3, .double x3]) :: (a12, ArC Z .double [.double x2, .double x2, .double x2]) :: (a10, ArC Z .double [.double x1, .double x1, .double x1]) :: (a8, IaC Z ([g0, g1, g2] : List Int32)) :: (a6, IaC Z ([t0, t1, t2] : List Int32)) :: (nt, o_Network Z (.int (3 : Int32)) (.int ft) (.ref a6) (.ref a8) (.ref a10) (.ref a12) (.ref a14) (.ref a16) (.ref a18) (.ref a104)) :: F)) rfl ?_
  intro T119 W119 H119
  refine g_iload W119 d13_279 (pc' := 281) rfl rfl ?_
  refine g_iastoreI W119 H119 (i := 1) rfl (jx := ((zX2 j0 j1 j2).getD j2 0).toInt.toNat) ((Int.toNat_of_nonneg z2.1).symm) (by rw [lzO2]; omega) d13_281 (pc' := 282) rfl (L' := ((b1, IaC Z (zX3 j0 j1 j2)) :: (a104, IaC Z (zO3 j0 j1 j2)) :: (a, o_ArrayList Z (.int mcL) (.ref el) (.int (3 : Int32))) :: (el, RaC Z "java/lang/Object" lv) :: (a18, IaC Z (zP3 j0 j1 j2)) :: (a16, ArC Z .double [.double x4, .double x4, .double x4]) :: (a14, ArC Z .double [.double x3, .double x3, .double x3]) :: (a12, ArC Z .double [.double x2, .double x2, .double x2]) :: (a10, ArC Z .double [.double x1, .double x1, .double x1]) :: (a8, IaC Z ([g0, g1, g2] : List Int32)) :: (a6, IaC Z ([t0, t1, t2] : List Int32)) :: (nt, o_Network Z (.int (3 : Int32)) (.int ft) (.ref a6) (.ref a8) (.ref a10) (.ref a12) (.ref a14) (.ref a16) (.ref a18) (.ref a104)) :: F)) rfl ?_
  intro T120 W120 H120
  refine g_iinc W120 d13_282 (pc' := 285) rfl rfl (v := (3 : Int32)) (by decide) (ls' := #[.val (.ref nt), .val (.int (3 : Int32)), .val (.int ft), .val (.ref a), .val (.int (3 : Int32)), .val (.ref b1), .val (.int (3 : Int32))]) rfl ?_
  refine g_goto W120 d13_285 (pc' := 253) (by decide) ?_
  refine g_iload W120 d13_253 (pc' := 255) rfl rfl ?_
  refine g_iload W120 d13_255 (pc' := 257) rfl rfl ?_
  refine g_icmp W120 d13_257 (pcy := 288) (by decide) (pc' := 260) rfl (fun _ => ?_) (fun (h : ¬ ¬ (3 : Int32) < (3 : Int32)) => absurd h (by decide))
  have H121f := Hp.fr1 H120
  have H122f := Hp.fr4 H121f
  have H123f := Hp.fr9 H122f
  have H124f := Hp.fr10 H123f
  have H125f := Hp.fr11 H124f
  exact g_return W120 d13_288 ⟨_, _, _, _, _, _, _, _, [(b1, IaC Z (zX3 j0 j1 j2)), (a, o_ArrayList Z (.int mcL) (.ref el) (.int (3 : Int32))), (el, RaC Z "java/lang/Object" lv), (a16, ArC Z .double [.double x4, .double x4, .double x4]), (a14, ArC Z .double [.double x3, .double x3, .double x3]), (a12, ArC Z .double [.double x2, .double x2, .double x2]), (a10, ArC Z .double [.double x1, .double x1, .double x1])], rfl, H125f⟩ (by decide) (by decide)

theorem lt_inf {x : UInt64} (h : Jvm.FP.Core.DFin x) : FP.dcmp x (9218868437227405312 : UInt64) = some .lt ∧ FP.dcmp (9218868437227405312 : UInt64) x = some .gt := by
  have k : Jvm.FP.Core.dkey (9218868437227405312 : UInt64) = 9218868437227405312 := by decide +kernel
  have n : Jvm.FP.Core.val64 (9218868437227405312 : UInt64) ≠ .nan := by decide +kernel
  have b := (Jvm.FP.Core.fin_bits x).mp h
  refine ⟨?_, ?_⟩
  · rw [show FP.dcmp x (9218868437227405312 : UInt64) = _ from Jvm.FP.Core.dcmp_key h.ne_nan n]
    refine congrArg some ((Jvm.FP.Core.compare_lt_iff _ _).mpr ?_)
    rw [k]; unfold Jvm.FP.Core.dkey; split <;> omega
  · rw [show FP.dcmp (9218868437227405312 : UInt64) x = _ from Jvm.FP.Core.dcmp_key n h.ne_nan]
    refine congrArg some ((Jvm.FP.Core.compare_gt_iff _ _).mpr ?_)
    rw [k]; unfold Jvm.FP.Core.dkey; split <;> omega
/-- a distance as a number: 1000 is infinity -/
def DV (x : UInt64) (n : Nat) : Prop := (n = 1000 ∧ x = (9218868437227405312 : UInt64)) ∨ (n < 1000 ∧ Jvm.OwnKit.Dy (n : Int) 0 x)
theorem dv_cmp {x y : UInt64} {n k : Nat} (hx : DV x n) (hy : DV y k) : FP.dcmp x y = some (compare (n : Int) (k : Int)) := by
  rcases hx with ⟨rfl, rfl⟩ | ⟨h1, h2⟩
  · rcases hy with ⟨rfl, rfl⟩ | ⟨g1, g2⟩
    · decide +kernel
    · rw [(lt_inf g2.1).2]; exact congrArg some ((Jvm.FP.Core.compare_gt_iff _ _).mpr (by omega)).symm
  · rcases hy with ⟨rfl, rfl⟩ | ⟨g1, g2⟩
    · rw [(lt_inf h2.1).1]; exact congrArg some ((Jvm.FP.Core.compare_lt_iff _ _).mpr (by omega)).symm
    · exact dy_cmp h2 g2
theorem dv_lt {x y : UInt64} {n k : Nat} (hx : DV x n) (hy : DV y k) (o : CmpOp) : cmpValue (FP.dcmp x y) o < (0 : Int32) ↔ n < k := by
  rw [dv_cmp hx hy]
  rcases cv3 (n : Int) (k : Int) o with ⟨h, q⟩ | ⟨h, q⟩ | ⟨h, q⟩ <;> rw [q]
  · exact ⟨fun _ => by omega, fun _ => by decide⟩
  · exact ⟨fun z => absurd z (by decide), fun _ => by omega⟩
  · exact ⟨fun z => absurd z (by decide), fun _ => by omega⟩
theorem dv_gt {x y : UInt64} {n k : Nat} (hx : DV x n) (hy : DV y k) (o : CmpOp) : (0 : Int32) < cmpValue (FP.dcmp x y) o ↔ k < n := by
  rw [dv_cmp hx hy]
  rcases cv3 (n : Int) (k : Int) o with ⟨h, q⟩ | ⟨h, q⟩ | ⟨h, q⟩ <;> rw [q]
  · exact ⟨fun z => absurd z (by decide), fun _ => by omega⟩
  · exact ⟨fun z => absurd z (by decide), fun _ => by omega⟩
  · exact ⟨fun _ => by omega, fun _ => by decide⟩
def up {α : Type} (f : Nat → α) (v : Nat) (y : α) : Nat → α := fun w => if w = v then y else f w
theorem up_s {α : Type} {f : Nat → α} {v : Nat} {y : α} : up f v y v = y := if_pos rfl
theorem up_o {α : Type} {f : Nat → α} {v w : Nat} {y : α} (h : w ≠ v) : up f v y w = f w := if_neg h
def RI (l : List Int32) (f : Nat → Int) : Prop := l.length = 4 ∧ ∀ v, v < 4 → ∃ x, l[v]? = some x ∧ x.toInt = f v
def RN (l : List Int32) (f : Nat → Nat) : Prop := l.length = 4 ∧ ∀ v, v < 4 → ∃ x, l[v]? = some x ∧ x.toInt = (f v : Int)
def RD (l : List UInt64) (f : Nat → Nat) : Prop := l.length = 4 ∧ ∀ v, v < 4 → ∃ x, l[v]? = some x ∧ DV x (f v)
theorem RI.set {l : List Int32} {f : Nat → Int} {v : Nat} {x : Int32} {y : Int} (h : RI l f) (hv : v < 4) (hx : x.toInt = y) : RI (l.set v x) (up f v y) := by
  refine ⟨by rw [List.length_set]; exact h.1, fun w hw => ?_⟩
  by_cases q : w = v
  · subst q; exact ⟨x, List.getElem?_set_self (by rw [h.1]; exact hv), by rw [up_s]; exact hx⟩
  · obtain ⟨z, z1, z2⟩ := h.2 w hw
    exact ⟨z, (List.getElem?_set_ne (fun z => q z.symm)).trans z1, by rw [up_o q]; exact z2⟩
theorem RN.set {l : List Int32} {f : Nat → Nat} {v : Nat} {x : Int32} {y : Nat} (h : RN l f) (hv : v < 4) (hx : x.toInt = (y : Int)) : RN (l.set v x) (up f v y) := by
  refine ⟨by rw [List.length_set]; exact h.1, fun w hw => ?_⟩
  by_cases q : w = v
  · subst q; exact ⟨x, List.getElem?_set_self (by rw [h.1]; exact hv), by rw [up_s]; exact hx⟩
  · obtain ⟨z, z1, z2⟩ := h.2 w hw
    exact ⟨z, (List.getElem?_set_ne (fun z => q z.symm)).trans z1, by rw [up_o q]; exact z2⟩
theorem RD.set {l : List UInt64} {f : Nat → Nat} {v : Nat} {x : UInt64} {y : Nat} (h : RD l f) (hv : v < 4) (hx : DV x y) : RD (l.set v x) (up f v y) := by
  refine ⟨by rw [List.length_set]; exact h.1, fun w hw => ?_⟩
  by_cases q : w = v
  · subst q; exact ⟨x, List.getElem?_set_self (by rw [h.1]; exact hv), by rw [up_s]; exact hx⟩
  · obtain ⟨z, z1, z2⟩ := h.2 w hw
    exact ⟨z, (List.getElem?_set_ne (fun z => q z.symm)).trans z1, by rw [up_o q]; exact z2⟩

theorem c_su0 (l : Launch) (Z : State) (a0 : Array Value) (hw : ∀ d ∈ tables_1, d.before a0 Z = true) (n0 : Nat) (tr nt dsA prA hpA psA : Addr) (hz : Int32) (DL : List UInt64) (HL QL : List Int32) (D hh : Nat → Nat) (Q : Nat → Int) (rd : RD DL D) (rh : RN HL hh) (rq : RI QL Q) (b0 : hh 0 < 4) (bi : hh 0 < 4)  (h0 : Heap) (F : List HRow) (H00 : Hp Z n0 h0 ((tr, o_ShortestPathTree Z (.ref nt) (.ref dsA) (.ref prA) (.ref hpA) (.ref psA) (.int hz)) :: (dsA, DaC Z DL) :: (hpA, IaC Z HL) :: (psA, IaC Z QL) :: F)) :
    Con l Z n0 ⟨"com/example/lanewright/lanewright/ShortestPathTree", "siftUp", "(I)V"⟩ [] prog_58_method_8_code 4 none ({ frames := 0, cells := 0, slots := 0, locals := 0 } : Room) #[.ref tr, .int (0 : Int32)] h0 (fun v h => ∃ (HL2 QL2 : List Int32) (h2 : Nat → Nat) (Q2 : Nat → Int), v = none ∧ RN HL2 h2 ∧ RI QL2 Q2 ∧ (h2 = up hh 0 (hh 0) ∧ Q2 = up Q (hh 0) 0) ∧ Hp Z n0 h ((tr, o_ShortestPathTree Z (.ref nt) (.ref dsA) (.ref prA) (.ref hpA) (.ref psA) (.int hz)) :: (dsA, DaC Z DL) :: (hpA, IaC Z HL2) :: (psA, IaC Z QL2) :: F)) := by
  refine con_of (plainFor_of_name pn_ShortestPathTree) ?_
  intro p e s m below meth c T0 W0 e0
  subst e0
  have H0 := H00
  refine g_cast (ef_ri4 m tr (0 : Int32)) ?_
  obtain ⟨xi, xig, xih⟩ := rh.2 0 (by omega)
  refine g_aloadN W0 d52_0 (pc' := 1) rfl rfl rfl ?_
  refine g_getf W0 (wd_392 hw) Via.refl H0 (i := 0) rfl (jx := 3) rfl d52_1 (pc' := 4) rfl ?_
  intro T1 W1 H1
  refine g_iloadN W1 d52_4 (pc' := 5) rfl rfl ?_
  refine g_ialoadI W1 H1 (i := 2) rfl (jx := 0) (by decide) (u := xi) xig d52_5 (pc' := 6) rfl ?_
  refine g_istoreN W1 d52_6 (pc' := 7) rfl (ls' := #[.val (.ref tr), .val (.int (0 : Int32)), .val (.int xi), .unset]) rfl ?_
  refine g_iloadN W1 d52_7 (pc' := 8) rfl rfl ?_
  refine g_if W1 d52_8 (pcy := 70) (by decide) (pc' := 11) rfl (fun _ => ?_) (fun (h : ¬ ¬ (0 : Int32) < (0 : Int32)) => absurd h (by decide))
  refine g_aloadN W1 d52_70 (pc' := 71) rfl rfl rfl ?_
  refine g_getf W1 (wd_392 hw) Via.refl H1 (i := 0) rfl (jx := 3) rfl d52_71 (pc' := 74) rfl ?_
  intro T2 W2 H2
  refine g_iloadN W2 d52_74 (pc' := 75) rfl rfl ?_
  refine g_iloadN W2 d52_75 (pc' := 76) rfl rfl ?_
  refine g_iastoreI W2 H2 (i := 2) rfl (jx := 0) (by decide) (by rw [rh.1]; omega) d52_76 (pc' := 77) rfl (L' := ((tr, o_ShortestPathTree Z (.ref nt) (.ref dsA) (.ref prA) (.ref hpA) (.ref psA) (.int hz)) :: (dsA, DaC Z DL) :: (hpA, IaC Z (HL.set 0 xi)) :: (psA, IaC Z QL) :: F)) rfl ?_
  intro T3 W3 H3
  refine g_aloadN W3 d52_77 (pc' := 78) rfl rfl rfl ?_
  refine g_getf W3 (wd_394 hw) Via.refl H3 (i := 0) rfl (jx := 4) rfl d52_78 (pc' := 81) rfl ?_
  intro T4 W4 H4
  refine g_iloadN W4 d52_81 (pc' := 82) rfl rfl ?_
  refine g_iloadN W4 d52_82 (pc' := 83) rfl rfl ?_
  refine g_iastoreI W4 H4 (i := 3) rfl (jx := (hh 0)) xih (by rw [rq.1]; omega) d52_83 (pc' := 84) rfl (L' := ((tr, o_ShortestPathTree Z (.ref nt) (.ref dsA) (.ref prA) (.ref hpA) (.ref psA) (.int hz)) :: (dsA, DaC Z DL) :: (hpA, IaC Z (HL.set 0 xi)) :: (psA, IaC Z (QL.set (hh 0) (0 : Int32))) :: F)) rfl ?_
  intro T5 W5 H5
  exact g_return W5 d52_84 ⟨_, _, _, _, rfl, rh.set (by omega) xih, rq.set bi (y := 0) (by decide), ⟨rfl, rfl⟩, H5⟩ (by decide) (by decide)
theorem c_su1 (l : Launch) (Z : State) (a0 : Array Value) (hw : ∀ d ∈ tables_1, d.before a0 Z = true) (n0 : Nat) (tr nt dsA prA hpA psA : Addr) (hz : Int32) (DL : List UInt64) (HL QL : List Int32) (D hh : Nat → Nat) (Q : Nat → Int) (rd : RD DL D) (rh : RN HL hh) (rq : RI QL Q) (b0 : hh 0 < 4) (bi : hh 1 < 4)  (h0 : Heap) (F : List HRow) (H00 : Hp Z n0 h0 ((tr, o_ShortestPathTree Z (.ref nt) (.ref dsA) (.ref prA) (.ref hpA) (.ref psA) (.int hz)) :: (dsA, DaC Z DL) :: (hpA, IaC Z HL) :: (psA, IaC Z QL) :: F)) :
    Con l Z n0 ⟨"com/example/lanewright/lanewright/ShortestPathTree", "siftUp", "(I)V"⟩ [] prog_58_method_8_code 4 none ({ frames := 0, cells := 0, slots := 0, locals := 0 } : Room) #[.ref tr, .int (1 : Int32)] h0 (fun v h => ∃ (HL2 QL2 : List Int32) (h2 : Nat → Nat) (Q2 : Nat → Int), v = none ∧ RN HL2 h2 ∧ RI QL2 Q2 ∧ ((D (hh 0) ≤ D (hh 1) ∧ h2 = up hh 1 (hh 1) ∧ Q2 = up Q (hh 1) 1) ∨ (D (hh 1) < D (hh 0) ∧ h2 = up (up hh 1 (hh 0)) 0 (hh 1) ∧ Q2 = up (up Q (hh 0) 1) (hh 1) 0)) ∧ Hp Z n0 h ((tr, o_ShortestPathTree Z (.ref nt) (.ref dsA) (.ref prA) (.ref hpA) (.ref psA) (.int hz)) :: (dsA, DaC Z DL) :: (hpA, IaC Z HL2) :: (psA, IaC Z QL2) :: F)) := by
  refine con_of (plainFor_of_name pn_ShortestPathTree) ?_
  intro p e s m below meth c T0 W0 e0
  subst e0
  have H0 := H00
  refine g_cast (ef_ri4 m tr (1 : Int32)) ?_
  obtain ⟨xi, xig, xih⟩ := rh.2 1 (by omega)
  obtain ⟨x0, x0g, x0h⟩ := rh.2 0 (by omega)
  obtain ⟨di, dig, dih⟩ := rd.2 (hh 1) (by omega)
  obtain ⟨d0, d0g, d0h⟩ := rd.2 (hh 0) (by omega)
  refine g_aloadN W0 d52_0 (pc' := 1) rfl rfl rfl ?_
  refine g_getf W0 (wd_392 hw) Via.refl H0 (i := 0) rfl (jx := 3) rfl d52_1 (pc' := 4) rfl ?_
  intro T1 W1 H1
  refine g_iloadN W1 d52_4 (pc' := 5) rfl rfl ?_
  refine g_ialoadI W1 H1 (i := 2) rfl (jx := 1) (by decide) (u := xi) xig d52_5 (pc' := 6) rfl ?_
  refine g_istoreN W1 d52_6 (pc' := 7) rfl (ls' := #[.val (.ref tr), .val (.int (1 : Int32)), .val (.int xi), .unset]) rfl ?_
  refine g_iloadN W1 d52_7 (pc' := 8) rfl rfl ?_
  refine g_if W1 d52_8 (pcy := 70) (by decide) (pc' := 11) rfl (fun (h : ¬ (0 : Int32) < (1 : Int32)) => absurd h (by decide)) (fun _ => ?_)
  refine g_iloadN W1 d52_11 (pc' := 12) rfl rfl ?_
  refine g_iconst W1 d52_12 (pc' := 13) rfl (v := (1 : Int32)) (by decide) ?_
  refine g_isub W1 d52_13 (pc' := 14) rfl (v := (0 : Int32)) (by decide) ?_
  refine g_iconst W1 d52_14 (pc' := 15) rfl (v := (2 : Int32)) (by decide) ?_
  refine g_idiv W1 d52_15 (pc' := 16) rfl (by decide) (v := (0 : Int32)) (by decide) ?_
  refine g_istoreN W1 d52_16 (pc' := 17) rfl (ls' := #[.val (.ref tr), .val (.int (1 : Int32)), .val (.int xi), .val (.int (0 : Int32))]) rfl ?_
  refine g_aloadN W1 d52_17 (pc' := 18) rfl rfl rfl ?_
  refine g_getf W1 (wd_388 hw) Via.refl H1 (i := 0) rfl (jx := 1) rfl d52_18 (pc' := 21) rfl ?_
  intro T2 W2 H2
  refine g_aloadN W2 d52_21 (pc' := 22) rfl rfl rfl ?_
  refine g_getf W2 (wd_392 hw) Via.refl H2 (i := 0) rfl (jx := 3) rfl d52_22 (pc' := 25) rfl ?_
  intro T3 W3 H3
  refine g_iloadN W3 d52_25 (pc' := 26) rfl rfl ?_
  refine g_ialoadI W3 H3 (i := 2) rfl (jx := 0) (by decide) (u := x0) x0g d52_26 (pc' := 27) rfl ?_
  refine g_daloadD W3 H3 (i := 1) rfl (jx := (hh 0)) x0h (u := d0) d0g d52_27 (pc' := 28) rfl ?_
  refine g_aloadN W3 d52_28 (pc' := 29) rfl rfl rfl ?_
  refine g_getf W3 (wd_388 hw) Via.refl H3 (i := 0) rfl (jx := 1) rfl d52_29 (pc' := 32) rfl ?_
  intro T4 W4 H4
  refine g_iloadN W4 d52_32 (pc' := 33) rfl rfl ?_
  refine g_daloadD W4 H4 (i := 1) rfl (jx := (hh 1)) xih (u := di) dig d52_33 (pc' := 34) rfl ?_
  refine g_dcmp W4 d52_34 (pc' := 35) rfl rfl ?_
  refine g_if W4 d52_35 (pcy := 41) (by decide) (pc' := 38) rfl (fun (c5 : (0 : Int32) < (cmpValue (FP.dcmp d0 di) .g)) => ?_) (fun (c5 : ¬ (0 : Int32) < (cmpValue (FP.dcmp d0 di) .g)) => ?_)
  · refine g_aloadN W4 d52_41 (pc' := 42) rfl rfl rfl ?_
    refine g_getf W4 (wd_392 hw) Via.refl H4 (i := 0) rfl (jx := 3) rfl d52_42 (pc' := 45) rfl ?_
    intro T6 W6 H6
    refine g_iloadN W6 d52_45 (pc' := 46) rfl rfl ?_
    refine g_aloadN W6 d52_46 (pc' := 47) rfl rfl rfl ?_
    refine g_getf W6 (wd_392 hw) Via.refl H6 (i := 0) rfl (jx := 3) rfl d52_47 (pc' := 50) rfl ?_
    intro T7 W7 H7
    refine g_iloadN W7 d52_50 (pc' := 51) rfl rfl ?_
    refine g_ialoadI W7 H7 (i := 2) rfl (jx := 0) (by decide) (u := x0) x0g d52_51 (pc' := 52) rfl ?_
    refine g_iastoreI W7 H7 (i := 2) rfl (jx := 1) (by decide) (by rw [rh.1]; omega) d52_52 (pc' := 53) rfl (L' := ((tr, o_ShortestPathTree Z (.ref nt) (.ref dsA) (.ref prA) (.ref hpA) (.ref psA) (.int hz)) :: (dsA, DaC Z DL) :: (hpA, IaC Z (HL.set 1 x0)) :: (psA, IaC Z QL) :: F)) rfl ?_
    intro T8 W8 H8
    refine g_aloadN W8 d52_53 (pc' := 54) rfl rfl rfl ?_
    refine g_getf W8 (wd_394 hw) Via.refl H8 (i := 0) rfl (jx := 4) rfl d52_54 (pc' := 57) rfl ?_
    intro T9 W9 H9
    refine g_aloadN W9 d52_57 (pc' := 58) rfl rfl rfl ?_
    refine g_getf W9 (wd_392 hw) Via.refl H9 (i := 0) rfl (jx := 3) rfl d52_58 (pc' := 61) rfl ?_
    intro T10 W10 H10
    refine g_iloadN W10 d52_61 (pc' := 62) rfl rfl ?_
    refine g_ialoadI W10 H10 (i := 2) rfl (jx := 1) (by decide) (u := x0) (List.getElem?_set_self (by rw [rh.1]; omega)) d52_62 (pc' := 63) rfl ?_
    refine g_iloadN W10 d52_63 (pc' := 64) rfl rfl ?_
    refine g_iastoreI W10 H10 (i := 3) rfl (jx := (hh 0)) x0h (by rw [rq.1]; omega) d52_64 (pc' := 65) rfl (L' := ((tr, o_ShortestPathTree Z (.ref nt) (.ref dsA) (.ref prA) (.ref hpA) (.ref psA) (.int hz)) :: (dsA, DaC Z DL) :: (hpA, IaC Z (HL.set 1 x0)) :: (psA, IaC Z (QL.set (hh 0) (1 : Int32))) :: F)) rfl ?_
    intro T11 W11 H11
    refine g_iloadN W11 d52_65 (pc' := 66) rfl rfl ?_
    refine g_istoreN W11 d52_66 (pc' := 67) rfl (ls' := #[.val (.ref tr), .val (.int (0 : Int32)), .val (.int xi), .val (.int (0 : Int32))]) rfl ?_
    refine g_goto W11 d52_67 (pc' := 7) (by decide) ?_
    refine g_iloadN W11 d52_7 (pc' := 8) rfl rfl ?_
    refine g_if W11 d52_8 (pcy := 70) (by decide) (pc' := 11) rfl (fun _ => ?_) (fun (h : ¬ ¬ (0 : Int32) < (0 : Int32)) => absurd h (by decide))
    refine g_aloadN W11 d52_70 (pc' := 71) rfl rfl rfl ?_
    refine g_getf W11 (wd_392 hw) Via.refl H11 (i := 0) rfl (jx := 3) rfl d52_71 (pc' := 74) rfl ?_
    intro T12 W12 H12
    refine g_iloadN W12 d52_74 (pc' := 75) rfl rfl ?_
    refine g_iloadN W12 d52_75 (pc' := 76) rfl rfl ?_
    refine g_iastoreI W12 H12 (i := 2) rfl (jx := 0) (by decide) (by rw [List.length_set, rh.1]; omega) d52_76 (pc' := 77) rfl (L' := ((tr, o_ShortestPathTree Z (.ref nt) (.ref dsA) (.ref prA) (.ref hpA) (.ref psA) (.int hz)) :: (dsA, DaC Z DL) :: (hpA, IaC Z ((HL.set 1 x0).set 0 xi)) :: (psA, IaC Z (QL.set (hh 0) (1 : Int32))) :: F)) rfl ?_
    intro T13 W13 H13
    refine g_aloadN W13 d52_77 (pc' := 78) rfl rfl rfl ?_
    refine g_getf W13 (wd_394 hw) Via.refl H13 (i := 0) rfl (jx := 4) rfl d52_78 (pc' := 81) rfl ?_
    intro T14 W14 H14
    refine g_iloadN W14 d52_81 (pc' := 82) rfl rfl ?_
    refine g_iloadN W14 d52_82 (pc' := 83) rfl rfl ?_
    refine g_iastoreI W14 H14 (i := 3) rfl (jx := (hh 1)) xih (by rw [List.length_set, rq.1]; omega) d52_83 (pc' := 84) rfl (L' := ((tr, o_ShortestPathTree Z (.ref nt) (.ref dsA) (.ref prA) (.ref hpA) (.ref psA) (.int hz)) :: (dsA, DaC Z DL) :: (hpA, IaC Z ((HL.set 1 x0).set 0 xi)) :: (psA, IaC Z ((QL.set (hh 0) (1 : Int32)).set (hh 1) (0 : Int32))) :: F)) rfl ?_
    intro T15 W15 H15
    exact g_return W15 d52_84 ⟨_, _, _, _, rfl, (rh.set (v := 1) (by omega) x0h).set (v := 0) (by omega) xih, (rq.set b0 (y := 1) (by decide)).set bi (y := 0) (by decide), Or.inr ⟨(dv_gt d0h dih _).mp c5, rfl, rfl⟩, H15⟩ (by decide) (by decide)
  · refine g_goto W4 d52_38 (pc' := 70) (by decide) ?_
    refine g_aloadN W4 d52_70 (pc' := 71) rfl rfl rfl ?_
    refine g_getf W4 (wd_392 hw) Via.refl H4 (i := 0) rfl (jx := 3) rfl d52_71 (pc' := 74) rfl ?_
    intro T16 W16 H16
    refine g_iloadN W16 d52_74 (pc' := 75) rfl rfl ?_
    refine g_iloadN W16 d52_75 (pc' := 76) rfl rfl ?_
    refine g_iastoreI W16 H16 (i := 2) rfl (jx := 1) (by decide) (by rw [rh.1]; omega) d52_76 (pc' := 77) rfl (L' := ((tr, o_ShortestPathTree Z (.ref nt) (.ref dsA) (.ref prA) (.ref hpA) (.ref psA) (.int hz)) :: (dsA, DaC Z DL) :: (hpA, IaC Z (HL.set 1 xi)) :: (psA, IaC Z QL) :: F)) rfl ?_
    intro T17 W17 H17
    refine g_aloadN W17 d52_77 (pc' := 78) rfl rfl rfl ?_
    refine g_getf W17 (wd_394 hw) Via.refl H17 (i := 0) rfl (jx := 4) rfl d52_78 (pc' := 81) rfl ?_
    intro T18 W18 H18
    refine g_iloadN W18 d52_81 (pc' := 82) rfl rfl ?_
    refine g_iloadN W18 d52_82 (pc' := 83) rfl rfl ?_
    refine g_iastoreI W18 H18 (i := 3) rfl (jx := (hh 1)) xih (by rw [rq.1]; omega) d52_83 (pc' := 84) rfl (L' := ((tr, o_ShortestPathTree Z (.ref nt) (.ref dsA) (.ref prA) (.ref hpA) (.ref psA) (.int hz)) :: (dsA, DaC Z DL) :: (hpA, IaC Z (HL.set 1 xi)) :: (psA, IaC Z (QL.set (hh 1) (1 : Int32))) :: F)) rfl ?_
    intro T19 W19 H19
    exact g_return W19 d52_84 ⟨_, _, _, _, rfl, rh.set (by omega) xih, rq.set bi (y := 1) (by decide), Or.inl ⟨Nat.le_of_not_lt fun z => c5 ((dv_gt d0h dih _).mpr z), rfl, rfl⟩, H19⟩ (by decide) (by decide)
theorem c_sd1 (l : Launch) (Z : State) (a0 : Array Value) (hw : ∀ d ∈ tables_1, d.before a0 Z = true) (n0 : Nat) (tr nt dsA prA hpA psA : Addr) (DL : List UInt64) (HL QL : List Int32) (D hh : Nat → Nat) (Q : Nat → Int) (rd : RD DL D) (rh : RN HL hh) (rq : RI QL Q) (b0 : hh 0 < 4)  (h0 : Heap) (F : List HRow) (H00 : Hp Z n0 h0 ((tr, o_ShortestPathTree Z (.ref nt) (.ref dsA) (.ref prA) (.ref hpA) (.ref psA) (.int (1 : Int32))) :: (dsA, DaC Z DL) :: (hpA, IaC Z HL) :: (psA, IaC Z QL) :: F)) :
    Con l Z n0 ⟨"com/example/lanewright/lanewright/ShortestPathTree", "siftDown", "(I)V"⟩ [] prog_58_method_9_code 4 none ({ frames := 0, cells := 0, slots := 0, locals := 0 } : Room) #[.ref tr, .int (0 : Int32)] h0 (fun v h => ∃ (HL2 QL2 : List Int32) (h2 : Nat → Nat) (Q2 : Nat → Int), v = none ∧ RN HL2 h2 ∧ RI QL2 Q2 ∧ (h2 = up hh 0 (hh 0) ∧ Q2 = up Q (hh 0) 0) ∧ Hp Z n0 h ((tr, o_ShortestPathTree Z (.ref nt) (.ref dsA) (.ref prA) (.ref hpA) (.ref psA) (.int (1 : Int32))) :: (dsA, DaC Z DL) :: (hpA, IaC Z HL2) :: (psA, IaC Z QL2) :: F)) := by
  refine con_of (plainFor_of_name pn_ShortestPathTree) ?_
  intro p e s m below meth c T0 W0 e0
  subst e0
  have H0 := H00
  refine g_cast (ef_ri4 m tr (0 : Int32)) ?_
  obtain ⟨x0, x0g, x0h⟩ := rh.2 0 (by omega)
  refine g_aloadN W0 d63_0 (pc' := 1) rfl rfl rfl ?_
  refine g_getf W0 (wd_392 hw) Via.refl H0 (i := 0) rfl (jx := 3) rfl d63_1 (pc' := 4) rfl ?_
  intro T1 W1 H1
  refine g_iloadN W1 d63_4 (pc' := 5) rfl rfl ?_
  refine g_ialoadI W1 H1 (i := 2) rfl (jx := 0) (by decide) (u := x0) x0g d63_5 (pc' := 6) rfl ?_
  refine g_istoreN W1 d63_6 (pc' := 7) rfl (ls' := #[.val (.ref tr), .val (.int (0 : Int32)), .val (.int x0), .unset]) rfl ?_
  refine g_iconst W1 d63_7 (pc' := 8) rfl (v := (2 : Int32)) (by decide) ?_
  refine g_iloadN W1 d63_8 (pc' := 9) rfl rfl ?_
  refine g_imul W1 d63_9 (pc' := 10) rfl (v := (0 : Int32)) (by decide) ?_
  refine g_iconst W1 d63_10 (pc' := 11) rfl (v := (1 : Int32)) (by decide) ?_
  refine g_iadd W1 d63_11 (pc' := 12) rfl (v := (1 : Int32)) (by decide) ?_
  refine g_istoreN W1 d63_12 (pc' := 13) rfl (ls' := #[.val (.ref tr), .val (.int (0 : Int32)), .val (.int x0), .val (.int (1 : Int32))]) rfl ?_
  refine g_iloadN W1 d63_13 (pc' := 14) rfl rfl ?_
  refine g_aloadN W1 d63_14 (pc' := 15) rfl rfl rfl ?_
  refine g_getf W1 (wd_406 hw) Via.refl H1 (i := 0) rfl (jx := 5) rfl d63_15 (pc' := 18) rfl ?_
  intro T2 W2 H2
  refine g_icmp W2 d63_18 (pcy := 24) (by decide) (pc' := 21) rfl (fun (h : (1 : Int32) < (1 : Int32)) => absurd h (by decide)) (fun _ => ?_)
  refine g_goto W2 d63_21 (pc' := 118) (by decide) ?_
  refine g_aloadN W2 d63_118 (pc' := 119) rfl rfl rfl ?_
  refine g_getf W2 (wd_392 hw) Via.refl H2 (i := 0) rfl (jx := 3) rfl d63_119 (pc' := 122) rfl ?_
  intro T3 W3 H3
  refine g_iloadN W3 d63_122 (pc' := 123) rfl rfl ?_
  refine g_iloadN W3 d63_123 (pc' := 124) rfl rfl ?_
  refine g_iastoreI W3 H3 (i := 2) rfl (jx := 0) (by decide) (by rw [rh.1]; omega) d63_124 (pc' := 125) rfl (L' := ((tr, o_ShortestPathTree Z (.ref nt) (.ref dsA) (.ref prA) (.ref hpA) (.ref psA) (.int (1 : Int32))) :: (dsA, DaC Z DL) :: (hpA, IaC Z (HL.set 0 x0)) :: (psA, IaC Z QL) :: F)) rfl ?_
  intro T4 W4 H4
  refine g_aloadN W4 d63_125 (pc' := 126) rfl rfl rfl ?_
  refine g_getf W4 (wd_394 hw) Via.refl H4 (i := 0) rfl (jx := 4) rfl d63_126 (pc' := 129) rfl ?_
  intro T5 W5 H5
  refine g_iloadN W5 d63_129 (pc' := 130) rfl rfl ?_
  refine g_iloadN W5 d63_130 (pc' := 131) rfl rfl ?_
  refine g_iastoreI W5 H5 (i := 3) rfl (jx := (hh 0)) x0h (by rw [rq.1]; omega) d63_131 (pc' := 132) rfl (L' := ((tr, o_ShortestPathTree Z (.ref nt) (.ref dsA) (.ref prA) (.ref hpA) (.ref psA) (.int (1 : Int32))) :: (dsA, DaC Z DL) :: (hpA, IaC Z (HL.set 0 x0)) :: (psA, IaC Z (QL.set (hh 0) (0 : Int32))) :: F)) rfl ?_
  intro T6 W6 H6
  exact g_return W6 d63_132 ⟨_, _, _, _, rfl, rh.set (by omega) x0h, rq.set b0 (y := 0) (by decide), ⟨rfl, rfl⟩, H6⟩ (by decide) (by decide)
theorem c_push0 (l : Launch) (Z : State) (a0 : Array Value) (hw : ∀ d ∈ tables_1, d.before a0 Z = true) (n0 : Nat) (tr nt dsA prA hpA psA : Addr) (DL : List UInt64) (HL QL : List Int32) (D hh : Nat → Nat) (Q : Nat → Int) (rd : RD DL D) (rh : RN HL hh) (rq : RI QL Q) (nd : Int32) (i0 : Nat) (hnd : nd.toInt = (i0 : Int)) (bn : i0 < 4)  (h0 : Heap) (F : List HRow) (H00 : Hp Z n0 h0 ((tr, o_ShortestPathTree Z (.ref nt) (.ref dsA) (.ref prA) (.ref hpA) (.ref psA) (.int (0 : Int32))) :: (dsA, DaC Z DL) :: (hpA, IaC Z HL) :: (psA, IaC Z QL) :: F)) :
    Con l Z n0 ⟨"com/example/lanewright/lanewright/ShortestPathTree", "push", "(I)V"⟩ [] prog_58_method_6_code 2 none ({ frames := 1, cells := 0, slots := 0, locals := 15 } : Room) #[.ref tr, .int nd] h0 (fun v h => ∃ (HL2 QL2 : List Int32) (h2 : Nat → Nat) (Q2 : Nat → Int), v = none ∧ RN HL2 h2 ∧ RI QL2 Q2 ∧ (h2 = up (up hh 0 i0) 0 ((up hh 0 i0) 0) ∧ Q2 = up (up Q i0 0) ((up hh 0 i0) 0) 0) ∧ Hp Z n0 h ((tr, o_ShortestPathTree Z (.ref nt) (.ref dsA) (.ref prA) (.ref hpA) (.ref psA) (.int (1 : Int32))) :: (dsA, DaC Z DL) :: (hpA, IaC Z HL2) :: (psA, IaC Z QL2) :: F)) := by
  refine con_of (plainFor_of_name pn_ShortestPathTree) ?_
  intro p e s m below meth c T0 W0 e0
  subst e0
  have H0 := H00
  refine g_cast (ef_ri2 m tr nd) ?_
  refine g_aloadN W0 d51_0 (pc' := 1) rfl rfl rfl ?_
  refine g_getf W0 (wd_392 hw) Via.refl H0 (i := 0) rfl (jx := 3) rfl d51_1 (pc' := 4) rfl ?_
  intro T1 W1 H1
  refine g_aloadN W1 d51_4 (pc' := 5) rfl rfl rfl ?_
  refine g_getf W1 (wd_406 hw) Via.refl H1 (i := 0) rfl (jx := 5) rfl d51_5 (pc' := 8) rfl ?_
  intro T2 W2 H2
  refine g_iloadN W2 d51_8 (pc' := 9) rfl rfl ?_
  refine g_iastoreI W2 H2 (i := 2) rfl (jx := 0) (by decide) (by rw [rh.1]; omega) d51_9 (pc' := 10) rfl (L' := ((tr, o_ShortestPathTree Z (.ref nt) (.ref dsA) (.ref prA) (.ref hpA) (.ref psA) (.int (0 : Int32))) :: (dsA, DaC Z DL) :: (hpA, IaC Z (HL.set 0 nd)) :: (psA, IaC Z QL) :: F)) rfl ?_
  intro T3 W3 H3
  refine g_aloadN W3 d51_10 (pc' := 11) rfl rfl rfl ?_
  refine g_getf W3 (wd_394 hw) Via.refl H3 (i := 0) rfl (jx := 4) rfl d51_11 (pc' := 14) rfl ?_
  intro T4 W4 H4
  refine g_iloadN W4 d51_14 (pc' := 15) rfl rfl ?_
  refine g_aloadN W4 d51_15 (pc' := 16) rfl rfl rfl ?_
  refine g_getf W4 (wd_406 hw) Via.refl H4 (i := 0) rfl (jx := 5) rfl d51_16 (pc' := 19) rfl ?_
  intro T5 W5 H5
  refine g_iastoreI W5 H5 (i := 3) rfl (jx := i0) hnd (by rw [rq.1]; omega) d51_19 (pc' := 20) rfl (L' := ((tr, o_ShortestPathTree Z (.ref nt) (.ref dsA) (.ref prA) (.ref hpA) (.ref psA) (.int (0 : Int32))) :: (dsA, DaC Z DL) :: (hpA, IaC Z (HL.set 0 nd)) :: (psA, IaC Z (QL.set i0 (0 : Int32))) :: F)) rfl ?_
  intro T6 W6 H6
  refine g_aloadN W6 d51_20 (pc' := 21) rfl rfl rfl ?_
  refine g_dup W6 d51_21 (pc' := 22) rfl rfl ?_
  refine g_getf W6 (wd_406 hw) Via.refl H6 (i := 0) rfl (jx := 5) rfl d51_22 (pc' := 25) rfl ?_
  intro T7 W7 H7
  refine g_iconst W7 d51_25 (pc' := 26) rfl (v := (1 : Int32)) (by decide) ?_
  refine g_iadd W7 d51_26 (pc' := 27) rfl (v := (1 : Int32)) (by decide) ?_
  refine g_putf W7 (wd_406 hw) Via.refl (Or.inl (wd_407 hw)) (wd_379 hw) (ty := .int) (by decide) rfl rfl H7 (i := 0) rfl (jx := 5) rfl d51_27 (pc' := 30) rfl (L' := ((tr, o_ShortestPathTree Z (.ref nt) (.ref dsA) (.ref prA) (.ref hpA) (.ref psA) (.int (1 : Int32))) :: (dsA, DaC Z DL) :: (hpA, IaC Z (HL.set 0 nd)) :: (psA, IaC Z (QL.set i0 (0 : Int32))) :: F)) rfl ?_
  intro T8 W8 H8
  refine g_aloadN W8 d51_30 (pc' := 31) rfl rfl rfl ?_
  refine g_aloadN W8 d51_31 (pc' := 32) rfl rfl rfl ?_
  refine g_getf W8 (wd_406 hw) Via.refl H8 (i := 0) rfl (jx := 5) rfl d51_32 (pc' := 35) rfl ?_
  intro T9 W9 H9
  refine g_iconst W9 d51_35 (pc' := 36) rfl (v := (1 : Int32)) (by decide) ?_
  refine g_isub W9 d51_36 (pc' := 37) rfl (v := (0 : Int32)) (by decide) ?_
  refine g_callP W9 (argsL := [.int (0 : Int32)]) (st := []) (wd_412 hw) (wd_413 hw) (wd_414 hw) (wd_379 hw) (wd_380 hw) (wd_415 hw) (by decide) (a := tr) H9 (i := 0) rfl (c_su0 l Z a0 hw n0 tr nt dsA prA hpA psA (1 : Int32) DL _ _ D (up hh 0 i0) (up Q i0 0) rd (rh.set (by omega) hnd) (rq.set bn (by decide)) (by rw [up_s]; exact bn) (by rw [up_s]; exact bn) _ _ H9) pd_9 rfl rfl rfl d51_37 (pc' := 40) rfl (by decide) (Wn := 0) (Nat.le_of_eq rfl) (by decide) (kc' := 0) (ks' := 0) rfl rfl (by decide) (by decide) ?_
  intro T10 v10 W10 hp10
  obtain ⟨HL2, QL2, h2, Q2, rfl, r1, r2, r3, H10⟩ := hp10
  show Goes _ _ _ _ (State.setTop _ (mkF _ _ _ []))
  exact g_return W10 d51_40 ⟨HL2, QL2, h2, Q2, rfl, r1, r2, r3, H10⟩ (by decide) (by decide)
theorem c_push1 (l : Launch) (Z : State) (a0 : Array Value) (hw : ∀ d ∈ tables_1, d.before a0 Z = true) (n0 : Nat) (tr nt dsA prA hpA psA : Addr) (DL : List UInt64) (HL QL : List Int32) (D hh : Nat → Nat) (Q : Nat → Int) (rd : RD DL D) (rh : RN HL hh) (rq : RI QL Q) (nd : Int32) (i0 : Nat) (hnd : nd.toInt = (i0 : Int)) (bn : i0 < 4) (b0 : hh 0 < 4)  (h0 : Heap) (F : List HRow) (H00 : Hp Z n0 h0 ((tr, o_ShortestPathTree Z (.ref nt) (.ref dsA) (.ref prA) (.ref hpA) (.ref psA) (.int (1 : Int32))) :: (dsA, DaC Z DL) :: (hpA, IaC Z HL) :: (psA, IaC Z QL) :: F)) :
    Con l Z n0 ⟨"com/example/lanewright/lanewright/ShortestPathTree", "push", "(I)V"⟩ [] prog_58_method_6_code 2 none ({ frames := 1, cells := 0, slots := 0, locals := 15 } : Room) #[.ref tr, .int nd] h0 (fun v h => ∃ (HL2 QL2 : List Int32) (h2 : Nat → Nat) (Q2 : Nat → Int), v = none ∧ RN HL2 h2 ∧ RI QL2 Q2 ∧ ((D ((up hh 1 i0) 0) ≤ D ((up hh 1 i0) 1) ∧ h2 = up (up hh 1 i0) 1 ((up hh 1 i0) 1) ∧ Q2 = up (up Q i0 1) ((up hh 1 i0) 1) 1) ∨ (D ((up hh 1 i0) 1) < D ((up hh 1 i0) 0) ∧ h2 = up (up (up hh 1 i0) 1 ((up hh 1 i0) 0)) 0 ((up hh 1 i0) 1) ∧ Q2 = up (up (up Q i0 1) ((up hh 1 i0) 0) 1) ((up hh 1 i0) 1) 0)) ∧ Hp Z n0 h ((tr, o_ShortestPathTree Z (.ref nt) (.ref dsA) (.ref prA) (.ref hpA) (.ref psA) (.int (2 : Int32))) :: (dsA, DaC Z DL) :: (hpA, IaC Z HL2) :: (psA, IaC Z QL2) :: F)) := by
  refine con_of (plainFor_of_name pn_ShortestPathTree) ?_
  intro p e s m below meth c T0 W0 e0
  subst e0
  have H0 := H00
  refine g_cast (ef_ri2 m tr nd) ?_
  refine g_aloadN W0 d51_0 (pc' := 1) rfl rfl rfl ?_
  refine g_getf W0 (wd_392 hw) Via.refl H0 (i := 0) rfl (jx := 3) rfl d51_1 (pc' := 4) rfl ?_
  intro T1 W1 H1
  refine g_aloadN W1 d51_4 (pc' := 5) rfl rfl rfl ?_
  refine g_getf W1 (wd_406 hw) Via.refl H1 (i := 0) rfl (jx := 5) rfl d51_5 (pc' := 8) rfl ?_
  intro T2 W2 H2
  refine g_iloadN W2 d51_8 (pc' := 9) rfl rfl ?_
  refine g_iastoreI W2 H2 (i := 2) rfl (jx := 1) (by decide) (by rw [rh.1]; omega) d51_9 (pc' := 10) rfl (L' := ((tr, o_ShortestPathTree Z (.ref nt) (.ref dsA) (.ref prA) (.ref hpA) (.ref psA) (.int (1 : Int32))) :: (dsA, DaC Z DL) :: (hpA, IaC Z (HL.set 1 nd)) :: (psA, IaC Z QL) :: F)) rfl ?_
  intro T3 W3 H3
  refine g_aloadN W3 d51_10 (pc' := 11) rfl rfl rfl ?_
  refine g_getf W3 (wd_394 hw) Via.refl H3 (i := 0) rfl (jx := 4) rfl d51_11 (pc' := 14) rfl ?_
  intro T4 W4 H4
  refine g_iloadN W4 d51_14 (pc' := 15) rfl rfl ?_
  refine g_aloadN W4 d51_15 (pc' := 16) rfl rfl rfl ?_
  refine g_getf W4 (wd_406 hw) Via.refl H4 (i := 0) rfl (jx := 5) rfl d51_16 (pc' := 19) rfl ?_
  intro T5 W5 H5
  refine g_iastoreI W5 H5 (i := 3) rfl (jx := i0) hnd (by rw [rq.1]; omega) d51_19 (pc' := 20) rfl (L' := ((tr, o_ShortestPathTree Z (.ref nt) (.ref dsA) (.ref prA) (.ref hpA) (.ref psA) (.int (1 : Int32))) :: (dsA, DaC Z DL) :: (hpA, IaC Z (HL.set 1 nd)) :: (psA, IaC Z (QL.set i0 (1 : Int32))) :: F)) rfl ?_
  intro T6 W6 H6
  refine g_aloadN W6 d51_20 (pc' := 21) rfl rfl rfl ?_
  refine g_dup W6 d51_21 (pc' := 22) rfl rfl ?_
  refine g_getf W6 (wd_406 hw) Via.refl H6 (i := 0) rfl (jx := 5) rfl d51_22 (pc' := 25) rfl ?_
  intro T7 W7 H7
  refine g_iconst W7 d51_25 (pc' := 26) rfl (v := (1 : Int32)) (by decide) ?_
  refine g_iadd W7 d51_26 (pc' := 27) rfl (v := (2 : Int32)) (by decide) ?_
  refine g_putf W7 (wd_406 hw) Via.refl (Or.inl (wd_407 hw)) (wd_379 hw) (ty := .int) (by decide) rfl rfl H7 (i := 0) rfl (jx := 5) rfl d51_27 (pc' := 30) rfl (L' := ((tr, o_ShortestPathTree Z (.ref nt) (.ref dsA) (.ref prA) (.ref hpA) (.ref psA) (.int (2 : Int32))) :: (dsA, DaC Z DL) :: (hpA, IaC Z (HL.set 1 nd)) :: (psA, IaC Z (QL.set i0 (1 : Int32))) :: F)) rfl ?_
  intro T8 W8 H8
  refine g_aloadN W8 d51_30 (pc' := 31) rfl rfl rfl ?_
  refine g_aloadN W8 d51_31 (pc' := 32) rfl rfl rfl ?_
  refine g_getf W8 (wd_406 hw) Via.refl H8 (i := 0) rfl (jx := 5) rfl d51_32 (pc' := 35) rfl ?_
  intro T9 W9 H9
  refine g_iconst W9 d51_35 (pc' := 36) rfl (v := (1 : Int32)) (by decide) ?_
  refine g_isub W9 d51_36 (pc' := 37) rfl (v := (1 : Int32)) (by decide) ?_
  refine g_callP W9 (argsL := [.int (1 : Int32)]) (st := []) (wd_412 hw) (wd_413 hw) (wd_414 hw) (wd_379 hw) (wd_380 hw) (wd_415 hw) (by decide) (a := tr) H9 (i := 0) rfl (c_su1 l Z a0 hw n0 tr nt dsA prA hpA psA (2 : Int32) DL _ _ D (up hh 1 i0) (up Q i0 1) rd (rh.set (by omega) hnd) (rq.set bn (by decide)) (by rw [up_o (by decide)]; exact b0) (by rw [up_s]; exact bn) _ _ H9) pd_9 rfl rfl rfl d51_37 (pc' := 40) rfl (by decide) (Wn := 0) (Nat.le_of_eq rfl) (by decide) (kc' := 0) (ks' := 0) rfl rfl (by decide) (by decide) ?_
  intro T10 v10 W10 hp10
  obtain ⟨HL2, QL2, h2, Q2, rfl, r1, r2, r3, H10⟩ := hp10
  show Goes _ _ _ _ (State.setTop _ (mkF _ _ _ []))
  exact g_return W10 d51_40 ⟨HL2, QL2, h2, Q2, rfl, r1, r2, r3, H10⟩ (by decide) (by decide)
theorem c_pop1 (l : Launch) (Z : State) (a0 : Array Value) (hw : ∀ d ∈ tables_1, d.before a0 Z = true) (n0 : Nat) (tr nt dsA prA hpA psA : Addr) (DL : List UInt64) (HL QL : List Int32) (D hh : Nat → Nat) (Q : Nat → Int) (rd : RD DL D) (rh : RN HL hh) (rq : RI QL Q) (b0 : hh 0 < 4)  (h0 : Heap) (F : List HRow) (H00 : Hp Z n0 h0 ((tr, o_ShortestPathTree Z (.ref nt) (.ref dsA) (.ref prA) (.ref hpA) (.ref psA) (.int (1 : Int32))) :: (dsA, DaC Z DL) :: (hpA, IaC Z HL) :: (psA, IaC Z QL) :: F)) :
    Con l Z n0 ⟨"com/example/lanewright/lanewright/ShortestPathTree", "pop", "()I"⟩ [] prog_58_method_7_code 2 (some .int) ({ frames := 0, cells := 0, slots := 0, locals := 0 } : Room) #[.ref tr] h0 (fun v h => ∃ (x : Int32) (HL2 QL2 : List Int32) (h2 : Nat → Nat) (Q2 : Nat → Int), v = some (.int x) ∧ x.toInt = (hh 0 : Int) ∧ RN HL2 h2 ∧ RI QL2 Q2 ∧ (h2 = hh ∧ Q2 = up Q (hh 0) (-1)) ∧ Hp Z n0 h ((tr, o_ShortestPathTree Z (.ref nt) (.ref dsA) (.ref prA) (.ref hpA) (.ref psA) (.int (0 : Int32))) :: (dsA, DaC Z DL) :: (hpA, IaC Z HL2) :: (psA, IaC Z QL2) :: F)) := by
  refine con_of (plainFor_of_name pn_ShortestPathTree) ?_
  intro p e s m below meth c T0 W0 e0
  subst e0
  have H0 := H00
  refine g_cast (ef_r2 m tr) ?_
  obtain ⟨x0, x0g, x0h⟩ := rh.2 0 (by omega)
  refine g_aloadN W0 d53_0 (pc' := 1) rfl rfl rfl ?_
  refine g_getf W0 (wd_392 hw) Via.refl H0 (i := 0) rfl (jx := 3) rfl d53_1 (pc' := 4) rfl ?_
  intro T1 W1 H1
  refine g_iconst W1 d53_4 (pc' := 5) rfl (v := (0 : Int32)) (by decide) ?_
  refine g_ialoadI W1 H1 (i := 2) rfl (jx := 0) (by decide) (u := x0) x0g d53_5 (pc' := 6) rfl ?_
  refine g_istoreN W1 d53_6 (pc' := 7) rfl (ls' := #[.val (.ref tr), .val (.int x0)]) rfl ?_
  refine g_aloadN W1 d53_7 (pc' := 8) rfl rfl rfl ?_
  refine g_getf W1 (wd_394 hw) Via.refl H1 (i := 0) rfl (jx := 4) rfl d53_8 (pc' := 11) rfl ?_
  intro T2 W2 H2
  refine g_iloadN W2 d53_11 (pc' := 12) rfl rfl ?_
  refine g_iconst W2 d53_12 (pc' := 13) rfl (v := (-1 : Int32)) (by decide) ?_
  refine g_iastoreI W2 H2 (i := 3) rfl (jx := (hh 0)) x0h (by rw [rq.1]; omega) d53_13 (pc' := 14) rfl (L' := ((tr, o_ShortestPathTree Z (.ref nt) (.ref dsA) (.ref prA) (.ref hpA) (.ref psA) (.int (1 : Int32))) :: (dsA, DaC Z DL) :: (hpA, IaC Z HL) :: (psA, IaC Z (QL.set (hh 0) (-1 : Int32))) :: F)) rfl ?_
  intro T3 W3 H3
  refine g_aloadN W3 d53_14 (pc' := 15) rfl rfl rfl ?_
  refine g_dup W3 d53_15 (pc' := 16) rfl rfl ?_
  refine g_getf W3 (wd_406 hw) Via.refl H3 (i := 0) rfl (jx := 5) rfl d53_16 (pc' := 19) rfl ?_
  intro T4 W4 H4
  refine g_iconst W4 d53_19 (pc' := 20) rfl (v := (1 : Int32)) (by decide) ?_
  refine g_isub W4 d53_20 (pc' := 21) rfl (v := (0 : Int32)) (by decide) ?_
  refine g_putf W4 (wd_406 hw) Via.refl (Or.inl (wd_407 hw)) (wd_379 hw) (ty := .int) (by decide) rfl rfl H4 (i := 0) rfl (jx := 5) rfl d53_21 (pc' := 24) rfl (L' := ((tr, o_ShortestPathTree Z (.ref nt) (.ref dsA) (.ref prA) (.ref hpA) (.ref psA) (.int (0 : Int32))) :: (dsA, DaC Z DL) :: (hpA, IaC Z HL) :: (psA, IaC Z (QL.set (hh 0) (-1 : Int32))) :: F)) rfl ?_
  intro T5 W5 H5
  refine g_aloadN W5 d53_24 (pc' := 25) rfl rfl rfl ?_
  refine g_getf W5 (wd_406 hw) Via.refl H5 (i := 0) rfl (jx := 5) rfl d53_25 (pc' := 28) rfl ?_
  intro T6 W6 H6
  refine g_if W6 d53_28 (pcy := 63) (by decide) (pc' := 31) rfl (fun _ => ?_) (fun (h : ¬ ¬ (0 : Int32) < (0 : Int32)) => absurd h (by decide))
  refine g_iloadN W6 d53_63 (pc' := 64) rfl rfl ?_
  exact g_ireturn W6 d53_64 ⟨x0, _, _, _, _, rfl, x0h, rh, rq.set b0 (y := -1) (by decide), ⟨rfl, rfl⟩, H6⟩ (by decide) (by decide)
theorem c_pop2 (l : Launch) (Z : State) (a0 : Array Value) (hw : ∀ d ∈ tables_1, d.before a0 Z = true) (n0 : Nat) (tr nt dsA prA hpA psA : Addr) (DL : List UInt64) (HL QL : List Int32) (D hh : Nat → Nat) (Q : Nat → Int) (rd : RD DL D) (rh : RN HL hh) (rq : RI QL Q) (b0 : hh 0 < 4) (b1 : hh 1 < 4) (bl : hh 1 < 4)  (h0 : Heap) (F : List HRow) (H00 : Hp Z n0 h0 ((tr, o_ShortestPathTree Z (.ref nt) (.ref dsA) (.ref prA) (.ref hpA) (.ref psA) (.int (2 : Int32))) :: (dsA, DaC Z DL) :: (hpA, IaC Z HL) :: (psA, IaC Z QL) :: F)) :
    Con l Z n0 ⟨"com/example/lanewright/lanewright/ShortestPathTree", "pop", "()I"⟩ [] prog_58_method_7_code 2 (some .int) ({ frames := 1, cells := 0, slots := 0, locals := 15 } : Room) #[.ref tr] h0 (fun v h => ∃ (x : Int32) (HL2 QL2 : List Int32) (h2 : Nat → Nat) (Q2 : Nat → Int), v = some (.int x) ∧ x.toInt = (hh 0 : Int) ∧ RN HL2 h2 ∧ RI QL2 Q2 ∧ (h2 = up (up hh 0 (hh 1)) 0 ((up hh 0 (hh 1)) 0) ∧ Q2 = up (up (up Q (hh 0) (-1)) (hh 1) 0) ((up hh 0 (hh 1)) 0) 0) ∧ Hp Z n0 h ((tr, o_ShortestPathTree Z (.ref nt) (.ref dsA) (.ref prA) (.ref hpA) (.ref psA) (.int (1 : Int32))) :: (dsA, DaC Z DL) :: (hpA, IaC Z HL2) :: (psA, IaC Z QL2) :: F)) := by
  refine con_of (plainFor_of_name pn_ShortestPathTree) ?_
  intro p e s m below meth c T0 W0 e0
  subst e0
  have H0 := H00
  refine g_cast (ef_r2 m tr) ?_
  obtain ⟨x0, x0g, x0h⟩ := rh.2 0 (by omega)
  obtain ⟨xl, xlg, xlh⟩ := rh.2 1 (by omega)
  refine g_aloadN W0 d53_0 (pc' := 1) rfl rfl rfl ?_
  refine g_getf W0 (wd_392 hw) Via.refl H0 (i := 0) rfl (jx := 3) rfl d53_1 (pc' := 4) rfl ?_
  intro T1 W1 H1
  refine g_iconst W1 d53_4 (pc' := 5) rfl (v := (0 : Int32)) (by decide) ?_
  refine g_ialoadI W1 H1 (i := 2) rfl (jx := 0) (by decide) (u := x0) x0g d53_5 (pc' := 6) rfl ?_
  refine g_istoreN W1 d53_6 (pc' := 7) rfl (ls' := #[.val (.ref tr), .val (.int x0)]) rfl ?_
  refine g_aloadN W1 d53_7 (pc' := 8) rfl rfl rfl ?_
  refine g_getf W1 (wd_394 hw) Via.refl H1 (i := 0) rfl (jx := 4) rfl d53_8 (pc' := 11) rfl ?_
  intro T2 W2 H2
  refine g_iloadN W2 d53_11 (pc' := 12) rfl rfl ?_
  refine g_iconst W2 d53_12 (pc' := 13) rfl (v := (-1 : Int32)) (by decide) ?_
  refine g_iastoreI W2 H2 (i := 3) rfl (jx := (hh 0)) x0h (by rw [rq.1]; omega) d53_13 (pc' := 14) rfl (L' := ((tr, o_ShortestPathTree Z (.ref nt) (.ref dsA) (.ref prA) (.ref hpA) (.ref psA) (.int (2 : Int32))) :: (dsA, DaC Z DL) :: (hpA, IaC Z HL) :: (psA, IaC Z (QL.set (hh 0) (-1 : Int32))) :: F)) rfl ?_
  intro T3 W3 H3
  refine g_aloadN W3 d53_14 (pc' := 15) rfl rfl rfl ?_
  refine g_dup W3 d53_15 (pc' := 16) rfl rfl ?_
  refine g_getf W3 (wd_406 hw) Via.refl H3 (i := 0) rfl (jx := 5) rfl d53_16 (pc' := 19) rfl ?_
  intro T4 W4 H4
  refine g_iconst W4 d53_19 (pc' := 20) rfl (v := (1 : Int32)) (by decide) ?_
  refine g_isub W4 d53_20 (pc' := 21) rfl (v := (1 : Int32)) (by decide) ?_
  refine g_putf W4 (wd_406 hw) Via.refl (Or.inl (wd_407 hw)) (wd_379 hw) (ty := .int) (by decide) rfl rfl H4 (i := 0) rfl (jx := 5) rfl d53_21 (pc' := 24) rfl (L' := ((tr, o_ShortestPathTree Z (.ref nt) (.ref dsA) (.ref prA) (.ref hpA) (.ref psA) (.int (1 : Int32))) :: (dsA, DaC Z DL) :: (hpA, IaC Z HL) :: (psA, IaC Z (QL.set (hh 0) (-1 : Int32))) :: F)) rfl ?_
  intro T5 W5 H5
  refine g_aloadN W5 d53_24 (pc' := 25) rfl rfl rfl ?_
  refine g_getf W5 (wd_406 hw) Via.refl H5 (i := 0) rfl (jx := 5) rfl d53_25 (pc' := 28) rfl ?_
  intro T6 W6 H6
  refine g_if W6 d53_28 (pcy := 63) (by decide) (pc' := 31) rfl (fun (h : ¬ (0 : Int32) < (1 : Int32)) => absurd h (by decide)) (fun _ => ?_)
  refine g_aloadN W6 d53_31 (pc' := 32) rfl rfl rfl ?_
  refine g_getf W6 (wd_392 hw) Via.refl H6 (i := 0) rfl (jx := 3) rfl d53_32 (pc' := 35) rfl ?_
  intro T7 W7 H7
  refine g_iconst W7 d53_35 (pc' := 36) rfl (v := (0 : Int32)) (by decide) ?_
  refine g_aloadN W7 d53_36 (pc' := 37) rfl rfl rfl ?_
  refine g_getf W7 (wd_392 hw) Via.refl H7 (i := 0) rfl (jx := 3) rfl d53_37 (pc' := 40) rfl ?_
  intro T8 W8 H8
  refine g_aloadN W8 d53_40 (pc' := 41) rfl rfl rfl ?_
  refine g_getf W8 (wd_406 hw) Via.refl H8 (i := 0) rfl (jx := 5) rfl d53_41 (pc' := 44) rfl ?_
  intro T9 W9 H9
  refine g_ialoadI W9 H9 (i := 2) rfl (jx := 1) (by decide) (u := xl) xlg d53_44 (pc' := 45) rfl ?_
  refine g_iastoreI W9 H9 (i := 2) rfl (jx := 0) (by decide) (by rw [rh.1]; omega) d53_45 (pc' := 46) rfl (L' := ((tr, o_ShortestPathTree Z (.ref nt) (.ref dsA) (.ref prA) (.ref hpA) (.ref psA) (.int (1 : Int32))) :: (dsA, DaC Z DL) :: (hpA, IaC Z (HL.set 0 xl)) :: (psA, IaC Z (QL.set (hh 0) (-1 : Int32))) :: F)) rfl ?_
  intro T10 W10 H10
  refine g_aloadN W10 d53_46 (pc' := 47) rfl rfl rfl ?_
  refine g_getf W10 (wd_394 hw) Via.refl H10 (i := 0) rfl (jx := 4) rfl d53_47 (pc' := 50) rfl ?_
  intro T11 W11 H11
  refine g_aloadN W11 d53_50 (pc' := 51) rfl rfl rfl ?_
  refine g_getf W11 (wd_392 hw) Via.refl H11 (i := 0) rfl (jx := 3) rfl d53_51 (pc' := 54) rfl ?_
  intro T12 W12 H12
  refine g_iconst W12 d53_54 (pc' := 55) rfl (v := (0 : Int32)) (by decide) ?_
  refine g_ialoadI W12 H12 (i := 2) rfl (jx := 0) (by decide) (u := xl) (List.getElem?_set_self (by rw [rh.1]; omega)) d53_55 (pc' := 56) rfl ?_
  refine g_iconst W12 d53_56 (pc' := 57) rfl (v := (0 : Int32)) (by decide) ?_
  refine g_iastoreI W12 H12 (i := 3) rfl (jx := (hh 1)) xlh (by rw [List.length_set, rq.1]; omega) d53_57 (pc' := 58) rfl (L' := ((tr, o_ShortestPathTree Z (.ref nt) (.ref dsA) (.ref prA) (.ref hpA) (.ref psA) (.int (1 : Int32))) :: (dsA, DaC Z DL) :: (hpA, IaC Z (HL.set 0 xl)) :: (psA, IaC Z ((QL.set (hh 0) (-1 : Int32)).set (hh 1) (0 : Int32))) :: F)) rfl ?_
  intro T13 W13 H13
  refine g_aloadN W13 d53_58 (pc' := 59) rfl rfl rfl ?_
  refine g_iconst W13 d53_59 (pc' := 60) rfl (v := (0 : Int32)) (by decide) ?_
  refine g_callP W13 (argsL := [.int (0 : Int32)]) (st := []) (wd_462 hw) (wd_463 hw) (wd_464 hw) (wd_379 hw) (wd_380 hw) (wd_465 hw) (by decide) (a := tr) H13 (i := 0) rfl (c_sd1 l Z a0 hw n0 tr nt dsA prA hpA psA DL _ _ D (up hh 0 (hh 1)) (up (up Q (hh 0) (-1)) (hh 1) 0) rd (rh.set (by omega) xlh) ((rq.set b0 (by decide)).set bl (by decide)) (by rw [up_s]; exact bl) _ _ H13) pd_9 rfl rfl rfl d53_60 (pc' := 63) rfl (by decide) (Wn := 0) (Nat.le_of_eq rfl) (by decide) (kc' := 0) (ks' := 0) rfl rfl (by decide) (by decide) ?_
  intro T14 v14 W14 hp14
  obtain ⟨HL2, QL2, h2, Q2, rfl, r1, r2, r3, H14⟩ := hp14
  show Goes _ _ _ _ (State.setTop _ (mkF _ _ _ []))
  refine g_iloadN W14 d53_63 (pc' := 64) rfl rfl ?_
  exact g_ireturn W14 d53_64 ⟨x0, HL2, QL2, h2, Q2, rfl, x0h, r1, r2, r3, H14⟩ (by decide) (by decide)

theorem up_id {α : Type} {f : Nat → α} {v : Nat} {y : α} (h : f v = y) : up f v y = f := by
  funext w; by_cases q : w = v
  · subst q; rw [up_s, h]
  · rw [up_o q]
theorem up_comm {α : Type} {f : Nat → α} {v w : Nat} {x y : α} (h : v ≠ w) : up (up f v x) w y = up (up f w y) v x := by
  funext z; unfold up
  by_cases q1 : z = w
  · by_cases q2 : z = v
    · omega
    · rw [if_pos q1, if_neg q2, if_pos q1]
  · by_cases q2 : z = v
    · rw [if_neg q1, if_pos q2, if_pos q2]
    · rw [if_neg q1, if_neg q2, if_neg q2, if_neg q1]
def Cons (h : Nat → Nat) (Q : Nat → Int) (hs : Nat) : Prop := (∀ i, i < hs → 1 ≤ h i ∧ h i ≤ 3 ∧ Q (h i) = (i : Int)) ∧ (∀ v, 1 ≤ v → v ≤ 3 → 0 ≤ Q v → ∃ i, i < hs ∧ h i = v) ∧ (∀ v, 1 ≤ v → v ≤ 3 → -1 ≤ Q v)
def HOk (D h : Nat → Nat) (Q : Nat → Int) (hs : Nat) : Prop := Cons h Q hs ∧ ∀ i, 0 < i → i < hs → D (h 0) ≤ D (h i)
theorem Cons.inj {h : Nat → Nat} {Q : Nat → Int} {hs i j : Nat} (H : Cons h Q hs) (hi : i < hs) (hj : j < hs) (e : h i = h j) : i = j := by
  have a := (H.1 i hi).2.2
  have b := (H.1 j hj).2.2
  rw [e] at a; omega
theorem Cons.swap {h : Nat → Nat} {Q : Nat → Int} {hs i : Nat} (H : Cons h Q hs) (hi : i < hs) (h0 : 0 < i) : Cons (up (up h i (h 0)) 0 (h i)) (up (up Q (h 0) (i : Int)) (h i) 0) hs ∧ ∀ v, 1 ≤ v → v ≤ 3 → (0 ≤ up (up Q (h 0) (i : Int)) (h i) 0 v ↔ 0 ≤ Q v) := by
  have ne : h 0 ≠ h i := fun q => by have := H.inj (by omega) hi q; omega
  have q0 := (H.1 0 (by omega)).2.2
  have qi := (H.1 i hi).2.2
  have iff : ∀ v, 1 ≤ v → v ≤ 3 → (0 ≤ up (up Q (h 0) (i : Int)) (h i) 0 v ↔ 0 ≤ Q v) := fun v _ _ => by
    by_cases a : v = h i
    · subst a; rw [up_s]; omega
    · rw [up_o a]
      by_cases b : v = h 0
      · subst b; rw [up_s]; omega
      · rw [up_o b]
  refine ⟨⟨fun j hj => ?_, fun v h1 h2 hv => ?_, fun v h1 h2 => ?_⟩, iff⟩
  · by_cases a : j = 0
    · subst a; rw [up_s, up_s]; exact ⟨(H.1 i hi).1, (H.1 i hi).2.1, rfl⟩
    · rw [up_o a]
      by_cases b : j = i
      · subst b; rw [up_s, up_o ne, up_s]; exact ⟨(H.1 0 (by omega)).1, (H.1 0 (by omega)).2.1, rfl⟩
      · rw [up_o b]
        have n1 : h j ≠ h i := fun q => b (H.inj hj hi q)
        have n2 : h j ≠ h 0 := fun q => a (H.inj hj (by omega) q)
        rw [up_o n1, up_o n2]; exact H.1 j hj
  · obtain ⟨j, hj, e⟩ := H.2.1 v h1 h2 ((iff v h1 h2).mp hv)
    by_cases a : j = 0
    · subst a; exact ⟨i, hi, by rw [up_o (by omega), up_s]; exact e⟩
    · by_cases b : j = i
      · subst b; exact ⟨0, by omega, by rw [up_s]; exact e⟩
      · exact ⟨j, hj, by rw [up_o a, up_o b]; exact e⟩
  · by_cases a : v = h i
    · subst a; rw [up_s]; omega
    · rw [up_o a]
      by_cases b : v = h 0
      · subst b; rw [up_s]; omega
      · rw [up_o b]; exact H.2.2 v h1 h2
/-- what siftUp (and siftDown) leaves -/
theorem su_ok {D h h2 : Nat → Nat} {Q Q2 : Nat → Int} {hs i : Nat} (H : Cons h Q hs) (hi : i < hs) (h0 : 0 < i) (ord : ∀ j, 0 < j → j < hs → j ≠ i → D (h 0) ≤ D (h j))
    (rel : (D (h 0) ≤ D (h i) ∧ h2 = up h i (h i) ∧ Q2 = up Q (h i) (i : Int)) ∨ (D (h i) < D (h 0) ∧ h2 = up (up h i (h 0)) 0 (h i) ∧ Q2 = up (up Q (h 0) (i : Int)) (h i) 0)) : HOk D h2 Q2 hs ∧ ∀ v, 1 ≤ v → v ≤ 3 → (0 ≤ Q2 v ↔ 0 ≤ Q v) := by
  rcases rel with ⟨a, rfl, rfl⟩ | ⟨a, rfl, rfl⟩
  · rw [up_id rfl, up_id (H.1 i hi).2.2]
    refine ⟨⟨H, fun j j0 j1 => ?_⟩, fun _ _ _ => Iff.rfl⟩
    by_cases b : j = i
    · subst b; exact a
    · exact ord j j0 j1 b
  · obtain ⟨C, f⟩ := H.swap hi h0
    refine ⟨⟨C, fun j j0 j1 => ?_⟩, f⟩
    rw [up_s, up_o (by omega : j ≠ 0)]
    by_cases b : j = i
    · subst b; rw [up_s]; omega
    · rw [up_o b]; have := ord j j0 j1 b; omega
theorem su0_ok {D h h2 : Nat → Nat} {Q Q2 : Nat → Int} {hs : Nat} (H : Cons h Q hs) (hi : 0 < hs) (ord : ∀ j, 0 < j → j < hs → D (h 0) ≤ D (h j)) (rel : h2 = up h 0 (h 0) ∧ Q2 = up Q (h 0) 0) : HOk D h2 Q2 hs ∧ ∀ v, 1 ≤ v → v ≤ 3 → (0 ≤ Q2 v ↔ 0 ≤ Q v) := by
  obtain ⟨rfl, rfl⟩ := rel
  rw [up_id rfl, up_id (show Q (h 0) = 0 from (H.1 0 hi).2.2)]
  exact ⟨⟨H, ord⟩, fun _ _ _ => Iff.rfl⟩
theorem Cons.push {h : Nat → Nat} {Q : Nat → Int} {hs nd : Nat} (H : Cons h Q hs) (n1 : 1 ≤ nd) (n2 : nd ≤ 3) (hn : Q nd < 0) : Cons (up h hs nd) (up Q nd (hs : Int)) (hs + 1) ∧ ∀ v, 1 ≤ v → v ≤ 3 → (0 ≤ up Q nd (hs : Int) v ↔ 0 ≤ Q v ∨ v = nd) := by
  have iff : ∀ v, 1 ≤ v → v ≤ 3 → (0 ≤ up Q nd (hs : Int) v ↔ 0 ≤ Q v ∨ v = nd) := fun v _ _ => by
    by_cases a : v = nd
    · subst a; rw [up_s]; omega
    · rw [up_o a]; omega
  refine ⟨⟨fun j hj => ?_, fun v h1 h2 hv => ?_, fun v h1 h2 => ?_⟩, iff⟩
  · by_cases a : j = hs
    · subst a; rw [up_s, up_s]; exact ⟨n1, n2, rfl⟩
    · rw [up_o a]
      have z := H.1 j (by omega)
      have : h j ≠ nd := fun q => by rw [q] at z; omega
      rw [up_o this]; exact z
  · rcases (iff v h1 h2).mp hv with q | q
    · obtain ⟨j, hj, e⟩ := H.2.1 v h1 h2 q
      exact ⟨j, by omega, by rw [up_o (by omega)]; exact e⟩
    · exact ⟨hs, by omega, by rw [up_s]; exact q.symm⟩
  · by_cases a : v = nd
    · subst a; rw [up_s]; omega
    · rw [up_o a]; exact H.2.2 v h1 h2
theorem Cons.drop1 {h : Nat → Nat} {Q : Nat → Int} (H : Cons h Q 1) : Cons h (up Q (h 0) (-1)) 0 ∧ ∀ v, 1 ≤ v → v ≤ 3 → (0 ≤ up Q (h 0) (-1) v ↔ 0 ≤ Q v ∧ v ≠ h 0) := by
  have iff : ∀ v, 1 ≤ v → v ≤ 3 → (0 ≤ up Q (h 0) (-1) v ↔ 0 ≤ Q v ∧ v ≠ h 0) := fun v _ _ => by
    by_cases a : v = h 0
    · subst a; rw [up_s]; omega
    · rw [up_o a]; omega
  refine ⟨⟨fun j hj => by omega, fun v h1 h2 hv => ?_, fun v h1 h2 => ?_⟩, iff⟩
  · obtain ⟨a, b⟩ := (iff v h1 h2).mp hv
    obtain ⟨j, hj, e⟩ := H.2.1 v h1 h2 a
    have : j = 0 := by omega
    subst this; exact absurd e.symm b
  · by_cases a : v = h 0
    · subst a; rw [up_s]; omega
    · rw [up_o a]; exact H.2.2 v h1 h2
theorem Cons.drop {h : Nat → Nat} {Q : Nat → Int} {n : Nat} (H : Cons h Q (n + 1)) (hn : 0 < n) : Cons (up h 0 (h n)) (up (up Q (h 0) (-1)) (h n) 0) n ∧ ∀ v, 1 ≤ v → v ≤ 3 → (0 ≤ up (up Q (h 0) (-1)) (h n) 0 v ↔ 0 ≤ Q v ∧ v ≠ h 0) := by
  have ne : h n ≠ h 0 := fun q => by have := H.inj (by omega) (by omega) q; omega
  have qn := (H.1 n (by omega)).2.2
  have iff : ∀ v, 1 ≤ v → v ≤ 3 → (0 ≤ up (up Q (h 0) (-1)) (h n) 0 v ↔ 0 ≤ Q v ∧ v ≠ h 0) := fun v _ _ => by
    by_cases a : v = h n
    · subst a; rw [up_s]; exact ⟨fun _ => ⟨by omega, ne⟩, fun _ => by omega⟩
    · rw [up_o a]
      by_cases b : v = h 0
      · subst b; rw [up_s]; omega
      · rw [up_o b]; omega
  refine ⟨⟨fun j hj => ?_, fun v h1 h2 hv => ?_, fun v h1 h2 => ?_⟩, iff⟩
  · by_cases a : j = 0
    · subst a; rw [up_s, up_s]; exact ⟨(H.1 n (by omega)).1, (H.1 n (by omega)).2.1, rfl⟩
    · rw [up_o a]
      have n1 : h j ≠ h n := fun q => by have := H.inj (by omega) (by omega) q; omega
      have n2 : h j ≠ h 0 := fun q => a (H.inj (by omega) (by omega) q)
      rw [up_o n1, up_o n2]; exact H.1 j (by omega)
  · obtain ⟨a, b⟩ := (iff v h1 h2).mp hv
    obtain ⟨j, hj, e⟩ := H.2.1 v h1 h2 a
    by_cases q : j = n
    · subst q; exact ⟨0, hn, by rw [up_s]; exact e⟩
    · exact ⟨j, by omega, by rw [up_o (fun z => by subst z; exact b e.symm)]; exact e⟩
  · by_cases a : v = h n
    · subst a; rw [up_s]; omega
    · rw [up_o a]
      by_cases b : v = h 0
      · subst b; rw [up_s]; omega
      · rw [up_o b]; exact H.2.2 v h1 h2
theorem push_ok {D h h2 : Nat → Nat} {Q Q2 : Nat → Int} {hs nd : Nat} (H : HOk D h Q hs) (n1 : 1 ≤ nd) (n2 : nd ≤ 3) (hn : Q nd < 0) (h3 : hs ≤ 2)
    (rel : (hs = 0 ∧ h2 = up (up h 0 nd) 0 (up h 0 nd 0) ∧ Q2 = up (up Q nd 0) (up h 0 nd 0) 0) ∨ (0 < hs ∧ ((D (up h hs nd 0) ≤ D (up h hs nd hs) ∧ h2 = up (up h hs nd) hs (up h hs nd hs) ∧ Q2 = up (up Q nd (hs : Int)) (up h hs nd hs) (hs : Int)) ∨ (D (up h hs nd hs) < D (up h hs nd 0) ∧ h2 = up (up (up h hs nd) hs (up h hs nd 0)) 0 (up h hs nd hs) ∧ Q2 = up (up (up Q nd (hs : Int)) (up h hs nd 0) (hs : Int)) (up h hs nd hs) 0)))) :
    HOk D h2 Q2 (hs + 1) ∧ ∀ v, 1 ≤ v → v ≤ 3 → (0 ≤ Q2 v ↔ 0 ≤ Q v ∨ v = nd) := by
  obtain ⟨C, f⟩ := H.1.push n1 n2 hn
  rcases rel with ⟨rfl, rel⟩ | ⟨h0, rel⟩
  · obtain ⟨a, b⟩ := su0_ok (D := D) C (by omega) (fun j j0 j1 => by omega) rel
    exact ⟨a, fun v h1 h2 => (b v h1 h2).trans (f v h1 h2)⟩
  · obtain ⟨a, b⟩ := su_ok (D := D) (i := hs) C (by omega) h0 (fun j j0 j1 j2 => by rw [up_o (by omega : (0 : Nat) ≠ hs), up_o j2]; exact H.2 j j0 (by omega)) rel
    exact ⟨a, fun v h1 h2 => (b v h1 h2).trans (f v h1 h2)⟩
theorem dec_ok {D h h2 : Nat → Nat} {Q Q2 : Nat → Int} {hs i t : Nat} (H : HOk D h Q hs) (hi : i < hs) (ht : t ≤ D (h i))
    (rel : (i = 0 ∧ h2 = up h 0 (h 0) ∧ Q2 = up Q (h 0) 0) ∨ (0 < i ∧ ((up D (h i) t (h 0) ≤ up D (h i) t (h i) ∧ h2 = up h i (h i) ∧ Q2 = up Q (h i) (i : Int)) ∨ (up D (h i) t (h i) < up D (h i) t (h 0) ∧ h2 = up (up h i (h 0)) 0 (h i) ∧ Q2 = up (up Q (h 0) (i : Int)) (h i) 0)))) :
    HOk (up D (h i) t) h2 Q2 hs ∧ ∀ v, 1 ≤ v → v ≤ 3 → (0 ≤ Q2 v ↔ 0 ≤ Q v) := by
  rcases rel with ⟨rfl, rel⟩ | ⟨h0, rel⟩
  · refine su0_ok H.1 hi (fun j j0 j1 => ?_) rel
    have : h j ≠ h 0 := fun q => by have := H.1.inj j1 hi q; omega
    rw [up_s, up_o this]; have := H.2 j j0 j1; omega
  · refine su_ok H.1 hi h0 (fun j j0 j1 j2 => ?_) rel
    have a : h j ≠ h i := fun q => j2 (H.1.inj j1 hi q)
    have b : h 0 ≠ h i := fun q => by have := H.1.inj (by omega) hi q; omega
    rw [up_o a, up_o b]; exact H.2 j j0 j1
theorem pop1_ok {D h h2 : Nat → Nat} {Q Q2 : Nat → Int} (H : HOk D h Q 1) (rel : h2 = h ∧ Q2 = up Q (h 0) (-1)) : HOk D h2 Q2 0 ∧ ∀ v, 1 ≤ v → v ≤ 3 → (0 ≤ Q2 v ↔ 0 ≤ Q v ∧ v ≠ h 0) := by
  obtain ⟨rfl, rfl⟩ := rel
  obtain ⟨C, f⟩ := H.1.drop1
  exact ⟨⟨C, fun i a b => by omega⟩, f⟩
theorem pop2_ok {D h h2 : Nat → Nat} {Q Q2 : Nat → Int} (H : HOk D h Q 2) (rel : h2 = up (up h 0 (h 1)) 0 (up h 0 (h 1) 0) ∧ Q2 = up (up (up Q (h 0) (-1)) (h 1) 0) (up h 0 (h 1) 0) 0) : HOk D h2 Q2 1 ∧ ∀ v, 1 ≤ v → v ≤ 3 → (0 ≤ Q2 v ↔ 0 ≤ Q v ∧ v ≠ h 0) := by
  obtain ⟨C, f⟩ := H.1.drop (n := 1) (by omega)
  obtain ⟨a, b⟩ := su0_ok (D := D) C (by omega) (fun j j0 j1 => by omega) rel
  exact ⟨a, fun v h1 h2 => (b v h1 h2).trans (f v h1 h2)⟩
theorem pop3_ok {D h h2 : Nat → Nat} {Q Q2 : Nat → Int} (H : HOk D h Q 3)
    (rel : (D (up h 0 (h 2) 0) ≤ D (up h 0 (h 2) 1) ∧ h2 = up (up h 0 (h 2)) 0 (up h 0 (h 2) 0) ∧ Q2 = up (up (up Q (h 0) (-1)) (h 2) 0) (up h 0 (h 2) 0) 0) ∨ (D (up h 0 (h 2) 1) < D (up h 0 (h 2) 0) ∧ h2 = up (up (up h 0 (h 2)) 0 (up h 0 (h 2) 1)) 1 (up h 0 (h 2) 0) ∧ Q2 = up (up (up (up Q (h 0) (-1)) (h 2) 0) (up h 0 (h 2) 1) 0) (up h 0 (h 2) 0) 1)) :
    HOk D h2 Q2 2 ∧ ∀ v, 1 ≤ v → v ≤ 3 → (0 ≤ Q2 v ↔ 0 ≤ Q v ∧ v ≠ h 0) := by
  obtain ⟨C, f⟩ := H.1.drop (n := 2) (by omega)
  generalize up h 0 (h 2) = g at *
  generalize up (up Q (h 0) (-1)) (h 2) 0 = P at *
  rcases rel with ⟨r1, r2⟩ | ⟨r1, r2, r3⟩
  · obtain ⟨a, b⟩ := su0_ok (D := D) C (by omega) (fun j j0 j1 => by rw [show j = 1 by omega]; exact r1) r2
    exact ⟨a, fun v h1 h2 => (b v h1 h2).trans (f v h1 h2)⟩
  · have ne : g 1 ≠ g 0 := fun q => by have := C.inj (by omega) (by omega) q; omega
    obtain ⟨a, b⟩ := su_ok (D := D) (h2 := h2) (Q2 := Q2) (i := 1) C (by omega) (by omega) (fun j j0 j1 j2 => by omega) (Or.inr ⟨r1, by rw [r2, up_comm (by omega)], by rw [r3, up_comm ne]; rfl⟩)
    exact ⟨a, fun v h1 h2 => (b v h1 h2).trans (f v h1 h2)⟩
def cntQ (Q : Nat → Int) : Nat := (if 0 ≤ Q 1 then 1 else 0) + (if 0 ≤ Q 2 then 1 else 0) + (if 0 ≤ Q 3 then 1 else 0)
def cntS (S : Nat → Bool) : Nat := (if S 1 = true then 1 else 0) + (if S 2 = true then 1 else 0) + (if S 3 = true then 1 else 0)
theorem cntQ_add {Q Q2 : Nat → Int} {nd : Nat} (n1 : 1 ≤ nd) (n2 : nd ≤ 3) (hq : Q nd < 0) (f : ∀ v, 1 ≤ v → v ≤ 3 → (0 ≤ Q2 v ↔ 0 ≤ Q v ∨ v = nd)) : cntQ Q2 = cntQ Q + 1 := by
  unfold cntQ
  have f1 := f 1 (by omega) (by omega); have f2 := f 2 (by omega) (by omega); have f3 := f 3 (by omega) (by omega)
  have hn : nd = 1 ∨ nd = 2 ∨ nd = 3 := by omega
  rcases hn with rfl | rfl | rfl <;> simp only [f1, f2, f3] <;> simp [Int.not_le.mpr hq] <;> omega
theorem cntQ_sub {Q Q2 : Nat → Int} {nd : Nat} (n1 : 1 ≤ nd) (n2 : nd ≤ 3) (hq : 0 ≤ Q nd) (f : ∀ v, 1 ≤ v → v ≤ 3 → (0 ≤ Q2 v ↔ 0 ≤ Q v ∧ v ≠ nd)) : cntQ Q2 + 1 = cntQ Q := by
  unfold cntQ
  have f1 := f 1 (by omega) (by omega); have f2 := f 2 (by omega) (by omega); have f3 := f 3 (by omega) (by omega)
  have hn : nd = 1 ∨ nd = 2 ∨ nd = 3 := by omega
  rcases hn with rfl | rfl | rfl <;> simp only [f1, f2, f3] <;> simp [hq] <;> omega
theorem cntQ_eq {Q Q2 : Nat → Int} (f : ∀ v, 1 ≤ v → v ≤ 3 → (0 ≤ Q2 v ↔ 0 ≤ Q v)) : cntQ Q2 = cntQ Q := by
  unfold cntQ
  simp only [f 1 (by omega) (by omega), f 2 (by omega) (by omega), f 3 (by omega) (by omega)]
theorem cntS_add {S : Nat → Bool} {nd : Nat} (n1 : 1 ≤ nd) (n2 : nd ≤ 3) (hs : S nd = false) : cntS (up S nd true) = cntS S + 1 := by
  unfold cntS
  have hn : nd = 1 ∨ nd = 2 ∨ nd = 3 := by omega
  rcases hn with rfl | rfl | rfl <;> simp [up, hs] <;> omega
theorem cnt_le {Q : Nat → Int} {S : Nat → Bool} (f : ∀ v, 1 ≤ v → v ≤ 3 → 0 ≤ Q v → S v = false) : cntQ Q + cntS S ≤ 3 := by
  unfold cntQ cntS
  have g : ∀ v, 1 ≤ v → v ≤ 3 → (if 0 ≤ Q v then 1 else 0) + (if S v = true then 1 else 0) ≤ 1 := fun v a b => by
    by_cases q : 0 ≤ Q v
    · rw [if_pos q, f v a b q]; decide
    · rw [if_neg q]; split <;> omega
  have g1 := g 1 (by omega) (by omega); have g2 := g 2 (by omega) (by omega); have g3 := g 3 (by omega) (by omega)
  omega


def Arcs (T Hd tm : Nat → Nat) : Prop := ∀ a, a < 3 → 1 ≤ T a ∧ T a ≤ 3 ∧ 1 ≤ Hd a ∧ Hd a ≤ 3 ∧ tm a ≤ 15
def Rt1 (og ft : Nat) (T Hd tm : Nat → Nat) (S : Nat → Bool) (D : Nat → Nat) (P : Nat → Int) (R : Nat → Nat) (v : Nat) : Prop := (v = og ∧ P v = -1 ∧ D v = 0 ∧ R v = 0) ∨ (v ≠ og ∧ ∃ a : Nat, a < 3 ∧ P v = (a : Int) ∧ Hd a = v ∧ S (T a) = true ∧ (T a = og ∨ ft ≤ T a) ∧ D v = D (T a) + tm a ∧ R v = R (T a) + 1)
def Inv (og ft : Nat) (T Hd tm : Nat → Nat) (k : Nat) (S : Nat → Bool) (D : Nat → Nat) (P : Nat → Int) (h : Nat → Nat) (Q : Nat → Int) (hs : Nat) (R : Nat → Nat) : Prop := HOk D h Q hs ∧ hs = cntQ Q ∧ k = cntS S ∧ (∀ v, 1 ≤ v → v ≤ 3 → 0 ≤ Q v → S v = false ∧ D v < 1000) ∧ (∀ v, 1 ≤ v → v ≤ 3 → D v < 1000 → S v = true ∨ 0 ≤ Q v) ∧ (∀ u v, 1 ≤ u → u ≤ 3 → 1 ≤ v → v ≤ 3 → S u = true → 0 ≤ Q v → D u ≤ D v) ∧ (∀ v, 1 ≤ v → v ≤ 3 → D v < 1000 → Rt1 og ft T Hd tm S D P R v) ∧ (∀ v, 1 ≤ v → v ≤ 3 → S v = true → R v + 1 ≤ k) ∧ (∀ v, 1 ≤ v → v ≤ 3 → 0 ≤ Q v → R v ≤ k) ∧ (∀ v, 1 ≤ v → v ≤ 3 → D v < 1000 → D v ≤ 15 * R v) ∧ (∀ v, 1 ≤ v → v ≤ 3 → D v ≤ 1000) ∧ D og = 0
def JInv (og ft : Nat) (T Hd tm : Nat → Nat) (k : Nat) (S : Nat → Bool) (D : Nat → Nat) (P : Nat → Int) (h : Nat → Nat) (Q : Nat → Int) (hs : Nat) (R : Nat → Nat) (nd : Nat) : Prop := Inv og ft T Hd tm k S D P h Q hs R ∧ 1 ≤ nd ∧ nd ≤ 3 ∧ S nd = true ∧ D nd < 1000 ∧ (nd = og ∨ ft ≤ nd) ∧ ∀ u, 1 ≤ u → u ≤ 3 → S u = true → D u ≤ D nd
theorem inv_pop {og ft k hs : Nat} {T Hd tm D h h2 R : Nat → Nat} {S : Nat → Bool} {P Q Q2 : Nat → Int} (I : Inv og ft T Hd tm k S D P h Q hs R) (h0 : 0 < hs) (H2 : HOk D h2 Q2 (hs - 1)) (f : ∀ v, 1 ≤ v → v ≤ 3 → (0 ≤ Q2 v ↔ 0 ≤ Q v ∧ v ≠ h 0)) :
    Inv og ft T Hd tm (k + 1) (up S (h 0) true) D P h2 Q2 (hs - 1) R ∧ 1 ≤ h 0 ∧ h 0 ≤ 3 ∧ D (h 0) < 1000 ∧ (∀ u, 1 ≤ u → u ≤ 3 → up S (h 0) true u = true → D u ≤ D (h 0)) := by
  obtain ⟨H, e1, e2, i4, i5, i6, i7, i8, i9, i10, i11, i12⟩ := I
  obtain ⟨a1, a2, a3⟩ := H.1.1 0 h0
  have q0 : 0 ≤ Q (h 0) := by omega
  obtain ⟨sf, fin⟩ := i4 _ a1 a2 q0
  have su : ∀ v, S v = true → up S (h 0) true v = true := fun v hv => by
    by_cases q : v = h 0
    · subst q; exact up_s
    · rw [up_o q]; exact hv
  refine ⟨⟨H2, ?_, ?_, fun v v1 v2 hv => ?_, fun v v1 v2 hv => ?_, fun u v u1 u2 v1 v2 hu hv => ?_, fun v v1 v2 hv => ?_, fun v v1 v2 hv => ?_, fun v v1 v2 hv => ?_, i10, i11, i12⟩, a1, a2, fin, fun u u1 u2 hu => ?_⟩
  · have := cntQ_sub a1 a2 q0 f; omega
  · rw [cntS_add a1 a2 sf, ← e2]
  · obtain ⟨b1, b2⟩ := (f v v1 v2).mp hv
    rw [up_o b2]; exact i4 v v1 v2 b1
  · by_cases q : v = h 0
    · subst q; exact Or.inl up_s
    · rcases i5 v v1 v2 hv with b | b
      · exact Or.inl (su v b)
      · exact Or.inr ((f v v1 v2).mpr ⟨b, q⟩)
  · obtain ⟨b1, b2⟩ := (f v v1 v2).mp hv
    by_cases q : u = h 0
    · subst q
      obtain ⟨i, hi, e⟩ := H.1.2.1 v v1 v2 b1
      have : 0 < i := Nat.pos_of_ne_zero fun z => by subst z; exact b2 e.symm
      rw [← e]; exact H.2 i this hi
    · rw [up_o q] at hu; exact i6 u v u1 u2 v1 v2 hu b1
  · rcases i7 v v1 v2 hv with b | ⟨b1, a, b2, b3, b4, b5, b6⟩
    · exact Or.inl b
    · exact Or.inr ⟨b1, a, b2, b3, b4, su _ b5, b6⟩
  · by_cases q : v = h 0
    · subst q; have := i9 _ a1 a2 q0; omega
    · rw [up_o q] at hv; have := i8 v v1 v2 hv; omega
  · have := i9 v v1 v2 ((f v v1 v2).mp hv).1; omega
  · by_cases q : u = h 0
    · subst q; exact Nat.le_refl _
    · rw [up_o q] at hu; exact i6 u _ u1 u2 a1 a2 hu q0
theorem inv_relax {og ft k hs hs2 nd a : Nat} {T Hd tm D h h2 R : Nat → Nat} {S : Nat → Bool} {P Q Q2 : Nat → Int} (I : JInv og ft T Hd tm k S D P h Q hs R nd) (ha : Arcs T Hd tm) (hA : a < 3) (hT : T a = nd) (lt : D nd + tm a < D (Hd a)) (H2 : HOk (up D (Hd a) (D nd + tm a)) h2 Q2 hs2) (hc : hs2 = cntQ Q2) (f : ∀ v, 1 ≤ v → v ≤ 3 → (0 ≤ Q2 v ↔ 0 ≤ Q v ∨ v = Hd a)) :
    JInv og ft T Hd tm k S (up D (Hd a) (D nd + tm a)) (up P (Hd a) (a : Int)) h2 Q2 hs2 (up R (Hd a) (R nd + 1)) nd := by
  obtain ⟨⟨H, e1, e2, i4, i5, i6, i7, i8, i9, i10, i11, i12⟩, n1, n2, n3, n4, n5, n6⟩ := I
  obtain ⟨-, -, d1, d2, d3⟩ := ha a hA
  have sf : S (Hd a) = false := by
    cases q : S (Hd a) with
    | false => rfl
    | true => have := n6 _ d1 d2 q; omega
  have so : ∀ u, S u = true → u ≠ Hd a := fun u hu q => by rw [q, sf] at hu; cases hu
  have hog : Hd a ≠ og := fun q => by rw [q, i12] at lt; omega
  have rn := i8 nd n1 n2 n3
  have dn := i10 nd n1 n2 n4
  have kc := i11 _ d1 d2
  have dx : ∀ v, 1 ≤ v → v ≤ 3 → up D (Hd a) (D nd + tm a) v < 1000 → v ≠ Hd a → D v < 1000 := fun v _ _ hv q => by rw [up_o q] at hv; exact hv
  refine ⟨⟨H2, hc, e2, fun v v1 v2 hv => ?_, fun v v1 v2 hv => ?_, fun u v u1 u2 v1 v2 hu hv => ?_, fun v v1 v2 hv => ?_, fun v v1 v2 hv => by rw [up_o (so v hv)]; exact i8 v v1 v2 hv, fun v v1 v2 hv => ?_, fun v v1 v2 hv => ?_, fun v v1 v2 => ?_, ?_⟩, n1, n2, n3, by rw [up_o (so nd n3)]; exact n4, n5, fun u u1 u2 hu => ?_⟩
  · by_cases q : v = Hd a
    · subst q; rw [up_s]; exact ⟨sf, by omega⟩
    · rw [up_o q]; rcases (f v v1 v2).mp hv with b | b
      · exact i4 v v1 v2 b
      · exact absurd b q
  · by_cases q : v = Hd a
    · exact Or.inr ((f v v1 v2).mpr (Or.inr q))
    · rcases i5 v v1 v2 (dx v v1 v2 hv q) with b | b
      · exact Or.inl b
      · exact Or.inr ((f v v1 v2).mpr (Or.inl b))
  · rw [up_o (so u hu)]
    by_cases q : v = Hd a
    · subst q; rw [up_s]; have := n6 u u1 u2 hu; omega
    · rw [up_o q]; rcases (f v v1 v2).mp hv with b | b
      · exact i6 u v u1 u2 v1 v2 hu b
      · exact absurd b q
  · by_cases q : v = Hd a
    · subst q
      refine Or.inr ⟨hog, a, hA, up_s, rfl, by rw [hT]; exact n3, by rw [hT]; exact n5, ?_, ?_⟩
      · rw [up_s, hT, up_o (so nd n3)]
      · rw [up_s, hT, up_o (so nd n3)]
    · rcases i7 v v1 v2 (dx v v1 v2 hv q) with ⟨b1, b2, b3, b4⟩ | ⟨b1, a', b2, b3, b4, b5, b6, b7, b8⟩
      · exact Or.inl ⟨b1, by rw [up_o q]; exact b2, by rw [up_o q]; exact b3, by rw [up_o q]; exact b4⟩
      · exact Or.inr ⟨b1, a', b2, by rw [up_o q]; exact b3, b4, b5, b6, by rw [up_o q, up_o (so _ b5)]; exact b7, by rw [up_o q, up_o (so _ b5)]; exact b8⟩
  · by_cases q : v = Hd a
    · subst q; rw [up_s]; omega
    · rw [up_o q]; rcases (f v v1 v2).mp hv with b | b
      · exact i9 v v1 v2 b
      · exact absurd b q
  · by_cases q : v = Hd a
    · subst q; rw [up_s, up_s]; omega
    · rw [up_o q, up_o q]; exact i10 v v1 v2 (dx v v1 v2 hv q)
  · by_cases q : v = Hd a
    · subst q; rw [up_s]; omega
    · rw [up_o q]; exact i11 v v1 v2
  · rw [up_o (fun z => hog z.symm)]; exact i12
  · rw [up_o (so u hu), up_o (so nd n3)]; exact n6 u u1 u2 hu

theorem inv_hs {og ft k hs : Nat} {T Hd tm D h R : Nat → Nat} {S : Nat → Bool} {P Q : Nat → Int} (I : Inv og ft T Hd tm k S D P h Q hs R) : hs + k ≤ 3 := by
  rw [I.2.1, I.2.2.1]; exact cnt_le (fun v a b q => (I.2.2.2.1 v a b q).1)
/-- a node that is not in the heap and not settled: the heap has room -/
theorem inv_room {og ft k hs nd hd : Nat} {T Hd tm D h R : Nat → Nat} {S : Nat → Bool} {P Q : Nat → Int} (I : Inv og ft T Hd tm k S D P h Q hs R) (n1 : 1 ≤ nd) (n2 : nd ≤ 3) (hn : S nd = true) (d1 : 1 ≤ hd) (d2 : hd ≤ 3) (hq : Q hd < 0) (hS : S hd = false) : hs ≤ 1 := by
  have a := cntS_add d1 d2 hS
  have b := cnt_le (Q := Q) (S := up S hd true) (fun v v1 v2 q => by
    by_cases z : v = hd
    · subst z; omega
    · rw [up_o z]; exact (I.2.2.2.1 v v1 v2 q).1)
  have c : 1 ≤ cntS S := by
    unfold cntS
    have hx : nd = 1 ∨ nd = 2 ∨ nd = 3 := by omega
    rcases hx with rfl | rfl | rfl <;> rw [if_pos hn] <;> omega
  have := I.2.1
  omega

theorem c_ftn (l : Launch) (Z : State) (a0 : Array Value) (hw : ∀ d ∈ tables_1, d.before a0 Z = true) (n0 : Nat) (nt tlA hdA caA ffA bsA pwA foA oaA : Addr) (ftI : Int32)  (h0 : Heap) (F : List HRow) (H00 : Hp Z n0 h0 ((nt, o_Network Z (.int (3 : Int32)) (.int ftI) (.ref tlA) (.ref hdA) (.ref caA) (.ref ffA) (.ref bsA) (.ref pwA) (.ref foA) (.ref oaA)) :: F)) :
    Con l Z n0 ⟨"com/example/lanewright/lanewright/Network", "firstThruNode", "()I"⟩ [] prog_29_method_3_code 1 (some .int) ({ frames := 0, cells := 0, slots := 0, locals := 0 } : Room) #[.ref nt] h0 (fun v h => v = some (.int ftI) ∧ Hp Z n0 h ((nt, o_Network Z (.int (3 : Int32)) (.int ftI) (.ref tlA) (.ref hdA) (.ref caA) (.ref ffA) (.ref bsA) (.ref pwA) (.ref foA) (.ref oaA)) :: F)) := by
  refine con_of (plainFor_of_name pn_Network) ?_
  intro p e s m below meth c T0 W0 e0
  subst e0
  have H0 := H00
  refine g_cast (ef_r1 m nt) ?_
  refine g_aloadN W0 d62_0 (pc' := 1) rfl rfl rfl ?_
  refine g_getf W0 (wd_98 hw) Via.refl H0 (i := 0) rfl (jx := 1) rfl d62_1 (pc' := 4) rfl ?_
  intro T1 W1 H1
  exact g_ireturn W1 d62_4 ⟨rfl, H1⟩ (by decide) (by decide)
theorem c_ncnt (l : Launch) (Z : State) (a0 : Array Value) (hw : ∀ d ∈ tables_1, d.before a0 Z = true) (n0 : Nat) (nt tlA hdA caA ffA bsA pwA foA oaA : Addr) (ftI : Int32)  (h0 : Heap) (F : List HRow) (H00 : Hp Z n0 h0 ((nt, o_Network Z (.int (3 : Int32)) (.int ftI) (.ref tlA) (.ref hdA) (.ref caA) (.ref ffA) (.ref bsA) (.ref pwA) (.ref foA) (.ref oaA)) :: F)) :
    Con l Z n0 ⟨"com/example/lanewright/lanewright/Network", "nodeCount", "()I"⟩ [] prog_29_method_2_code 1 (some .int) ({ frames := 0, cells := 0, slots := 0, locals := 0 } : Room) #[.ref nt] h0 (fun v h => v = some (.int 3) ∧ Hp Z n0 h ((nt, o_Network Z (.int (3 : Int32)) (.int ftI) (.ref tlA) (.ref hdA) (.ref caA) (.ref ffA) (.ref bsA) (.ref pwA) (.ref foA) (.ref oaA)) :: F)) := by
  refine con_of (plainFor_of_name pn_Network) ?_
  intro p e s m below meth c T0 W0 e0
  subst e0
  have H0 := H00
  refine g_cast (ef_r1 m nt) ?_
  refine g_aloadN W0 d27_0 (pc' := 1) rfl rfl rfl ?_
  refine g_getf W0 (wd_96 hw) Via.refl H0 (i := 0) rfl (jx := 0) rfl d27_1 (pc' := 4) rfl ?_
  intro T1 W1 H1
  exact g_ireturn W1 d27_4 ⟨rfl, H1⟩ (by decide) (by decide)
theorem c_fout (l : Launch) (Z : State) (a0 : Array Value) (hw : ∀ d ∈ tables_1, d.before a0 Z = true) (n0 : Nat) (nt tlA hdA caA ffA bsA pwA foA oaA : Addr) (ftI : Int32) (xs : List Int32) (kk : Int32) (i0 : Nat) (hk : kk.toInt = (i0 : Int)) (x : Int32) (hx : xs[i0]? = some x) (h0 : Heap) (F : List HRow) (H00 : Hp Z n0 h0 ((nt, o_Network Z (.int (3 : Int32)) (.int ftI) (.ref tlA) (.ref hdA) (.ref caA) (.ref ffA) (.ref bsA) (.ref pwA) (.ref foA) (.ref oaA)) :: (foA, IaC Z xs) :: F)) :
    Con l Z n0 ⟨"com/example/lanewright/lanewright/Network", "firstOut", "(I)I"⟩ [] prog_29_method_8_code 2 (some .int) ({ frames := 0, cells := 0, slots := 0, locals := 0 } : Room) #[.ref nt, .int kk] h0 (fun v h => v = some (.int x) ∧ Hp Z n0 h ((nt, o_Network Z (.int (3 : Int32)) (.int ftI) (.ref tlA) (.ref hdA) (.ref caA) (.ref ffA) (.ref bsA) (.ref pwA) (.ref foA) (.ref oaA)) :: (foA, IaC Z xs) :: F)) := by
  refine con_of (plainFor_of_name pn_Network) ?_
  intro p e s m below meth c T0 W0 e0
  subst e0
  have H0 := H00
  refine g_cast (ef_ri2 m nt kk) ?_
  refine g_aloadN W0 d54_0 (pc' := 1) rfl rfl rfl ?_
  refine g_getf W0 (wd_122 hw) Via.refl H0 (i := 0) rfl (jx := 8) rfl d54_1 (pc' := 4) rfl ?_
  intro T1 W1 H1
  refine g_iloadN W1 d54_4 (pc' := 5) rfl rfl ?_
  refine g_ialoadI W1 H1 (i := 1) rfl (jx := i0) hk (u := x) hx d54_5 (pc' := 6) rfl ?_
  exact g_ireturn W1 d54_6 ⟨rfl, H1⟩ (by decide) (by decide)
theorem c_eout (l : Launch) (Z : State) (a0 : Array Value) (hw : ∀ d ∈ tables_1, d.before a0 Z = true) (n0 : Nat) (nt tlA hdA caA ffA bsA pwA foA oaA : Addr) (ftI : Int32) (xs : List Int32) (kk : Int32) (i0 : Nat) (hk : kk.toInt = (i0 : Int)) (x : Int32) (hx : xs[i0 + 1]? = some x) (hb : i0 < 100) (h0 : Heap) (F : List HRow) (H00 : Hp Z n0 h0 ((nt, o_Network Z (.int (3 : Int32)) (.int ftI) (.ref tlA) (.ref hdA) (.ref caA) (.ref ffA) (.ref bsA) (.ref pwA) (.ref foA) (.ref oaA)) :: (foA, IaC Z xs) :: F)) :
    Con l Z n0 ⟨"com/example/lanewright/lanewright/Network", "endOut", "(I)I"⟩ [] prog_29_method_9_code 2 (some .int) ({ frames := 0, cells := 0, slots := 0, locals := 0 } : Room) #[.ref nt, .int kk] h0 (fun v h => v = some (.int x) ∧ Hp Z n0 h ((nt, o_Network Z (.int (3 : Int32)) (.int ftI) (.ref tlA) (.ref hdA) (.ref caA) (.ref ffA) (.ref bsA) (.ref pwA) (.ref foA) (.ref oaA)) :: (foA, IaC Z xs) :: F)) := by
  refine con_of (plainFor_of_name pn_Network) ?_
  intro p e s m below meth c T0 W0 e0
  subst e0
  have H0 := H00
  refine g_cast (ef_ri2 m nt kk) ?_
  refine g_aloadN W0 d55_0 (pc' := 1) rfl rfl rfl ?_
  refine g_getf W0 (wd_122 hw) Via.refl H0 (i := 0) rfl (jx := 8) rfl d55_1 (pc' := 4) rfl ?_
  intro T1 W1 H1
  refine g_iloadN W1 d55_4 (pc' := 5) rfl rfl ?_
  refine g_iconst W1 d55_5 (pc' := 6) rfl (v := (1 : Int32)) (by decide) ?_
  refine g_iadd W1 d55_6 (pc' := 7) rfl rfl ?_
  refine g_ialoadI W1 H1 (i := 1) rfl (jx := (i0 + 1)) (i_p1 hk (by omega)) (u := x) hx d55_7 (pc' := 8) rfl ?_
  exact g_ireturn W1 d55_8 ⟨rfl, H1⟩ (by decide) (by decide)
theorem c_oarc (l : Launch) (Z : State) (a0 : Array Value) (hw : ∀ d ∈ tables_1, d.before a0 Z = true) (n0 : Nat) (nt tlA hdA caA ffA bsA pwA foA oaA : Addr) (ftI : Int32) (xs : List Int32) (kk : Int32) (i0 : Nat) (hk : kk.toInt = (i0 : Int)) (x : Int32) (hx : xs[i0]? = some x) (h0 : Heap) (F : List HRow) (H00 : Hp Z n0 h0 ((nt, o_Network Z (.int (3 : Int32)) (.int ftI) (.ref tlA) (.ref hdA) (.ref caA) (.ref ffA) (.ref bsA) (.ref pwA) (.ref foA) (.ref oaA)) :: (oaA, IaC Z xs) :: F)) :
    Con l Z n0 ⟨"com/example/lanewright/lanewright/Network", "outArc", "(I)I"⟩ [] prog_29_method_10_code 2 (some .int) ({ frames := 0, cells := 0, slots := 0, locals := 0 } : Room) #[.ref nt, .int kk] h0 (fun v h => v = some (.int x) ∧ Hp Z n0 h ((nt, o_Network Z (.int (3 : Int32)) (.int ftI) (.ref tlA) (.ref hdA) (.ref caA) (.ref ffA) (.ref bsA) (.ref pwA) (.ref foA) (.ref oaA)) :: (oaA, IaC Z xs) :: F)) := by
  refine con_of (plainFor_of_name pn_Network) ?_
  intro p e s m below meth c T0 W0 e0
  subst e0
  have H0 := H00
  refine g_cast (ef_ri2 m nt kk) ?_
  refine g_aloadN W0 d57_0 (pc' := 1) rfl rfl rfl ?_
  refine g_getf W0 (wd_177 hw) Via.refl H0 (i := 0) rfl (jx := 9) rfl d57_1 (pc' := 4) rfl ?_
  intro T1 W1 H1
  refine g_iloadN W1 d57_4 (pc' := 5) rfl rfl ?_
  refine g_ialoadI W1 H1 (i := 1) rfl (jx := i0) hk (u := x) hx d57_5 (pc' := 6) rfl ?_
  exact g_ireturn W1 d57_6 ⟨rfl, H1⟩ (by decide) (by decide)
theorem c_nhead (l : Launch) (Z : State) (a0 : Array Value) (hw : ∀ d ∈ tables_1, d.before a0 Z = true) (n0 : Nat) (nt tlA hdA caA ffA bsA pwA foA oaA : Addr) (ftI : Int32) (xs : List Int32) (kk : Int32) (i0 : Nat) (hk : kk.toInt = (i0 : Int)) (x : Int32) (hx : xs[i0]? = some x) (h0 : Heap) (F : List HRow) (H00 : Hp Z n0 h0 ((nt, o_Network Z (.int (3 : Int32)) (.int ftI) (.ref tlA) (.ref hdA) (.ref caA) (.ref ffA) (.ref bsA) (.ref pwA) (.ref foA) (.ref oaA)) :: (hdA, IaC Z xs) :: F)) :
    Con l Z n0 ⟨"com/example/lanewright/lanewright/Network", "head", "(I)I"⟩ [] prog_29_method_6_code 2 (some .int) ({ frames := 0, cells := 0, slots := 0, locals := 0 } : Room) #[.ref nt, .int kk] h0 (fun v h => v = some (.int x) ∧ Hp Z n0 h ((nt, o_Network Z (.int (3 : Int32)) (.int ftI) (.ref tlA) (.ref hdA) (.ref caA) (.ref ffA) (.ref bsA) (.ref pwA) (.ref foA) (.ref oaA)) :: (hdA, IaC Z xs) :: F)) := by
  refine con_of (plainFor_of_name pn_Network) ?_
  intro p e s m below meth c T0 W0 e0
  subst e0
  have H0 := H00
  refine g_cast (ef_ri2 m nt kk) ?_
  refine g_aloadN W0 d58_0 (pc' := 1) rfl rfl rfl ?_
  refine g_getf W0 (wd_111 hw) Via.refl H0 (i := 0) rfl (jx := 3) rfl d58_1 (pc' := 4) rfl ?_
  intro T1 W1 H1
  refine g_iloadN W1 d58_4 (pc' := 5) rfl rfl ?_
  refine g_ialoadI W1 H1 (i := 1) rfl (jx := i0) hk (u := x) hx d58_5 (pc' := 6) rfl ?_
  exact g_ireturn W1 d58_6 ⟨rfl, H1⟩ (by decide) (by decide)
theorem c_dist (l : Launch) (Z : State) (a0 : Array Value) (hw : ∀ d ∈ tables_1, d.before a0 Z = true) (n0 : Nat) (tr nt dsA prA hpA psA : Addr) (hz : Int32) (DL : List UInt64) (kk : Int32) (i0 : Nat) (hk : kk.toInt = (i0 : Int)) (x : UInt64) (hx : DL[i0]? = some x) (h0 : Heap) (F : List HRow) (H00 : Hp Z n0 h0 ((tr, o_ShortestPathTree Z (.ref nt) (.ref dsA) (.ref prA) (.ref hpA) (.ref psA) (.int hz)) :: (dsA, DaC Z DL) :: F)) :
    Con l Z n0 ⟨"com/example/lanewright/lanewright/ShortestPathTree", "distance", "(I)D"⟩ [] prog_58_method_3_code 2 (some .double) ({ frames := 0, cells := 0, slots := 0, locals := 0 } : Room) #[.ref tr, .int kk] h0 (fun v h => v = some (.double x) ∧ Hp Z n0 h ((tr, o_ShortestPathTree Z (.ref nt) (.ref dsA) (.ref prA) (.ref hpA) (.ref psA) (.int hz)) :: (dsA, DaC Z DL) :: F)) := by
  refine con_of (plainFor_of_name pn_ShortestPathTree) ?_
  intro p e s m below meth c T0 W0 e0
  subst e0
  have H0 := H00
  refine g_cast (ef_ri2 m tr kk) ?_
  refine g_aloadN W0 d56_0 (pc' := 1) rfl rfl rfl ?_
  refine g_getf W0 (wd_388 hw) Via.refl H0 (i := 0) rfl (jx := 1) rfl d56_1 (pc' := 4) rfl ?_
  intro T1 W1 H1
  refine g_iloadN W1 d56_4 (pc' := 5) rfl rfl ?_
  refine g_daloadD W1 H1 (i := 1) rfl (jx := i0) hk (u := x) hx d56_5 (pc' := 6) rfl ?_
  exact g_dreturn W1 d56_6 ⟨rfl, H1⟩ (by decide) (by decide)
theorem c_tini (l : Launch) (Z : State) (a0 : Array Value) (hw : ∀ d ∈ tables_1, d.before a0 Z = true) (n0 : Nat) (tr : Addr) (nt tlA hdA caA ffA bsA pwA foA oaA : Addr) (ftI : Int32)  (h0 : Heap) (F : List HRow) (H00 : Hp Z n0 h0 ((tr, o_ShortestPathTree Z .null .null .null .null .null (.int (0 : Int32))) :: (nt, o_Network Z (.int (3 : Int32)) (.int ftI) (.ref tlA) (.ref hdA) (.ref caA) (.ref ffA) (.ref bsA) (.ref pwA) (.ref foA) (.ref oaA)) :: F)) :
    Con l Z n0 ⟨"com/example/lanewright/lanewright/ShortestPathTree", "<init>", "(Lcom/example/lanewright/lanewright/Network;)V"⟩ [] prog_58_method_1_code 3 none ({ frames := 1, cells := 4, slots := 16, locals := 12 } : Room) #[.ref tr, .ref nt] h0 (fun v h => ∃ dsA prA hpA psA : Addr, v = none ∧ Hp Z n0 h ((tr, o_ShortestPathTree Z (.ref nt) (.ref dsA) (.ref prA) (.ref hpA) (.ref psA) (.int (0 : Int32))) :: (dsA, DaC Z ([0, 0, 0, 0] : List UInt64)) :: (prA, IaC Z (List.replicate 4 0)) :: (hpA, IaC Z (List.replicate 4 0)) :: (psA, IaC Z (List.replicate 4 0)) :: (nt, o_Network Z (.int (3 : Int32)) (.int ftI) (.ref tlA) (.ref hdA) (.ref caA) (.ref ffA) (.ref bsA) (.ref pwA) (.ref foA) (.ref oaA)) :: F)) := by
  refine con_of (plainFor_of_name pn_ShortestPathTree) ?_
  intro p e s m below meth c T0 W0 e0
  subst e0
  have H0 := H00
  refine g_cast (ef_rr3 m tr nt) ?_
  refine g_aloadN W0 d48_0 (pc' := 1) rfl rfl rfl ?_
  refine g_initO W0 (wd_384 hw) (wd_23 hw) (wd_24 hw) H0 rfl d48_1 (pc' := 4) rfl (by decide) (Wn := 0) (Nat.le_of_eq rfl) (by decide) ?_
  intro T1 W1 H1
  refine g_aloadN W1 d48_4 (pc' := 5) rfl rfl rfl ?_
  refine g_aloadN W1 d48_5 (pc' := 6) rfl rfl rfl ?_
  refine g_putf W1 (wd_385 hw) Via.refl (Or.inr ⟨(wd_386 hw), rfl, rfl⟩) (wd_379 hw) (ty := (.object "com/example/lanewright/lanewright/Network")) (by decide) rfl rfl H1 (i := 0) rfl (jx := 0) rfl d48_6 (pc' := 9) rfl (L' := ((tr, o_ShortestPathTree Z (.ref nt) .null .null .null .null (.int (0 : Int32))) :: (nt, o_Network Z (.int (3 : Int32)) (.int ftI) (.ref tlA) (.ref hdA) (.ref caA) (.ref ffA) (.ref bsA) (.ref pwA) (.ref foA) (.ref oaA)) :: F)) rfl ?_
  intro T2 W2 H2
  refine g_aloadN W2 d48_9 (pc' := 10) rfl rfl rfl ?_
  have H3f := Hp.fr1 H2
  refine g_callV W2 (argsL := []) (st := []) (wd_387 hw) (wd_208 hw) (wd_210 hw) (wd_209 hw) (wd_91 hw) (wd_211 hw) (by decide) (a := nt) H3f (i := 0) rfl (c_ncnt l Z a0 hw n0 nt tlA hdA caA ffA bsA pwA foA oaA ftI _ _ H3f) pd_7 rfl rfl rfl d48_10 (pc' := 13) rfl (by decide) (Wn := 0) (Nat.le_of_eq rfl) (by decide) (kc' := 0) (ks' := 0) rfl rfl (by decide) (by decide) ?_
  intro T4 v4 W4 hp4
  obtain ⟨rfl, H4⟩ := hp4
  show Goes _ _ _ _ (State.setTop _ (mkF _ _ _ [.int (3 : Int32)]))
  refine g_iconst W4 d48_13 (pc' := 14) rfl (v := (1 : Int32)) (by decide) ?_
  refine g_iadd W4 d48_14 (pc' := 15) rfl (v := (4 : Int32)) (by decide) ?_
  refine g_istoreN W4 d48_15 (pc' := 16) rfl (ls' := #[.val (.ref tr), .val (.ref nt), .val (.int (4 : Int32))]) rfl ?_
  refine g_aloadN W4 d48_16 (pc' := 17) rfl rfl rfl ?_
  refine g_iloadN W4 d48_17 (pc' := 18) rfl rfl ?_
  refine g_newarr (aty := .double) W4 (wd_113 hw) H4 (by decide) (vs := [.double 0, .double 0, .double 0, .double 0]) rfl (cap := 4) (Nat.le_of_eq rfl) (by decide) d48_18 (pc' := 20) rfl (kc' := 1) (ks' := 4) rfl rfl (by decide) (by decide) ?_
  intro T5 a5 W5 H5
  replace H5 : Hp Z n0 T5.heap ((a5, ArC Z .double [.double 0, .double 0, .double 0, .double 0]) :: (nt, o_Network Z (.int (3 : Int32)) (.int ftI) (.ref tlA) (.ref hdA) (.ref caA) (.ref ffA) (.ref bsA) (.ref pwA) (.ref foA) (.ref oaA)) :: (tr, o_ShortestPathTree Z (.ref nt) .null .null .null .null (.int (0 : Int32))) :: F) := H5
  refine g_putf W5 (wd_388 hw) Via.refl (Or.inr ⟨(wd_389 hw), rfl, rfl⟩) (wd_379 hw) (ty := (.array .double)) (by decide) rfl rfl H5 (i := 2) rfl (jx := 1) rfl d48_20 (pc' := 23) rfl (L' := ((a5, ArC Z .double [.double 0, .double 0, .double 0, .double 0]) :: (nt, o_Network Z (.int (3 : Int32)) (.int ftI) (.ref tlA) (.ref hdA) (.ref caA) (.ref ffA) (.ref bsA) (.ref pwA) (.ref foA) (.ref oaA)) :: (tr, o_ShortestPathTree Z (.ref nt) (.ref a5) .null .null .null (.int (0 : Int32))) :: F)) rfl ?_
  intro T6 W6 H6
  refine g_aloadN W6 d48_23 (pc' := 24) rfl rfl rfl ?_
  refine g_iloadN W6 d48_24 (pc' := 25) rfl rfl ?_
  refine g_newarrI W6 (wd_108 hw) H6 (by decide) (n := 4) (by decide) (cap := 4) (by decide) (by decide) d48_25 (pc' := 27) rfl (kc' := 2) (ks' := 8) rfl rfl (by decide) (by decide) ?_
  intro T7 a7 W7 H7
  refine g_putf W7 (wd_390 hw) Via.refl (Or.inr ⟨(wd_391 hw), rfl, rfl⟩) (wd_379 hw) (ty := (.array .int)) (by decide) rfl rfl H7 (i := 3) rfl (jx := 2) rfl d48_27 (pc' := 30) rfl (L' := ((a7, IaC Z (List.replicate 4 0)) :: (a5, ArC Z .double [.double 0, .double 0, .double 0, .double 0]) :: (nt, o_Network Z (.int (3 : Int32)) (.int ftI) (.ref tlA) (.ref hdA) (.ref caA) (.ref ffA) (.ref bsA) (.ref pwA) (.ref foA) (.ref oaA)) :: (tr, o_ShortestPathTree Z (.ref nt) (.ref a5) (.ref a7) .null .null (.int (0 : Int32))) :: F)) rfl ?_
  intro T8 W8 H8
  refine g_aloadN W8 d48_30 (pc' := 31) rfl rfl rfl ?_
  refine g_iloadN W8 d48_31 (pc' := 32) rfl rfl ?_
  refine g_newarrI W8 (wd_108 hw) H8 (by decide) (n := 4) (by decide) (cap := 4) (by decide) (by decide) d48_32 (pc' := 34) rfl (kc' := 3) (ks' := 12) rfl rfl (by decide) (by decide) ?_
  intro T9 a9 W9 H9
  refine g_putf W9 (wd_392 hw) Via.refl (Or.inr ⟨(wd_393 hw), rfl, rfl⟩) (wd_379 hw) (ty := (.array .int)) (by decide) rfl rfl H9 (i := 4) rfl (jx := 3) rfl d48_34 (pc' := 37) rfl (L' := ((a9, IaC Z (List.replicate 4 0)) :: (a7, IaC Z (List.replicate 4 0)) :: (a5, ArC Z .double [.double 0, .double 0, .double 0, .double 0]) :: (nt, o_Network Z (.int (3 : Int32)) (.int ftI) (.ref tlA) (.ref hdA) (.ref caA) (.ref ffA) (.ref bsA) (.ref pwA) (.ref foA) (.ref oaA)) :: (tr, o_ShortestPathTree Z (.ref nt) (.ref a5) (.ref a7) (.ref a9) .null (.int (0 : Int32))) :: F)) rfl ?_
  intro T10 W10 H10
  refine g_aloadN W10 d48_37 (pc' := 38) rfl rfl rfl ?_
  refine g_iloadN W10 d48_38 (pc' := 39) rfl rfl ?_
  refine g_newarrI W10 (wd_108 hw) H10 (by decide) (n := 4) (by decide) (cap := 4) (by decide) (by decide) d48_39 (pc' := 41) rfl (kc' := 4) (ks' := 16) rfl rfl (by decide) (by decide) ?_
  intro T11 a11 W11 H11
  refine g_putf W11 (wd_394 hw) Via.refl (Or.inr ⟨(wd_395 hw), rfl, rfl⟩) (wd_379 hw) (ty := (.array .int)) (by decide) rfl rfl H11 (i := 5) rfl (jx := 4) rfl d48_41 (pc' := 44) rfl (L' := ((a11, IaC Z (List.replicate 4 0)) :: (a9, IaC Z (List.replicate 4 0)) :: (a7, IaC Z (List.replicate 4 0)) :: (a5, ArC Z .double [.double 0, .double 0, .double 0, .double 0]) :: (nt, o_Network Z (.int (3 : Int32)) (.int ftI) (.ref tlA) (.ref hdA) (.ref caA) (.ref ffA) (.ref bsA) (.ref pwA) (.ref foA) (.ref oaA)) :: (tr, o_ShortestPathTree Z (.ref nt) (.ref a5) (.ref a7) (.ref a9) (.ref a11) (.int (0 : Int32))) :: F)) rfl ?_
  intro T12 W12 H12
  have H13f := Hp.fr4 H12
  have H14f := Hp.fr1 H13f
  have H15f := Hp.fr2 H14f
  have H16f := Hp.fr3 H15f
  have H17f := Hp.fr4 H16f
  have H18f := Hp.fr5 H17f
  exact g_return W12 d48_44 ⟨_, _, _, _, rfl, H18f⟩ (by decide) (by decide)

theorem len_4 {α : Type} {xs : List α} (h : xs.length = 4) : ∃ y0 y1 y2 y3, xs = [y0, y1, y2, y3] := by
  match xs, h with
  | [y0, y1, y2, y3], _ => exact ⟨_, _, _, _, rfl⟩

theorem c_filld (l : Launch) (Z : State) (a0 : Array Value) (hw : ∀ d ∈ tables_1, d.before a0 Z = true) (n0 : Nat) (a : Addr) (xs : List UInt64) (hx : xs.length = 4) (h0 : Heap) (F : List HRow) (H00 : Hp Z n0 h0 ((a, DaC Z xs) :: F)) :
    Con l Z n0 ⟨"java/util/Arrays", "fill", "([DD)V"⟩ [] jdk_65_method_113_code 5 none ({ frames := 0, cells := 0, slots := 0, locals := 0 } : Room) #[.ref a, .double (9218868437227405312 : UInt64)] h0 (fun v h => v = none ∧ Hp Z n0 h ((a, DaC Z ([(9218868437227405312 : UInt64), (9218868437227405312 : UInt64), (9218868437227405312 : UInt64), (9218868437227405312 : UInt64)] : List UInt64)) :: F)) := by
  refine con_of pf_50 ?_
  intro p e s m below meth c T0 W0 e0
  subst e0
  have H0 := H00
  refine g_cast (ef_rd5 m a (9218868437227405312 : UInt64)) ?_
  obtain ⟨y0, y1, y2, y3, rfl⟩ := len_4 hx
  refine g_iconst W0 d50_0 (pc' := 1) rfl (v := (0 : Int32)) (by decide) ?_
  refine g_istoreN W0 d50_1 (pc' := 2) rfl (ls' := #[.val (.ref a), .val (.double (9218868437227405312 : UInt64)), .second, .val (.int (0 : Int32)), .unset]) rfl ?_
  refine g_aloadN W0 d50_2 (pc' := 3) rfl rfl rfl ?_
  refine g_arrlenD W0 H0 (i := 0) rfl (x := (4 : Int32)) rfl d50_3 (pc' := 4) rfl ?_
  refine g_istore W0 d50_4 (pc' := 6) rfl (ls' := #[.val (.ref a), .val (.double (9218868437227405312 : UInt64)), .second, .val (.int (0 : Int32)), .val (.int (4 : Int32))]) rfl ?_
  refine g_iloadN W0 d50_6 (pc' := 7) rfl rfl ?_
  refine g_iload W0 d50_7 (pc' := 9) rfl rfl ?_
  refine g_icmp W0 d50_9 (pcy := 22) (by decide) (pc' := 12) rfl (fun (h : ¬ (0 : Int32) < (4 : Int32)) => absurd h (by decide)) (fun _ => ?_)
  refine g_aloadN W0 d50_12 (pc' := 13) rfl rfl rfl ?_
  refine g_iloadN W0 d50_13 (pc' := 14) rfl rfl ?_
  refine g_dloadN W0 d50_14 (pc' := 15) rfl rfl ?_
  refine g_dastoreD W0 H0 (i := 0) rfl (jx := 0) (by decide) (by exact (by decide : 0 < 4)) d50_15 (pc' := 16) rfl (L' := ((a, DaC Z ([(9218868437227405312 : UInt64), y1, y2, y3] : List UInt64)) :: F)) rfl ?_
  intro T1 W1 H1
  refine g_iinc W1 d50_16 (pc' := 19) rfl rfl (v := (1 : Int32)) (by decide) (ls' := #[.val (.ref a), .val (.double (9218868437227405312 : UInt64)), .second, .val (.int (1 : Int32)), .val (.int (4 : Int32))]) rfl ?_
  refine g_goto W1 d50_19 (pc' := 6) (by decide) ?_
  refine g_iloadN W1 d50_6 (pc' := 7) rfl rfl ?_
  refine g_iload W1 d50_7 (pc' := 9) rfl rfl ?_
  refine g_icmp W1 d50_9 (pcy := 22) (by decide) (pc' := 12) rfl (fun (h : ¬ (1 : Int32) < (4 : Int32)) => absurd h (by decide)) (fun _ => ?_)
  refine g_aloadN W1 d50_12 (pc' := 13) rfl rfl rfl ?_
  refine g_iloadN W1 d50_13 (pc' := 14) rfl rfl ?_
  refine g_dloadN W1 d50_14 (pc' := 15) rfl rfl ?_
  refine g_dastoreD W1 H1 (i := 0) rfl (jx := 1) (by decide) (by exact (by decide : 1 < 4)) d50_15 (pc' := 16) rfl (L' := ((a, DaC Z ([(9218868437227405312 : UInt64), (9218868437227405312 : UInt64), y2, y3] : List UInt64)) :: F)) rfl ?_
  intro T2 W2 H2
  refine g_iinc W2 d50_16 (pc' := 19) rfl rfl (v := (2 : Int32)) (by decide) (ls' := #[.val (.ref a), .val (.double (9218868437227405312 : UInt64)), .second, .val (.int (2 : Int32)), .val (.int (4 : Int32))]) rfl ?_
  refine g_goto W2 d50_19 (pc' := 6) (by decide) ?_
  refine g_iloadN W2 d50_6 (pc' := 7) rfl rfl ?_
  refine g_iload W2 d50_7 (pc' := 9) rfl rfl ?_
  refine g_icmp W2 d50_9 (pcy := 22) (by decide) (pc' := 12) rfl (fun (h : ¬ (2 : Int32) < (4 : Int32)) => absurd h (by decide)) (fun _ => ?_)
  refine g_aloadN W2 d50_12 (pc' := 13) rfl rfl rfl ?_
  refine g_iloadN W2 d50_13 (pc' := 14) rfl rfl ?_
  refine g_dloadN W2 d50_14 (pc' := 15) rfl rfl ?_
  refine g_dastoreD W2 H2 (i := 0) rfl (jx := 2) (by decide) (by exact (by decide : 2 < 4)) d50_15 (pc' := 16) rfl (L' := ((a, DaC Z ([(9218868437227405312 : UInt64), (9218868437227405312 : UInt64), (9218868437227405312 : UInt64), y3] : List UInt64)) :: F)) rfl ?_
  intro T3 W3 H3
  refine g_iinc W3 d50_16 (pc' := 19) rfl rfl (v := (3 : Int32)) (by decide) (ls' := #[.val (.ref a), .val (.double (9218868437227405312 : UInt64)), .second, .val (.int (3 : Int32)), .val (.int (4 : Int32))]) rfl ?_
  refine g_goto W3 d50_19 (pc' := 6) (by decide) ?_
  refine g_iloadN W3 d50_6 (pc' := 7) rfl rfl ?_
  refine g_iload W3 d50_7 (pc' := 9) rfl rfl ?_
  refine g_icmp W3 d50_9 (pcy := 22) (by decide) (pc' := 12) rfl (fun (h : ¬ (3 : Int32) < (4 : Int32)) => absurd h (by decide)) (fun _ => ?_)
  refine g_aloadN W3 d50_12 (pc' := 13) rfl rfl rfl ?_
  refine g_iloadN W3 d50_13 (pc' := 14) rfl rfl ?_
  refine g_dloadN W3 d50_14 (pc' := 15) rfl rfl ?_
  refine g_dastoreD W3 H3 (i := 0) rfl (jx := 3) (by decide) (by exact (by decide : 3 < 4)) d50_15 (pc' := 16) rfl (L' := ((a, DaC Z ([(9218868437227405312 : UInt64), (9218868437227405312 : UInt64), (9218868437227405312 : UInt64), (9218868437227405312 : UInt64)] : List UInt64)) :: F)) rfl ?_
  intro T4 W4 H4
  refine g_iinc W4 d50_16 (pc' := 19) rfl rfl (v := (4 : Int32)) (by decide) (ls' := #[.val (.ref a), .val (.double (9218868437227405312 : UInt64)), .second, .val (.int (4 : Int32)), .val (.int (4 : Int32))]) rfl ?_
  refine g_goto W4 d50_19 (pc' := 6) (by decide) ?_
  refine g_iloadN W4 d50_6 (pc' := 7) rfl rfl ?_
  refine g_iload W4 d50_7 (pc' := 9) rfl rfl ?_
  refine g_icmp W4 d50_9 (pcy := 22) (by decide) (pc' := 12) rfl (fun _ => ?_) (fun (h : ¬ ¬ (4 : Int32) < (4 : Int32)) => absurd h (by decide))
  exact g_return W4 d50_22 ⟨rfl, H4⟩ (by decide) (by decide)
theorem c_filli (l : Launch) (Z : State) (a0 : Array Value) (hw : ∀ d ∈ tables_1, d.before a0 Z = true) (n0 : Nat) (a : Addr) (xs : List Int32) (hx : xs.length = 4) (h0 : Heap) (F : List HRow) (H00 : Hp Z n0 h0 ((a, IaC Z xs) :: F)) :
    Con l Z n0 ⟨"java/util/Arrays", "fill", "([II)V"⟩ [] jdk_65_method_103_code 4 none ({ frames := 0, cells := 0, slots := 0, locals := 0 } : Room) #[.ref a, .int (-1 : Int32)] h0 (fun v h => v = none ∧ Hp Z n0 h ((a, IaC Z ([(-1 : Int32), (-1 : Int32), (-1 : Int32), (-1 : Int32)] : List Int32)) :: F)) := by
  refine con_of pf_28 ?_
  intro p e s m below meth c T0 W0 e0
  subst e0
  have H0 := H00
  refine g_cast (ef_ri4 m a (-1 : Int32)) ?_
  obtain ⟨y0, y1, y2, y3, rfl⟩ := len_4 hx
  refine g_iconst W0 d28_0 (pc' := 1) rfl (v := (0 : Int32)) (by decide) ?_
  refine g_istoreN W0 d28_1 (pc' := 2) rfl (ls' := #[.val (.ref a), .val (.int (-1 : Int32)), .val (.int (0 : Int32)), .unset]) rfl ?_
  refine g_aloadN W0 d28_2 (pc' := 3) rfl rfl rfl ?_
  refine g_arrlenI W0 H0 (i := 0) rfl (x := (4 : Int32)) rfl d28_3 (pc' := 4) rfl ?_
  refine g_istoreN W0 d28_4 (pc' := 5) rfl (ls' := #[.val (.ref a), .val (.int (-1 : Int32)), .val (.int (0 : Int32)), .val (.int (4 : Int32))]) rfl ?_
  refine g_iloadN W0 d28_5 (pc' := 6) rfl rfl ?_
  refine g_iloadN W0 d28_6 (pc' := 7) rfl rfl ?_
  refine g_icmp W0 d28_7 (pcy := 20) (by decide) (pc' := 10) rfl (fun (h : ¬ (0 : Int32) < (4 : Int32)) => absurd h (by decide)) (fun _ => ?_)
  refine g_aloadN W0 d28_10 (pc' := 11) rfl rfl rfl ?_
  refine g_iloadN W0 d28_11 (pc' := 12) rfl rfl ?_
  refine g_iloadN W0 d28_12 (pc' := 13) rfl rfl ?_
  refine g_iastoreI W0 H0 (i := 0) rfl (jx := 0) (by decide) (by exact (by decide : 0 < 4)) d28_13 (pc' := 14) rfl (L' := ((a, IaC Z ([(-1 : Int32), y1, y2, y3] : List Int32)) :: F)) rfl ?_
  intro T1 W1 H1
  refine g_iinc W1 d28_14 (pc' := 17) rfl rfl (v := (1 : Int32)) (by decide) (ls' := #[.val (.ref a), .val (.int (-1 : Int32)), .val (.int (1 : Int32)), .val (.int (4 : Int32))]) rfl ?_
  refine g_goto W1 d28_17 (pc' := 5) (by decide) ?_
  refine g_iloadN W1 d28_5 (pc' := 6) rfl rfl ?_
  refine g_iloadN W1 d28_6 (pc' := 7) rfl rfl ?_
  refine g_icmp W1 d28_7 (pcy := 20) (by decide) (pc' := 10) rfl (fun (h : ¬ (1 : Int32) < (4 : Int32)) => absurd h (by decide)) (fun _ => ?_)
  refine g_aloadN W1 d28_10 (pc' := 11) rfl rfl rfl ?_
  refine g_iloadN W1 d28_11 (pc' := 12) rfl rfl ?_
  refine g_iloadN W1 d28_12 (pc' := 13) rfl rfl ?_
  refine g_iastoreI W1 H1 (i := 0) rfl (jx := 1) (by decide) (by exact (by decide : 1 < 4)) d28_13 (pc' := 14) rfl (L' := ((a, IaC Z ([(-1 : Int32), (-1 : Int32), y2, y3] : List Int32)) :: F)) rfl ?_
  intro T2 W2 H2
  refine g_iinc W2 d28_14 (pc' := 17) rfl rfl (v := (2 : Int32)) (by decide) (ls' := #[.val (.ref a), .val (.int (-1 : Int32)), .val (.int (2 : Int32)), .val (.int (4 : Int32))]) rfl ?_
  refine g_goto W2 d28_17 (pc' := 5) (by decide) ?_
  refine g_iloadN W2 d28_5 (pc' := 6) rfl rfl ?_
  refine g_iloadN W2 d28_6 (pc' := 7) rfl rfl ?_
  refine g_icmp W2 d28_7 (pcy := 20) (by decide) (pc' := 10) rfl (fun (h : ¬ (2 : Int32) < (4 : Int32)) => absurd h (by decide)) (fun _ => ?_)
  refine g_aloadN W2 d28_10 (pc' := 11) rfl rfl rfl ?_
  refine g_iloadN W2 d28_11 (pc' := 12) rfl rfl ?_
  refine g_iloadN W2 d28_12 (pc' := 13) rfl rfl ?_
  refine g_iastoreI W2 H2 (i := 0) rfl (jx := 2) (by decide) (by exact (by decide : 2 < 4)) d28_13 (pc' := 14) rfl (L' := ((a, IaC Z ([(-1 : Int32), (-1 : Int32), (-1 : Int32), y3] : List Int32)) :: F)) rfl ?_
  intro T3 W3 H3
  refine g_iinc W3 d28_14 (pc' := 17) rfl rfl (v := (3 : Int32)) (by decide) (ls' := #[.val (.ref a), .val (.int (-1 : Int32)), .val (.int (3 : Int32)), .val (.int (4 : Int32))]) rfl ?_
  refine g_goto W3 d28_17 (pc' := 5) (by decide) ?_
  refine g_iloadN W3 d28_5 (pc' := 6) rfl rfl ?_
  refine g_iloadN W3 d28_6 (pc' := 7) rfl rfl ?_
  refine g_icmp W3 d28_7 (pcy := 20) (by decide) (pc' := 10) rfl (fun (h : ¬ (3 : Int32) < (4 : Int32)) => absurd h (by decide)) (fun _ => ?_)
  refine g_aloadN W3 d28_10 (pc' := 11) rfl rfl rfl ?_
  refine g_iloadN W3 d28_11 (pc' := 12) rfl rfl ?_
  refine g_iloadN W3 d28_12 (pc' := 13) rfl rfl ?_
  refine g_iastoreI W3 H3 (i := 0) rfl (jx := 3) (by decide) (by exact (by decide : 3 < 4)) d28_13 (pc' := 14) rfl (L' := ((a, IaC Z ([(-1 : Int32), (-1 : Int32), (-1 : Int32), (-1 : Int32)] : List Int32)) :: F)) rfl ?_
  intro T4 W4 H4
  refine g_iinc W4 d28_14 (pc' := 17) rfl rfl (v := (4 : Int32)) (by decide) (ls' := #[.val (.ref a), .val (.int (-1 : Int32)), .val (.int (4 : Int32)), .val (.int (4 : Int32))]) rfl ?_
  refine g_goto W4 d28_17 (pc' := 5) (by decide) ?_
  refine g_iloadN W4 d28_5 (pc' := 6) rfl rfl ?_
  refine g_iloadN W4 d28_6 (pc' := 7) rfl rfl ?_
  refine g_icmp W4 d28_7 (pcy := 20) (by decide) (pc' := 10) rfl (fun _ => ?_) (fun (h : ¬ ¬ (4 : Int32) < (4 : Int32)) => absurd h (by decide))
  exact g_return W4 d28_20 ⟨rfl, H4⟩ (by decide) (by decide)

def NetF (FO OA : List Int32) (T : Nat → Nat) : Prop := ∀ v, 1 ≤ v → v ≤ 3 → ∃ (x y : Int32) (fx fy : Nat), FO[v]? = some x ∧ FO[v + 1]? = some y ∧ x.toInt = (fx : Int) ∧ y.toInt = (fy : Int) ∧ fx ≤ fy ∧ fy ≤ 3 ∧ ∀ i, fx ≤ i → i < fy → ∃ (a : Int32) (n : Nat), OA[i]? = some a ∧ a.toInt = (n : Int) ∧ n < 3 ∧ T n = v
def HdF (l : List Int32) (f : Nat → Nat) : Prop := ∀ a, a < 3 → ∃ x, l[a]? = some x ∧ x.toInt = (f a : Int)
def TmF (l : List UInt64) (f : Nat → Nat) : Prop := ∀ a, a < 3 → ∃ x, l[a]? = some x ∧ Jvm.OwnKit.Dy (f a : Int) 0 x
def SI (s : Slot) : Prop := s = .unset ∨ ∃ v, s = .val (.int v)
def SD2 (s t : Slot) : Prop := (s = .unset ∧ t = .unset) ∨ ∃ x, s = .val (.double x) ∧ t = .second
theorem DV.dy {x : UInt64} {n : Nat} (h : DV x n) (hn : n < 1000) : Jvm.OwnKit.Dy (n : Int) 0 x := by
  rcases h with ⟨q, -⟩ | ⟨-, q⟩
  · omega
  · exact q
theorem dv_add {x t : UInt64} {n k : Nat} (h : DV x n) (hn : n < 1000) (ht : Jvm.OwnKit.Dy (k : Int) 0 t) (hk : n + k < 1000) : DV (FP.dadd x t) (n + k) := by
  refine Or.inr ⟨hk, ?_⟩
  have := dy_add (h.dy hn) ht (by omega) (by decide) (by decide)
  rwa [show ((n : Int) + (k : Int)) = ((n + k : Nat) : Int) by omega] at this
theorem DV.nn {x : UInt64} {n : Nat} (h : DV x n) : NoNaN64 x := by
  rcases h with ⟨-, rfl⟩ | ⟨-, q⟩
  · unfold NoNaN64; decide
  · exact q.nn
theorem hok_upd {D h : Nat → Nat} {Q : Nat → Int} {hs v t : Nat} (H : HOk D h Q hs) (hv : Q v < 0) : HOk (up D v t) h Q hs := by
  have o : ∀ i, i < hs → h i ≠ v := fun i hi q => by have := (H.1.1 i hi).2.2; rw [q] at this; omega
  refine ⟨H.1, fun i a b => ?_⟩
  rw [up_o (o i b), up_o (o 0 (by omega))]; exact H.2 i a b


def RX (og ft : Nat) (T Hd tm : Nat → Nat) (S : Nat → Bool) (D : Nat → Nat) : Prop := ∀ u, 1 ≤ u → u ≤ 3 → S u = true → (u = og ∨ ft ≤ u) → ∀ a, a < 3 → T a = u → D (Hd a) ≤ D u + tm a
def RJ (og ft : Nat) (T Hd tm : Nat → Nat) (S : Nat → Bool) (D : Nat → Nat) (OA : List Int32) (fx i nd : Nat) : Prop := (∀ u, 1 ≤ u → u ≤ 3 → u ≠ nd → S u = true → (u = og ∨ ft ≤ u) → ∀ a, a < 3 → T a = u → D (Hd a) ≤ D u + tm a) ∧ (∀ j, fx ≤ j → j < i → ∀ (x : Int32) (a : Nat), OA[j]? = some x → x.toInt = (a : Int) → D (Hd a) ≤ D nd + tm a)
def NetC (FO OA : List Int32) (T : Nat → Nat) : Prop := ∀ a, a < 3 → ∃ (x y z : Int32) (j : Nat), FO[T a]? = some x ∧ FO[T a + 1]? = some y ∧ x.toInt ≤ (j : Int) ∧ (j : Int) < y.toInt ∧ OA[j]? = some z ∧ z.toInt = (a : Int)
theorem rx_init {og ft : Nat} {T Hd tm D : Nat → Nat} : RX og ft T Hd tm (fun _ => false) D := fun u _ _ q => by cases (show false = true from q)
theorem rx_skip {og ft nd : Nat} {T Hd tm D : Nat → Nat} {S : Nat → Bool} (h : RX og ft T Hd tm S D) (q : ¬ (nd = og ∨ ft ≤ nd)) : RX og ft T Hd tm (up S nd true) D := fun u u1 u2 hu ho => by
  by_cases z : u = nd
  · subst z; exact absurd ho q
  · rw [up_o z] at hu; exact h u u1 u2 hu ho
theorem rj_start {og ft nd : Nat} {T Hd tm D : Nat → Nat} {S : Nat → Bool} {OA : List Int32} {fx : Nat} (h : RX og ft T Hd tm S D) : RJ og ft T Hd tm (up S nd true) D OA fx fx nd := ⟨fun u u1 u2 z hu => by rw [up_o z] at hu; exact h u u1 u2 hu, fun j a b => by omega⟩
theorem rj_end {og ft nd : Nat} {T Hd tm D : Nat → Nat} {S : Nat → Bool} {OA : List Int32} {fx fy : Nat} (h : RJ og ft T Hd tm S D OA fx fy nd) (c : ∀ a, a < 3 → T a = nd → ∃ (j : Nat) (x : Int32), fx ≤ j ∧ j < fy ∧ OA[j]? = some x ∧ x.toInt = (a : Int)) : RX og ft T Hd tm S D := fun u u1 u2 hu ho a ha hT => by
  by_cases z : u = nd
  · subst z
    obtain ⟨j, x, j1, j2, j3, j4⟩ := c a ha hT
    exact h.2 j j1 j2 x a j3 j4
  · exact h.1 u u1 u2 z hu ho a ha hT
theorem rj_skip {og ft nd : Nat} {T Hd tm D : Nat → Nat} {S : Nat → Bool} {OA : List Int32} {fx i an : Nat} {x : Int32} (h : RJ og ft T Hd tm S D OA fx i nd) (g : OA[i]? = some x) (hx : x.toInt = (an : Int)) (le : ¬ D nd + tm an < D (Hd an)) : RJ og ft T Hd tm S D OA fx (i + 1) nd := ⟨h.1, fun j j1 j2 x' a g' hx' => by
  by_cases z : j = i
  · subst z
    cases g.symm.trans g'
    obtain rfl : a = an := by omega
    omega
  · exact h.2 j j1 (by omega) x' a g' hx'⟩
theorem rj_relax {og ft k hs nd : Nat} {T Hd tm D h R : Nat → Nat} {S : Nat → Bool} {P Q : Nat → Int} {OA : List Int32} {fx i an : Nat} {x : Int32} (q : RJ og ft T Hd tm S D OA fx i nd) (J : JInv og ft T Hd tm k S D P h Q hs R nd) (g : OA[i]? = some x) (hx : x.toInt = (an : Int)) (lt : D nd + tm an < D (Hd an)) : RJ og ft T Hd tm S (up D (Hd an) (D nd + tm an)) OA fx (i + 1) nd := by
  have so : ∀ u, 1 ≤ u → u ≤ 3 → S u = true → u ≠ Hd an := fun u u1 u2 hu z => by have := J.2.2.2.2.2.2 u u1 u2 hu; rw [z] at this; omega
  have dn : ∀ v, up D (Hd an) (D nd + tm an) v ≤ D v := fun v => by
    by_cases z : v = Hd an
    · subst z; rw [up_s]; omega
    · rw [up_o z]; exact Nat.le_refl _
  have nn := so nd J.2.1 J.2.2.1 J.2.2.2.1
  refine ⟨fun u u1 u2 z hu ho a ha hT => ?_, fun j j1 j2 x' a g' hx' => ?_⟩
  · rw [up_o (so u u1 u2 hu)]; exact Nat.le_trans (dn _) (q.1 u u1 u2 z hu ho a ha hT)
  · rw [up_o nn]
    by_cases z : j = i
    · subst z
      cases g.symm.trans g'
      obtain rfl : a = an := by omega
      rw [up_s]; exact Nat.le_refl _
    · exact Nat.le_trans (dn _) (q.2 j j1 (by omega) x' a g' hx')
theorem rj_cmp {FO OA : List Int32} {T : Nat → Nat} {nd fx fy : Nat} {x y : Int32} (C : NetC FO OA T) (g1 : FO[nd]? = some x) (g2 : FO[nd + 1]? = some y) (g3 : x.toInt = (fx : Int)) (g4 : y.toInt = (fy : Int)) : ∀ a, a < 3 → T a = nd → ∃ (j : Nat) (x : Int32), fx ≤ j ∧ j < fy ∧ OA[j]? = some x ∧ x.toInt = (a : Int) := fun a ha hT => by
  obtain ⟨x', y', z, j, h1, h2, h3, h4, h5, h6⟩ := C a ha
  rw [hT] at h1 h2
  cases g1.symm.trans h1
  cases g2.symm.trans h2
  exact ⟨j, z, by omega, by omega, h5, h6⟩

theorem in_loop (l : Launch) (Z : State) (a0 : Array Value) (hw : HW Z a0) (n0 : Nat) (tr nt dsA prA hpA psA tlA hdA caA ffA bsA pwA foA oaA tmA : Addr) (ftI og : Int32) (FO OA HDl : List Int32) (TM : List UInt64) (ogn ftn : Nat) (T Hd tm : Nat → Nat) (hog : og.toInt = (ogn : Int)) (hft : ftI.toInt = (ftn : Int)) (arcs : Arcs T Hd tm) (netF : NetF FO OA T) (hdF : HdF HDl Hd) (tmF : TmF TM tm) (netC : NetC FO OA T) (F : List HRow) (as0 : Array Value)
    (p : Program) (e : Env) (R : Room) (s : State) (m : MethodId) (below : List Frame) (meth : Method) (c : Code) (E : Option Value → State → List Loc → Prop) (hRf : 2 ≤ R.frames) (hRl : 28 ≤ R.locals) (k : Nat) (S : Nat → Bool) (nd yy : Int32) (ndn fx fy : Nat) (hnd : nd.toInt = (ndn : Int)) (hn5 : ndn < 4) (hy : FO[ndn + 1]? = some yy) (hyf : yy.toInt = (fy : Int)) (hfy : fy ≤ 3) (hout : ∀ i, fx ≤ i → i < fy → ∃ (a : Int32) (n : Nat), OA[i]? = some a ∧ a.toInt = (n : Int) ∧ n < 3 ∧ T n = ndn) (hcmp : ∀ a, a < 3 → T a = ndn → ∃ (j : Nat) (x : Int32), fx ≤ j ∧ j < fy ∧ OA[j]? = some x ∧ x.toInt = (a : Int))
    (K : ∀ (T0 : State) (hz : Int32) (hs : Nat) (DL : List UInt64) (PL HL QL : List Int32) (D : Nat → Nat) (P : Nat → Int) (h : Nat → Nat) (Q : Nat → Int) (Rk : Nat → Nat) (s3 s4 s5 s6 s7 s8 : Slot), hz.toInt = (hs : Int) → RD DL D → RI PL P → RN HL h → RI QL Q → Inv ogn ftn T Hd tm k S D P h Q hs Rk → RX ogn ftn T Hd tm S D → SI s3 → SI s4 → SI s5 → SI s6 → SD2 s7 s8 → Wk Z ⟨"com/example/lanewright/lanewright/ShortestPathTree", "build", "(I[D)V"⟩ prog_58_method_2_code 9 none n0 p l e R s m as0 below meth c T0 0 0 → Hp Z n0 T0.heap ((tr, o_ShortestPathTree Z (.ref nt) (.ref dsA) (.ref prA) (.ref hpA) (.ref psA) (.int hz)) :: (dsA, DaC Z DL) :: (prA, IaC Z PL) :: (hpA, IaC Z HL) :: (psA, IaC Z QL) :: (nt, o_Network Z (.int (3 : Int32)) (.int ftI) (.ref tlA) (.ref hdA) (.ref caA) (.ref ffA) (.ref bsA) (.ref pwA) (.ref foA) (.ref oaA)) :: (foA, IaC Z FO) :: (oaA, IaC Z OA) :: (hdA, IaC Z HDl) :: (tmA, DaC Z TM) :: F) → Goes p e below E (T0.setTop (mkF m 43 #[.val (.ref tr), .val (.int og), .val (.ref tmA), s3, s4, s5, s6, s7, s8] []))) :
    ∀ (n : Nat) (i : Int32) (i0 : Nat) (hz : Int32) (hs : Nat) (DL : List UInt64) (PL HL QL : List Int32) (D : Nat → Nat) (P : Nat → Int) (h : Nat → Nat) (Q : Nat → Int) (Rk : Nat → Nat) (s5 s6 s7 s8 : Slot) (T0 : State), i.toInt = (i0 : Int) → i0 + n = fy → fx ≤ i0 → hz.toInt = (hs : Int) → RD DL D → RI PL P → RN HL h → RI QL Q → JInv ogn ftn T Hd tm k S D P h Q hs Rk ndn → RJ ogn ftn T Hd tm S D OA fx i0 ndn → SI s5 → SI s6 → SD2 s7 s8 → Wk Z ⟨"com/example/lanewright/lanewright/ShortestPathTree", "build", "(I[D)V"⟩ prog_58_method_2_code 9 none n0 p l e R s m as0 below meth c T0 0 0 → Hp Z n0 T0.heap ((tr, o_ShortestPathTree Z (.ref nt) (.ref dsA) (.ref prA) (.ref hpA) (.ref psA) (.int hz)) :: (dsA, DaC Z DL) :: (prA, IaC Z PL) :: (hpA, IaC Z HL) :: (psA, IaC Z QL) :: (nt, o_Network Z (.int (3 : Int32)) (.int ftI) (.ref tlA) (.ref hdA) (.ref caA) (.ref ffA) (.ref bsA) (.ref pwA) (.ref foA) (.ref oaA)) :: (foA, IaC Z FO) :: (oaA, IaC Z OA) :: (hdA, IaC Z HDl) :: (tmA, DaC Z TM) :: F) → Goes p e below E (T0.setTop (mkF m 84 #[.val (.ref tr), .val (.int og), .val (.ref tmA), .val (.int nd), .val (.int i), s5, s6, s7, s8] [])) := by
  intro n
  induction n with
  | zero =>
    intro i i0 hz hs DL PL HL QL D P h Q Rk s5 s6 s7 s8 T0 hi hin hfx hhz rd rp rh rq J jx hs5 hs6 hs7 W H
    refine g_iload W d49_84 (pc' := 86) rfl rfl ?_
    refine g_aloadN W d49_86 (pc' := 87) rfl rfl rfl ?_
    refine g_getf W (wd_385 hw) Via.refl H (i := 0) rfl (jx := 0) rfl d49_87 (pc' := 90) rfl ?_
    intro T1 W1 H1
    refine g_iloadN W1 d49_90 (pc' := 91) rfl rfl ?_
    have H2f := Hp.fr6 H1
    have H3f := Hp.fr6 H2f
    refine g_callV W1 (argsL := [.int nd]) (st := [.int i]) (wd_425 hw) (wd_426 hw) (wd_428 hw) (wd_427 hw) (wd_91 hw) (wd_429 hw) (by decide) (a := nt) H3f (i := 0) rfl (c_eout l Z a0 hw n0 nt tlA hdA caA ffA bsA pwA foA oaA ftI FO nd ndn hnd yy hy (by omega) _ _ H3f) pd_10 rfl rfl rfl d49_91 (pc' := 94) rfl (Nat.le_trans (by decide) hRf) (Wn := 1) (Nat.le_of_eq rfl) (Nat.le_trans (by decide) hRl) (kc' := 0) (ks' := 0) rfl rfl (by omega) (by omega) ?_
    intro T4 v4 W4 hp4
    obtain ⟨rfl, H4⟩ := hp4
    show Goes _ _ _ _ (State.setTop _ (mkF _ _ _ [.int yy, .int i]))
    refine g_icmp W4 d49_94 (pcy := 199) (by decide) (pc' := 97) rfl (fun (_ : ¬ i < yy) => ?_) (fun (h : ¬ ¬ i < yy) => absurd (Classical.not_not.mp h) (by rw [Int32.lt_iff_toInt_lt, hi, hyf]; omega))
    refine g_goto W4 d49_199 (pc' := 43) (by decide) ?_
    have H5f := Hp.fr9 H4
    have H6f := Hp.fr9 H5f
    have H7f := Hp.fr9 H6f
    have H8f := Hp.fr4 H7f
    have H9f := Hp.fr4 H8f
    have H10f := Hp.fr9 H9f
    have H11f := Hp.fr9 H10f
    have H12f := Hp.fr9 H11f
    have H13f := Hp.fr9 H12f
    have H14f := Hp.fr9 H13f
    exact K _ hz hs DL PL HL QL D P h Q Rk _ _ s5 s6 s7 s8 hhz rd rp rh rq J.1 (rj_end (by rw [show i0 = fy by omega] at jx; exact jx) hcmp) (Or.inr ⟨_, rfl⟩) (Or.inr ⟨_, rfl⟩) hs5 hs6 hs7 W4 H14f
  | succ n ih =>
    intro i i0 hz hs DL PL HL QL D P h Q Rk s5 s6 s7 s8 T0 hi hin hfx hhz rd rp rh rq J jx hs5 hs6 hs7 W H
    have J2 := J.2
    refine g_iload W d49_84 (pc' := 86) rfl rfl ?_
    refine g_aloadN W d49_86 (pc' := 87) rfl rfl rfl ?_
    refine g_getf W (wd_385 hw) Via.refl H (i := 0) rfl (jx := 0) rfl d49_87 (pc' := 90) rfl ?_
    intro T15 W15 H15
    refine g_iloadN W15 d49_90 (pc' := 91) rfl rfl ?_
    have H16f := Hp.fr6 H15
    have H17f := Hp.fr6 H16f
    refine g_callV W15 (argsL := [.int nd]) (st := [.int i]) (wd_425 hw) (wd_426 hw) (wd_428 hw) (wd_427 hw) (wd_91 hw) (wd_429 hw) (by decide) (a := nt) H17f (i := 0) rfl (c_eout l Z a0 hw n0 nt tlA hdA caA ffA bsA pwA foA oaA ftI FO nd ndn hnd yy hy (by omega) _ _ H17f) pd_10 rfl rfl rfl d49_91 (pc' := 94) rfl (Nat.le_trans (by decide) hRf) (Wn := 1) (Nat.le_of_eq rfl) (Nat.le_trans (by decide) hRl) (kc' := 0) (ks' := 0) rfl rfl (by omega) (by omega) ?_
    intro T18 v18 W18 hp18
    obtain ⟨rfl, H18⟩ := hp18
    show Goes _ _ _ _ (State.setTop _ (mkF _ _ _ [.int yy, .int i]))
    refine g_icmp W18 d49_94 (pcy := 199) (by decide) (pc' := 97) rfl (fun (h : ¬ i < yy) => absurd (show i < yy by rw [Int32.lt_iff_toInt_lt, hi, hyf]; omega) h) (fun (_ : ¬ ¬ i < yy) => ?_)
    obtain ⟨a, an, ga, han, hlt, hTa⟩ := hout i0 hfx (by omega)
    obtain ⟨g, gg, hg⟩ := hdF an hlt
    obtain ⟨-, -, d1, d2, d3⟩ := arcs an hlt
    obtain ⟨dn, dng, dnh⟩ := rd.2 ndn (by omega)
    obtain ⟨tx, txg, txh⟩ := tmF an hlt
    obtain ⟨dg, dgg, dgh⟩ := rd.2 (Hd an) (by omega)
    have dle : D ndn ≤ 15 * Rk ndn := J.1.2.2.2.2.2.2.2.2.2.1 ndn J2.1 J2.2.1 J2.2.2.2.1
    have rle : Rk ndn + 1 ≤ k := J.1.2.2.2.2.2.2.2.1 ndn J2.1 J2.2.1 J2.2.2.1
    have kle := inv_hs J.1
    have dvt := dv_add dnh J2.2.2.2.1 txh (by omega)
    refine g_aloadN W18 d49_97 (pc' := 98) rfl rfl rfl ?_
    refine g_getf W18 (wd_385 hw) Via.refl H18 (i := 2) rfl (jx := 0) rfl d49_98 (pc' := 101) rfl ?_
    intro T19 W19 H19
    refine g_iload W19 d49_101 (pc' := 103) rfl rfl ?_
    have H20f := Hp.fr7 H19
    have H21f := Hp.fr1 H20f
    refine g_callV W19 (argsL := [.int i]) (st := []) (wd_435 hw) (wd_436 hw) (wd_438 hw) (wd_437 hw) (wd_91 hw) (wd_439 hw) (by decide) (a := nt) H21f (i := 0) rfl (c_oarc l Z a0 hw n0 nt tlA hdA caA ffA bsA pwA foA oaA ftI OA i i0 hi a ga _ _ H21f) pd_10 rfl rfl rfl d49_103 (pc' := 106) rfl (Nat.le_trans (by decide) hRf) (Wn := 0) (Nat.le_of_eq rfl) (Nat.le_trans (by decide) hRl) (kc' := 0) (ks' := 0) rfl rfl (by omega) (by omega) ?_
    intro T22 v22 W22 hp22
    obtain ⟨rfl, H22⟩ := hp22
    show Goes _ _ _ _ (State.setTop _ (mkF _ _ _ [.int a]))
    refine g_istore W22 d49_106 (pc' := 108) rfl (ls' := #[.val (.ref tr), .val (.int og), .val (.ref tmA), .val (.int nd), .val (.int i), .val (.int a), s6, s7, s8]) (by rcases hs5 with rfl | ⟨_, rfl⟩ <;> rfl) ?_
    refine g_aloadN W22 d49_108 (pc' := 109) rfl rfl rfl ?_
    refine g_getf W22 (wd_385 hw) Via.refl H22 (i := 3) rfl (jx := 0) rfl d49_109 (pc' := 112) rfl ?_
    intro T23 W23 H23
    refine g_iload W23 d49_112 (pc' := 114) rfl rfl ?_
    have H24f := Hp.fr8 H23
    have H25f := Hp.fr1 H24f
    refine g_callV W23 (argsL := [.int a]) (st := []) (wd_440 hw) (wd_441 hw) (wd_443 hw) (wd_442 hw) (wd_91 hw) (wd_444 hw) (by decide) (a := nt) H25f (i := 0) rfl (c_nhead l Z a0 hw n0 nt tlA hdA caA ffA bsA pwA foA oaA ftI HDl a an han g gg _ _ H25f) pd_10 rfl rfl rfl d49_114 (pc' := 117) rfl (Nat.le_trans (by decide) hRf) (Wn := 0) (Nat.le_of_eq rfl) (Nat.le_trans (by decide) hRl) (kc' := 0) (ks' := 0) rfl rfl (by omega) (by omega) ?_
    intro T26 v26 W26 hp26
    obtain ⟨rfl, H26⟩ := hp26
    show Goes _ _ _ _ (State.setTop _ (mkF _ _ _ [.int g]))
    refine g_istore W26 d49_117 (pc' := 119) rfl (ls' := #[.val (.ref tr), .val (.int og), .val (.ref tmA), .val (.int nd), .val (.int i), .val (.int a), .val (.int g), s7, s8]) (by rcases hs6 with rfl | ⟨_, rfl⟩ <;> rfl) ?_
    refine g_aloadN W26 d49_119 (pc' := 120) rfl rfl rfl ?_
    refine g_getf W26 (wd_388 hw) Via.refl H26 (i := 4) rfl (jx := 1) rfl d49_120 (pc' := 123) rfl ?_
    intro T27 W27 H27
    refine g_iloadN W27 d49_123 (pc' := 124) rfl rfl ?_
    refine g_daloadD W27 H27 (i := 5) rfl (jx := ndn) hnd (u := dn) dng d49_124 (pc' := 125) rfl ?_
    refine g_aloadN W27 d49_125 (pc' := 126) rfl rfl rfl ?_
    refine g_iload W27 d49_126 (pc' := 128) rfl rfl ?_
    refine g_daloadD W27 H27 (i := 9) rfl (jx := an) han (u := tx) txg d49_128 (pc' := 129) rfl ?_
    refine g_dadd W27 d49_129 (pc' := 130) rfl rfl dvt.nn ?_
    refine g_dstore W27 d49_130 (pc' := 132) rfl (ls' := #[.val (.ref tr), .val (.int og), .val (.ref tmA), .val (.int nd), .val (.int i), .val (.int a), .val (.int g), .val (.double (FP.dadd dn tx)), .second]) (by rcases hs7 with ⟨rfl, rfl⟩ | ⟨_, rfl, rfl⟩ <;> rfl) ?_
    refine g_dload W27 d49_132 (pc' := 134) rfl rfl ?_
    refine g_aloadN W27 d49_134 (pc' := 135) rfl rfl rfl ?_
    refine g_getf W27 (wd_388 hw) Via.refl H27 (i := 4) rfl (jx := 1) rfl d49_135 (pc' := 138) rfl ?_
    intro T28 W28 H28
    refine g_iload W28 d49_138 (pc' := 140) rfl rfl ?_
    refine g_daloadD W28 H28 (i := 5) rfl (jx := (Hd an)) hg (u := dg) dgg d49_140 (pc' := 141) rfl ?_
    refine g_dcmp W28 d49_141 (pc' := 142) rfl rfl ?_
    refine g_if W28 d49_142 (pcy := 193) (by decide) (pc' := 145) rfl (fun (c29 : ¬ (cmpValue (FP.dcmp (FP.dadd dn tx) dg) .g) < (0 : Int32)) => ?_) (fun (c29 : ¬ ¬ (cmpValue (FP.dcmp (FP.dadd dn tx) dg) .g) < (0 : Int32)) => ?_)
    · refine g_iinc W28 d49_193 (pc' := 196) rfl rfl (v := (i + (1 : Int32))) (by rfl) (ls' := #[.val (.ref tr), .val (.int og), .val (.ref tmA), .val (.int nd), .val (.int (i + (1 : Int32))), .val (.int a), .val (.int g), .val (.double (FP.dadd dn tx)), .second]) rfl ?_
      refine g_goto W28 d49_196 (pc' := 84) (by decide) ?_
      have H30f := Hp.fr9 H28
      have H31f := Hp.fr2 H30f
      have H32f := Hp.fr3 H31f
      have H33f := Hp.fr4 H32f
      have H34f := Hp.fr4 H33f
      have H35f := Hp.fr9 H34f
      have H36f := Hp.fr9 H35f
      have H37f := Hp.fr9 H36f
      have H38f := Hp.fr9 H37f
      have H39f := Hp.fr9 H38f
      exact ih (i + (1 : Int32)) (i0 + 1) hz hs DL PL HL QL D P h Q Rk _ _ _ _ _ (i_p1 hi (by omega)) (by omega) (by omega) hhz rd rp rh rq J (rj_skip jx ga han (fun z => c29 ((dv_lt dvt dgh _).mpr z))) (Or.inr ⟨_, rfl⟩) (Or.inr ⟨_, rfl⟩) (Or.inr ⟨_, rfl, rfl⟩) W28 H39f
    · replace c29 := Classical.not_not.mp c29
      have lt := (dv_lt dvt dgh _).mp c29
      obtain ⟨pg, pgg, pgh⟩ := rq.2 (Hd an) (by omega)
      have rd2 := rd.set (v := Hd an) (by omega) dvt
      have rp2 := rp.set (v := Hd an) (by omega) han
      refine g_aloadN W28 d49_145 (pc' := 146) rfl rfl rfl ?_
      refine g_getf W28 (wd_388 hw) Via.refl H28 (i := 4) rfl (jx := 1) rfl d49_146 (pc' := 149) rfl ?_
      intro T40 W40 H40
      refine g_iload W40 d49_149 (pc' := 151) rfl rfl ?_
      refine g_dload W40 d49_151 (pc' := 153) rfl rfl ?_
      refine g_dastoreD W40 H40 (i := 5) rfl (jx := (Hd an)) hg (by rw [rd.1]; omega) d49_153 (pc' := 154) rfl (L' := ((nt, o_Network Z (.int (3 : Int32)) (.int ftI) (.ref tlA) (.ref hdA) (.ref caA) (.ref ffA) (.ref bsA) (.ref pwA) (.ref foA) (.ref oaA)) :: (hdA, IaC Z HDl) :: (oaA, IaC Z OA) :: (foA, IaC Z FO) :: (tr, o_ShortestPathTree Z (.ref nt) (.ref dsA) (.ref prA) (.ref hpA) (.ref psA) (.int hz)) :: (dsA, DaC Z (DL.set (Hd an) (FP.dadd dn tx))) :: (prA, IaC Z PL) :: (hpA, IaC Z HL) :: (psA, IaC Z QL) :: (tmA, DaC Z TM) :: F)) rfl ?_
      intro T41 W41 H41
      refine g_aloadN W41 d49_154 (pc' := 155) rfl rfl rfl ?_
      refine g_getf W41 (wd_390 hw) Via.refl H41 (i := 4) rfl (jx := 2) rfl d49_155 (pc' := 158) rfl ?_
      intro T42 W42 H42
      refine g_iload W42 d49_158 (pc' := 160) rfl rfl ?_
      refine g_iload W42 d49_160 (pc' := 162) rfl rfl ?_
      refine g_iastoreI W42 H42 (i := 6) rfl (jx := (Hd an)) hg (by rw [rp.1]; omega) d49_162 (pc' := 163) rfl (L' := ((nt, o_Network Z (.int (3 : Int32)) (.int ftI) (.ref tlA) (.ref hdA) (.ref caA) (.ref ffA) (.ref bsA) (.ref pwA) (.ref foA) (.ref oaA)) :: (hdA, IaC Z HDl) :: (oaA, IaC Z OA) :: (foA, IaC Z FO) :: (tr, o_ShortestPathTree Z (.ref nt) (.ref dsA) (.ref prA) (.ref hpA) (.ref psA) (.int hz)) :: (dsA, DaC Z (DL.set (Hd an) (FP.dadd dn tx))) :: (prA, IaC Z (PL.set (Hd an) a)) :: (hpA, IaC Z HL) :: (psA, IaC Z QL) :: (tmA, DaC Z TM) :: F)) rfl ?_
      intro T43 W43 H43
      refine g_aloadN W43 d49_163 (pc' := 164) rfl rfl rfl ?_
      refine g_getf W43 (wd_394 hw) Via.refl H43 (i := 4) rfl (jx := 4) rfl d49_164 (pc' := 167) rfl ?_
      intro T44 W44 H44
      refine g_iload W44 d49_167 (pc' := 169) rfl rfl ?_
      refine g_ialoadI W44 H44 (i := 8) rfl (jx := (Hd an)) hg (u := pg) pgg d49_169 (pc' := 170) rfl ?_
      refine g_if W44 d49_170 (pcy := 182) (by decide) (pc' := 173) rfl (fun (c45 : ¬ pg < (0 : Int32)) => ?_) (fun (c45 : ¬ ¬ pg < (0 : Int32)) => ?_)
      · have q0 : 0 ≤ Q (Hd an) := by rw [← pgh]; have z := c45; rw [Int32.lt_iff_toInt_lt, show (0 : Int32).toInt = 0 by decide] at z; omega
        obtain ⟨j, hj, ej⟩ := J.1.1.1.2.1 (Hd an) d1 d2 q0
        have qj := (J.1.1.1.1 j hj).2.2
        rw [ej, ← pgh] at qj
        have b0 := J.1.1.1.1 0 (by omega)
        have hj3 : j = 0 ∨ j = 1 := by omega
        rcases hj3 with rfl | rfl
        · obtain rfl : pg = (0 : Int32) := i32_lit qj (by decide)
          refine g_aloadN W44 d49_182 (pc' := 183) rfl rfl rfl ?_
          refine g_aloadN W44 d49_183 (pc' := 184) rfl rfl rfl ?_
          refine g_getf W44 (wd_394 hw) Via.refl H44 (i := 4) rfl (jx := 4) rfl d49_184 (pc' := 187) rfl ?_
          intro T46 W46 H46
          refine g_iload W46 d49_187 (pc' := 189) rfl rfl ?_
          refine g_ialoadI W46 H46 (i := 8) rfl (jx := (Hd an)) hg (u := (0 : Int32)) pgg d49_189 (pc' := 190) rfl ?_
          have H47f := Hp.fr8 H46
          have H48f := Hp.fr8 H47f
          have H49f := Hp.fr7 H48f
          have H50f := Hp.fr7 H49f
          refine g_callP W46 (argsL := [.int (0 : Int32)]) (st := []) (wd_412 hw) (wd_413 hw) (wd_414 hw) (wd_379 hw) (wd_380 hw) (wd_415 hw) (by decide) (a := tr) H50f (i := 0) rfl (c_su0 l Z a0 hw n0 tr nt dsA prA hpA psA hz _ HL QL (up D (Hd an) (D ndn + tm an)) h Q rd2 rh rq (by omega) (by omega) _ _ H50f) pd_9 rfl rfl rfl d49_190 (pc' := 193) rfl (Nat.le_trans (by decide) hRf) (Wn := 0) (Nat.le_of_eq rfl) (Nat.le_trans (by decide) hRl) (kc' := 0) (ks' := 0) rfl rfl (by omega) (by omega) ?_
          intro T51 v51 W51 hp51
          obtain ⟨HL2, QL2, h2, Q2, rfl, r1, r2, r3, H51⟩ := hp51
          show Goes _ _ _ _ (State.setTop _ (mkF _ _ _ []))
          have dk := dec_ok (i := 0) (t := D ndn + tm an) J.1.1 hj (by rw [ej]; omega) (Or.inl ⟨rfl, r3⟩)
          rw [ej] at dk
          refine g_iinc W51 d49_193 (pc' := 196) rfl rfl (v := (i + (1 : Int32))) (by rfl) (ls' := #[.val (.ref tr), .val (.int og), .val (.ref tmA), .val (.int nd), .val (.int (i + (1 : Int32))), .val (.int a), .val (.int g), .val (.double (FP.dadd dn tx)), .second]) rfl ?_
          refine g_goto W51 d49_196 (pc' := 84) (by decide) ?_
          have H52f := Hp.fr9 H51
          have H53f := Hp.fr6 H52f
          have H54f := Hp.fr7 H53f
          have H55f := Hp.fr8 H54f
          have H56f := Hp.fr8 H55f
          have H57f := Hp.fr8 H56f
          have H58f := Hp.fr8 H57f
          have H59f := Hp.fr9 H58f
          have H60f := Hp.fr9 H59f
          have H61f := Hp.fr9 H60f
          have J3 := inv_relax J arcs hlt hTa lt dk.1 (J.1.2.1.trans (cntQ_eq dk.2).symm) (fun v v1 v2 => (dk.2 v v1 v2).trans ⟨Or.inl, fun z => z.elim id (fun z => by rw [z]; exact q0)⟩)
          exact ih (i + (1 : Int32)) (i0 + 1) hz hs _ _ HL2 QL2 (up D (Hd an) (D ndn + tm an)) (up P (Hd an) (an : Int)) h2 Q2 (up Rk (Hd an) (Rk ndn + 1)) _ _ _ _ _ (i_p1 hi (by omega)) (by omega) (by omega) hhz rd2 rp2 r1 r2 J3 (rj_relax jx J ga han lt) (Or.inr ⟨_, rfl⟩) (Or.inr ⟨_, rfl⟩) (Or.inr ⟨_, rfl, rfl⟩) W51 H61f
        · obtain rfl : pg = (1 : Int32) := i32_lit qj (by decide)
          refine g_aloadN W44 d49_182 (pc' := 183) rfl rfl rfl ?_
          refine g_aloadN W44 d49_183 (pc' := 184) rfl rfl rfl ?_
          refine g_getf W44 (wd_394 hw) Via.refl H44 (i := 4) rfl (jx := 4) rfl d49_184 (pc' := 187) rfl ?_
          intro T62 W62 H62
          refine g_iload W62 d49_187 (pc' := 189) rfl rfl ?_
          refine g_ialoadI W62 H62 (i := 8) rfl (jx := (Hd an)) hg (u := (1 : Int32)) pgg d49_189 (pc' := 190) rfl ?_
          have H63f := Hp.fr8 H62
          have H64f := Hp.fr8 H63f
          have H65f := Hp.fr7 H64f
          have H66f := Hp.fr7 H65f
          refine g_callP W62 (argsL := [.int (1 : Int32)]) (st := []) (wd_412 hw) (wd_413 hw) (wd_414 hw) (wd_379 hw) (wd_380 hw) (wd_415 hw) (by decide) (a := tr) H66f (i := 0) rfl (c_su1 l Z a0 hw n0 tr nt dsA prA hpA psA hz _ HL QL (up D (Hd an) (D ndn + tm an)) h Q rd2 rh rq (by omega) (by rw [ej]; omega) _ _ H66f) pd_9 rfl rfl rfl d49_190 (pc' := 193) rfl (Nat.le_trans (by decide) hRf) (Wn := 0) (Nat.le_of_eq rfl) (Nat.le_trans (by decide) hRl) (kc' := 0) (ks' := 0) rfl rfl (by omega) (by omega) ?_
          intro T67 v67 W67 hp67
          obtain ⟨HL2, QL2, h2, Q2, rfl, r1, r2, r3, H67⟩ := hp67
          show Goes _ _ _ _ (State.setTop _ (mkF _ _ _ []))
          rw [ej] at r3
          have dk := dec_ok (i := 1) (t := D ndn + tm an) (h2 := h2) (Q2 := Q2) J.1.1 hj (by rw [ej]; omega) (by rw [ej]; exact Or.inr ⟨by omega, r3⟩)
          rw [ej] at dk
          refine g_iinc W67 d49_193 (pc' := 196) rfl rfl (v := (i + (1 : Int32))) (by rfl) (ls' := #[.val (.ref tr), .val (.int og), .val (.ref tmA), .val (.int nd), .val (.int (i + (1 : Int32))), .val (.int a), .val (.int g), .val (.double (FP.dadd dn tx)), .second]) rfl ?_
          refine g_goto W67 d49_196 (pc' := 84) (by decide) ?_
          have H68f := Hp.fr9 H67
          have H69f := Hp.fr6 H68f
          have H70f := Hp.fr7 H69f
          have H71f := Hp.fr8 H70f
          have H72f := Hp.fr8 H71f
          have H73f := Hp.fr8 H72f
          have H74f := Hp.fr8 H73f
          have H75f := Hp.fr9 H74f
          have H76f := Hp.fr9 H75f
          have H77f := Hp.fr9 H76f
          have J3 := inv_relax J arcs hlt hTa lt dk.1 (J.1.2.1.trans (cntQ_eq dk.2).symm) (fun v v1 v2 => (dk.2 v v1 v2).trans ⟨Or.inl, fun z => z.elim id (fun z => by rw [z]; exact q0)⟩)
          exact ih (i + (1 : Int32)) (i0 + 1) hz hs _ _ HL2 QL2 (up D (Hd an) (D ndn + tm an)) (up P (Hd an) (an : Int)) h2 Q2 (up Rk (Hd an) (Rk ndn + 1)) _ _ _ _ _ (i_p1 hi (by omega)) (by omega) (by omega) hhz rd2 rp2 r1 r2 J3 (rj_relax jx J ga han lt) (Or.inr ⟨_, rfl⟩) (Or.inr ⟨_, rfl⟩) (Or.inr ⟨_, rfl, rfl⟩) W67 H77f
      · replace c45 := Classical.not_not.mp c45
        have q0 : Q (Hd an) < 0 := by rw [← pgh]; have z := c45; rw [Int32.lt_iff_toInt_lt, show (0 : Int32).toInt = 0 by decide] at z; omega
        have sf : S (Hd an) = false := by
          cases q : S (Hd an) with
          | false => rfl
          | true => have := J2.2.2.2.2.2 _ d1 d2 q; omega
        have hr := inv_room J.1 J2.1 J2.2.1 J2.2.2.1 d1 d2 q0 sf
        have h3 : hs = 0 ∨ hs = 1 := by omega
        rcases h3 with rfl | rfl
        · obtain rfl : hz = (0 : Int32) := i32_lit hhz (by decide)
          refine g_aloadN W44 d49_173 (pc' := 174) rfl rfl rfl ?_
          refine g_iload W44 d49_174 (pc' := 176) rfl rfl ?_
          have H78f := Hp.fr8 H44
          have H79f := Hp.fr8 H78f
          have H80f := Hp.fr7 H79f
          have H81f := Hp.fr7 H80f
          refine g_callP W44 (argsL := [.int g]) (st := []) (wd_408 hw) (wd_409 hw) (wd_410 hw) (wd_379 hw) (wd_380 hw) (wd_411 hw) (by decide) (a := tr) H81f (i := 0) rfl (c_push0 l Z a0 hw n0 tr nt dsA prA hpA psA _ HL QL (up D (Hd an) (D ndn + tm an)) h Q rd2 rh rq g (Hd an) hg (by omega) _ _ H81f) pd_9 rfl rfl rfl d49_176 (pc' := 179) rfl (Nat.le_trans (by decide) hRf) (Wn := 0) (Nat.le_of_eq rfl) (Nat.le_trans (by decide) hRl) (kc' := 0) (ks' := 0) rfl rfl (by omega) (by omega) ?_
          intro T82 v82 W82 hp82
          obtain ⟨HL2, QL2, h2, Q2, rfl, r1, r2, r3, H82⟩ := hp82
          show Goes _ _ _ _ (State.setTop _ (mkF _ _ _ []))
          have pk := push_ok (hok_upd (t := D ndn + tm an) J.1.1 q0) d1 d2 q0 (by omega) (Or.inl ⟨rfl, r3⟩)
          refine g_goto W82 d49_179 (pc' := 193) (by decide) ?_
          refine g_iinc W82 d49_193 (pc' := 196) rfl rfl (v := (i + (1 : Int32))) (by rfl) (ls' := #[.val (.ref tr), .val (.int og), .val (.ref tmA), .val (.int nd), .val (.int (i + (1 : Int32))), .val (.int a), .val (.int g), .val (.double (FP.dadd dn tx)), .second]) rfl ?_
          refine g_goto W82 d49_196 (pc' := 84) (by decide) ?_
          have H83f := Hp.fr9 H82
          have H84f := Hp.fr6 H83f
          have H85f := Hp.fr7 H84f
          have H86f := Hp.fr8 H85f
          have H87f := Hp.fr8 H86f
          have H88f := Hp.fr8 H87f
          have H89f := Hp.fr8 H88f
          have H90f := Hp.fr9 H89f
          have H91f := Hp.fr9 H90f
          have H92f := Hp.fr9 H91f
          have J3 := inv_relax J arcs hlt hTa lt pk.1 (by rw [cntQ_add d1 d2 q0 pk.2, ← J.1.2.1]) pk.2
          exact ih (i + (1 : Int32)) (i0 + 1) (1 : Int32) 1 _ _ HL2 QL2 (up D (Hd an) (D ndn + tm an)) (up P (Hd an) (an : Int)) h2 Q2 (up Rk (Hd an) (Rk ndn + 1)) _ _ _ _ _ (i_p1 hi (by omega)) (by omega) (by omega) (by decide) rd2 rp2 r1 r2 J3 (rj_relax jx J ga han lt) (Or.inr ⟨_, rfl⟩) (Or.inr ⟨_, rfl⟩) (Or.inr ⟨_, rfl, rfl⟩) W82 H92f
        · obtain rfl : hz = (1 : Int32) := i32_lit hhz (by decide)
          refine g_aloadN W44 d49_173 (pc' := 174) rfl rfl rfl ?_
          refine g_iload W44 d49_174 (pc' := 176) rfl rfl ?_
          have H93f := Hp.fr8 H44
          have H94f := Hp.fr8 H93f
          have H95f := Hp.fr7 H94f
          have H96f := Hp.fr7 H95f
          refine g_callP W44 (argsL := [.int g]) (st := []) (wd_408 hw) (wd_409 hw) (wd_410 hw) (wd_379 hw) (wd_380 hw) (wd_411 hw) (by decide) (a := tr) H96f (i := 0) rfl (c_push1 l Z a0 hw n0 tr nt dsA prA hpA psA _ HL QL (up D (Hd an) (D ndn + tm an)) h Q rd2 rh rq g (Hd an) hg (by omega) (by have := J.1.1.1.1 0 (by omega); omega) _ _ H96f) pd_9 rfl rfl rfl d49_176 (pc' := 179) rfl (Nat.le_trans (by decide) hRf) (Wn := 0) (Nat.le_of_eq rfl) (Nat.le_trans (by decide) hRl) (kc' := 0) (ks' := 0) rfl rfl (by omega) (by omega) ?_
          intro T97 v97 W97 hp97
          obtain ⟨HL2, QL2, h2, Q2, rfl, r1, r2, r3, H97⟩ := hp97
          show Goes _ _ _ _ (State.setTop _ (mkF _ _ _ []))
          have pk := push_ok (hok_upd (t := D ndn + tm an) J.1.1 q0) d1 d2 q0 (by omega) (Or.inr ⟨by omega, r3⟩)
          refine g_goto W97 d49_179 (pc' := 193) (by decide) ?_
          refine g_iinc W97 d49_193 (pc' := 196) rfl rfl (v := (i + (1 : Int32))) (by rfl) (ls' := #[.val (.ref tr), .val (.int og), .val (.ref tmA), .val (.int nd), .val (.int (i + (1 : Int32))), .val (.int a), .val (.int g), .val (.double (FP.dadd dn tx)), .second]) rfl ?_
          refine g_goto W97 d49_196 (pc' := 84) (by decide) ?_
          have H98f := Hp.fr9 H97
          have H99f := Hp.fr6 H98f
          have H100f := Hp.fr7 H99f
          have H101f := Hp.fr8 H100f
          have H102f := Hp.fr8 H101f
          have H103f := Hp.fr8 H102f
          have H104f := Hp.fr8 H103f
          have H105f := Hp.fr9 H104f
          have H106f := Hp.fr9 H105f
          have H107f := Hp.fr9 H106f
          have J3 := inv_relax J arcs hlt hTa lt pk.1 (by rw [cntQ_add d1 d2 q0 pk.2, ← J.1.2.1]) pk.2
          exact ih (i + (1 : Int32)) (i0 + 1) (2 : Int32) 2 _ _ HL2 QL2 (up D (Hd an) (D ndn + tm an)) (up P (Hd an) (an : Int)) h2 Q2 (up Rk (Hd an) (Rk ndn + 1)) _ _ _ _ _ (i_p1 hi (by omega)) (by omega) (by omega) (by decide) rd2 rp2 r1 r2 J3 (rj_relax jx J ga han lt) (Or.inr ⟨_, rfl⟩) (Or.inr ⟨_, rfl⟩) (Or.inr ⟨_, rfl, rfl⟩) W97 H107f
theorem out_loop (l : Launch) (Z : State) (a0 : Array Value) (hw : HW Z a0) (n0 : Nat) (tr nt dsA prA hpA psA tlA hdA caA ffA bsA pwA foA oaA tmA : Addr) (ftI og : Int32) (FO OA HDl : List Int32) (TM : List UInt64) (ogn ftn : Nat) (T Hd tm : Nat → Nat) (hog : og.toInt = (ogn : Int)) (hft : ftI.toInt = (ftn : Int)) (arcs : Arcs T Hd tm) (netF : NetF FO OA T) (hdF : HdF HDl Hd) (tmF : TmF TM tm) (netC : NetC FO OA T) (F : List HRow) (as0 : Array Value)
    (p : Program) (e : Env) (R : Room) (s : State) (m : MethodId) (below : List Frame) (meth : Method) (c : Code) (hRf : 2 ≤ R.frames) (hRl : 28 ≤ R.locals) :
    ∀ (n k : Nat) (S : Nat → Bool) (hz : Int32) (hs : Nat) (DL : List UInt64) (PL HL QL : List Int32) (D : Nat → Nat) (P : Nat → Int) (h : Nat → Nat) (Q : Nat → Int) (Rk : Nat → Nat) (s3 s4 s5 s6 s7 s8 : Slot) (T0 : State), k + n = 3 → (k = 0 → hs ≤ 1) → hz.toInt = (hs : Int) → RD DL D → RI PL P → RN HL h → RI QL Q → Inv ogn ftn T Hd tm k S D P h Q hs Rk → RX ogn ftn T Hd tm S D → SI s3 → SI s4 → SI s5 → SI s6 → SD2 s7 s8 → Wk Z ⟨"com/example/lanewright/lanewright/ShortestPathTree", "build", "(I[D)V"⟩ prog_58_method_2_code 9 none n0 p l e R s m as0 below meth c T0 0 0 → Hp Z n0 T0.heap ((tr, o_ShortestPathTree Z (.ref nt) (.ref dsA) (.ref prA) (.ref hpA) (.ref psA) (.int hz)) :: (dsA, DaC Z DL) :: (prA, IaC Z PL) :: (hpA, IaC Z HL) :: (psA, IaC Z QL) :: (nt, o_Network Z (.int (3 : Int32)) (.int ftI) (.ref tlA) (.ref hdA) (.ref caA) (.ref ffA) (.ref bsA) (.ref pwA) (.ref foA) (.ref oaA)) :: (foA, IaC Z FO) :: (oaA, IaC Z OA) :: (hdA, IaC Z HDl) :: (tmA, DaC Z TM) :: F) → Goes p e below (En s n0 R.cells R.slots (fun v hp => ∃ (hz : Int32) (DL : List UInt64) (PL HL QL : List Int32) (D : Nat → Nat) (P : Nat → Int) (h : Nat → Nat) (Q : Nat → Int) (Rk : Nat → Nat) (S : Nat → Bool) (k : Nat), v = none ∧ RD DL D ∧ RI PL P ∧ RN HL h ∧ RI QL Q ∧ Inv ogn ftn T Hd tm k S D P h Q 0 Rk ∧ RX ogn ftn T Hd tm S D ∧ Hp Z n0 hp ((tr, o_ShortestPathTree Z (.ref nt) (.ref dsA) (.ref prA) (.ref hpA) (.ref psA) (.int hz)) :: (dsA, DaC Z DL) :: (prA, IaC Z PL) :: (hpA, IaC Z HL) :: (psA, IaC Z QL) :: (nt, o_Network Z (.int (3 : Int32)) (.int ftI) (.ref tlA) (.ref hdA) (.ref caA) (.ref ffA) (.ref bsA) (.ref pwA) (.ref foA) (.ref oaA)) :: (foA, IaC Z FO) :: (oaA, IaC Z OA) :: (hdA, IaC Z HDl) :: (tmA, DaC Z TM) :: F))) (T0.setTop (mkF m 43 #[.val (.ref tr), .val (.int og), .val (.ref tmA), s3, s4, s5, s6, s7, s8] [])) := by
  intro n
  induction n with
  | zero =>
    intro k S hz hs DL PL HL QL D P h Q Rk s3 s4 s5 s6 s7 s8 T0 hkm hk0 hhz rd rp rh rq I rx hs3 hs4 hs5 hs6 hs7 W H
    have ih := inv_hs I
    obtain rfl : hs = 0 := by omega
    refine g_aloadN W d49_43 (pc' := 44) rfl rfl rfl ?_
    refine g_getf W (wd_406 hw) Via.refl H (i := 0) rfl (jx := 5) rfl d49_44 (pc' := 47) rfl ?_
    intro T1 W1 H1
    refine g_if W1 d49_47 (pcy := 202) (by decide) (pc' := 50) rfl (fun (_ : ¬ (0 : Int32) < hz) => ?_) (fun (h : ¬ ¬ (0 : Int32) < hz) => absurd (Classical.not_not.mp h) (by rw [Int32.lt_iff_toInt_lt, hhz, show (0 : Int32).toInt = 0 by decide]; omega))
    exact g_return W1 d49_202 ⟨hz, DL, PL, HL, QL, D, P, h, Q, Rk, S, k, rfl, rd, rp, rh, rq, I, rx, H1⟩ (Nat.zero_le _) (Nat.zero_le _)
  | succ n ih =>
    intro k S hz hs DL PL HL QL D P h Q Rk s3 s4 s5 s6 s7 s8 T0 hkm hk0 hhz rd rp rh rq I rx hs3 hs4 hs5 hs6 hs7 W H
    have ihs := inv_hs I
    refine g_aloadN W d49_43 (pc' := 44) rfl rfl rfl ?_
    refine g_getf W (wd_406 hw) Via.refl H (i := 0) rfl (jx := 5) rfl d49_44 (pc' := 47) rfl ?_
    intro T2 W2 H2
    refine g_if W2 d49_47 (pcy := 202) (by decide) (pc' := 50) rfl (fun (c3 : ¬ (0 : Int32) < hz) => ?_) (fun (c3 : ¬ ¬ (0 : Int32) < hz) => ?_)
    · obtain rfl : hs = 0 := by have z := c3; rw [Int32.lt_iff_toInt_lt, hhz, show (0 : Int32).toInt = 0 by decide] at z; omega
      exact g_return W2 d49_202 ⟨hz, DL, PL, HL, QL, D, P, h, Q, Rk, S, k, rfl, rd, rp, rh, rq, I, rx, H2⟩ (Nat.zero_le _) (Nat.zero_le _)
    · replace c3 := Classical.not_not.mp c3
      have hp0 : 0 < hs := by have z := c3; rw [Int32.lt_iff_toInt_lt, hhz, show (0 : Int32).toInt = 0 by decide] at z; omega
      have h3 : hs = 1 ∨ hs = 2 := by by_cases z : k = 0; have := hk0 z; omega; omega
      rcases h3 with rfl | rfl
      · obtain rfl : hz = (1 : Int32) := i32_lit hhz (by decide)
        refine g_aloadN W2 d49_50 (pc' := 51) rfl rfl rfl ?_
        have H4f := Hp.fr4 H2
        have H5f := Hp.fr4 H4f
        have H6f := Hp.fr3 H5f
        have H7f := Hp.fr3 H6f
        refine g_callP W2 (argsL := []) (st := []) (wd_416 hw) (wd_417 hw) (wd_418 hw) (wd_379 hw) (wd_380 hw) (wd_419 hw) (by decide) (a := tr) H7f (i := 0) rfl (c_pop1 l Z a0 hw n0 tr nt dsA prA hpA psA DL HL QL D h Q rd rh rq (by have := I.1.1.1 0 (by omega); omega) _ _ H7f) pd_7 rfl rfl rfl d49_51 (pc' := 54) rfl (Nat.le_trans (by decide) hRf) (Wn := 0) (Nat.le_of_eq rfl) (Nat.le_trans (by decide) hRl) (kc' := 0) (ks' := 0) rfl rfl (by omega) (by omega) ?_
        intro T8 v8 W8 hp8
        obtain ⟨x, HL2, QL2, h2, Q2, rfl, hx, r1, r2, r3, H8⟩ := hp8
        show Goes _ _ _ _ (State.setTop _ (mkF _ _ _ [.int x]))
        have pk := pop1_ok I.1 r3
        have IP := inv_pop I (by omega) pk.1 pk.2
        refine g_istoreN W8 d49_54 (pc' := 55) rfl (ls' := #[.val (.ref tr), .val (.int og), .val (.ref tmA), .val (.int x), s4, s5, s6, s7, s8]) (by rcases hs3 with rfl | ⟨_, rfl⟩ <;> rfl) ?_
        refine g_iloadN W8 d49_55 (pc' := 56) rfl rfl ?_
        refine g_iloadN W8 d49_56 (pc' := 57) rfl rfl ?_
        refine g_icmp W8 d49_57 (pcy := 74) (by decide) (pc' := 60) rfl (fun (c9 : x = og) => ?_) (fun (c9 : ¬ x = og) => ?_)
        · refine g_aloadN W8 d49_74 (pc' := 75) rfl rfl rfl ?_
          refine g_getf W8 (wd_385 hw) Via.refl H8 (i := 0) rfl (jx := 0) rfl d49_75 (pc' := 78) rfl ?_
          intro T10 W10 H10
          refine g_iloadN W10 d49_78 (pc' := 79) rfl rfl ?_
          obtain ⟨fx1, yy, fx, fy, g1, g2, g3, g4, g5, g6, g7⟩ := netF (h 0) IP.2.1 IP.2.2.1
          have H11f := Hp.fr6 H10
          have H12f := Hp.fr6 H11f
          refine g_callV W10 (argsL := [.int x]) (st := []) (wd_420 hw) (wd_421 hw) (wd_423 hw) (wd_422 hw) (wd_91 hw) (wd_424 hw) (by decide) (a := nt) H12f (i := 0) rfl (c_fout l Z a0 hw n0 nt tlA hdA caA ffA bsA pwA foA oaA ftI FO x (h 0) hx fx1 g1 _ _ H12f) pd_10 rfl rfl rfl d49_79 (pc' := 82) rfl (Nat.le_trans (by decide) hRf) (Wn := 0) (Nat.le_of_eq rfl) (Nat.le_trans (by decide) hRl) (kc' := 0) (ks' := 0) rfl rfl (by omega) (by omega) ?_
          intro T13 v13 W13 hp13
          obtain ⟨rfl, H13⟩ := hp13
          show Goes _ _ _ _ (State.setTop _ (mkF _ _ _ [.int fx1]))
          refine g_istore W13 d49_82 (pc' := 84) rfl (ls' := #[.val (.ref tr), .val (.int og), .val (.ref tmA), .val (.int x), .val (.int fx1), s5, s6, s7, s8]) (by rcases hs4 with rfl | ⟨_, rfl⟩ <;> rfl) ?_
          have H14f := Hp.fr9 H13
          have H15f := Hp.fr9 H14f
          have H16f := Hp.fr9 H15f
          have H17f := Hp.fr4 H16f
          have H18f := Hp.fr4 H17f
          have H19f := Hp.fr8 H18f
          have H20f := Hp.fr8 H19f
          have H21f := Hp.fr9 H20f
          have H22f := Hp.fr9 H21f
          have H23f := Hp.fr9 H22f
          refine in_loop l Z a0 hw n0 tr nt dsA prA hpA psA tlA hdA caA ffA bsA pwA foA oaA tmA ftI og FO OA HDl TM ogn ftn T Hd tm hog hft arcs netF hdF tmF netC F as0 p e R s m below meth c _ (Nat.le_trans (by decide) hRf) (Nat.le_trans (by decide) hRl) (k + 1) (up S (h 0) true) x yy (h 0) fx fy hx (by have := IP.2.2.1; omega) g2 g4 g6 g7 (rj_cmp netC g1 g2 g3 g4) ?_ (fy - fx) fx1 fx (0 : Int32) 0 DL PL HL2 QL2 D P h2 Q2 Rk s5 s6 s7 s8 _ g3 (by omega) (Nat.le_refl _) (by decide) rd rp r1 r2 ⟨IP.1, IP.2.1, IP.2.2.1, up_s, IP.2.2.2.1, Or.inl (by have z := congrArg Int32.toInt c9; rw [hx, hog] at z; omega), IP.2.2.2.2⟩ (rj_start rx) hs5 hs6 hs7 W13 H23f
          intro T9 z1 z2 z3 z4 z5 z6 z7 z8 z9 z10 z11 c3 c4 c5 c6 c7 c8 u1 u2 u3 u4 u5 u6 ux u7 u8 u9 u10 u11 W9 H9
          exact ih (k + 1) _ z1 z2 z3 z4 z5 z6 z7 z8 z9 z10 z11 c3 c4 c5 c6 c7 c8 T9 (by omega) (fun z => by omega) u1 u2 u3 u4 u5 u6 ux u7 u8 u9 u10 u11 W9 H9
        · refine g_iloadN W8 d49_60 (pc' := 61) rfl rfl ?_
          refine g_aloadN W8 d49_61 (pc' := 62) rfl rfl rfl ?_
          refine g_getf W8 (wd_385 hw) Via.refl H8 (i := 0) rfl (jx := 0) rfl d49_62 (pc' := 65) rfl ?_
          intro T24 W24 H24
          have H25f := Hp.fr5 H24
          refine g_callV W24 (argsL := []) (st := [.int x]) (wd_457 hw) (wd_458 hw) (wd_460 hw) (wd_459 hw) (wd_91 hw) (wd_461 hw) (by decide) (a := nt) H25f (i := 0) rfl (c_ftn l Z a0 hw n0 nt tlA hdA caA ffA bsA pwA foA oaA ftI _ _ H25f) pd_7 rfl rfl rfl d49_65 (pc' := 68) rfl (Nat.le_trans (by decide) hRf) (Wn := 1) (Nat.le_of_eq rfl) (Nat.le_trans (by decide) hRl) (kc' := 0) (ks' := 0) rfl rfl (by omega) (by omega) ?_
          intro T26 v26 W26 hp26
          obtain ⟨rfl, H26⟩ := hp26
          show Goes _ _ _ _ (State.setTop _ (mkF _ _ _ [.int ftI, .int x]))
          refine g_icmp W26 d49_68 (pcy := 74) (by decide) (pc' := 71) rfl (fun (c27 : ¬ x < ftI) => ?_) (fun (c27 : ¬ ¬ x < ftI) => ?_)
          · refine g_aloadN W26 d49_74 (pc' := 75) rfl rfl rfl ?_
            refine g_getf W26 (wd_385 hw) Via.refl H26 (i := 1) rfl (jx := 0) rfl d49_75 (pc' := 78) rfl ?_
            intro T28 W28 H28
            refine g_iloadN W28 d49_78 (pc' := 79) rfl rfl ?_
            obtain ⟨fx1, yy, fx, fy, g1, g2, g3, g4, g5, g6, g7⟩ := netF (h 0) IP.2.1 IP.2.2.1
            have H29f := Hp.fr6 H28
            have H30f := Hp.fr1 H29f
            refine g_callV W28 (argsL := [.int x]) (st := []) (wd_420 hw) (wd_421 hw) (wd_423 hw) (wd_422 hw) (wd_91 hw) (wd_424 hw) (by decide) (a := nt) H30f (i := 0) rfl (c_fout l Z a0 hw n0 nt tlA hdA caA ffA bsA pwA foA oaA ftI FO x (h 0) hx fx1 g1 _ _ H30f) pd_10 rfl rfl rfl d49_79 (pc' := 82) rfl (Nat.le_trans (by decide) hRf) (Wn := 0) (Nat.le_of_eq rfl) (Nat.le_trans (by decide) hRl) (kc' := 0) (ks' := 0) rfl rfl (by omega) (by omega) ?_
            intro T31 v31 W31 hp31
            obtain ⟨rfl, H31⟩ := hp31
            show Goes _ _ _ _ (State.setTop _ (mkF _ _ _ [.int fx1]))
            refine g_istore W31 d49_82 (pc' := 84) rfl (ls' := #[.val (.ref tr), .val (.int og), .val (.ref tmA), .val (.int x), .val (.int fx1), s5, s6, s7, s8]) (by rcases hs4 with rfl | ⟨_, rfl⟩ <;> rfl) ?_
            have H32f := Hp.fr9 H31
            have H33f := Hp.fr9 H32f
            have H34f := Hp.fr9 H33f
            have H35f := Hp.fr4 H34f
            have H36f := Hp.fr4 H35f
            have H37f := Hp.fr8 H36f
            have H38f := Hp.fr8 H37f
            have H39f := Hp.fr9 H38f
            have H40f := Hp.fr9 H39f
            have H41f := Hp.fr9 H40f
            refine in_loop l Z a0 hw n0 tr nt dsA prA hpA psA tlA hdA caA ffA bsA pwA foA oaA tmA ftI og FO OA HDl TM ogn ftn T Hd tm hog hft arcs netF hdF tmF netC F as0 p e R s m below meth c _ (Nat.le_trans (by decide) hRf) (Nat.le_trans (by decide) hRl) (k + 1) (up S (h 0) true) x yy (h 0) fx fy hx (by have := IP.2.2.1; omega) g2 g4 g6 g7 (rj_cmp netC g1 g2 g3 g4) ?_ (fy - fx) fx1 fx (0 : Int32) 0 DL PL HL2 QL2 D P h2 Q2 Rk s5 s6 s7 s8 _ g3 (by omega) (Nat.le_refl _) (by decide) rd rp r1 r2 ⟨IP.1, IP.2.1, IP.2.2.1, up_s, IP.2.2.2.1, Or.inr (by have z := c27; rw [Int32.lt_iff_toInt_lt, hx, hft] at z; omega), IP.2.2.2.2⟩ (rj_start rx) hs5 hs6 hs7 W31 H41f
            intro T9 z1 z2 z3 z4 z5 z6 z7 z8 z9 z10 z11 c3 c4 c5 c6 c7 c8 u1 u2 u3 u4 u5 u6 ux u7 u8 u9 u10 u11 W9 H9
            exact ih (k + 1) _ z1 z2 z3 z4 z5 z6 z7 z8 z9 z10 z11 c3 c4 c5 c6 c7 c8 T9 (by omega) (fun z => by omega) u1 u2 u3 u4 u5 u6 ux u7 u8 u9 u10 u11 W9 H9
          · replace c27 := Classical.not_not.mp c27
            refine g_goto W26 d49_71 (pc' := 43) (by decide) ?_
            have H42f := Hp.fr9 H26
            have H43f := Hp.fr9 H42f
            have H44f := Hp.fr9 H43f
            have H45f := Hp.fr9 H44f
            have H46f := Hp.fr4 H45f
            have H47f := Hp.fr8 H46f
            have H48f := Hp.fr8 H47f
            have H49f := Hp.fr9 H48f
            have H50f := Hp.fr9 H49f
            have H51f := Hp.fr9 H50f
            exact ih (k + 1) _ (0 : Int32) 0 DL PL HL2 QL2 D P h2 Q2 Rk _ s4 s5 s6 s7 s8 _ (by omega) (fun z => by omega) (by decide) rd rp r1 r2 IP.1 (rx_skip rx (fun z => z.elim (fun z => c9 (i32_lit (hx.trans (by omega)) hog)) (fun z => by have w := c27; rw [Int32.lt_iff_toInt_lt, hx, hft] at w; omega))) (Or.inr ⟨_, rfl⟩) hs4 hs5 hs6 hs7 W26 H51f
      · obtain rfl : hz = (2 : Int32) := i32_lit hhz (by decide)
        refine g_aloadN W2 d49_50 (pc' := 51) rfl rfl rfl ?_
        have H52f := Hp.fr4 H2
        have H53f := Hp.fr4 H52f
        have H54f := Hp.fr3 H53f
        have H55f := Hp.fr3 H54f
        refine g_callP W2 (argsL := []) (st := []) (wd_416 hw) (wd_417 hw) (wd_418 hw) (wd_379 hw) (wd_380 hw) (wd_419 hw) (by decide) (a := tr) H55f (i := 0) rfl (c_pop2 l Z a0 hw n0 tr nt dsA prA hpA psA DL HL QL D h Q rd rh rq (by have := I.1.1.1 0 (by omega); omega) (by have := I.1.1.1 1 (by omega); omega) (by have := I.1.1.1 1 (by omega); omega) _ _ H55f) pd_7 rfl rfl rfl d49_51 (pc' := 54) rfl (Nat.le_trans (by decide) hRf) (Wn := 0) (Nat.le_of_eq rfl) (Nat.le_trans (by decide) hRl) (kc' := 0) (ks' := 0) rfl rfl (by omega) (by omega) ?_
        intro T56 v56 W56 hp56
        obtain ⟨x, HL2, QL2, h2, Q2, rfl, hx, r1, r2, r3, H56⟩ := hp56
        show Goes _ _ _ _ (State.setTop _ (mkF _ _ _ [.int x]))
        have pk := pop2_ok I.1 r3
        have IP := inv_pop I (by omega) pk.1 pk.2
        refine g_istoreN W56 d49_54 (pc' := 55) rfl (ls' := #[.val (.ref tr), .val (.int og), .val (.ref tmA), .val (.int x), s4, s5, s6, s7, s8]) (by rcases hs3 with rfl | ⟨_, rfl⟩ <;> rfl) ?_
        refine g_iloadN W56 d49_55 (pc' := 56) rfl rfl ?_
        refine g_iloadN W56 d49_56 (pc' := 57) rfl rfl ?_
        refine g_icmp W56 d49_57 (pcy := 74) (by decide) (pc' := 60) rfl (fun (c57 : x = og) => ?_) (fun (c57 : ¬ x = og) => ?_)
        · refine g_aloadN W56 d49_74 (pc' := 75) rfl rfl rfl ?_
          refine g_getf W56 (wd_385 hw) Via.refl H56 (i := 0) rfl (jx := 0) rfl d49_75 (pc' := 78) rfl ?_
          intro T58 W58 H58
          refine g_iloadN W58 d49_78 (pc' := 79) rfl rfl ?_
          obtain ⟨fx1, yy, fx, fy, g1, g2, g3, g4, g5, g6, g7⟩ := netF (h 0) IP.2.1 IP.2.2.1
          have H59f := Hp.fr6 H58
          have H60f := Hp.fr6 H59f
          refine g_callV W58 (argsL := [.int x]) (st := []) (wd_420 hw) (wd_421 hw) (wd_423 hw) (wd_422 hw) (wd_91 hw) (wd_424 hw) (by decide) (a := nt) H60f (i := 0) rfl (c_fout l Z a0 hw n0 nt tlA hdA caA ffA bsA pwA foA oaA ftI FO x (h 0) hx fx1 g1 _ _ H60f) pd_10 rfl rfl rfl d49_79 (pc' := 82) rfl (Nat.le_trans (by decide) hRf) (Wn := 0) (Nat.le_of_eq rfl) (Nat.le_trans (by decide) hRl) (kc' := 0) (ks' := 0) rfl rfl (by omega) (by omega) ?_
          intro T61 v61 W61 hp61
          obtain ⟨rfl, H61⟩ := hp61
          show Goes _ _ _ _ (State.setTop _ (mkF _ _ _ [.int fx1]))
          refine g_istore W61 d49_82 (pc' := 84) rfl (ls' := #[.val (.ref tr), .val (.int og), .val (.ref tmA), .val (.int x), .val (.int fx1), s5, s6, s7, s8]) (by rcases hs4 with rfl | ⟨_, rfl⟩ <;> rfl) ?_
          have H62f := Hp.fr9 H61
          have H63f := Hp.fr9 H62f
          have H64f := Hp.fr9 H63f
          have H65f := Hp.fr4 H64f
          have H66f := Hp.fr4 H65f
          have H67f := Hp.fr8 H66f
          have H68f := Hp.fr8 H67f
          have H69f := Hp.fr9 H68f
          have H70f := Hp.fr9 H69f
          have H71f := Hp.fr9 H70f
          refine in_loop l Z a0 hw n0 tr nt dsA prA hpA psA tlA hdA caA ffA bsA pwA foA oaA tmA ftI og FO OA HDl TM ogn ftn T Hd tm hog hft arcs netF hdF tmF netC F as0 p e R s m below meth c _ (Nat.le_trans (by decide) hRf) (Nat.le_trans (by decide) hRl) (k + 1) (up S (h 0) true) x yy (h 0) fx fy hx (by have := IP.2.2.1; omega) g2 g4 g6 g7 (rj_cmp netC g1 g2 g3 g4) ?_ (fy - fx) fx1 fx (1 : Int32) 1 DL PL HL2 QL2 D P h2 Q2 Rk s5 s6 s7 s8 _ g3 (by omega) (Nat.le_refl _) (by decide) rd rp r1 r2 ⟨IP.1, IP.2.1, IP.2.2.1, up_s, IP.2.2.2.1, Or.inl (by have z := congrArg Int32.toInt c57; rw [hx, hog] at z; omega), IP.2.2.2.2⟩ (rj_start rx) hs5 hs6 hs7 W61 H71f
          intro T9 z1 z2 z3 z4 z5 z6 z7 z8 z9 z10 z11 c3 c4 c5 c6 c7 c8 u1 u2 u3 u4 u5 u6 ux u7 u8 u9 u10 u11 W9 H9
          exact ih (k + 1) _ z1 z2 z3 z4 z5 z6 z7 z8 z9 z10 z11 c3 c4 c5 c6 c7 c8 T9 (by omega) (fun z => by omega) u1 u2 u3 u4 u5 u6 ux u7 u8 u9 u10 u11 W9 H9
        · refine g_iloadN W56 d49_60 (pc' := 61) rfl rfl ?_
          refine g_aloadN W56 d49_61 (pc' := 62) rfl rfl rfl ?_
          refine g_getf W56 (wd_385 hw) Via.refl H56 (i := 0) rfl (jx := 0) rfl d49_62 (pc' := 65) rfl ?_
          intro T72 W72 H72
          have H73f := Hp.fr5 H72
          refine g_callV W72 (argsL := []) (st := [.int x]) (wd_457 hw) (wd_458 hw) (wd_460 hw) (wd_459 hw) (wd_91 hw) (wd_461 hw) (by decide) (a := nt) H73f (i := 0) rfl (c_ftn l Z a0 hw n0 nt tlA hdA caA ffA bsA pwA foA oaA ftI _ _ H73f) pd_7 rfl rfl rfl d49_65 (pc' := 68) rfl (Nat.le_trans (by decide) hRf) (Wn := 1) (Nat.le_of_eq rfl) (Nat.le_trans (by decide) hRl) (kc' := 0) (ks' := 0) rfl rfl (by omega) (by omega) ?_
          intro T74 v74 W74 hp74
          obtain ⟨rfl, H74⟩ := hp74
          show Goes _ _ _ _ (State.setTop _ (mkF _ _ _ [.int ftI, .int x]))
          refine g_icmp W74 d49_68 (pcy := 74) (by decide) (pc' := 71) rfl (fun (c75 : ¬ x < ftI) => ?_) (fun (c75 : ¬ ¬ x < ftI) => ?_)
          · refine g_aloadN W74 d49_74 (pc' := 75) rfl rfl rfl ?_
            refine g_getf W74 (wd_385 hw) Via.refl H74 (i := 1) rfl (jx := 0) rfl d49_75 (pc' := 78) rfl ?_
            intro T76 W76 H76
            refine g_iloadN W76 d49_78 (pc' := 79) rfl rfl ?_
            obtain ⟨fx1, yy, fx, fy, g1, g2, g3, g4, g5, g6, g7⟩ := netF (h 0) IP.2.1 IP.2.2.1
            have H77f := Hp.fr6 H76
            have H78f := Hp.fr1 H77f
            refine g_callV W76 (argsL := [.int x]) (st := []) (wd_420 hw) (wd_421 hw) (wd_423 hw) (wd_422 hw) (wd_91 hw) (wd_424 hw) (by decide) (a := nt) H78f (i := 0) rfl (c_fout l Z a0 hw n0 nt tlA hdA caA ffA bsA pwA foA oaA ftI FO x (h 0) hx fx1 g1 _ _ H78f) pd_10 rfl rfl rfl d49_79 (pc' := 82) rfl (Nat.le_trans (by decide) hRf) (Wn := 0) (Nat.le_of_eq rfl) (Nat.le_trans (by decide) hRl) (kc' := 0) (ks' := 0) rfl rfl (by omega) (by omega) ?_
            intro T79 v79 W79 hp79
            obtain ⟨rfl, H79⟩ := hp79
            show Goes _ _ _ _ (State.setTop _ (mkF _ _ _ [.int fx1]))
            refine g_istore W79 d49_82 (pc' := 84) rfl (ls' := #[.val (.ref tr), .val (.int og), .val (.ref tmA), .val (.int x), .val (.int fx1), s5, s6, s7, s8]) (by rcases hs4 with rfl | ⟨_, rfl⟩ <;> rfl) ?_
            have H80f := Hp.fr9 H79
            have H81f := Hp.fr9 H80f
            have H82f := Hp.fr9 H81f
            have H83f := Hp.fr4 H82f
            have H84f := Hp.fr4 H83f
            have H85f := Hp.fr8 H84f
            have H86f := Hp.fr8 H85f
            have H87f := Hp.fr9 H86f
            have H88f := Hp.fr9 H87f
            have H89f := Hp.fr9 H88f
            refine in_loop l Z a0 hw n0 tr nt dsA prA hpA psA tlA hdA caA ffA bsA pwA foA oaA tmA ftI og FO OA HDl TM ogn ftn T Hd tm hog hft arcs netF hdF tmF netC F as0 p e R s m below meth c _ (Nat.le_trans (by decide) hRf) (Nat.le_trans (by decide) hRl) (k + 1) (up S (h 0) true) x yy (h 0) fx fy hx (by have := IP.2.2.1; omega) g2 g4 g6 g7 (rj_cmp netC g1 g2 g3 g4) ?_ (fy - fx) fx1 fx (1 : Int32) 1 DL PL HL2 QL2 D P h2 Q2 Rk s5 s6 s7 s8 _ g3 (by omega) (Nat.le_refl _) (by decide) rd rp r1 r2 ⟨IP.1, IP.2.1, IP.2.2.1, up_s, IP.2.2.2.1, Or.inr (by have z := c75; rw [Int32.lt_iff_toInt_lt, hx, hft] at z; omega), IP.2.2.2.2⟩ (rj_start rx) hs5 hs6 hs7 W79 H89f
            intro T9 z1 z2 z3 z4 z5 z6 z7 z8 z9 z10 z11 c3 c4 c5 c6 c7 c8 u1 u2 u3 u4 u5 u6 ux u7 u8 u9 u10 u11 W9 H9
            exact ih (k + 1) _ z1 z2 z3 z4 z5 z6 z7 z8 z9 z10 z11 c3 c4 c5 c6 c7 c8 T9 (by omega) (fun z => by omega) u1 u2 u3 u4 u5 u6 ux u7 u8 u9 u10 u11 W9 H9
          · replace c75 := Classical.not_not.mp c75
            refine g_goto W74 d49_71 (pc' := 43) (by decide) ?_
            have H90f := Hp.fr9 H74
            have H91f := Hp.fr9 H90f
            have H92f := Hp.fr9 H91f
            have H93f := Hp.fr9 H92f
            have H94f := Hp.fr4 H93f
            have H95f := Hp.fr8 H94f
            have H96f := Hp.fr8 H95f
            have H97f := Hp.fr9 H96f
            have H98f := Hp.fr9 H97f
            have H99f := Hp.fr9 H98f
            exact ih (k + 1) _ (1 : Int32) 1 DL PL HL2 QL2 D P h2 Q2 Rk _ s4 s5 s6 s7 s8 _ (by omega) (fun z => by omega) (by decide) rd rp r1 r2 IP.1 (rx_skip rx (fun z => z.elim (fun z => c57 (i32_lit (hx.trans (by omega)) hog)) (fun z => by have w := c75; rw [Int32.lt_iff_toInt_lt, hx, hft] at w; omega))) (Or.inr ⟨_, rfl⟩) hs4 hs5 hs6 hs7 W74 H99f

theorem dy_z : Jvm.OwnKit.Dy ((0 : Nat) : Int) 0 0 := dy_zero
theorem rd_inf : RD ([(9218868437227405312 : UInt64), (9218868437227405312 : UInt64), (9218868437227405312 : UInt64), (9218868437227405312 : UInt64)] : List UInt64) (fun _ => 1000) := by
  refine ⟨rfl, fun v hv => ?_⟩
  match v, hv with
  | 0, _ => exact ⟨_, rfl, Or.inl ⟨rfl, rfl⟩⟩
  | 1, _ => exact ⟨_, rfl, Or.inl ⟨rfl, rfl⟩⟩
  | 2, _ => exact ⟨_, rfl, Or.inl ⟨rfl, rfl⟩⟩
  | 3, _ => exact ⟨_, rfl, Or.inl ⟨rfl, rfl⟩⟩
theorem rn_0 : RN (List.replicate 4 0) (fun _ => 0) := by
  refine ⟨rfl, fun v hv => ?_⟩
  match v, hv with
  | 0, _ => exact ⟨_, rfl, by decide⟩
  | 1, _ => exact ⟨_, rfl, by decide⟩
  | 2, _ => exact ⟨_, rfl, by decide⟩
  | 3, _ => exact ⟨_, rfl, by decide⟩
theorem ri_m : RI ([(-1 : Int32), (-1 : Int32), (-1 : Int32), (-1 : Int32)] : List Int32) (fun _ => -1) := by
  refine ⟨rfl, fun v hv => ?_⟩
  match v, hv with
  | 0, _ => exact ⟨_, rfl, by decide⟩
  | 1, _ => exact ⟨_, rfl, by decide⟩
  | 2, _ => exact ⟨_, rfl, by decide⟩
  | 3, _ => exact ⟨_, rfl, by decide⟩
theorem hok_0 {D h : Nat → Nat} : HOk D h (fun _ => -1) 0 := ⟨⟨fun i hi => (by omega), fun v _ _ hv => absurd (show (0 : Int) ≤ -1 from hv) (by decide), fun v _ _ => (show (-1 : Int) ≤ -1 by decide)⟩, fun i a b => (by omega)⟩
theorem inv_init {og ft : Nat} {T Hd tm h2 : Nat → Nat} {Q2 : Nat → Int} (o1 : 1 ≤ og) (o2 : og ≤ 3) (H : HOk (up (fun _ => 1000) og 0) h2 Q2 1) (f : ∀ v, 1 ≤ v → v ≤ 3 → (0 ≤ Q2 v ↔ (0 : Int) ≤ (fun _ => -1) v ∨ v = og)) : Inv og ft T Hd tm 0 (fun _ => false) (up (fun _ => 1000) og 0) (fun _ => -1) h2 Q2 1 (fun _ => 0) := by
  have g : ∀ v, 1 ≤ v → v ≤ 3 → 0 ≤ Q2 v → v = og := fun v a b q => by
    rcases (f v a b).mp q with z | z
    · exact absurd (show (0 : Int) ≤ -1 from z) (by decide)
    · exact z
  have e : ∀ v, up (fun _ => 1000) og 0 v < 1000 → v = og := fun v q => by
    by_cases z : v = og
    · exact z
    · rw [up_o z] at q; omega
  refine ⟨H, ?_, rfl, fun v a b q => ?_, fun v a b q => ?_, fun u v _ _ _ _ q _ => (by cases (show false = true from q)), fun v a b q => ?_, fun v _ _ q => (by cases (show false = true from q)), fun v _ _ _ => Nat.zero_le _, fun v a b q => ?_, fun v a b => ?_, up_s⟩
  · have := cntQ_add (Q := fun _ => -1) o1 o2 (by decide) f
    rw [this]; rfl
  · rw [g v a b q, up_s]; exact ⟨rfl, by decide⟩
  · exact Or.inr ((f v a b).mpr (Or.inr (e v q)))
  · exact Or.inl ⟨e v q, rfl, by rw [e v q, up_s], rfl⟩
  · rw [e v q, up_s]; omega
  · by_cases z : v = og
    · rw [z, up_s]; omega
    · rw [up_o z]; exact Nat.le_refl _

theorem c_build (l : Launch) (Z : State) (a0 : Array Value) (hw : ∀ d ∈ tables_1, d.before a0 Z = true) (n0 : Nat) (tr nt dsA prA hpA psA tlA hdA caA ffA bsA pwA foA oaA tmA : Addr) (ftI og : Int32) (FO OA HDl : List Int32) (TM : List UInt64) (ogn ftn : Nat) (T Hd tm : Nat → Nat) (hog : og.toInt = (ogn : Int)) (hft : ftI.toInt = (ftn : Int)) (arcs : Arcs T Hd tm) (netF : NetF FO OA T) (hdF : HdF HDl Hd) (tmF : TmF TM tm) (netC : NetC FO OA T) (o1 : 1 ≤ ogn) (o2 : ogn ≤ 3) (hz0 : Int32) (DL0 : List UInt64) (PL0 HL0 QL0 : List Int32) (hh0 : Nat → Nat) (lD : DL0.length = 4) (lP : PL0.length = 4) (rH : RN HL0 hh0) (lQ : QL0.length = 4) (h0 : Heap) (F : List HRow) (H00 : Hp Z n0 h0 ((tr, o_ShortestPathTree Z (.ref nt) (.ref dsA) (.ref prA) (.ref hpA) (.ref psA) (.int hz0)) :: (dsA, DaC Z DL0) :: (prA, IaC Z PL0) :: (hpA, IaC Z HL0) :: (psA, IaC Z QL0) :: (nt, o_Network Z (.int (3 : Int32)) (.int ftI) (.ref tlA) (.ref hdA) (.ref caA) (.ref ffA) (.ref bsA) (.ref pwA) (.ref foA) (.ref oaA)) :: (foA, IaC Z FO) :: (oaA, IaC Z OA) :: (hdA, IaC Z HDl) :: (tmA, DaC Z TM) :: F)) :
    Con l Z n0 ⟨"com/example/lanewright/lanewright/ShortestPathTree", "build", "(I[D)V"⟩ [] prog_58_method_2_code 9 none ({ frames := 2, cells := 0, slots := 0, locals := 28 } : Room) #[.ref tr, .int og, .ref tmA] h0 (fun v hp => ∃ (hz : Int32) (DL : List UInt64) (PL HL QL : List Int32) (D : Nat → Nat) (P : Nat → Int) (h : Nat → Nat) (Q : Nat → Int) (Rk : Nat → Nat) (S : Nat → Bool) (k : Nat), v = none ∧ RD DL D ∧ RI PL P ∧ RN HL h ∧ RI QL Q ∧ Inv ogn ftn T Hd tm k S D P h Q 0 Rk ∧ RX ogn ftn T Hd tm S D ∧ Hp Z n0 hp ((tr, o_ShortestPathTree Z (.ref nt) (.ref dsA) (.ref prA) (.ref hpA) (.ref psA) (.int hz)) :: (dsA, DaC Z DL) :: (prA, IaC Z PL) :: (hpA, IaC Z HL) :: (psA, IaC Z QL) :: (nt, o_Network Z (.int (3 : Int32)) (.int ftI) (.ref tlA) (.ref hdA) (.ref caA) (.ref ffA) (.ref bsA) (.ref pwA) (.ref foA) (.ref oaA)) :: (foA, IaC Z FO) :: (oaA, IaC Z OA) :: (hdA, IaC Z HDl) :: (tmA, DaC Z TM) :: F)) := by
  refine con_of (plainFor_of_name pn_ShortestPathTree) ?_
  intro p e s m below meth c T0 W0 e0
  subst e0
  have H0 := H00
  refine g_cast (ef_rir9 m tr og tmA) ?_
  refine g_aloadN W0 d49_0 (pc' := 1) rfl rfl rfl ?_
  refine g_getf W0 (wd_388 hw) Via.refl H0 (i := 0) rfl (jx := 1) rfl d49_1 (pc' := 4) rfl ?_
  intro T1 W1 H1
  refine g_ldc2Double W1 (wd_401 hw) d49_4 (pc' := 7) rfl ?_
  have H2f := Hp.fr1 H1
  refine g_callS W1 (argsL := [.ref dsA, .double (9218868437227405312 : UInt64)]) (st := []) (wd_402 hw) (wd_403 hw) (wd_216 hw) (wd_404 hw) (by decide) (c_filld l Z a0 hw n0 dsA DL0 lD _ _ H2f) pd_11 rfl rfl rfl d49_7 (pc' := 10) rfl (by decide) (Wn := 0) (Nat.le_of_eq rfl) (by decide) (kc' := 0) (ks' := 0) rfl rfl (by decide) (by decide) ?_
  intro T3 v3 W3 hp3
  obtain ⟨rfl, H3⟩ := hp3
  show Goes _ _ _ _ (State.setTop _ (mkF _ _ _ []))
  refine g_aloadN W3 d49_10 (pc' := 11) rfl rfl rfl ?_
  refine g_getf W3 (wd_390 hw) Via.refl H3 (i := 1) rfl (jx := 2) rfl d49_11 (pc' := 14) rfl ?_
  intro T4 W4 H4
  refine g_iconst W4 d49_14 (pc' := 15) rfl (v := (-1 : Int32)) (by decide) ?_
  have H5f := Hp.fr2 H4
  refine g_callS W4 (argsL := [.ref prA, .int (-1 : Int32)]) (st := []) (wd_405 hw) (wd_215 hw) (wd_216 hw) (wd_217 hw) (by decide) (c_filli l Z a0 hw n0 prA PL0 lP _ _ H5f) pd_12 rfl rfl rfl d49_15 (pc' := 18) rfl (by decide) (Wn := 0) (Nat.le_of_eq rfl) (by decide) (kc' := 0) (ks' := 0) rfl rfl (by decide) (by decide) ?_
  intro T6 v6 W6 hp6
  obtain ⟨rfl, H6⟩ := hp6
  show Goes _ _ _ _ (State.setTop _ (mkF _ _ _ []))
  refine g_aloadN W6 d49_18 (pc' := 19) rfl rfl rfl ?_
  refine g_getf W6 (wd_394 hw) Via.refl H6 (i := 2) rfl (jx := 4) rfl d49_19 (pc' := 22) rfl ?_
  intro T7 W7 H7
  refine g_iconst W7 d49_22 (pc' := 23) rfl (v := (-1 : Int32)) (by decide) ?_
  have H8f := Hp.fr4 H7
  refine g_callS W7 (argsL := [.ref psA, .int (-1 : Int32)]) (st := []) (wd_405 hw) (wd_215 hw) (wd_216 hw) (wd_217 hw) (by decide) (c_filli l Z a0 hw n0 psA QL0 lQ _ _ H8f) pd_12 rfl rfl rfl d49_23 (pc' := 26) rfl (by decide) (Wn := 0) (Nat.le_of_eq rfl) (by decide) (kc' := 0) (ks' := 0) rfl rfl (by decide) (by decide) ?_
  intro T9 v9 W9 hp9
  obtain ⟨rfl, H9⟩ := hp9
  show Goes _ _ _ _ (State.setTop _ (mkF _ _ _ []))
  refine g_aloadN W9 d49_26 (pc' := 27) rfl rfl rfl ?_
  refine g_iconst W9 d49_27 (pc' := 28) rfl (v := (0 : Int32)) (by decide) ?_
  refine g_putf W9 (wd_406 hw) Via.refl (Or.inl (wd_407 hw)) (wd_379 hw) (ty := .int) (by decide) rfl rfl H9 (i := 3) rfl (jx := 5) rfl d49_28 (pc' := 31) rfl (L' := ((psA, IaC Z ([(-1 : Int32), (-1 : Int32), (-1 : Int32), (-1 : Int32)] : List Int32)) :: (prA, IaC Z ([(-1 : Int32), (-1 : Int32), (-1 : Int32), (-1 : Int32)] : List Int32)) :: (dsA, DaC Z ([(9218868437227405312 : UInt64), (9218868437227405312 : UInt64), (9218868437227405312 : UInt64), (9218868437227405312 : UInt64)] : List UInt64)) :: (tr, o_ShortestPathTree Z (.ref nt) (.ref dsA) (.ref prA) (.ref hpA) (.ref psA) (.int (0 : Int32))) :: (hpA, IaC Z HL0) :: (nt, o_Network Z (.int (3 : Int32)) (.int ftI) (.ref tlA) (.ref hdA) (.ref caA) (.ref ffA) (.ref bsA) (.ref pwA) (.ref foA) (.ref oaA)) :: (foA, IaC Z FO) :: (oaA, IaC Z OA) :: (hdA, IaC Z HDl) :: (tmA, DaC Z TM) :: F)) rfl ?_
  intro T10 W10 H10
  refine g_aloadN W10 d49_31 (pc' := 32) rfl rfl rfl ?_
  refine g_getf W10 (wd_388 hw) Via.refl H10 (i := 3) rfl (jx := 1) rfl d49_32 (pc' := 35) rfl ?_
  intro T11 W11 H11
  refine g_iloadN W11 d49_35 (pc' := 36) rfl rfl ?_
  refine g_dconst0 W11 d49_36 (pc' := 37) rfl ?_
  refine g_dastoreD W11 H11 (i := 2) rfl (jx := ogn) hog (by have := rd_inf.1; omega) d49_37 (pc' := 38) rfl (L' := ((psA, IaC Z ([(-1 : Int32), (-1 : Int32), (-1 : Int32), (-1 : Int32)] : List Int32)) :: (prA, IaC Z ([(-1 : Int32), (-1 : Int32), (-1 : Int32), (-1 : Int32)] : List Int32)) :: (dsA, DaC Z (([(9218868437227405312 : UInt64), (9218868437227405312 : UInt64), (9218868437227405312 : UInt64), (9218868437227405312 : UInt64)] : List UInt64).set ogn 0)) :: (tr, o_ShortestPathTree Z (.ref nt) (.ref dsA) (.ref prA) (.ref hpA) (.ref psA) (.int (0 : Int32))) :: (hpA, IaC Z HL0) :: (nt, o_Network Z (.int (3 : Int32)) (.int ftI) (.ref tlA) (.ref hdA) (.ref caA) (.ref ffA) (.ref bsA) (.ref pwA) (.ref foA) (.ref oaA)) :: (foA, IaC Z FO) :: (oaA, IaC Z OA) :: (hdA, IaC Z HDl) :: (tmA, DaC Z TM) :: F)) rfl ?_
  intro T12 W12 H12
  refine g_aloadN W12 d49_38 (pc' := 39) rfl rfl rfl ?_
  refine g_iloadN W12 d49_39 (pc' := 40) rfl rfl ?_
  have H13f := Hp.fr4 H12
  have H14f := Hp.fr3 H13f
  have H15f := Hp.fr4 H14f
  have rd := rd_inf.set (v := ogn) (x := 0) (y := 0) (by omega) (Or.inr ⟨by decide, dy_z⟩)
  refine g_callP W12 (argsL := [.int og]) (st := []) (wd_408 hw) (wd_409 hw) (wd_410 hw) (wd_379 hw) (wd_380 hw) (wd_411 hw) (by decide) (a := tr) H15f (i := 0) rfl (c_push0 l Z a0 hw n0 tr nt dsA prA hpA psA _ _ _ (up (fun _ => 1000) ogn 0) hh0 (fun _ => -1) rd rH ri_m og ogn hog (by omega) _ _ H15f) pd_9 rfl rfl rfl d49_40 (pc' := 43) rfl (by decide) (Wn := 0) (Nat.le_of_eq rfl) (by decide) (kc' := 0) (ks' := 0) rfl rfl (by decide) (by decide) ?_
  intro T16 v16 W16 hp16
  obtain ⟨HL2, QL2, h2, Q2, rfl, r1, r2, r3, H16⟩ := hp16
  show Goes _ _ _ _ (State.setTop _ (mkF _ _ _ []))
  have pk := push_ok (D := up (fun _ => 1000) ogn 0) hok_0 o1 o2 (by decide) (by decide) (Or.inl ⟨rfl, r3⟩)
  have H17f := Hp.fr9 H16
  have H18f := Hp.fr9 H17f
  have H19f := Hp.fr9 H18f
  have H20f := Hp.fr9 H19f
  have H21f := Hp.fr9 H20f
  have H22f := Hp.fr8 H21f
  have H23f := Hp.fr8 H22f
  have H24f := Hp.fr9 H23f
  have H25f := Hp.fr9 H24f
  have H26f := Hp.fr9 H25f
  exact out_loop l Z a0 hw n0 tr nt dsA prA hpA psA tlA hdA caA ffA bsA pwA foA oaA tmA ftI og FO OA HDl TM ogn ftn T Hd tm hog hft arcs netF hdF tmF netC F _ p e _ s m below meth c (by decide) (by decide) 3 0 (fun _ => false) (1 : Int32) 1 _ _ HL2 QL2 _ (fun _ => -1) h2 Q2 (fun _ => 0) .unset .unset .unset .unset .unset .unset _ (by decide) (fun _ => by decide) (by decide) rd ri_m r1 r2 (inv_init o1 o2 pk.1 pk.2) rx_init (Or.inl rfl) (Or.inl rfl) (Or.inl rfl) (Or.inl rfl) (Or.inl ⟨rfl, rfl⟩) W16 H26f

theorem net_f {j0 j1 j2 : Nat} (m0 : j0 ∈ ([1, 2, 3] : List Nat)) (m1 : j1 ∈ ([1, 2, 3] : List Nat)) (m2 : j2 ∈ ([1, 2, 3] : List Nat)) : NetF (zP3 j0 j1 j2) (zO3 j0 j1 j2) (fun a => ([j0, j1, j2] : List Nat).getD a 0) := by
  have q := (net_ok j0 m0 j1 m1 j2 m2).2
  intro v v1 v2
  obtain ⟨q1, q2, q3, q4⟩ := q v (by simp; omega)
  refine ⟨_, _, ((zP3 j0 j1 j2).getD v 0).toInt.toNat, ((zP3 j0 j1 j2).getD (v + 1) 0).toInt.toNat, getD_some (by rw [lzP3]; omega), getD_some (by rw [lzP3]; omega), (Int.toNat_of_nonneg q1).symm, (Int.toNat_of_nonneg (by omega)).symm, by omega, by omega, fun i i1 i2 => ?_⟩
  obtain ⟨z1, z2, z3⟩ := q4 i (by simp; omega) (by omega) (by omega)
  exact ⟨_, _, getD_some (by rw [lzO3]; omega), (Int.toNat_of_nonneg z1).symm, by omega, z3⟩
theorem hd_f {g0 g1 g2 : Int32} {j0 j1 j2 : Nat} (h0 : g0.toInt = (j0 : Int)) (h1 : g1.toInt = (j1 : Int)) (h2 : g2.toInt = (j2 : Int)) : HdF [g0, g1, g2] (fun a => ([j0, j1, j2] : List Nat).getD a 0) := by
  intro a ha
  match a, ha with
  | 0, _ => exact ⟨_, rfl, h0⟩
  | 1, _ => exact ⟨_, rfl, h1⟩
  | 2, _ => exact ⟨_, rfl, h2⟩
theorem tm_f {g0 g1 g2 : UInt64} {j0 j1 j2 : Nat} (h0 : Jvm.OwnKit.Dy (j0 : Int) 0 g0) (h1 : Jvm.OwnKit.Dy (j1 : Int) 0 g1) (h2 : Jvm.OwnKit.Dy (j2 : Int) 0 g2) : TmF [g0, g1, g2] (fun a => ([j0, j1, j2] : List Nat).getD a 0) := by
  intro a ha
  match a, ha with
  | 0, _ => exact ⟨_, rfl, h0⟩
  | 1, _ => exact ⟨_, rfl, h1⟩
  | 2, _ => exact ⟨_, rfl, h2⟩
theorem arcs_f {j0 j1 j2 g0 g1 g2 w0 w1 w2 : Nat} (a0 : 1 ≤ j0 ∧ j0 ≤ 3) (b0 : 1 ≤ g0 ∧ g0 ≤ 3) (c0 : w0 ≤ 15) (a1 : 1 ≤ j1 ∧ j1 ≤ 3) (b1 : 1 ≤ g1 ∧ g1 ≤ 3) (c1 : w1 ≤ 15) (a2 : 1 ≤ j2 ∧ j2 ≤ 3) (b2 : 1 ≤ g2 ∧ g2 ≤ 3) (c2 : w2 ≤ 15) : Arcs (fun a => ([j0, j1, j2] : List Nat).getD a 0) (fun a => ([g0, g1, g2] : List Nat).getD a 0) (fun a => ([w0, w1, w2] : List Nat).getD a 0) := by
  intro a ha
  match a, ha with
  | 0, _ => exact ⟨a0.1, a0.2, b0.1, b0.2, c0⟩
  | 1, _ => exact ⟨a1.1, a1.2, b1.1, b1.2, c1⟩
  | 2, _ => exact ⟨a2.1, a2.2, b2.1, b2.2, c2⟩
theorem mem_r {n : Nat} (h1 : 1 ≤ n) (h2 : n ≤ 3) : n ∈ ([1, 2, 3] : List Nat) := by simp; omega


theorem net_okc : ∀ j0 ∈ ([1, 2, 3] : List Nat), ∀ j1 ∈ ([1, 2, 3] : List Nat), ∀ j2 ∈ ([1, 2, 3] : List Nat), ∀ a ∈ List.range 3, ∃ i ∈ List.range 3, ((zP3 j0 j1 j2).getD (([j0, j1, j2] : List Nat).getD a 0) 0).toInt ≤ (i : Int) ∧ (i : Int) < ((zP3 j0 j1 j2).getD (([j0, j1, j2] : List Nat).getD a 0 + 1) 0).toInt ∧ ((zO3 j0 j1 j2).getD i 0).toInt = (a : Int) := by decide +kernel
theorem getD_le {j0 j1 j2 a : Nat} (m0 : j0 ∈ ([1, 2, 3] : List Nat)) (m1 : j1 ∈ ([1, 2, 3] : List Nat)) (m2 : j2 ∈ ([1, 2, 3] : List Nat)) (ha : a < 3) : (([j0, j1, j2] : List Nat).getD a 0) ≤ 3 := by
  simp at m0 m1 m2
  match a, ha with
  | 0, _ => show j0 ≤ 3; omega
  | 1, _ => show j1 ≤ 3; omega
  | 2, _ => show j2 ≤ 3; omega
theorem net_c {j0 j1 j2 : Nat} (m0 : j0 ∈ ([1, 2, 3] : List Nat)) (m1 : j1 ∈ ([1, 2, 3] : List Nat)) (m2 : j2 ∈ ([1, 2, 3] : List Nat)) : NetC (zP3 j0 j1 j2) (zO3 j0 j1 j2) (fun a => ([j0, j1, j2] : List Nat).getD a 0) := by
  intro a ha
  have le := getD_le m0 m1 m2 ha
  obtain ⟨i, hi, q1, q2, q3⟩ := net_okc j0 m0 j1 m1 j2 m2 a (List.mem_range.mpr ha)
  have hi' := List.mem_range.mp hi
  have ll := lzP3 (j0 := j0) (j1 := j1) (j2 := j2)
  exact ⟨_, _, _, i, getD_some (Nat.lt_of_lt_of_eq (Nat.lt_of_le_of_lt le (by decide)) ll.symm), getD_some (Nat.lt_of_lt_of_eq (Nat.lt_of_le_of_lt (Nat.succ_le_succ le) (by decide)) ll.symm), q1, q2, getD_some (by rw [lzO3]; omega), q3⟩
def dst (t h w x y b : Nat) : Nat := if t = x ∧ h = y then min b w else b
def dir (T Hd tm : Nat → Nat) (x y : Nat) : Nat := dst (T 2) (Hd 2) (tm 2) x y (dst (T 1) (Hd 1) (tm 1) x y (dst (T 0) (Hd 0) (tm 0) x y 1000))
def bst (ft : Nat) (T Hd tm : Nat → Nat) (u v : Nat) : Nat := if u = v then 0 else min 1000 (if ft ≤ 6 - u - v then min (dir T Hd tm u v) (dir T Hd tm u (6 - u - v) + dir T Hd tm (6 - u - v) v) else dir T Hd tm u v)
theorem dst_le {t h w x y b : Nat} : dst t h w x y b ≤ b := by
  unfold dst; split <;> omega
theorem dst_w {t h w x y b : Nat} (h1 : t = x) (h2 : h = y) : dst t h w x y b ≤ w := by
  unfold dst; rw [if_pos ⟨h1, h2⟩]; omega
theorem dst_or {t h w x y b : Nat} : dst t h w x y b = b ∨ (t = x ∧ h = y ∧ dst t h w x y b = w) := by
  unfold dst
  split
  · rename_i q
    rcases Nat.le_total b w with z | z
    · exact Or.inl (Nat.min_eq_left z)
    · exact Or.inr ⟨q.1, q.2, Nat.min_eq_right z⟩
  · exact Or.inl rfl
theorem dir_1000 {T Hd tm : Nat → Nat} {x y : Nat} : dir T Hd tm x y ≤ 1000 := Nat.le_trans dst_le (Nat.le_trans dst_le dst_le)
theorem dir_le {T Hd tm : Nat → Nat} {x y a : Nat} (ha : a < 3) (h1 : T a = x) (h2 : Hd a = y) : dir T Hd tm x y ≤ tm a := by
  match a, ha with
  | 0, _ => exact Nat.le_trans dst_le (Nat.le_trans dst_le (dst_w h1 h2))
  | 1, _ => exact Nat.le_trans dst_le (dst_w h1 h2)
  | 2, _ => exact dst_w h1 h2
theorem dir_ex {T Hd tm : Nat → Nat} {x y : Nat} : dir T Hd tm x y = 1000 ∨ ∃ a, a < 3 ∧ T a = x ∧ Hd a = y ∧ dir T Hd tm x y = tm a := by
  rcases dst_or (t := T 2) (h := Hd 2) (w := tm 2) (x := x) (y := y) (b := dst (T 1) (Hd 1) (tm 1) x y (dst (T 0) (Hd 0) (tm 0) x y 1000)) with q | ⟨q1, q2, q3⟩
  · rcases dst_or (t := T 1) (h := Hd 1) (w := tm 1) (x := x) (y := y) (b := dst (T 0) (Hd 0) (tm 0) x y 1000) with r | ⟨r1, r2, r3⟩
    · rcases dst_or (t := T 0) (h := Hd 0) (w := tm 0) (x := x) (y := y) (b := 1000) with s | ⟨s1, s2, s3⟩
      · exact Or.inl (q.trans (r.trans s))
      · exact Or.inr ⟨0, by decide, s1, s2, q.trans (r.trans s3)⟩
    · exact Or.inr ⟨1, by decide, r1, r2, q.trans r3⟩
  · exact Or.inr ⟨2, by decide, q1, q2, q3⟩
theorem best {og ft k : Nat} {T Hd tm D h R : Nat → Nat} {S : Nat → Bool} {P Q : Nat → Int} (I : Inv og ft T Hd tm k S D P h Q 0 R) (X : RX og ft T Hd tm S D) (ar : Arcs T Hd tm) (o1 : 1 ≤ og) (o2 : og ≤ 3) {v : Nat} (v1 : 1 ≤ v) (v2 : v ≤ 3) : D v = bst ft T Hd tm og v := by
  have st : ∀ u, 1 ≤ u → u ≤ 3 → D u < 1000 → S u = true := fun u u1 u2 fu => by
    rcases I.2.2.2.2.1 u u1 u2 fu with q | q
    · exact q
    · obtain ⟨i, hi, -⟩ := I.1.1.2.1 u u1 u2 q; omega
  have d0 : D og = 0 := I.2.2.2.2.2.2.2.2.2.2.2
  have le : ∀ u, 1 ≤ u → u ≤ 3 → D u ≤ 1000 := I.2.2.2.2.2.2.2.2.2.2.1
  have rt := I.2.2.2.2.2.2.1
  unfold bst
  by_cases e : og = v
  · rw [if_pos e, ← e]; exact d0
  rw [if_neg e]
  have U1 : ∀ u, 1 ≤ u → u ≤ 3 → D u ≤ dir T Hd tm og u := fun u u1 u2 => by
    rcases dir_ex (T := T) (Hd := Hd) (tm := tm) (x := og) (y := u) with q | ⟨a, a1, a2, a3, a4⟩
    · rw [q]; exact le u u1 u2
    · have := X og o1 o2 (st og o1 o2 (by omega)) (Or.inl rfl) a a1 a2
      rw [a3] at this; omega
  generalize hw : 6 - og - v = w
  have w1 : 1 ≤ w := by omega
  have w2 : w ≤ 3 := by omega
  have wo : w ≠ og := by omega
  have wv : w ≠ v := by omega
  have third : ∀ t, 1 ≤ t → t ≤ 3 → t = og ∨ t = w ∨ t = v := fun t _ _ => by omega
  have U2 : ft ≤ w → D v ≤ dir T Hd tm og w + dir T Hd tm w v := fun hf => by
    have k1 := U1 w w1 w2
    rcases dir_ex (T := T) (Hd := Hd) (tm := tm) (x := w) (y := v) with q | ⟨a, a1, a2, a3, a4⟩
    · have := le v v1 v2; omega
    · by_cases z : D w < 1000
      · have := X w w1 w2 (st w w1 w2 z) (Or.inr hf) a a1 a2
        rw [a3] at this; omega
      · have := le v v1 v2; omega
  have k1 := U1 v v1 v2
  have k2 := le v v1 v2
  by_cases fin : D v < 1000
  · have low : dir T Hd tm og v ≤ D v ∨ (ft ≤ w ∧ dir T Hd tm og w + dir T Hd tm w v ≤ D v) := by
      rcases rt v v1 v2 fin with ⟨q, -⟩ | ⟨-, a, a2, a3, a4, a5, a6, a7, a8⟩
      · exact absurd q.symm e
      · obtain ⟨t1, t2, -, -, -⟩ := ar a a2
        rcases third _ t1 t2 with q | q | q
        · left; rw [a7, q, d0, Nat.zero_add]; exact dir_le a2 q a4
        · right
          refine ⟨a6.elim (fun z => absurd (q.symm.trans z) wo) (fun z => by omega), ?_⟩
          have l1 := dir_le (tm := tm) a2 q a4
          rw [q] at a7 a8
          rcases rt w w1 w2 (by omega) with ⟨z, -⟩ | ⟨-, b, b2, b3, b4, b5, b6, b7, b8⟩
          · exact absurd z wo
          · obtain ⟨s1, s2, -, -, -⟩ := ar b b2
            rcases third _ s1 s2 with z | z | z
            · have l2 := dir_le (tm := tm) b2 z b4
              rw [z, d0] at b7; omega
            · rw [z] at b8; omega
            · rw [z] at b8; omega
        · rw [q] at a8; omega
    by_cases hf : ft ≤ w
    · have k3 := U2 hf
      rw [if_pos hf]; omega
    · rw [if_neg hf]; omega
  · by_cases hf : ft ≤ w
    · have k3 := U2 hf
      rw [if_pos hf]; omega
    · rw [if_neg hf]; omega

theorem c_pri (l : Launch) (Z : State) (a0 : Array Value) (hw : ∀ d ∈ tables_1, d.before a0 Z = true) (n0 : Nat) (a : Addr) (x y : Int32) (h0 : Heap) (F : List HRow) (H00 : Hp Z n0 h0 ((a, o_TripTable_Pair Z (.int (0 : Int32)) (.int (0 : Int32))) :: F)) :
    Con l Z n0 ⟨"com/example/lanewright/lanewright/TripTable$Pair", "<init>", "(II)V"⟩ [] prog_73_method_1_code 3 none ({ frames := 2, cells := 0, slots := 0, locals := 24 } : Room) #[.ref a, .int x, .int y] h0 (fun v h => v = none ∧ Hp Z n0 h ((a, o_TripTable_Pair Z (.int x) (.int y)) :: F)) := by
  refine con_of (plainFor_of_name pn_TripTable_Pair) ?_
  intro p e s m below meth c T0 W0 e0
  subst e0
  have H0 := H00
  refine g_cast (ef_rii3 m a x y) ?_
  refine g_aloadN W0 d25_0 (pc' := 1) rfl rfl rfl ?_
  refine g_callI W0 (argsL := []) (st := []) rfl (wd_194 hw) (wd_37 hw) (wd_39 hw) (wd_40 hw) (by decide) (a := a) (c_rec l Z a0 hw n0 a _ _ H0) pd_0 rfl rfl rfl d25_1 (pc' := 4) rfl (by decide) (Wn := 0) (Nat.le_of_eq rfl) (by decide) (kc' := 0) (ks' := 0) rfl rfl (by decide) (by decide) ?_
  intro T1 v1 W1 hp1
  obtain ⟨rfl, H1⟩ := hp1
  show Goes _ _ _ _ (State.setTop _ (mkF _ _ _ []))
  refine g_aloadN W1 d25_4 (pc' := 5) rfl rfl rfl ?_
  refine g_iloadN W1 d25_5 (pc' := 6) rfl rfl ?_
  refine g_putf W1 (wd_195 hw) Via.refl (Or.inr ⟨(wd_196 hw), rfl, rfl⟩) (wd_189 hw) (ty := .int) (by decide) rfl rfl H1 (i := 0) rfl (jx := 0) rfl d25_6 (pc' := 9) rfl (L' := ((a, o_TripTable_Pair Z (.int x) (.int (0 : Int32))) :: F)) rfl ?_
  intro T2 W2 H2
  refine g_aloadN W2 d25_9 (pc' := 10) rfl rfl rfl ?_
  refine g_iloadN W2 d25_10 (pc' := 11) rfl rfl ?_
  refine g_putf W2 (wd_197 hw) Via.refl (Or.inr ⟨(wd_198 hw), rfl, rfl⟩) (wd_189 hw) (ty := .int) (by decide) rfl rfl H2 (i := 0) rfl (jx := 1) rfl d25_11 (pc' := 14) rfl (L' := ((a, o_TripTable_Pair Z (.int x) (.int y)) :: F)) rfl ?_
  intro T3 W3 H3
  exact g_return W3 d25_14 ⟨rfl, H3⟩ (by decide) (by decide)
theorem c_p_origin (l : Launch) (Z : State) (a0 : Array Value) (hw : ∀ d ∈ tables_1, d.before a0 Z = true) (n0 : Nat) (a : Addr) (x y : Int32) (F : List HRow) (hd : (a, o_TripTable_Pair Z (.int x) (.int y)) ∈ F) (h0 : Heap) (H00 : Hp Z n0 h0 F) :
    Con l Z n0 ⟨"com/example/lanewright/lanewright/TripTable$Pair", "origin", "()I"⟩ [] prog_73_method_5_code 1 (some .int) ({ frames := 0, cells := 0, slots := 0, locals := 0 } : Room) #[.ref a] h0 (fun v h => v = some (.int x) ∧ Hp Z n0 h F) := by
  refine con_of (plainFor_of_name pn_TripTable_Pair) ?_
  intro p e s m below meth c T0 W0 e0
  subst e0
  have H0 := H00
  refine g_cast (ef_r1 m a) ?_
  refine g_aloadN W0 d34_0 (pc' := 1) rfl rfl rfl ?_
  refine g_getfF W0 (wd_195 hw) Via.refl H0 (H0.fldm hd (jx := 0) rfl) d34_1 (pc' := 4) rfl ?_
  intro T1 W1 _ H1
  exact g_ireturn W1 d34_4 ⟨rfl, H1⟩ (by decide) (by decide)
theorem c_p_destination (l : Launch) (Z : State) (a0 : Array Value) (hw : ∀ d ∈ tables_1, d.before a0 Z = true) (n0 : Nat) (a : Addr) (x y : Int32) (F : List HRow) (hd : (a, o_TripTable_Pair Z (.int x) (.int y)) ∈ F) (h0 : Heap) (H00 : Hp Z n0 h0 F) :
    Con l Z n0 ⟨"com/example/lanewright/lanewright/TripTable$Pair", "destination", "()I"⟩ [] prog_73_method_6_code 1 (some .int) ({ frames := 0, cells := 0, slots := 0, locals := 0 } : Room) #[.ref a] h0 (fun v h => v = some (.int y) ∧ Hp Z n0 h F) := by
  refine con_of (plainFor_of_name pn_TripTable_Pair) ?_
  intro p e s m below meth c T0 W0 e0
  subst e0
  have H0 := H00
  refine g_cast (ef_r1 m a) ?_
  refine g_aloadN W0 d36_0 (pc' := 1) rfl rfl rfl ?_
  refine g_getfF W0 (wd_197 hw) Via.refl H0 (H0.fldm hd (jx := 1) rfl) d36_1 (pc' := 4) rfl ?_
  intro T1 W1 _ H1
  exact g_ireturn W1 d36_4 ⟨rfl, H1⟩ (by decide) (by decide)
theorem c_itini (l : Launch) (Z : State) (a0 : Array Value) (hw : ∀ d ∈ tables_1, d.before a0 Z = true) (n0 : Nat) (it al el : Addr) (mc sz : Int32) (h0 : Heap) (F : List HRow) (H00 : Hp Z n0 h0 ((it, o_ArrayList_Itr Z .null (.int (0 : Int32)) (.int (0 : Int32)) (.int (0 : Int32))) :: (al, o_ArrayList Z (.int mc) (.ref el) (.int sz)) :: F)) :
    Con l Z n0 ⟨"java/util/ArrayList$Itr", "<init>", "(Ljava/util/ArrayList;)V"⟩ [] jdk_49_method_1_code 2 none ({ frames := 1, cells := 0, slots := 0, locals := 12 } : Room) #[.ref it, .ref al] h0 (fun v h => v = none ∧ Hp Z n0 h ((it, o_ArrayList_Itr Z (.ref al) (.int (-1 : Int32)) (.int mc) (.int (0 : Int32))) :: (al, o_ArrayList Z (.int mc) (.ref el) (.int sz)) :: F)) := by
  refine con_of pf_30 ?_
  intro p e s m below meth c T0 W0 e0
  subst e0
  have H0 := H00
  refine g_cast (ef_rr2 m it al) ?_
  refine g_aloadN W0 d30_0 (pc' := 1) rfl rfl rfl ?_
  refine g_aloadN W0 d30_1 (pc' := 2) rfl rfl rfl ?_
  refine g_putf W0 (wd_233 hw) Via.refl (Or.inr ⟨(wd_234 hw), rfl, rfl⟩) (wd_227 hw) (ty := (.object "java/util/ArrayList")) (by decide) rfl rfl H0 (i := 0) rfl (jx := 0) rfl d30_2 (pc' := 5) rfl (L' := ((it, o_ArrayList_Itr Z (.ref al) (.int (0 : Int32)) (.int (0 : Int32)) (.int (0 : Int32))) :: (al, o_ArrayList Z (.int mc) (.ref el) (.int sz)) :: F)) rfl ?_
  intro T1 W1 H1
  refine g_aloadN W1 d30_5 (pc' := 6) rfl rfl rfl ?_
  refine g_initO W1 (wd_235 hw) (wd_23 hw) (wd_24 hw) H1 rfl d30_6 (pc' := 9) rfl (by decide) (Wn := 0) (Nat.le_of_eq rfl) (by decide) ?_
  intro T2 W2 H2
  refine g_aloadN W2 d30_9 (pc' := 10) rfl rfl rfl ?_
  refine g_iconst W2 d30_10 (pc' := 11) rfl (v := (-1 : Int32)) (by decide) ?_
  refine g_putf W2 (wd_236 hw) Via.refl (Or.inl (wd_237 hw)) (wd_227 hw) (ty := .int) (by decide) rfl rfl H2 (i := 0) rfl (jx := 1) rfl d30_11 (pc' := 14) rfl (L' := ((it, o_ArrayList_Itr Z (.ref al) (.int (-1 : Int32)) (.int (0 : Int32)) (.int (0 : Int32))) :: (al, o_ArrayList Z (.int mc) (.ref el) (.int sz)) :: F)) rfl ?_
  intro T3 W3 H3
  refine g_aloadN W3 d30_14 (pc' := 15) rfl rfl rfl ?_
  refine g_aloadN W3 d30_15 (pc' := 16) rfl rfl rfl ?_
  refine g_getf W3 (wd_233 hw) Via.refl H3 (i := 0) rfl (jx := 0) rfl d30_16 (pc' := 19) rfl ?_
  intro T4 W4 H4
  refine g_getf W4 (wd_238 hw) (Via.of (wd_64 hw)) H4 (i := 1) rfl (jx := 0) rfl d30_19 (pc' := 22) rfl ?_
  intro T5 W5 H5
  refine g_putf W5 (wd_239 hw) Via.refl (Or.inl (wd_240 hw)) (wd_227 hw) (ty := .int) (by decide) rfl rfl H5 (i := 0) rfl (jx := 2) rfl d30_22 (pc' := 25) rfl (L' := ((it, o_ArrayList_Itr Z (.ref al) (.int (-1 : Int32)) (.int mc) (.int (0 : Int32))) :: (al, o_ArrayList Z (.int mc) (.ref el) (.int sz)) :: F)) rfl ?_
  intro T6 W6 H6
  exact g_return W6 d30_25 ⟨rfl, H6⟩ (by decide) (by decide)
theorem c_aliter (l : Launch) (Z : State) (a0 : Array Value) (hw : ∀ d ∈ tables_1, d.before a0 Z = true) (n0 : Nat) (al el : Addr) (mc sz : Int32) (h0 : Heap) (F : List HRow) (H00 : Hp Z n0 h0 ((al, o_ArrayList Z (.int mc) (.ref el) (.int sz)) :: F)) :
    Con l Z n0 ⟨"java/util/ArrayList", "iterator", "()Ljava/util/Iterator;"⟩ [] jdk_38_method_55_code 1 (some (.object "java/util/Iterator")) ({ frames := 2, cells := 1, slots := 4, locals := 26 } : Room) #[.ref al] h0 (fun v h => ∃ it, v = some (.ref it) ∧ Hp Z n0 h ((it, o_ArrayList_Itr Z (.ref al) (.int (-1 : Int32)) (.int mc) (.int (0 : Int32))) :: (al, o_ArrayList Z (.int mc) (.ref el) (.int sz)) :: F)) := by
  refine con_of pf_29 ?_
  intro p e s m below meth c T0 W0 e0
  subst e0
  have H0 := H00
  refine g_cast (ef_r1 m al) ?_
  refine g_new W0 (wd_226 hw) (wd_227 hw) (wd_228 hw) (la_ArrayList_Itr hw) (by decide) H0 d29_0 (pc' := 3) rfl (kc' := 1) (ks' := 4) rfl rfl (by decide) (by decide) ?_
  intro T1 a1 W1 H1
  refine g_dup W1 d29_3 (pc' := 4) rfl rfl ?_
  refine g_aloadN W1 d29_4 (pc' := 5) rfl rfl rfl ?_
  have H2f := Hp.fr1 H1
  have H3f := Hp.fr1 H2f
  refine g_callI W1 (argsL := [.ref al]) (st := [.ref a1]) rfl (wd_229 hw) (wd_230 hw) (wd_228 hw) (wd_232 hw) (by decide) (a := a1) (c_itini l Z a0 hw n0 a1 al el mc sz _ _ H3f) pd_13 rfl rfl rfl d29_5 (pc' := 8) rfl (by decide) (Wn := 1) (Nat.le_of_eq rfl) (by decide) (kc' := 1) (ks' := 4) rfl rfl (by decide) (by decide) ?_
  intro T4 v4 W4 hp4
  obtain ⟨rfl, H4⟩ := hp4
  show Goes _ _ _ _ (State.setTop _ (mkF _ _ _ [.ref a1]))
  exact g_areturn W4 rfl rfl d29_8 ⟨_, rfl, H4⟩ (by decide) (by decide)
theorem c_hasn (l : Launch) (Z : State) (a0 : Array Value) (hw : ∀ d ∈ tables_1, d.before a0 Z = true) (n0 : Nat) (it al el : Addr) (mc sz cu la : Int32) (r : Int32) (hr : (cu = sz ∧ r = 0) ∨ (¬ cu = sz ∧ r = 1)) (h0 : Heap) (F : List HRow) (H00 : Hp Z n0 h0 ((it, o_ArrayList_Itr Z (.ref al) (.int la) (.int mc) (.int cu)) :: (al, o_ArrayList Z (.int mc) (.ref el) (.int sz)) :: F)) :
    Con l Z n0 ⟨"java/util/ArrayList$Itr", "hasNext", "()Z"⟩ [] jdk_49_method_2_code 1 (some .boolean) ({ frames := 0, cells := 0, slots := 0, locals := 0 } : Room) #[.ref it] h0 (fun v h => v = some (.int r) ∧ Hp Z n0 h ((it, o_ArrayList_Itr Z (.ref al) (.int la) (.int mc) (.int cu)) :: (al, o_ArrayList Z (.int mc) (.ref el) (.int sz)) :: F)) := by
  refine con_of pf_31 ?_
  intro p e s m below meth c T0 W0 e0
  subst e0
  have H0 := H00
  refine g_cast (ef_r1 m it) ?_
  refine g_aloadN W0 d31_0 (pc' := 1) rfl rfl rfl ?_
  refine g_getf W0 (wd_250 hw) Via.refl H0 (i := 0) rfl (jx := 3) rfl d31_1 (pc' := 4) rfl ?_
  intro T1 W1 H1
  refine g_aloadN W1 d31_4 (pc' := 5) rfl rfl rfl ?_
  refine g_getf W1 (wd_233 hw) Via.refl H1 (i := 0) rfl (jx := 0) rfl d31_5 (pc' := 8) rfl ?_
  intro T2 W2 H2
  refine g_getfN W2 (wd_252 hw) Via.refl H2 (i := 1) rfl (jx := 2) rfl d31_8 (pc' := 11) rfl ?_
  intro T3 W3 H3
  refine g_icmp W3 d31_11 (pcy := 18) (by decide) (pc' := 14) rfl (fun (c4 : cu = sz) => ?_) (fun (c4 : ¬ cu = sz) => ?_)
  · obtain rfl : r = 0 := hr.elim (fun z => z.2) (fun z => absurd c4 z.1)
    refine g_iconst W3 d31_18 (pc' := 19) rfl (v := (0 : Int32)) (by decide) ?_
    exact g_zreturn W3 (by decide) d31_19 ⟨rfl, H3⟩ (by decide) (by decide)
  · obtain rfl : r = 1 := hr.elim (fun z => absurd z.1 c4) (fun z => z.2)
    refine g_iconst W3 d31_14 (pc' := 15) rfl (v := (1 : Int32)) (by decide) ?_
    refine g_goto W3 d31_15 (pc' := 19) (by decide) ?_
    exact g_zreturn W3 (by decide) d31_19 ⟨rfl, H3⟩ (by decide) (by decide)
theorem c_chkm (l : Launch) (Z : State) (a0 : Array Value) (hw : ∀ d ∈ tables_1, d.before a0 Z = true) (n0 : Nat) (it al el : Addr) (mc sz cu la : Int32)  (h0 : Heap) (F : List HRow) (H00 : Hp Z n0 h0 ((it, o_ArrayList_Itr Z (.ref al) (.int la) (.int mc) (.int cu)) :: (al, o_ArrayList Z (.int mc) (.ref el) (.int sz)) :: F)) :
    Con l Z n0 ⟨"java/util/ArrayList$Itr", "checkForComodification", "()V"⟩ [] jdk_49_method_6_code 1 none ({ frames := 0, cells := 0, slots := 0, locals := 0 } : Room) #[.ref it] h0 (fun v h => v = none ∧ Hp Z n0 h ((it, o_ArrayList_Itr Z (.ref al) (.int la) (.int mc) (.int cu)) :: (al, o_ArrayList Z (.int mc) (.ref el) (.int sz)) :: F)) := by
  refine con_of pf_33 ?_
  intro p e s m below meth c T0 W0 e0
  subst e0
  have H0 := H00
  refine g_cast (ef_r1 m it) ?_
  refine g_aloadN W0 d33_0 (pc' := 1) rfl rfl rfl ?_
  refine g_getf W0 (wd_233 hw) Via.refl H0 (i := 0) rfl (jx := 0) rfl d33_1 (pc' := 4) rfl ?_
  intro T1 W1 H1
  refine g_getf W1 (wd_238 hw) (Via.of (wd_64 hw)) H1 (i := 1) rfl (jx := 0) rfl d33_4 (pc' := 7) rfl ?_
  intro T2 W2 H2
  refine g_aloadN W2 d33_7 (pc' := 8) rfl rfl rfl ?_
  refine g_getf W2 (wd_239 hw) Via.refl H2 (i := 0) rfl (jx := 2) rfl d33_8 (pc' := 11) rfl ?_
  intro T3 W3 H3
  refine g_icmp W3 d33_11 (pcy := 22) (by decide) (pc' := 14) rfl (fun (_ : mc = mc) => ?_) (fun (h : ¬ mc = mc) => absurd rfl h)
  exact g_return W3 d33_22 ⟨rfl, H3⟩ (by decide) (by decide)
theorem c_itnext (l : Launch) (Z : State) (a0 : Array Value) (hw : ∀ d ∈ tables_1, d.before a0 Z = true) (n0 : Nat) (it al el : Addr) (mc sz cu la : Int32) (lv : List Value) (x : Addr) (jx : Nat) (hlen : lv.length.toInt32 = 10) (hjx : cu.toInt = (jx : Int)) (hv : lv[jx]? = some (.ref x)) (h1 : cu < sz) (h2 : cu < 10) (h0 : Heap) (F : List HRow) (H00 : Hp Z n0 h0 ((it, o_ArrayList_Itr Z (.ref al) (.int la) (.int mc) (.int cu)) :: (al, o_ArrayList Z (.int mc) (.ref el) (.int sz)) :: (el, RaC Z "java/lang/Object" lv) :: F)) :
    Con l Z n0 ⟨"java/util/ArrayList$Itr", "next", "()Ljava/lang/Object;"⟩ [] jdk_49_method_3_code 3 (some (.object "java/lang/Object")) ({ frames := 1, cells := 0, slots := 0, locals := 12 } : Room) #[.ref it] h0 (fun v h => v = some (.ref x) ∧ Hp Z n0 h ((it, o_ArrayList_Itr Z (.ref al) (.int cu) (.int mc) (.int (cu + (1 : Int32)))) :: (al, o_ArrayList Z (.int mc) (.ref el) (.int sz)) :: (el, RaC Z "java/lang/Object" lv) :: F)) := by
  refine con_of pf_32 ?_
  intro p e s m below meth c T0 W0 e0
  subst e0
  have H0 := H00
  refine g_cast (ef_r3 m it) ?_
  refine g_aloadN W0 d32_0 (pc' := 1) rfl rfl rfl ?_
  refine g_callV W0 (argsL := []) (st := []) (wd_261 hw) (wd_262 hw) (wd_264 hw) (wd_263 hw) (wd_228 hw) (wd_265 hw) (by decide) (a := it) H0 (i := 0) rfl (c_chkm l Z a0 hw n0 it al el mc sz cu la _ _ H0) pd_0 rfl rfl rfl d32_1 (pc' := 4) rfl (by decide) (Wn := 0) (Nat.le_of_eq rfl) (by decide) (kc' := 0) (ks' := 0) rfl rfl (by decide) (by decide) ?_
  intro T1 v1 W1 hp1
  obtain ⟨rfl, H1⟩ := hp1
  show Goes _ _ _ _ (State.setTop _ (mkF _ _ _ []))
  refine g_aloadN W1 d32_4 (pc' := 5) rfl rfl rfl ?_
  refine g_getf W1 (wd_250 hw) Via.refl H1 (i := 0) rfl (jx := 3) rfl d32_5 (pc' := 8) rfl ?_
  intro T2 W2 H2
  refine g_istoreN W2 d32_8 (pc' := 9) rfl (ls' := #[.val (.ref it), .val (.int cu), .unset]) rfl ?_
  refine g_iloadN W2 d32_9 (pc' := 10) rfl rfl ?_
  refine g_aloadN W2 d32_10 (pc' := 11) rfl rfl rfl ?_
  refine g_getf W2 (wd_233 hw) Via.refl H2 (i := 0) rfl (jx := 0) rfl d32_11 (pc' := 14) rfl ?_
  intro T3 W3 H3
  refine g_getfN W3 (wd_252 hw) Via.refl H3 (i := 1) rfl (jx := 2) rfl d32_14 (pc' := 17) rfl ?_
  intro T4 W4 H4
  refine g_icmp W4 d32_17 (pcy := 28) (by decide) (pc' := 20) rfl (fun (_ : cu < sz) => ?_) (fun (h : ¬ cu < sz) => absurd h1 h)
  refine g_aloadN W4 d32_28 (pc' := 29) rfl rfl rfl ?_
  refine g_getf W4 (wd_233 hw) Via.refl H4 (i := 0) rfl (jx := 0) rfl d32_29 (pc' := 32) rfl ?_
  intro T5 W5 H5
  refine g_getf W5 (wd_266 hw) Via.refl H5 (i := 1) rfl (jx := 1) rfl d32_32 (pc' := 35) rfl ?_
  intro T6 W6 H6
  refine g_astoreN W6 d32_35 (pc' := 36) rfl rfl (ls' := #[.val (.ref it), .val (.int cu), .val (.ref el)]) rfl ?_
  refine g_iloadN W6 d32_36 (pc' := 37) rfl rfl ?_
  refine g_aloadN W6 d32_37 (pc' := 38) rfl rfl rfl ?_
  refine g_arrlenR W6 H6 (i := 2) rfl (x := (10 : Int32)) hlen d32_38 (pc' := 39) rfl ?_
  refine g_icmp W6 d32_39 (pcy := 50) (by decide) (pc' := 42) rfl (fun (_ : cu < (10 : Int32)) => ?_) (fun (h : ¬ cu < (10 : Int32)) => absurd h2 h)
  refine g_aloadN W6 d32_50 (pc' := 51) rfl rfl rfl ?_
  refine g_iloadN W6 d32_51 (pc' := 52) rfl rfl ?_
  refine g_iconst W6 d32_52 (pc' := 53) rfl (v := (1 : Int32)) (by decide) ?_
  refine g_iadd W6 d32_53 (pc' := 54) rfl rfl ?_
  refine g_putf W6 (wd_250 hw) Via.refl (Or.inl (wd_251 hw)) (wd_227 hw) (ty := .int) (by decide) rfl rfl H6 (i := 0) rfl (jx := 3) rfl d32_54 (pc' := 57) rfl (L' := ((it, o_ArrayList_Itr Z (.ref al) (.int la) (.int mc) (.int (cu + (1 : Int32)))) :: (al, o_ArrayList Z (.int mc) (.ref el) (.int sz)) :: (el, RaC Z "java/lang/Object" lv) :: F)) rfl ?_
  intro T7 W7 H7
  refine g_aloadN W7 d32_57 (pc' := 58) rfl rfl rfl ?_
  refine g_aloadN W7 d32_58 (pc' := 59) rfl rfl rfl ?_
  refine g_iloadN W7 d32_59 (pc' := 60) rfl rfl ?_
  refine g_dup_x1 W7 d32_60 (pc' := 61) rfl rfl rfl ?_
  refine g_putf W7 (wd_236 hw) Via.refl (Or.inl (wd_237 hw)) (wd_227 hw) (ty := .int) (by decide) rfl rfl H7 (i := 0) rfl (jx := 1) rfl d32_61 (pc' := 64) rfl (L' := ((it, o_ArrayList_Itr Z (.ref al) (.int cu) (.int mc) (.int (cu + (1 : Int32)))) :: (al, o_ArrayList Z (.int mc) (.ref el) (.int sz)) :: (el, RaC Z "java/lang/Object" lv) :: F)) rfl ?_
  intro T8 W8 H8
  refine g_aaload W8 H8 (i := 2) rfl (jx := jx) hjx (v := .ref x) hv d32_64 (pc' := 65) rfl ?_
  have H9f := Hp.fr2 H8
  have H10f := Hp.fr2 H9f
  have H11f := Hp.fr2 H10f
  exact g_areturn W8 rfl rfl d32_65 ⟨rfl, H11f⟩ (by decide) (by decide)

def IntO (Z : State) (a : Addr) (x : Int32) : Prop := Exa Z Z.heap a "java/lang/Integer" ∧ Fld Z Z.heap a "java/lang/Integer" "value" "I" (.int x)

theorem box_in {x : Int32} (h1 : ¬ x < (-128 : Int32)) (h2 : ¬ (127 : Int32) < x) {n : Nat} (hn : n = (256 : Int32).toNatClampNeg) : ¬ (x + (128 : Int32) < 0 ∨ n ≤ (x + (128 : Int32)).toNatClampNeg) := by
  rw [Int32.lt_iff_toInt_lt] at h1 h2
  have e1 : (-128 : Int32).toInt = -128 := by decide
  have e2 : (127 : Int32).toInt = 127 := by decide
  have e3 : (128 : Int32).toInt = 128 := by decide
  have e4 : (256 : Int32).toNatClampNeg = 256 := by decide
  have e5 : (0 : Int32).toInt = 0 := by decide
  have el : (x + (128 : Int32)).toInt = x.toInt + 128 := by
    rw [Int32.toInt_add, e3]; exact Kit.bmod32 (by omega) (by omega)
  rw [Int32.lt_iff_toInt_lt, Int32.toNatClampNeg, el, e5, hn, e4]
  omega
theorem box_back (x : Int32) : x + (128 : Int32) - 128 = x := Int32.add_sub_cancel x 128

theorem c_ival (l : Launch) (Z : State) (a0 : Array Value) (hw : ∀ d ∈ tables_1, d.before a0 Z = true) (n0 : Nat) (ca : Addr) (cc : Cell) (hH : Sta Z Z.heap "java/lang/Integer$IntegerCache" "high" "I" (.int 127)) (hCa : Sta Z Z.heap "java/lang/Integer$IntegerCache" "cache" "[Ljava/lang/Integer;" (.ref ca)) (hB : Bxs Z ca cc "java/lang/Integer" "I" (256 : Int32) (fun j => .int (j - 128))) (x : Int32) (h1 : ¬ x < (-128 : Int32)) (h2 : ¬ (127 : Int32) < x) (h0 : Heap) (F : List HRow) (H00 : Hp Z n0 h0 F) :
    Con l Z n0 ⟨"java/lang/Integer", "valueOf", "(I)Ljava/lang/Integer;"⟩ [] jdk_33_method_22_code 1 (some (.object "java/lang/Integer")) ({ frames := 0, cells := 0, slots := 0, locals := 0 } : Room) #[.int x] h0 (fun v h => ∃ a, v = some (.ref a) ∧ IntO Z a x ∧ Hp Z n0 h F) := by
  refine con_of pf_35 ?_
  intro p e s m below meth c T0 W0 e0
  subst e0
  have H0 := H00
  refine g_cast (ef_i1 m x) ?_
  refine g_iloadN W0 d35_0 (pc' := 1) rfl rfl ?_
  refine g_bipush W0 d35_1 (pc' := 3) rfl (v := (-128 : Int32)) (by decide) ?_
  refine g_icmp W0 d35_3 (pcy := 23) (by decide) (pc' := 6) rfl (fun (h : x < (-128 : Int32)) => absurd h h1) (fun (_ : ¬ x < (-128 : Int32)) => ?_)
  refine g_iloadN W0 d35_6 (pc' := 7) rfl rfl ?_
  refine g_getS W0 (wd_278 hw) Via.refl hH H0 d35_7 (pc' := 10) rfl ?_
  intro T1 W1 _ H1
  refine g_icmp W1 d35_10 (pcy := 23) (by decide) (pc' := 13) rfl (fun (h : (127 : Int32) < x) => absurd h h2) (fun (_ : ¬ (127 : Int32) < x) => ?_)
  refine g_getS W1 (wd_280 hw) Via.refl hCa H1 d35_13 (pc' := 16) rfl ?_
  intro T2 W2 _ H2
  refine g_iloadN W2 d35_16 (pc' := 17) rfl rfl ?_
  refine g_sipush W2 d35_17 (pc' := 20) rfl (v := (128 : Int32)) (by decide) ?_
  refine g_iadd W2 d35_20 (pc' := 21) rfl rfl ?_
  obtain ⟨b1, hb1, hb2, hb3⟩ := hB.2.2.2 (x + (128 : Int32)) (box_in h1 h2 hB.2.1)
  refine g_aaloadF W2 (cl := cc) (hB.1.ext H2.old) rfl (box_in h1 h2 hB.2.1) hb1 d35_21 (pc' := 22) rfl ?_
  exact g_areturn W2 rfl rfl d35_22 ⟨b1, rfl, ⟨hb2, by have q : Fld Z Z.heap b1 "java/lang/Integer" "value" "I" (.int (x + (128 : Int32) - 128)) := hb3; rw [box_back x] at q; exact q⟩, H2⟩ (by decide) (by decide)
theorem c_intv (l : Launch) (Z : State) (a0 : Array Value) (hw : ∀ d ∈ tables_1, d.before a0 Z = true) (n0 : Nat) (ia : Addr) (x : Int32) (hI : IntO Z ia x) (h0 : Heap) (F : List HRow) (H00 : Hp Z n0 h0 F) :
    Con l Z n0 ⟨"java/lang/Integer", "intValue", "()I"⟩ [] jdk_33_method_27_code 1 (some .int) ({ frames := 0, cells := 0, slots := 0, locals := 0 } : Room) #[.ref ia] h0 (fun v h => v = some (.int x) ∧ Hp Z n0 h F) := by
  refine con_of pf_47 ?_
  intro p e s m below meth c T0 W0 e0
  subst e0
  have H0 := H00
  refine g_cast (ef_r1 m ia) ?_
  refine g_aloadN W0 d47_0 (pc' := 1) rfl rfl rfl ?_
  refine g_getfF W0 (wd_372 hw) Via.refl H0 (hI.2.ext H0.old) d47_1 (pc' := 4) rfl ?_
  intro T1 W1 _ H1
  exact g_ireturn W1 d47_4 ⟨rfl, H1⟩ (by decide) (by decide)
theorem c_aic (l : Launch) (Z : State) (a0 : Array Value) (hw : ∀ d ∈ tables_1, d.before a0 Z = true) (n0 : Nat) (a : Addr) (h0 : Heap) (F : List HRow) (H00 : Hp Z n0 h0 F) :
    Con l Z n0 ⟨"java/util/ImmutableCollections$AbstractImmutableCollection", "<init>", "()V"⟩ [] jdk_47_method_1_code 1 none ({ frames := 2, cells := 0, slots := 0, locals := 24 } : Room) #[.ref a] h0 (fun v h => v = none ∧ Hp Z n0 h F) := by
  refine con_of pf_40 ?_
  intro p e s m below meth c T0 W0 e0
  subst e0
  have H0 := H00
  refine g_cast (ef_r1 m a) ?_
  refine g_aloadN W0 d40_0 (pc' := 1) rfl rfl rfl ?_
  refine g_callI W0 (argsL := []) (st := []) rfl (wd_309 hw) (wd_17 hw) (wd_20 hw) (wd_21 hw) (by decide) (a := a) (c_ac l Z a0 hw n0 a _ _ H0) pd_0 rfl rfl rfl d40_1 (pc' := 4) rfl (by decide) (Wn := 0) (Nat.le_of_eq rfl) (by decide) (kc' := 0) (ks' := 0) rfl rfl (by decide) (by decide) ?_
  intro T1 v1 W1 hp1
  obtain ⟨rfl, H1⟩ := hp1
  show Goes _ _ _ _ (State.setTop _ (mkF _ _ _ []))
  exact g_return W1 d40_4 ⟨rfl, H1⟩ (by decide) (by decide)
theorem c_ail (l : Launch) (Z : State) (a0 : Array Value) (hw : ∀ d ∈ tables_1, d.before a0 Z = true) (n0 : Nat) (a : Addr) (h0 : Heap) (F : List HRow) (H00 : Hp Z n0 h0 F) :
    Con l Z n0 ⟨"java/util/ImmutableCollections$AbstractImmutableList", "<init>", "()V"⟩ [] jdk_46_method_1_code 1 none ({ frames := 3, cells := 0, slots := 0, locals := 36 } : Room) #[.ref a] h0 (fun v h => v = none ∧ Hp Z n0 h F) := by
  refine con_of pf_39 ?_
  intro p e s m below meth c T0 W0 e0
  subst e0
  have H0 := H00
  refine g_cast (ef_r1 m a) ?_
  refine g_aloadN W0 d39_0 (pc' := 1) rfl rfl rfl ?_
  refine g_callI W0 (argsL := []) (st := []) rfl (wd_303 hw) (wd_304 hw) (wd_307 hw) (wd_308 hw) (by decide) (a := a) (c_aic l Z a0 hw n0 a _ _ H0) pd_0 rfl rfl rfl d39_1 (pc' := 4) rfl (by decide) (Wn := 0) (Nat.le_of_eq rfl) (by decide) (kc' := 0) (ks' := 0) rfl rfl (by decide) (by decide) ?_
  intro T1 v1 W1 hp1
  obtain ⟨rfl, H1⟩ := hp1
  show Goes _ _ _ _ (State.setTop _ (mkF _ _ _ []))
  exact g_return W1 d39_4 ⟨rfl, H1⟩ (by decide) (by decide)
theorem c_rnn (l : Launch) (Z : State) (a0 : Array Value) (hw : ∀ d ∈ tables_1, d.before a0 Z = true) (n0 : Nat) (a : Addr) (h0 : Heap) (F : List HRow) (H00 : Hp Z n0 h0 F) :
    Con l Z n0 ⟨"java/util/Objects", "requireNonNull", "(Ljava/lang/Object;)Ljava/lang/Object;"⟩ [] jdk_31_method_10_code 1 (some (.object "java/lang/Object")) ({ frames := 0, cells := 0, slots := 0, locals := 0 } : Room) #[.ref a] h0 (fun v h => v = some (.ref a) ∧ Hp Z n0 h F) := by
  refine con_of pf_41 ?_
  intro p e s m below meth c T0 W0 e0
  subst e0
  have H0 := H00
  refine g_cast (ef_r1 m a) ?_
  refine g_aloadN W0 d41_0 (pc' := 1) rfl rfl rfl ?_
  refine g_ifnonnullY W0 d41_1 (pcy := 12) (by decide) ?_
  refine g_aloadN W0 d41_12 (pc' := 13) rfl rfl rfl ?_
  exact g_areturn W0 rfl rfl d41_13 ⟨rfl, H0⟩ (by decide) (by decide)
theorem c_l12 (l : Launch) (Z : State) (a0 : Array Value) (hw : ∀ d ∈ tables_1, d.before a0 Z = true) (n0 : Nat) (li x y : Addr) (h0 : Heap) (F : List HRow) (H00 : Hp Z n0 h0 ((li, o_ImmutableCollections_List12 Z .null .null) :: F)) :
    Con l Z n0 ⟨"java/util/ImmutableCollections$List12", "<init>", "(Ljava/lang/Object;Ljava/lang/Object;)V"⟩ [] jdk_44_method_2_code 3 none ({ frames := 4, cells := 0, slots := 0, locals := 48 } : Room) #[.ref li, .ref x, .ref y] h0 (fun v h => v = none ∧ Hp Z n0 h ((li, o_ImmutableCollections_List12 Z (.ref x) (.ref y)) :: F)) := by
  refine con_of pf_38 ?_
  intro p e s m below meth c T0 W0 e0
  subst e0
  have H0 := H00
  refine g_cast (ef_rrr3 m li x y) ?_
  refine g_aloadN W0 d38_0 (pc' := 1) rfl rfl rfl ?_
  refine g_callI W0 (argsL := []) (st := []) rfl (wd_297 hw) (wd_298 hw) (wd_301 hw) (wd_302 hw) (by decide) (a := li) (c_ail l Z a0 hw n0 li _ _ H0) pd_0 rfl rfl rfl d38_1 (pc' := 4) rfl (by decide) (Wn := 0) (Nat.le_of_eq rfl) (by decide) (kc' := 0) (ks' := 0) rfl rfl (by decide) (by decide) ?_
  intro T1 v1 W1 hp1
  obtain ⟨rfl, H1⟩ := hp1
  show Goes _ _ _ _ (State.setTop _ (mkF _ _ _ []))
  refine g_aloadN W1 d38_4 (pc' := 5) rfl rfl rfl ?_
  refine g_aloadN W1 d38_5 (pc' := 6) rfl rfl rfl ?_
  refine g_callS W1 (argsL := [.ref x]) (st := [.ref li]) (wd_311 hw) (wd_312 hw) (wd_134 hw) (wd_313 hw) (by decide) (c_rnn l Z a0 hw n0 x _ _ H1) pd_14 rfl rfl rfl d38_6 (pc' := 9) rfl (by decide) (Wn := 1) (Nat.le_of_eq rfl) (by decide) (kc' := 0) (ks' := 0) rfl rfl (by decide) (by decide) ?_
  intro T2 v2 W2 hp2
  obtain ⟨rfl, H2⟩ := hp2
  show Goes _ _ _ _ (State.setTop _ (mkF _ _ _ [.ref x, .ref li]))
  refine g_putf W2 (wd_314 hw) Via.refl (Or.inr ⟨(wd_315 hw), rfl, rfl⟩) (wd_291 hw) (ty := (.object "java/lang/Object")) (by decide) rfl rfl H2 (i := 0) rfl (jx := 0) rfl d38_9 (pc' := 12) rfl (L' := ((li, o_ImmutableCollections_List12 Z (.ref x) .null) :: F)) rfl ?_
  intro T3 W3 H3
  refine g_aloadN W3 d38_12 (pc' := 13) rfl rfl rfl ?_
  refine g_aloadN W3 d38_13 (pc' := 14) rfl rfl rfl ?_
  refine g_callS W3 (argsL := [.ref y]) (st := [.ref li]) (wd_311 hw) (wd_312 hw) (wd_134 hw) (wd_313 hw) (by decide) (c_rnn l Z a0 hw n0 y _ _ H3) pd_14 rfl rfl rfl d38_14 (pc' := 17) rfl (by decide) (Wn := 1) (Nat.le_of_eq rfl) (by decide) (kc' := 0) (ks' := 0) rfl rfl (by decide) (by decide) ?_
  intro T4 v4 W4 hp4
  obtain ⟨rfl, H4⟩ := hp4
  show Goes _ _ _ _ (State.setTop _ (mkF _ _ _ [.ref y, .ref li]))
  refine g_putf W4 (wd_316 hw) Via.refl (Or.inr ⟨(wd_317 hw), rfl, rfl⟩) (wd_291 hw) (ty := (.object "java/lang/Object")) (by decide) rfl rfl H4 (i := 0) rfl (jx := 1) rfl d38_17 (pc' := 20) rfl (L' := ((li, o_ImmutableCollections_List12 Z (.ref x) (.ref y)) :: F)) rfl ?_
  intro T5 W5 H5
  exact g_return W5 d38_20 ⟨rfl, H5⟩ (by decide) (by decide)
theorem c_lof (l : Launch) (Z : State) (a0 : Array Value) (hw : ∀ d ∈ tables_1, d.before a0 Z = true) (n0 : Nat) (x y : Addr) (h0 : Heap) (F : List HRow) (H00 : Hp Z n0 h0 F) :
    Con l Z n0 ⟨"java/util/List", "of", "(Ljava/lang/Object;Ljava/lang/Object;)Ljava/util/List;"⟩ [] jdk_40_method_38_code 2 (some (.object "java/util/List")) ({ frames := 5, cells := 1, slots := 2, locals := 63 } : Room) #[.ref x, .ref y] h0 (fun v h => ∃ li, v = some (.ref li) ∧ Hp Z n0 h ((li, o_ImmutableCollections_List12 Z (.ref x) (.ref y)) :: F)) := by
  refine con_of pf_37 ?_
  intro p e s m below meth c T0 W0 e0
  subst e0
  have H0 := H00
  refine g_cast (ef_rr2 m x y) ?_
  refine g_new W0 (wd_290 hw) (wd_291 hw) (wd_292 hw) (la_ImmutableCollections_List12 hw) (by decide) H0 d37_0 (pc' := 3) rfl (kc' := 1) (ks' := 2) rfl rfl (by decide) (by decide) ?_
  intro T1 a1 W1 H1
  refine g_dup W1 d37_3 (pc' := 4) rfl rfl ?_
  refine g_aloadN W1 d37_4 (pc' := 5) rfl rfl rfl ?_
  refine g_aloadN W1 d37_5 (pc' := 6) rfl rfl rfl ?_
  refine g_callI W1 (argsL := [.ref x, .ref y]) (st := [.ref a1]) rfl (wd_293 hw) (wd_294 hw) (wd_292 hw) (wd_296 hw) (by decide) (a := a1) (c_l12 l Z a0 hw n0 a1 x y _ _ H1) pd_15 rfl rfl rfl d37_6 (pc' := 9) rfl (by decide) (Wn := 1) (Nat.le_of_eq rfl) (by decide) (kc' := 1) (ks' := 2) rfl rfl (by decide) (by decide) ?_
  intro T2 v2 W2 hp2
  obtain ⟨rfl, H2⟩ := hp2
  show Goes _ _ _ _ (State.setTop _ (mkF _ _ _ [.ref a1]))
  exact g_areturn W2 rfl rfl d37_9 ⟨_, rfl, H2⟩ (by decide) (by decide)
theorem c_l12s (l : Launch) (Z : State) (a0 : Array Value) (hw : ∀ d ∈ tables_1, d.before a0 Z = true) (n0 : Nat) (em : Addr) (hEm : Sta Z Z.heap "java/util/ImmutableCollections" "EMPTY" "Ljava/lang/Object;" (.ref em)) (hEx : Exa Z Z.heap em "java/lang/Object") (li x y : Addr) (hne : y ≠ em)  (h0 : Heap) (F : List HRow) (H00 : Hp Z n0 h0 ((li, o_ImmutableCollections_List12 Z (.ref x) (.ref y)) :: F)) :
    Con l Z n0 ⟨"java/util/ImmutableCollections$List12", "size", "()I"⟩ [] jdk_44_method_3_code 1 (some .int) ({ frames := 0, cells := 0, slots := 0, locals := 0 } : Room) #[.ref li] h0 (fun v h => v = some (.int 2) ∧ Hp Z n0 h ((li, o_ImmutableCollections_List12 Z (.ref x) (.ref y)) :: F)) := by
  refine con_of pf_43 ?_
  intro p e s m below meth c T0 W0 e0
  subst e0
  have H0 := H00
  refine g_cast (ef_r1 m li) ?_
  refine g_aloadN W0 d43_0 (pc' := 1) rfl rfl rfl ?_
  refine g_getf W0 (wd_316 hw) Via.refl H0 (i := 0) rfl (jx := 1) rfl d43_1 (pc' := 4) rfl ?_
  intro T1 W1 H1
  refine g_getSN W1 (wd_333 hw) Via.refl hEm H1 d43_4 (pc' := 7) rfl ?_
  intro T2 W2 _ H2
  refine g_acmpN W2 rfl rfl (acmp_diff hne) d43_7 (pc' := 10) rfl ?_
  refine g_iconst W2 d43_10 (pc' := 11) rfl (v := (2 : Int32)) (by decide) ?_
  refine g_goto W2 d43_11 (pc' := 15) (by decide) ?_
  exact g_ireturn W2 d43_15 ⟨rfl, H2⟩ (by decide) (by decide)
theorem c_lini (l : Launch) (Z : State) (a0 : Array Value) (hw : ∀ d ∈ tables_1, d.before a0 Z = true) (n0 : Nat) (it li : Addr) (h0 : Heap) (F : List HRow) (H00 : Hp Z n0 h0 ((it, o_ImmutableCollections_ListItr Z .null (.int (0 : Int32)) (.int (0 : Int32)) (.int (0 : Int32))) :: F)) :
    Con l Z n0 ⟨"java/util/ImmutableCollections$ListItr", "<init>", "(Ljava/util/List;I)V"⟩ [] jdk_53_method_1_code 3 none ({ frames := 1, cells := 0, slots := 0, locals := 12 } : Room) #[.ref it, .ref li, .int (2 : Int32)] h0 (fun v h => v = none ∧ Hp Z n0 h ((it, o_ImmutableCollections_ListItr Z (.ref li) (.int (2 : Int32)) (.int (0 : Int32)) (.int (0 : Int32))) :: F)) := by
  refine con_of pf_44 ?_
  intro p e s m below meth c T0 W0 e0
  subst e0
  have H0 := H00
  refine g_cast (ef_rri3 m it li (2 : Int32)) ?_
  refine g_aloadN W0 d44_0 (pc' := 1) rfl rfl rfl ?_
  refine g_initO W0 (wd_339 hw) (wd_23 hw) (wd_24 hw) H0 rfl d44_1 (pc' := 4) rfl (by decide) (Wn := 0) (Nat.le_of_eq rfl) (by decide) ?_
  intro T1 W1 H1
  refine g_aloadN W1 d44_4 (pc' := 5) rfl rfl rfl ?_
  refine g_aloadN W1 d44_5 (pc' := 6) rfl rfl rfl ?_
  refine g_putf W1 (wd_340 hw) Via.refl (Or.inr ⟨(wd_341 hw), rfl, rfl⟩) (wd_325 hw) (ty := (.object "java/util/List")) (by decide) rfl rfl H1 (i := 0) rfl (jx := 0) rfl d44_6 (pc' := 9) rfl (L' := ((it, o_ImmutableCollections_ListItr Z (.ref li) (.int (0 : Int32)) (.int (0 : Int32)) (.int (0 : Int32))) :: F)) rfl ?_
  intro T2 W2 H2
  refine g_aloadN W2 d44_9 (pc' := 10) rfl rfl rfl ?_
  refine g_iloadN W2 d44_10 (pc' := 11) rfl rfl ?_
  refine g_putf W2 (wd_342 hw) Via.refl (Or.inr ⟨(wd_343 hw), rfl, rfl⟩) (wd_325 hw) (ty := .int) (by decide) rfl rfl H2 (i := 0) rfl (jx := 1) rfl d44_11 (pc' := 14) rfl (L' := ((it, o_ImmutableCollections_ListItr Z (.ref li) (.int (2 : Int32)) (.int (0 : Int32)) (.int (0 : Int32))) :: F)) rfl ?_
  intro T3 W3 H3
  refine g_aloadN W3 d44_14 (pc' := 15) rfl rfl rfl ?_
  refine g_iconst W3 d44_15 (pc' := 16) rfl (v := (0 : Int32)) (by decide) ?_
  refine g_putf W3 (wd_344 hw) Via.refl (Or.inl (wd_345 hw)) (wd_325 hw) (ty := .int) (by decide) rfl rfl H3 (i := 0) rfl (jx := 2) rfl d44_16 (pc' := 19) rfl (L' := ((it, o_ImmutableCollections_ListItr Z (.ref li) (.int (2 : Int32)) (.int (0 : Int32)) (.int (0 : Int32))) :: F)) rfl ?_
  intro T4 W4 H4
  refine g_aloadN W4 d44_19 (pc' := 20) rfl rfl rfl ?_
  refine g_iconst W4 d44_20 (pc' := 21) rfl (v := (0 : Int32)) (by decide) ?_
  refine g_putf W4 (wd_346 hw) Via.refl (Or.inr ⟨(wd_347 hw), rfl, rfl⟩) (wd_325 hw) (ty := .boolean) (by decide) rfl rfl H4 (i := 0) rfl (jx := 3) rfl d44_21 (pc' := 24) rfl (L' := ((it, o_ImmutableCollections_ListItr Z (.ref li) (.int (2 : Int32)) (.int (0 : Int32)) (.int (0 : Int32))) :: F)) rfl ?_
  intro T5 W5 H5
  exact g_return W5 d44_24 ⟨rfl, H5⟩ (by decide) (by decide)
theorem c_liter (l : Launch) (Z : State) (a0 : Array Value) (hw : ∀ d ∈ tables_1, d.before a0 Z = true) (n0 : Nat) (em : Addr) (hEm : Sta Z Z.heap "java/util/ImmutableCollections" "EMPTY" "Ljava/lang/Object;" (.ref em)) (hEx : Exa Z Z.heap em "java/lang/Object") (li x y : Addr) (hne : y ≠ em)  (h0 : Heap) (F : List HRow) (H00 : Hp Z n0 h0 ((li, o_ImmutableCollections_List12 Z (.ref x) (.ref y)) :: F)) :
    Con l Z n0 ⟨"java/util/ImmutableCollections$AbstractImmutableList", "iterator", "()Ljava/util/Iterator;"⟩ [] jdk_46_method_10_code 1 (some (.object "java/util/Iterator")) ({ frames := 2, cells := 1, slots := 4, locals := 27 } : Room) #[.ref li] h0 (fun v h => ∃ it, v = some (.ref it) ∧ Hp Z n0 h ((it, o_ImmutableCollections_ListItr Z (.ref li) (.int (2 : Int32)) (.int (0 : Int32)) (.int (0 : Int32))) :: (li, o_ImmutableCollections_List12 Z (.ref x) (.ref y)) :: F)) := by
  refine con_of pf_42 ?_
  intro p e s m below meth c T0 W0 e0
  subst e0
  have H0 := H00
  refine g_cast (ef_r1 m li) ?_
  refine g_new W0 (wd_324 hw) (wd_325 hw) (wd_326 hw) (la_ImmutableCollections_ListItr hw) (by decide) H0 d42_0 (pc' := 3) rfl (kc' := 1) (ks' := 4) rfl rfl (by decide) (by decide) ?_
  intro T1 a1 W1 H1
  refine g_dup W1 d42_3 (pc' := 4) rfl rfl ?_
  refine g_aloadN W1 d42_4 (pc' := 5) rfl rfl rfl ?_
  refine g_aloadN W1 d42_5 (pc' := 6) rfl rfl rfl ?_
  have H2f := Hp.fr1 H1
  refine g_callVU W1 (argsL := []) (st := [.ref li, .ref a1, .ref a1]) (wd_327 hw) (wd_328 hw) (wd_329 hw) (wd_330 hw) (wd_331 hw) (wd_292 hw) (wd_332 hw) (by decide) (a := li) (H2f.exa (i := 0) rfl) (c_l12s l Z a0 hw n0 em hEm hEx li x y hne _ _ H2f) pd_7 rfl rfl rfl d42_6 (pc' := 9) rfl (by decide) (Wn := 3) (Nat.le_of_eq rfl) (by decide) (kc' := 1) (ks' := 4) rfl rfl (by decide) (by decide) ?_
  intro T3 v3 W3 hp3
  obtain ⟨rfl, H3⟩ := hp3
  show Goes _ _ _ _ (State.setTop _ (mkF _ _ _ [.int (2 : Int32), .ref li, .ref a1, .ref a1]))
  have H4f := Hp.fr1 H3
  refine g_callI W3 (argsL := [.ref li, .int (2 : Int32)]) (st := [.ref a1]) rfl (wd_335 hw) (wd_336 hw) (wd_326 hw) (wd_338 hw) (by decide) (a := a1) (c_lini l Z a0 hw n0 a1 li _ _ H4f) pd_16 rfl rfl rfl d42_9 (pc' := 12) rfl (by decide) (Wn := 1) (Nat.le_of_eq rfl) (by decide) (kc' := 1) (ks' := 4) rfl rfl (by decide) (by decide) ?_
  intro T5 v5 W5 hp5
  obtain ⟨rfl, H5⟩ := hp5
  show Goes _ _ _ _ (State.setTop _ (mkF _ _ _ [.ref a1]))
  exact g_areturn W5 rfl rfl d42_12 ⟨_, rfl, H5⟩ (by decide) (by decide)
theorem c_hasl (l : Launch) (Z : State) (a0 : Array Value) (hw : ∀ d ∈ tables_1, d.before a0 Z = true) (n0 : Nat) (it li : Addr) (cu : Int32) (r : Int32) (hr : (cu = 2 ∧ r = 0) ∨ (¬ cu = 2 ∧ r = 1)) (h0 : Heap) (F : List HRow) (H00 : Hp Z n0 h0 ((it, o_ImmutableCollections_ListItr Z (.ref li) (.int (2 : Int32)) (.int cu) (.int (0 : Int32))) :: F)) :
    Con l Z n0 ⟨"java/util/ImmutableCollections$ListItr", "hasNext", "()Z"⟩ [] jdk_53_method_3_code 1 (some .boolean) ({ frames := 0, cells := 0, slots := 0, locals := 0 } : Room) #[.ref it] h0 (fun v h => v = some (.int r) ∧ Hp Z n0 h ((it, o_ImmutableCollections_ListItr Z (.ref li) (.int (2 : Int32)) (.int cu) (.int (0 : Int32))) :: F)) := by
  refine con_of pf_45 ?_
  intro p e s m below meth c T0 W0 e0
  subst e0
  have H0 := H00
  refine g_cast (ef_r1 m it) ?_
  refine g_aloadN W0 d45_0 (pc' := 1) rfl rfl rfl ?_
  refine g_getf W0 (wd_344 hw) Via.refl H0 (i := 0) rfl (jx := 2) rfl d45_1 (pc' := 4) rfl ?_
  intro T1 W1 H1
  refine g_aloadN W1 d45_4 (pc' := 5) rfl rfl rfl ?_
  refine g_getf W1 (wd_342 hw) Via.refl H1 (i := 0) rfl (jx := 1) rfl d45_5 (pc' := 8) rfl ?_
  intro T2 W2 H2
  refine g_icmp W2 d45_8 (pcy := 15) (by decide) (pc' := 11) rfl (fun (c3 : cu = (2 : Int32)) => ?_) (fun (c3 : ¬ cu = (2 : Int32)) => ?_)
  · obtain rfl : r = 0 := hr.elim (fun z => z.2) (fun z => absurd c3 z.1)
    refine g_iconst W2 d45_15 (pc' := 16) rfl (v := (0 : Int32)) (by decide) ?_
    exact g_zreturn W2 (by decide) d45_16 ⟨rfl, H2⟩ (by decide) (by decide)
  · obtain rfl : r = 1 := hr.elim (fun z => absurd z.1 c3) (fun z => z.2)
    refine g_iconst W2 d45_11 (pc' := 12) rfl (v := (1 : Int32)) (by decide) ?_
    refine g_goto W2 d45_12 (pc' := 16) (by decide) ?_
    exact g_zreturn W2 (by decide) d45_16 ⟨rfl, H2⟩ (by decide) (by decide)
theorem c_l12g0 (l : Launch) (Z : State) (a0 : Array Value) (hw : ∀ d ∈ tables_1, d.before a0 Z = true) (n0 : Nat) (em : Addr) (hEm : Sta Z Z.heap "java/util/ImmutableCollections" "EMPTY" "Ljava/lang/Object;" (.ref em)) (hEx : Exa Z Z.heap em "java/lang/Object") (li x y : Addr) (hne : y ≠ em)  (h0 : Heap) (F : List HRow) (H00 : Hp Z n0 h0 ((li, o_ImmutableCollections_List12 Z (.ref x) (.ref y)) :: F)) :
    Con l Z n0 ⟨"java/util/ImmutableCollections$List12", "get", "(I)Ljava/lang/Object;"⟩ [] jdk_44_method_5_code 2 (some (.object "java/lang/Object")) ({ frames := 0, cells := 0, slots := 0, locals := 0 } : Room) #[.ref li, .int (0 : Int32)] h0 (fun v h => v = some (.ref x) ∧ Hp Z n0 h ((li, o_ImmutableCollections_List12 Z (.ref x) (.ref y)) :: F)) := by
  refine con_of pf_46 ?_
  intro p e s m below meth c T0 W0 e0
  subst e0
  have H0 := H00
  refine g_cast (ef_ri2 m li (0 : Int32)) ?_
  refine g_iloadN W0 d46_0 (pc' := 1) rfl rfl ?_
  refine g_if W0 d46_1 (pcy := 9) (by decide) (pc' := 4) rfl (fun (h : ¬ (0 : Int32) = (0 : Int32)) => absurd h (by decide)) (fun _ => ?_)
  refine g_aloadN W0 d46_4 (pc' := 5) rfl rfl rfl ?_
  refine g_getf W0 (wd_314 hw) Via.refl H0 (i := 0) rfl (jx := 0) rfl d46_5 (pc' := 8) rfl ?_
  intro T1 W1 H1
  exact g_areturn W1 rfl rfl d46_8 ⟨rfl, H1⟩ (by decide) (by decide)
theorem c_lnext0 (l : Launch) (Z : State) (a0 : Array Value) (hw : ∀ d ∈ tables_1, d.before a0 Z = true) (n0 : Nat) (em : Addr) (hEm : Sta Z Z.heap "java/util/ImmutableCollections" "EMPTY" "Ljava/lang/Object;" (.ref em)) (hEx : Exa Z Z.heap em "java/lang/Object") (it : Addr) (li x y : Addr) (hne : y ≠ em)  (h0 : Heap) (F : List HRow) (H00 : Hp Z n0 h0 ((it, o_ImmutableCollections_ListItr Z (.ref li) (.int (2 : Int32)) (.int (0 : Int32)) (.int (0 : Int32))) :: (li, o_ImmutableCollections_List12 Z (.ref x) (.ref y)) :: F)) :
    ConH l Z n0 ⟨"java/util/ImmutableCollections$ListItr", "next", "()Ljava/lang/Object;"⟩ [(0, 24, 25, 30)] jdk_53_method_4_code 3 (some (.object "java/lang/Object")) ({ frames := 1, cells := 0, slots := 0, locals := 13 } : Room) #[.ref it] h0 (fun v h => v = some (.ref x) ∧ Hp Z n0 h ((it, o_ImmutableCollections_ListItr Z (.ref li) (.int (2 : Int32)) (.int (1 : Int32)) (.int (0 : Int32))) :: (li, o_ImmutableCollections_List12 Z (.ref x) (.ref y)) :: F)) := by
  refine conH_of pf_65 ?_
  intro p e s m below meth c T0 W0 e0
  subst e0
  have H0 := H00
  refine g_cast (ef_r3 m it) ?_
  refine g_aloadN W0 d65_0 (pc' := 1) rfl rfl rfl ?_
  refine g_getf W0 (wd_344 hw) Via.refl H0 (i := 0) rfl (jx := 2) rfl d65_1 (pc' := 4) rfl ?_
  intro T1 W1 H1
  refine g_istoreN W1 d65_4 (pc' := 5) rfl (ls' := #[.val (.ref it), .val (.int (0 : Int32)), .unset]) rfl ?_
  refine g_aloadN W1 d65_5 (pc' := 6) rfl rfl rfl ?_
  refine g_getf W1 (wd_340 hw) Via.refl H1 (i := 0) rfl (jx := 0) rfl d65_6 (pc' := 9) rfl ?_
  intro T2 W2 H2
  refine g_iloadN W2 d65_9 (pc' := 10) rfl rfl ?_
  have H3f := Hp.fr1 H2
  refine g_callF W2 (argsL := [.int (0 : Int32)]) (st := []) (wd_359 hw) (wd_125 hw) (fun _ _ hZ => mvT hZ (wd_126 hw)) (wd_360 hw) (wd_361 hw) (wd_362 hw) (wd_363 hw) (wd_322 hw) (wd_292 hw) (wd_364 hw) (by decide) (a := li) (H3f.exa (i := 0) rfl) (c_l12g0 l Z a0 hw n0 em hEm hEx li x y hne _ _ H3f) pd_6 rfl rfl rfl d65_10 (pc' := 15) rfl (by decide) (Wn := 0) (Nat.le_of_eq rfl) (by decide) (kc' := 0) (ks' := 0) rfl rfl (by decide) (by decide) ?_
  intro T4 v4 W4 hp4
  obtain ⟨rfl, H4⟩ := hp4
  show Goes _ _ _ _ (State.setTop _ (mkF _ _ _ [.ref x]))
  refine g_astoreN W4 d65_15 (pc' := 16) rfl rfl (ls' := #[.val (.ref it), .val (.int (0 : Int32)), .val (.ref x)]) rfl ?_
  refine g_aloadN W4 d65_16 (pc' := 17) rfl rfl rfl ?_
  refine g_iloadN W4 d65_17 (pc' := 18) rfl rfl ?_
  refine g_iconst W4 d65_18 (pc' := 19) rfl (v := (1 : Int32)) (by decide) ?_
  refine g_iadd W4 d65_19 (pc' := 20) rfl (v := (1 : Int32)) (by decide) ?_
  refine g_putf W4 (wd_344 hw) Via.refl (Or.inl (wd_345 hw)) (wd_325 hw) (ty := .int) (by decide) rfl rfl H4 (i := 1) rfl (jx := 2) rfl d65_20 (pc' := 23) rfl (L' := ((li, o_ImmutableCollections_List12 Z (.ref x) (.ref y)) :: (it, o_ImmutableCollections_ListItr Z (.ref li) (.int (2 : Int32)) (.int (1 : Int32)) (.int (0 : Int32))) :: F)) rfl ?_
  intro T5 W5 H5
  refine g_aloadN W5 d65_23 (pc' := 24) rfl rfl rfl ?_
  have H6f := Hp.fr1 H5
  exact g_areturn W5 rfl rfl d65_24 ⟨rfl, H6f⟩ (by decide) (by decide)
theorem c_l12g1 (l : Launch) (Z : State) (a0 : Array Value) (hw : ∀ d ∈ tables_1, d.before a0 Z = true) (n0 : Nat) (em : Addr) (hEm : Sta Z Z.heap "java/util/ImmutableCollections" "EMPTY" "Ljava/lang/Object;" (.ref em)) (hEx : Exa Z Z.heap em "java/lang/Object") (li x y : Addr) (hne : y ≠ em)  (h0 : Heap) (F : List HRow) (H00 : Hp Z n0 h0 ((li, o_ImmutableCollections_List12 Z (.ref x) (.ref y)) :: F)) :
    Con l Z n0 ⟨"java/util/ImmutableCollections$List12", "get", "(I)Ljava/lang/Object;"⟩ [] jdk_44_method_5_code 2 (some (.object "java/lang/Object")) ({ frames := 0, cells := 0, slots := 0, locals := 0 } : Room) #[.ref li, .int (1 : Int32)] h0 (fun v h => v = some (.ref y) ∧ Hp Z n0 h ((li, o_ImmutableCollections_List12 Z (.ref x) (.ref y)) :: F)) := by
  refine con_of pf_46 ?_
  intro p e s m below meth c T0 W0 e0
  subst e0
  have H0 := H00
  refine g_cast (ef_ri2 m li (1 : Int32)) ?_
  refine g_iloadN W0 d46_0 (pc' := 1) rfl rfl ?_
  refine g_if W0 d46_1 (pcy := 9) (by decide) (pc' := 4) rfl (fun _ => ?_) (fun (h : ¬ ¬ (1 : Int32) = (0 : Int32)) => absurd h (by decide))
  refine g_iloadN W0 d46_9 (pc' := 10) rfl rfl ?_
  refine g_iconst W0 d46_10 (pc' := 11) rfl (v := (1 : Int32)) (by decide) ?_
  refine g_icmp W0 d46_11 (pcy := 29) (by decide) (pc' := 14) rfl (fun (h : ¬ (1 : Int32) = (1 : Int32)) => absurd h (by decide)) (fun _ => ?_)
  refine g_aloadN W0 d46_14 (pc' := 15) rfl rfl rfl ?_
  refine g_getf W0 (wd_316 hw) Via.refl H0 (i := 0) rfl (jx := 1) rfl d46_15 (pc' := 18) rfl ?_
  intro T1 W1 H1
  refine g_getSN W1 (wd_333 hw) Via.refl hEm H1 d46_18 (pc' := 21) rfl ?_
  intro T2 W2 _ H2
  refine g_acmpN W2 rfl rfl (acmp_diff hne) d46_21 (pc' := 24) rfl ?_
  refine g_aloadN W2 d46_24 (pc' := 25) rfl rfl rfl ?_
  refine g_getf W2 (wd_316 hw) Via.refl H2 (i := 0) rfl (jx := 1) rfl d46_25 (pc' := 28) rfl ?_
  intro T3 W3 H3
  exact g_areturn W3 rfl rfl d46_28 ⟨rfl, H3⟩ (by decide) (by decide)
theorem c_lnext1 (l : Launch) (Z : State) (a0 : Array Value) (hw : ∀ d ∈ tables_1, d.before a0 Z = true) (n0 : Nat) (em : Addr) (hEm : Sta Z Z.heap "java/util/ImmutableCollections" "EMPTY" "Ljava/lang/Object;" (.ref em)) (hEx : Exa Z Z.heap em "java/lang/Object") (it : Addr) (li x y : Addr) (hne : y ≠ em)  (h0 : Heap) (F : List HRow) (H00 : Hp Z n0 h0 ((it, o_ImmutableCollections_ListItr Z (.ref li) (.int (2 : Int32)) (.int (1 : Int32)) (.int (0 : Int32))) :: (li, o_ImmutableCollections_List12 Z (.ref x) (.ref y)) :: F)) :
    ConH l Z n0 ⟨"java/util/ImmutableCollections$ListItr", "next", "()Ljava/lang/Object;"⟩ [(0, 24, 25, 30)] jdk_53_method_4_code 3 (some (.object "java/lang/Object")) ({ frames := 1, cells := 0, slots := 0, locals := 13 } : Room) #[.ref it] h0 (fun v h => v = some (.ref y) ∧ Hp Z n0 h ((it, o_ImmutableCollections_ListItr Z (.ref li) (.int (2 : Int32)) (.int (2 : Int32)) (.int (0 : Int32))) :: (li, o_ImmutableCollections_List12 Z (.ref x) (.ref y)) :: F)) := by
  refine conH_of pf_65 ?_
  intro p e s m below meth c T0 W0 e0
  subst e0
  have H0 := H00
  refine g_cast (ef_r3 m it) ?_
  refine g_aloadN W0 d65_0 (pc' := 1) rfl rfl rfl ?_
  refine g_getf W0 (wd_344 hw) Via.refl H0 (i := 0) rfl (jx := 2) rfl d65_1 (pc' := 4) rfl ?_
  intro T1 W1 H1
  refine g_istoreN W1 d65_4 (pc' := 5) rfl (ls' := #[.val (.ref it), .val (.int (1 : Int32)), .unset]) rfl ?_
  refine g_aloadN W1 d65_5 (pc' := 6) rfl rfl rfl ?_
  refine g_getf W1 (wd_340 hw) Via.refl H1 (i := 0) rfl (jx := 0) rfl d65_6 (pc' := 9) rfl ?_
  intro T2 W2 H2
  refine g_iloadN W2 d65_9 (pc' := 10) rfl rfl ?_
  have H3f := Hp.fr1 H2
  refine g_callF W2 (argsL := [.int (1 : Int32)]) (st := []) (wd_359 hw) (wd_125 hw) (fun _ _ hZ => mvT hZ (wd_126 hw)) (wd_360 hw) (wd_361 hw) (wd_362 hw) (wd_363 hw) (wd_322 hw) (wd_292 hw) (wd_364 hw) (by decide) (a := li) (H3f.exa (i := 0) rfl) (c_l12g1 l Z a0 hw n0 em hEm hEx li x y hne _ _ H3f) pd_6 rfl rfl rfl d65_10 (pc' := 15) rfl (by decide) (Wn := 0) (Nat.le_of_eq rfl) (by decide) (kc' := 0) (ks' := 0) rfl rfl (by decide) (by decide) ?_
  intro T4 v4 W4 hp4
  obtain ⟨rfl, H4⟩ := hp4
  show Goes _ _ _ _ (State.setTop _ (mkF _ _ _ [.ref y]))
  refine g_astoreN W4 d65_15 (pc' := 16) rfl rfl (ls' := #[.val (.ref it), .val (.int (1 : Int32)), .val (.ref y)]) rfl ?_
  refine g_aloadN W4 d65_16 (pc' := 17) rfl rfl rfl ?_
  refine g_iloadN W4 d65_17 (pc' := 18) rfl rfl ?_
  refine g_iconst W4 d65_18 (pc' := 19) rfl (v := (1 : Int32)) (by decide) ?_
  refine g_iadd W4 d65_19 (pc' := 20) rfl (v := (2 : Int32)) (by decide) ?_
  refine g_putf W4 (wd_344 hw) Via.refl (Or.inl (wd_345 hw)) (wd_325 hw) (ty := .int) (by decide) rfl rfl H4 (i := 1) rfl (jx := 2) rfl d65_20 (pc' := 23) rfl (L' := ((li, o_ImmutableCollections_List12 Z (.ref x) (.ref y)) :: (it, o_ImmutableCollections_ListItr Z (.ref li) (.int (2 : Int32)) (.int (2 : Int32)) (.int (0 : Int32))) :: F)) rfl ?_
  intro T5 W5 H5
  refine g_aloadN W5 d65_23 (pc' := 24) rfl rfl rfl ?_
  have H6f := Hp.fr1 H5
  exact g_areturn W5 rfl rfl d65_24 ⟨rfl, H6f⟩ (by decide) (by decide)

def REn (l : List Int32) (E : Nat → Nat) (cn : Nat) : Prop := l.length = 3 ∧ ∀ i, i < cn → ∃ x, l[i]? = some x ∧ x.toInt = (E i : Int)
def EI (Rw : Nat → Int) (E : Nat → Nat) (cn : Nat) : Prop := Cons E Rw cn ∧ cn = cntQ Rw
theorem cntQ_le {Q : Nat → Int} : cntQ Q ≤ 3 := cnt_le (S := fun _ => false) (fun _ _ _ _ => rfl)
theorem cntQ_lt {Q : Nat → Int} {nd : Nat} (n1 : 1 ≤ nd) (n2 : nd ≤ 3) (h : Q nd < 0) : cntQ Q + 1 ≤ 3 := by
  have a := cntS_add (S := fun _ => false) n1 n2 rfl
  have b := cnt_le (Q := Q) (S := up (fun _ => false) nd true) (fun v _ _ q => by
    by_cases z : v = nd
    · subst z; omega
    · exact up_o z)
  have e : cntS (fun _ => false) = 0 := by decide
  omega
theorem cntQ_pos {Q : Nat → Int} {nd : Nat} (n1 : 1 ≤ nd) (n2 : nd ≤ 3) (h : 0 ≤ Q nd) : 1 ≤ cntQ Q := by
  unfold cntQ
  have hx : nd = 1 ∨ nd = 2 ∨ nd = 3 := by omega
  rcases hx with rfl | rfl | rfl <;> rw [if_pos h] <;> omega
theorem REn.push {l : List Int32} {E : Nat → Nat} {cn nd : Nat} {x : Int32} (h : REn l E cn) (hc : cn < 3) (hx : x.toInt = (nd : Int)) : REn (l.set cn x) (up E cn nd) (cn + 1) := by
  refine ⟨by rw [List.length_set]; exact h.1, fun i hi => ?_⟩
  by_cases q : i = cn
  · subst q; exact ⟨x, List.getElem?_set_self (by rw [h.1]; exact hc), by rw [up_s]; exact hx⟩
  · obtain ⟨z, z1, z2⟩ := h.2 i (by omega)
    exact ⟨z, (List.getElem?_set_ne (fun z => q z.symm)).trans z1, by rw [up_o q]; exact z2⟩
theorem EI.push {Rw : Nat → Int} {E : Nat → Nat} {cn nd : Nat} (h : EI Rw E cn) (n1 : 1 ≤ nd) (n2 : nd ≤ 3) (hn : Rw nd < 0) : EI (up Rw nd (cn : Int)) (up E cn nd) (cn + 1) := by
  obtain ⟨a, b⟩ := h.1.push n1 n2 hn
  exact ⟨a, by rw [cntQ_add n1 n2 hn b, ← h.2]⟩
theorem up_nn {Rw : Nat → Int} {cn nd v : Nat} (h : 0 ≤ Rw v) : 0 ≤ up Rw nd (cn : Int) v := by
  by_cases z : v = nd
  · subst z; rw [up_s]; omega
  · rw [up_o z]; exact h
theorem up_nd {Rw : Nat → Int} {cn nd : Nat} : 0 ≤ up Rw nd (cn : Int) nd := by rw [up_s]; omega
theorem ei_0 : EI (fun _ => -1) (fun _ => 0) 0 := ⟨⟨fun i hi => (by omega), fun v _ _ hv => absurd (show (0 : Int) ≤ -1 from hv) (by decide), fun v _ _ => (show (-1 : Int) ≤ -1 by decide)⟩, by decide⟩
theorem ren_0 : REn (List.replicate 3 0) (fun _ => 0) 0 := ⟨rfl, fun i hi => by omega⟩
theorem own_sm {x : Int32} {n : Nat} (h : x.toInt = (n : Int)) (hn : n ≤ 3) : ¬ x < (-128 : Int32) ∧ ¬ (127 : Int32) < x := by
  rw [Int32.lt_iff_toInt_lt, Int32.lt_iff_toInt_lt, h, show (-128 : Int32).toInt = -128 by decide, show (127 : Int32).toInt = 127 by decide]; omega
theorem own_rv {x : Int32} {z : Int} (h : x.toInt = z) (hz : -1 ≤ z) (q : ¬ x = (-1 : Int32)) : 0 ≤ z := by
  by_cases w : z = -1
  · exact absurd (i32_lit (h.trans w) (by decide)) q
  · omega
def TOk (Z : State) (ft : Nat) (T Hd tm : Nat → Nat) (Rw : Nat → Int) (xs : List Value) (J : List HRow) : Prop := ∀ u v, 1 ≤ u → u ≤ 3 → 1 ≤ v → v ≤ 3 → 0 ≤ Rw u → 0 ≤ Rw v → ∃ (x : Addr) (row : List UInt64) (r : UInt64), xs[(Rw u).toNat]? = some (.ref x) ∧ (x, DaC Z row) ∈ J ∧ row[(Rw v).toNat]? = some r ∧ DV r (bst ft T Hd tm u v)
theorem tok {Z : State} {ft N : Nat} {T Hd tm E : Nat → Nat} {Rw : Nat → Int} {xs : List Value} {J : List HRow} (C : Cons E Rw N) (H : ∀ i j, i < N → j < N → ∃ (x : Addr) (row : List UInt64) (r : UInt64), xs[i]? = some (.ref x) ∧ (x, DaC Z row) ∈ J ∧ row[j]? = some r ∧ DV r (bst ft T Hd tm (E i) (E j))) : TOk Z ft T Hd tm Rw xs J := fun u v u1 u2 v1 v2 hu hv => by
  obtain ⟨i, hi, rfl⟩ := C.2.1 u u1 u2 hu
  obtain ⟨j, hj, rfl⟩ := C.2.1 v v1 v2 hv
  rw [(C.1 i hi).2.2, (C.1 j hj).2.2]
  exact H i j hi hj
theorem len_1 {α : Type} {xs : List α} (h : xs.length = 1) : ∃ y0, xs = [y0] := by
  match xs, h with
  | [y0], _ => exact ⟨_, rfl⟩
theorem len_2 {α : Type} {xs : List α} (h : xs.length = 2) : ∃ y0 y1, xs = [y0, y1] := by
  match xs, h with
  | [y0, y1], _ => exact ⟨_, _, rfl⟩
theorem len_3 {α : Type} {xs : List α} (h : xs.length = 3) : ∃ y0 y1 y2, xs = [y0, y1, y2] := by
  match xs, h with
  | [y0, y1, y2], _ => exact ⟨_, _, _, rfl⟩

theorem c_rtini (l : Launch) (Z : State) (a0 : Array Value) (hw : ∀ d ∈ tables_1, d.before a0 Z = true) (n0 : Nat) (em : Addr) (hEm : Sta Z Z.heap "java/util/ImmutableCollections" "EMPTY" "Ljava/lang/Object;" (.ref em)) (hEx : Exa Z Z.heap em "java/lang/Object") (ca : Addr) (cc : Cell) (hH : Sta Z Z.heap "java/lang/Integer$IntegerCache" "high" "I" (.int 127)) (hCa : Sta Z Z.heap "java/lang/Integer$IntegerCache" "cache" "[Ljava/lang/Integer;" (.ref ca)) (hB : Bxs Z ca cc "java/lang/Integer" "I" (256 : Int32) (fun j => .int (j - 128))) (rt nt tlA hdA caA ffA bsA pwA foA oaA tmA al el p1 : Addr) (ftI mcP sz : Int32) (FO OA HDl : List Int32) (TM : List UInt64) (lv : List Value) (ftn : Nat) (T Hd tm : Nat → Nat) (hft : ftI.toInt = (ftn : Int)) (arcs : Arcs T Hd tm) (netF : NetF FO OA T) (hdF : HdF HDl Hd) (tmF : TmF TM tm) (netC : NetC FO OA T) (F : List HRow) (hlen : lv.length.toInt32 = 10) (i1 : Int32) (k1 : Nat) (hi1 : i1.toInt = (k1 : Int)) (b1 : 1 ≤ k1 ∧ k1 ≤ 3) (i2 : Int32) (k2 : Nat) (hi2 : i2.toInt = (k2 : Int)) (b2 : 1 ≤ k2 ∧ k2 ≤ 3) (i3 : Int32) (k3 : Nat) (hi3 : i3.toInt = (k3 : Int)) (b3 : 1 ≤ k3 ∧ k3 ≤ 3) (i4 : Int32) (k4 : Nat) (hi4 : i4.toInt = (k4 : Int)) (b4 : 1 ≤ k4 ∧ k4 ≤ 3) (hl0 : lv[0]? = some (.ref p1)) (hp1 : (p1, o_TripTable_Pair Z (.int i1) (.int i2)) ∈ F) (hsz : sz = 1 ∨ (sz = 2 ∧ ∃ p2, lv[1]? = some (.ref p2) ∧ (p2, o_TripTable_Pair Z (.int i3) (.int i4)) ∈ F)) (h0 : Heap) (H00 : Hp Z n0 h0 ((rt, o_RouteTimes Z .null .null) :: (nt, o_Network Z (.int (3 : Int32)) (.int ftI) (.ref tlA) (.ref hdA) (.ref caA) (.ref ffA) (.ref bsA) (.ref pwA) (.ref foA) (.ref oaA)) :: (foA, IaC Z FO) :: (oaA, IaC Z OA) :: (hdA, IaC Z HDl) :: (tmA, DaC Z TM) :: (al, o_ArrayList Z (.int mcP) (.ref el) (.int sz)) :: (el, RaC Z "java/lang/Object" lv) :: F)) :
    Con l Z n0 ⟨"com/example/lanewright/lanewright/RouteTimes", "<init>", "(Lcom/example/lanewright/lanewright/Network;[DLjava/util/List;)V"⟩ [] prog_47_method_1_code 10 none ({ frames := 6, cells := 16, slots := 57, locals := 76 } : Room) #[.ref rt, .ref nt, .ref tmA, .ref al] h0 (fun v h => ∃ (rA tA : Addr) (RL : List Int32) (xs : List Value) (J : List HRow) (Rw : Nat → Int), v = none ∧ Hp Z n0 h ((rt, o_RouteTimes Z (.ref rA) (.ref tA)) :: (rA, IaC Z RL) :: (tA, ArC Z (.array .double) xs) :: J) ∧ RI RL Rw ∧ 0 ≤ Rw k1 ∧ 0 ≤ Rw k2 ∧ (sz = 2 → 0 ≤ Rw k3 ∧ 0 ≤ Rw k4) ∧ TOk Z ftn T Hd tm Rw xs J) := by
  refine con_of (plainFor_of_name pn_RouteTimes) ?_
  intro p e s m below meth c T0 W0 e0
  subst e0
  have H0 := H00
  refine g_cast (ef_rrrr10 m rt nt tmA al) ?_
  refine g_aloadN W0 d26_0 (pc' := 1) rfl rfl rfl ?_
  refine g_initO W0 (wd_206 hw) (wd_23 hw) (wd_24 hw) H0 rfl d26_1 (pc' := 4) rfl (by decide) (Wn := 0) (Nat.le_of_eq rfl) (by decide) ?_
  intro T1 W1 H1
  refine g_aloadN W1 d26_4 (pc' := 5) rfl rfl rfl ?_
  refine g_aloadN W1 d26_5 (pc' := 6) rfl rfl rfl ?_
  have H2f := Hp.fr1 H1
  refine g_callV W1 (argsL := []) (st := [.ref rt]) (wd_207 hw) (wd_208 hw) (wd_210 hw) (wd_209 hw) (wd_91 hw) (wd_211 hw) (by decide) (a := nt) H2f (i := 0) rfl (c_ncnt l Z a0 hw n0 nt tlA hdA caA ffA bsA pwA foA oaA ftI _ _ H2f) pd_7 rfl rfl rfl d26_6 (pc' := 9) rfl (by decide) (Wn := 1) (Nat.le_of_eq rfl) (by decide) (kc' := 0) (ks' := 0) rfl rfl (by decide) (by decide) ?_
  intro T3 v3 W3 hp3
  obtain ⟨rfl, H3⟩ := hp3
  show Goes _ _ _ _ (State.setTop _ (mkF _ _ _ [.int (3 : Int32), .ref rt]))
  refine g_iconst W3 d26_9 (pc' := 10) rfl (v := (1 : Int32)) (by decide) ?_
  refine g_iadd W3 d26_10 (pc' := 11) rfl (v := (4 : Int32)) (by decide) ?_
  refine g_newarrI W3 (wd_108 hw) H3 (by decide) (n := 4) (by decide) (cap := 4) (by decide) (by decide) d26_11 (pc' := 13) rfl (kc' := 1) (ks' := 4) rfl rfl (by decide) (by decide) ?_
  intro T4 a4 W4 H4
  refine g_putf W4 (wd_212 hw) Via.refl (Or.inr ⟨(wd_213 hw), rfl, rfl⟩) (wd_201 hw) (ty := (.array .int)) (by decide) rfl rfl H4 (i := 2) rfl (jx := 0) rfl d26_13 (pc' := 16) rfl (L' := ((a4, IaC Z (List.replicate 4 0)) :: (nt, o_Network Z (.int (3 : Int32)) (.int ftI) (.ref tlA) (.ref hdA) (.ref caA) (.ref ffA) (.ref bsA) (.ref pwA) (.ref foA) (.ref oaA)) :: (rt, o_RouteTimes Z (.ref a4) .null) :: (foA, IaC Z FO) :: (oaA, IaC Z OA) :: (hdA, IaC Z HDl) :: (tmA, DaC Z TM) :: (al, o_ArrayList Z (.int mcP) (.ref el) (.int sz)) :: (el, RaC Z "java/lang/Object" lv) :: F)) rfl ?_
  intro T5 W5 H5
  refine g_aloadN W5 d26_16 (pc' := 17) rfl rfl rfl ?_
  refine g_getf W5 (wd_212 hw) Via.refl H5 (i := 2) rfl (jx := 0) rfl d26_17 (pc' := 20) rfl ?_
  intro T6 W6 H6
  refine g_iconst W6 d26_20 (pc' := 21) rfl (v := (-1 : Int32)) (by decide) ?_
  refine g_callS W6 (argsL := [.ref a4, .int (-1 : Int32)]) (st := []) (wd_214 hw) (wd_215 hw) (wd_216 hw) (wd_217 hw) (by decide) (c_filli l Z a0 hw n0 a4 (List.replicate 4 0) rfl _ _ H6) pd_12 rfl rfl rfl d26_21 (pc' := 24) rfl (by decide) (Wn := 0) (Nat.le_of_eq rfl) (by decide) (kc' := 1) (ks' := 4) rfl rfl (by decide) (by decide) ?_
  intro T7 v7 W7 hp7
  obtain ⟨rfl, H7⟩ := hp7
  show Goes _ _ _ _ (State.setTop _ (mkF _ _ _ []))
  refine g_aloadN W7 d26_24 (pc' := 25) rfl rfl rfl ?_
  have H8f := Hp.fr1 H7
  refine g_callV W7 (argsL := []) (st := []) (wd_207 hw) (wd_208 hw) (wd_210 hw) (wd_209 hw) (wd_91 hw) (wd_211 hw) (by decide) (a := nt) H8f (i := 0) rfl (c_ncnt l Z a0 hw n0 nt tlA hdA caA ffA bsA pwA foA oaA ftI _ _ H8f) pd_7 rfl rfl rfl d26_25 (pc' := 28) rfl (by decide) (Wn := 0) (Nat.le_of_eq rfl) (by decide) (kc' := 1) (ks' := 4) rfl rfl (by decide) (by decide) ?_
  intro T9 v9 W9 hp9
  obtain ⟨rfl, H9⟩ := hp9
  show Goes _ _ _ _ (State.setTop _ (mkF _ _ _ [.int (3 : Int32)]))
  refine g_newarrI W9 (wd_108 hw) H9 (by decide) (n := 3) (by decide) (cap := 3) (by decide) (by decide) d26_28 (pc' := 30) rfl (kc' := 2) (ks' := 7) rfl rfl (by decide) (by decide) ?_
  intro T10 a10 W10 H10
  refine g_astore W10 d26_30 (pc' := 32) rfl rfl (ls' := #[.val (.ref rt), .val (.ref nt), .val (.ref tmA), .val (.ref al), .val (.ref a10), .unset, .unset, .unset, .unset, .unset]) rfl ?_
  refine g_iconst W10 d26_32 (pc' := 33) rfl (v := (0 : Int32)) (by decide) ?_
  refine g_istore W10 d26_33 (pc' := 35) rfl (ls' := #[.val (.ref rt), .val (.ref nt), .val (.ref tmA), .val (.ref al), .val (.ref a10), .val (.int (0 : Int32)), .unset, .unset, .unset, .unset]) rfl ?_
  refine g_aloadN W10 d26_35 (pc' := 36) rfl rfl rfl ?_
  have H11f := Hp.fr8 H10
  refine g_callF W10 (argsL := []) (st := []) (wd_218 hw) (wd_219 hw) (fun _ _ hZ => mvT hZ (wd_220 hw)) (wd_221 hw) (wd_222 hw) (wd_223 hw) (wd_224 hw) (wd_61 hw) (wd_6 hw) (wd_225 hw) (by decide) (a := al) (H11f.exa (i := 0) rfl) (c_aliter l Z a0 hw n0 al el mcP sz _ _ H11f) pd_17 rfl rfl rfl d26_36 (pc' := 41) rfl (by decide) (Wn := 0) (Nat.le_of_eq rfl) (by decide) (kc' := 3) (ks' := 11) rfl rfl (by decide) (by decide) ?_
  intro T12 v12 W12 hp12
  obtain ⟨it, rfl, H12⟩ := hp12
  show Goes _ _ _ _ (State.setTop _ (mkF _ _ _ [.ref it]))
  refine g_astore W12 d26_41 (pc' := 43) rfl rfl (ls' := #[.val (.ref rt), .val (.ref nt), .val (.ref tmA), .val (.ref al), .val (.ref a10), .val (.int (0 : Int32)), .val (.ref it), .unset, .unset, .unset]) rfl ?_
  have TL : ∀ (TJTL : State) (z6 z7 z8 : Addr) (z9 : Int32) (JF : List HRow) (RL EL : List Int32) (Rw : Nat → Int) (E : Nat → Nat) (cn : Nat) (cI : Int32) (hcI : cI.toInt = (cn : Int)) (rr : RI RL Rw) (re : REn EL E cn) (ei : EI Rw E cn) (s1 : 0 ≤ Rw k1) (s2 : 0 ≤ Rw k2) (s34 : sz = 2 → 0 ≤ Rw k3 ∧ 0 ≤ Rw k4), Wk Z ⟨"com/example/lanewright/lanewright/RouteTimes", "<init>", "(Lcom/example/lanewright/lanewright/Network;[DLjava/util/List;)V"⟩ prog_47_method_1_code 10 none n0 p l e ({ frames := 6, cells := 16, slots := 57, locals := 76 } : Room) s m #[.ref rt, .ref nt, .ref tmA, .ref al] below meth c TJTL 7 23 → Hp Z n0 TJTL.heap ((rt, o_RouteTimes Z (.ref a4) .null) :: (a4, IaC Z RL) :: (a10, IaC Z EL) :: (nt, o_Network Z (.int (3 : Int32)) (.int ftI) (.ref tlA) (.ref hdA) (.ref caA) (.ref ffA) (.ref bsA) (.ref pwA) (.ref foA) (.ref oaA)) :: (foA, IaC Z FO) :: (oaA, IaC Z OA) :: (hdA, IaC Z HDl) :: (tmA, DaC Z TM) :: JF) → Goes p e below (En s n0 (Room.cells ({ frames := 6, cells := 16, slots := 57, locals := 76 } : Room)) (Room.slots ({ frames := 6, cells := 16, slots := 57, locals := 76 } : Room)) (fun v h => ∃ (rA tA : Addr) (RL : List Int32) (xs : List Value) (J : List HRow) (Rw : Nat → Int), v = none ∧ Hp Z n0 h ((rt, o_RouteTimes Z (.ref rA) (.ref tA)) :: (rA, IaC Z RL) :: (tA, ArC Z (.array .double) xs) :: J) ∧ RI RL Rw ∧ 0 ≤ Rw k1 ∧ 0 ≤ Rw k2 ∧ (sz = 2 → 0 ≤ Rw k3 ∧ 0 ≤ Rw k4) ∧ TOk Z ftn T Hd tm Rw xs J)) (TJTL.setTop (mkF m 152 #[.val (.ref rt), .val (.ref nt), .val (.ref tmA), .val (.ref al), .val (.ref a10), .val (.int cI), .val (.ref z6), .val (.ref z7), .val (.ref z8), .val (.int z9)] [])) := by
    intro TJTL z6 z7 z8 z9 JF RL EL Rw E cn cI hcI rr re ei s1 s2 s34 WJTL HJTL
    have c1 := cntQ_pos b1.1 b1.2 s1
    have c2 := cntQ_le (Q := Rw)
    have c3 := ei.2
    have hc : cn = 1 ∨ cn = 2 ∨ cn = 3 := by omega
    rcases hc with rfl | rfl | rfl
    · obtain rfl : cI = (1 : Int32) := i32_lit hcI (by decide)
      obtain ⟨e0, eg0, eh0⟩ := re.2 0 (by omega)
      have be0 := ei.1.1 0 (by omega)
      refine g_aloadN WJTL d26_152 (pc' := 153) rfl rfl rfl ?_
      refine g_iload WJTL d26_153 (pc' := 155) rfl rfl ?_
      refine g_iload WJTL d26_155 (pc' := 157) rfl rfl ?_
      refine g_grid WJTL (wd_374 hw) (wd_375 hw) (wd_113 hw) HJTL (x := (1 : Int32)) (N := 1) (by decide) (by decide) (by decide) d26_157 (pc' := 161) rfl (kc' := 9) (ks' := 25) rfl rfl (by decide) (by decide) ?_
      intro T13 a13 xs13 hxs13 W13 H13
      obtain ⟨x13_0, rfl⟩ := len_1 hxs13
      replace H13 : Hp Z n0 T13.heap ((a13, ArC Z (.array .double) [.ref x13_0]) :: (x13_0, DaC Z ([0] : List UInt64)) :: (rt, o_RouteTimes Z (.ref a4) .null) :: (a4, IaC Z RL) :: (a10, IaC Z EL) :: (nt, o_Network Z (.int (3 : Int32)) (.int ftI) (.ref tlA) (.ref hdA) (.ref caA) (.ref ffA) (.ref bsA) (.ref pwA) (.ref foA) (.ref oaA)) :: (foA, IaC Z FO) :: (oaA, IaC Z OA) :: (hdA, IaC Z HDl) :: (tmA, DaC Z TM) :: JF) := H13
      refine g_putf W13 (wd_376 hw) Via.refl (Or.inr ⟨(wd_377 hw), rfl, rfl⟩) (wd_201 hw) (ty := (.array (.array .double))) (by decide) rfl rfl H13 (i := 2) rfl (jx := 1) rfl d26_161 (pc' := 164) rfl (L' := ((a13, ArC Z (.array .double) [.ref x13_0]) :: (x13_0, DaC Z ([0] : List UInt64)) :: (rt, o_RouteTimes Z (.ref a4) (.ref a13)) :: (a4, IaC Z RL) :: (a10, IaC Z EL) :: (nt, o_Network Z (.int (3 : Int32)) (.int ftI) (.ref tlA) (.ref hdA) (.ref caA) (.ref ffA) (.ref bsA) (.ref pwA) (.ref foA) (.ref oaA)) :: (foA, IaC Z FO) :: (oaA, IaC Z OA) :: (hdA, IaC Z HDl) :: (tmA, DaC Z TM) :: JF)) rfl ?_
      intro T14 W14 H14
      refine g_new W14 (wd_378 hw) (wd_379 hw) (wd_380 hw) (la_ShortestPathTree hw) (by decide) H14 d26_164 (pc' := 167) rfl (kc' := 10) (ks' := 31) rfl rfl (by decide) (by decide) ?_
      intro T15 a15 W15 H15
      refine g_dup W15 d26_167 (pc' := 168) rfl rfl ?_
      refine g_aloadN W15 d26_168 (pc' := 169) rfl rfl rfl ?_
      have H16f := Hp.fr6 H15
      have H17f := Hp.fr1 H16f
      refine g_callI W15 (argsL := [.ref nt]) (st := [.ref a15]) rfl (wd_381 hw) (wd_382 hw) (wd_380 hw) (wd_383 hw) (by decide) (a := a15) (c_tini l Z a0 hw n0 a15 nt tlA hdA caA ffA bsA pwA foA oaA ftI _ _ H17f) pd_18 rfl rfl rfl d26_169 (pc' := 172) rfl (by decide) (Wn := 1) (Nat.le_of_eq rfl) (by decide) (kc' := 14) (ks' := 47) rfl rfl (by decide) (by decide) ?_
      intro T18 v18 W18 hp18
      obtain ⟨dsA, prA, hpA, psA, rfl, H18⟩ := hp18
      show Goes _ _ _ _ (State.setTop _ (mkF _ _ _ [.ref a15]))
      refine g_astore W18 d26_172 (pc' := 174) rfl rfl (ls' := #[.val (.ref rt), .val (.ref nt), .val (.ref tmA), .val (.ref al), .val (.ref a10), .val (.int (1 : Int32)), .val (.ref a15), .val (.ref z7), .val (.ref z8), .val (.int z9)]) rfl ?_
      refine g_iconst W18 d26_174 (pc' := 175) rfl (v := (0 : Int32)) (by decide) ?_
      refine g_istore W18 d26_175 (pc' := 177) rfl (ls' := #[.val (.ref rt), .val (.ref nt), .val (.ref tmA), .val (.ref al), .val (.ref a10), .val (.int (1 : Int32)), .val (.ref a15), .val (.int (0 : Int32)), .val (.ref z8), .val (.int z9)]) rfl ?_
      refine g_iload W18 d26_177 (pc' := 179) rfl rfl ?_
      refine g_iload W18 d26_179 (pc' := 181) rfl rfl ?_
      refine g_icmp W18 d26_181 (pcy := 237) (by decide) (pc' := 184) rfl (fun (h : ¬ (0 : Int32) < (1 : Int32)) => absurd h (by decide)) (fun _ => ?_)
      refine g_aload W18 d26_184 (pc' := 186) rfl rfl rfl ?_
      refine g_aload W18 d26_186 (pc' := 188) rfl rfl rfl ?_
      refine g_iload W18 d26_188 (pc' := 190) rfl rfl ?_
      refine g_ialoadI W18 H18 (i := 10) rfl (jx := 0) (by decide) (u := e0) eg0 d26_190 (pc' := 191) rfl ?_
      refine g_aloadN W18 d26_191 (pc' := 192) rfl rfl rfl ?_
      have H19f := Hp.fr14 H18
      have H20f := Hp.fr14 H19f
      have H21f := Hp.fr14 H20f
      have H22f := Hp.fr14 H21f
      have H23f := Hp.fr9 H22f
      have H24f := Hp.fr9 H23f
      have H25f := Hp.fr9 H24f
      have H26f := Hp.fr9 H25f
      have H27f := Hp.fr9 H26f
      have H28f := Hp.fr9 H27f
      refine g_callV W18 (argsL := [.int e0, .ref tmA]) (st := []) (wd_396 hw) (wd_397 hw) (wd_399 hw) (wd_398 hw) (wd_380 hw) (wd_400 hw) (by decide) (a := a15) H28f (i := 0) rfl (c_build l Z a0 hw n0 a15 nt dsA prA hpA psA tlA hdA caA ffA bsA pwA foA oaA tmA ftI e0 FO OA HDl TM (E 0) ftn T Hd tm eh0 hft arcs netF hdF tmF netC be0.1 be0.2.1 (0 : Int32) ([0, 0, 0, 0] : List UInt64) (List.replicate 4 0) (List.replicate 4 0) (List.replicate 4 0) (fun _ => 0) rfl rfl rn_0 rfl _ _ H28f) pd_19 rfl rfl rfl d26_192 (pc' := 195) rfl (by decide) (Wn := 0) (Nat.le_of_eq rfl) (by decide) (kc' := 14) (ks' := 47) rfl rfl (by decide) (by decide) ?_
      intro T29 v29 W29 hp29
      obtain ⟨hz0, DL0, PL0, HL0, QL0, D0, P0, hh0, Q0, Rk0, S0, kk0, rfl, rd0, rp0, rh0, rq0, I0, rx0, H29⟩ := hp29
      show Goes _ _ _ _ (State.setTop _ (mkF _ _ _ []))
      obtain ⟨x00, xg00, xh00⟩ := rd0.2 (E 0) (by omega)
      rw [best I0 rx0 arcs be0.1 be0.2.1 be0.1 be0.2.1] at xh00
      refine g_iconst W29 d26_195 (pc' := 196) rfl (v := (0 : Int32)) (by decide) ?_
      refine g_istore W29 d26_196 (pc' := 198) rfl (ls' := #[.val (.ref rt), .val (.ref nt), .val (.ref tmA), .val (.ref al), .val (.ref a10), .val (.int (1 : Int32)), .val (.ref a15), .val (.int (0 : Int32)), .val (.int (0 : Int32)), .val (.int z9)]) rfl ?_
      refine g_iload W29 d26_198 (pc' := 200) rfl rfl ?_
      refine g_iload W29 d26_200 (pc' := 202) rfl rfl ?_
      refine g_icmp W29 d26_202 (pcy := 231) (by decide) (pc' := 205) rfl (fun (h : ¬ (0 : Int32) < (1 : Int32)) => absurd h (by decide)) (fun _ => ?_)
      refine g_aloadN W29 d26_205 (pc' := 206) rfl rfl rfl ?_
      refine g_getf W29 (wd_376 hw) Via.refl H29 (i := 12) rfl (jx := 1) rfl d26_206 (pc' := 209) rfl ?_
      intro T30 W30 H30
      refine g_iload W30 d26_209 (pc' := 211) rfl rfl ?_
      refine g_aaloadG W30 H30 (i := 10) rfl (jx := 0) (by decide) (v := .ref x13_0) rfl d26_211 (pc' := 212) rfl ?_
      refine g_iload W30 d26_212 (pc' := 214) rfl rfl ?_
      refine g_aload W30 d26_214 (pc' := 216) rfl rfl rfl ?_
      refine g_aload W30 d26_216 (pc' := 218) rfl rfl rfl ?_
      refine g_iload W30 d26_218 (pc' := 220) rfl rfl ?_
      refine g_ialoadI W30 H30 (i := 14) rfl (jx := 0) (by decide) (u := e0) eg0 d26_220 (pc' := 221) rfl ?_
      have H31f := Hp.fr1 H30
      have H32f := Hp.fr1 H31f
      refine g_callV W30 (argsL := [.int e0]) (st := [.int (0 : Int32), .ref x13_0]) (wd_430 hw) (wd_431 hw) (wd_433 hw) (wd_432 hw) (wd_380 hw) (wd_434 hw) (by decide) (a := a15) H32f (i := 0) rfl (c_dist l Z a0 hw n0 a15 nt dsA prA hpA psA hz0 DL0 e0 (E 0) eh0 x00 xg00 _ _ H32f) pd_20 rfl rfl rfl d26_221 (pc' := 224) rfl (by decide) (Wn := 2) (Nat.le_of_eq rfl) (by decide) (kc' := 14) (ks' := 47) rfl rfl (by decide) (by decide) ?_
      intro T33 v33 W33 hp33
      obtain ⟨rfl, H33⟩ := hp33
      show Goes _ _ _ _ (State.setTop _ (mkF _ _ _ [.double x00, .int (0 : Int32), .ref x13_0]))
      refine g_dastoreD W33 H33 (i := 11) rfl (jx := 0) (by decide) (by exact (by decide : 0 < 1)) d26_224 (pc' := 225) rfl (L' := ((a15, o_ShortestPathTree Z (.ref nt) (.ref dsA) (.ref prA) (.ref hpA) (.ref psA) (.int hz0)) :: (dsA, DaC Z DL0) :: (prA, IaC Z PL0) :: (hpA, IaC Z HL0) :: (psA, IaC Z QL0) :: (nt, o_Network Z (.int (3 : Int32)) (.int ftI) (.ref tlA) (.ref hdA) (.ref caA) (.ref ffA) (.ref bsA) (.ref pwA) (.ref foA) (.ref oaA)) :: (foA, IaC Z FO) :: (oaA, IaC Z OA) :: (hdA, IaC Z HDl) :: (tmA, DaC Z TM) :: (a13, ArC Z (.array .double) [.ref x13_0]) :: (x13_0, DaC Z ([x00] : List UInt64)) :: (rt, o_RouteTimes Z (.ref a4) (.ref a13)) :: (a4, IaC Z RL) :: (a10, IaC Z EL) :: JF)) rfl ?_
      intro T34 W34 H34
      refine g_iinc W34 d26_225 (pc' := 228) rfl rfl (v := (1 : Int32)) (by decide) (ls' := #[.val (.ref rt), .val (.ref nt), .val (.ref tmA), .val (.ref al), .val (.ref a10), .val (.int (1 : Int32)), .val (.ref a15), .val (.int (0 : Int32)), .val (.int (1 : Int32)), .val (.int z9)]) rfl ?_
      refine g_goto W34 d26_228 (pc' := 198) (by decide) ?_
      refine g_iload W34 d26_198 (pc' := 200) rfl rfl ?_
      refine g_iload W34 d26_200 (pc' := 202) rfl rfl ?_
      refine g_icmp W34 d26_202 (pcy := 231) (by decide) (pc' := 205) rfl (fun _ => ?_) (fun (h : ¬ ¬ (1 : Int32) < (1 : Int32)) => absurd h (by decide))
      refine g_iinc W34 d26_231 (pc' := 234) rfl rfl (v := (1 : Int32)) (by decide) (ls' := #[.val (.ref rt), .val (.ref nt), .val (.ref tmA), .val (.ref al), .val (.ref a10), .val (.int (1 : Int32)), .val (.ref a15), .val (.int (1 : Int32)), .val (.int (1 : Int32)), .val (.int z9)]) rfl ?_
      refine g_goto W34 d26_234 (pc' := 177) (by decide) ?_
      refine g_iload W34 d26_177 (pc' := 179) rfl rfl ?_
      refine g_iload W34 d26_179 (pc' := 181) rfl rfl ?_
      refine g_icmp W34 d26_181 (pcy := 237) (by decide) (pc' := 184) rfl (fun _ => ?_) (fun (h : ¬ ¬ (1 : Int32) < (1 : Int32)) => absurd h (by decide))
      have H35f := Hp.fr10 H34
      have H36f := Hp.fr13 H35f
      have H37f := Hp.fr13 H36f
      have fin : ∀ J, (∀ r ∈ [(x13_0, DaC Z [x00])], r ∈ J) → TOk Z ftn T Hd tm Rw [.ref x13_0] J := fun J hJ => tok ei.1 (fun i j hi hj => by
        match i, j, hi, hj with
        | 0, 0, _, _ => exact ⟨x13_0, _, x00, rfl, hJ _ (List.mem_cons_self ..), rfl, xh00⟩)
      exact g_return W34 d26_237 ⟨a4, a13, RL, _, _, Rw, rfl, H37f, rr, s1, s2, s34, fin _ (fun r hr => by simp only [List.mem_cons, List.not_mem_nil, or_false] at hr; rcases hr with rfl; exact (mc10 (List.mem_cons_self ..)))⟩ (by decide) (by decide)
    · obtain rfl : cI = (2 : Int32) := i32_lit hcI (by decide)
      obtain ⟨e0, eg0, eh0⟩ := re.2 0 (by omega)
      have be0 := ei.1.1 0 (by omega)
      obtain ⟨e1, eg1, eh1⟩ := re.2 1 (by omega)
      have be1 := ei.1.1 1 (by omega)
      refine g_aloadN WJTL d26_152 (pc' := 153) rfl rfl rfl ?_
      refine g_iload WJTL d26_153 (pc' := 155) rfl rfl ?_
      refine g_iload WJTL d26_155 (pc' := 157) rfl rfl ?_
      refine g_grid WJTL (wd_374 hw) (wd_375 hw) (wd_113 hw) HJTL (x := (2 : Int32)) (N := 2) (by decide) (by decide) (by decide) d26_157 (pc' := 161) rfl (kc' := 10) (ks' := 29) rfl rfl (by decide) (by decide) ?_
      intro T38 a38 xs38 hxs38 W38 H38
      obtain ⟨x38_0, x38_1, rfl⟩ := len_2 hxs38
      replace H38 : Hp Z n0 T38.heap ((a38, ArC Z (.array .double) [.ref x38_0, .ref x38_1]) :: (x38_0, DaC Z ([0, 0] : List UInt64)) :: (x38_1, DaC Z ([0, 0] : List UInt64)) :: (rt, o_RouteTimes Z (.ref a4) .null) :: (a4, IaC Z RL) :: (a10, IaC Z EL) :: (nt, o_Network Z (.int (3 : Int32)) (.int ftI) (.ref tlA) (.ref hdA) (.ref caA) (.ref ffA) (.ref bsA) (.ref pwA) (.ref foA) (.ref oaA)) :: (foA, IaC Z FO) :: (oaA, IaC Z OA) :: (hdA, IaC Z HDl) :: (tmA, DaC Z TM) :: JF) := H38
      refine g_putf W38 (wd_376 hw) Via.refl (Or.inr ⟨(wd_377 hw), rfl, rfl⟩) (wd_201 hw) (ty := (.array (.array .double))) (by decide) rfl rfl H38 (i := 3) rfl (jx := 1) rfl d26_161 (pc' := 164) rfl (L' := ((a38, ArC Z (.array .double) [.ref x38_0, .ref x38_1]) :: (x38_0, DaC Z ([0, 0] : List UInt64)) :: (x38_1, DaC Z ([0, 0] : List UInt64)) :: (rt, o_RouteTimes Z (.ref a4) (.ref a38)) :: (a4, IaC Z RL) :: (a10, IaC Z EL) :: (nt, o_Network Z (.int (3 : Int32)) (.int ftI) (.ref tlA) (.ref hdA) (.ref caA) (.ref ffA) (.ref bsA) (.ref pwA) (.ref foA) (.ref oaA)) :: (foA, IaC Z FO) :: (oaA, IaC Z OA) :: (hdA, IaC Z HDl) :: (tmA, DaC Z TM) :: JF)) rfl ?_
      intro T39 W39 H39
      refine g_new W39 (wd_378 hw) (wd_379 hw) (wd_380 hw) (la_ShortestPathTree hw) (by decide) H39 d26_164 (pc' := 167) rfl (kc' := 11) (ks' := 35) rfl rfl (by decide) (by decide) ?_
      intro T40 a40 W40 H40
      refine g_dup W40 d26_167 (pc' := 168) rfl rfl ?_
      refine g_aloadN W40 d26_168 (pc' := 169) rfl rfl rfl ?_
      have H41f := Hp.fr7 H40
      have H42f := Hp.fr1 H41f
      refine g_callI W40 (argsL := [.ref nt]) (st := [.ref a40]) rfl (wd_381 hw) (wd_382 hw) (wd_380 hw) (wd_383 hw) (by decide) (a := a40) (c_tini l Z a0 hw n0 a40 nt tlA hdA caA ffA bsA pwA foA oaA ftI _ _ H42f) pd_18 rfl rfl rfl d26_169 (pc' := 172) rfl (by decide) (Wn := 1) (Nat.le_of_eq rfl) (by decide) (kc' := 15) (ks' := 51) rfl rfl (by decide) (by decide) ?_
      intro T43 v43 W43 hp43
      obtain ⟨dsA, prA, hpA, psA, rfl, H43⟩ := hp43
      show Goes _ _ _ _ (State.setTop _ (mkF _ _ _ [.ref a40]))
      refine g_astore W43 d26_172 (pc' := 174) rfl rfl (ls' := #[.val (.ref rt), .val (.ref nt), .val (.ref tmA), .val (.ref al), .val (.ref a10), .val (.int (2 : Int32)), .val (.ref a40), .val (.ref z7), .val (.ref z8), .val (.int z9)]) rfl ?_
      refine g_iconst W43 d26_174 (pc' := 175) rfl (v := (0 : Int32)) (by decide) ?_
      refine g_istore W43 d26_175 (pc' := 177) rfl (ls' := #[.val (.ref rt), .val (.ref nt), .val (.ref tmA), .val (.ref al), .val (.ref a10), .val (.int (2 : Int32)), .val (.ref a40), .val (.int (0 : Int32)), .val (.ref z8), .val (.int z9)]) rfl ?_
      refine g_iload W43 d26_177 (pc' := 179) rfl rfl ?_
      refine g_iload W43 d26_179 (pc' := 181) rfl rfl ?_
      refine g_icmp W43 d26_181 (pcy := 237) (by decide) (pc' := 184) rfl (fun (h : ¬ (0 : Int32) < (2 : Int32)) => absurd h (by decide)) (fun _ => ?_)
      refine g_aload W43 d26_184 (pc' := 186) rfl rfl rfl ?_
      refine g_aload W43 d26_186 (pc' := 188) rfl rfl rfl ?_
      refine g_iload W43 d26_188 (pc' := 190) rfl rfl ?_
      refine g_ialoadI W43 H43 (i := 11) rfl (jx := 0) (by decide) (u := e0) eg0 d26_190 (pc' := 191) rfl ?_
      refine g_aloadN W43 d26_191 (pc' := 192) rfl rfl rfl ?_
      have H44f := Hp.fr15 H43
      have H45f := Hp.fr15 H44f
      have H46f := Hp.fr15 H45f
      have H47f := Hp.fr15 H46f
      have H48f := Hp.fr9 H47f
      have H49f := Hp.fr9 H48f
      have H50f := Hp.fr9 H49f
      have H51f := Hp.fr9 H50f
      have H52f := Hp.fr9 H51f
      have H53f := Hp.fr9 H52f
      refine g_callV W43 (argsL := [.int e0, .ref tmA]) (st := []) (wd_396 hw) (wd_397 hw) (wd_399 hw) (wd_398 hw) (wd_380 hw) (wd_400 hw) (by decide) (a := a40) H53f (i := 0) rfl (c_build l Z a0 hw n0 a40 nt dsA prA hpA psA tlA hdA caA ffA bsA pwA foA oaA tmA ftI e0 FO OA HDl TM (E 0) ftn T Hd tm eh0 hft arcs netF hdF tmF netC be0.1 be0.2.1 (0 : Int32) ([0, 0, 0, 0] : List UInt64) (List.replicate 4 0) (List.replicate 4 0) (List.replicate 4 0) (fun _ => 0) rfl rfl rn_0 rfl _ _ H53f) pd_19 rfl rfl rfl d26_192 (pc' := 195) rfl (by decide) (Wn := 0) (Nat.le_of_eq rfl) (by decide) (kc' := 15) (ks' := 51) rfl rfl (by decide) (by decide) ?_
      intro T54 v54 W54 hp54
      obtain ⟨hz0, DL0, PL0, HL0, QL0, D0, P0, hh0, Q0, Rk0, S0, kk0, rfl, rd0, rp0, rh0, rq0, I0, rx0, H54⟩ := hp54
      show Goes _ _ _ _ (State.setTop _ (mkF _ _ _ []))
      obtain ⟨x00, xg00, xh00⟩ := rd0.2 (E 0) (by omega)
      rw [best I0 rx0 arcs be0.1 be0.2.1 be0.1 be0.2.1] at xh00
      refine g_iconst W54 d26_195 (pc' := 196) rfl (v := (0 : Int32)) (by decide) ?_
      refine g_istore W54 d26_196 (pc' := 198) rfl (ls' := #[.val (.ref rt), .val (.ref nt), .val (.ref tmA), .val (.ref al), .val (.ref a10), .val (.int (2 : Int32)), .val (.ref a40), .val (.int (0 : Int32)), .val (.int (0 : Int32)), .val (.int z9)]) rfl ?_
      refine g_iload W54 d26_198 (pc' := 200) rfl rfl ?_
      refine g_iload W54 d26_200 (pc' := 202) rfl rfl ?_
      refine g_icmp W54 d26_202 (pcy := 231) (by decide) (pc' := 205) rfl (fun (h : ¬ (0 : Int32) < (2 : Int32)) => absurd h (by decide)) (fun _ => ?_)
      refine g_aloadN W54 d26_205 (pc' := 206) rfl rfl rfl ?_
      refine g_getf W54 (wd_376 hw) Via.refl H54 (i := 13) rfl (jx := 1) rfl d26_206 (pc' := 209) rfl ?_
      intro T55 W55 H55
      refine g_iload W55 d26_209 (pc' := 211) rfl rfl ?_
      refine g_aaloadG W55 H55 (i := 10) rfl (jx := 0) (by decide) (v := .ref x38_0) rfl d26_211 (pc' := 212) rfl ?_
      refine g_iload W55 d26_212 (pc' := 214) rfl rfl ?_
      refine g_aload W55 d26_214 (pc' := 216) rfl rfl rfl ?_
      refine g_aload W55 d26_216 (pc' := 218) rfl rfl rfl ?_
      refine g_iload W55 d26_218 (pc' := 220) rfl rfl ?_
      refine g_ialoadI W55 H55 (i := 15) rfl (jx := 0) (by decide) (u := e0) eg0 d26_220 (pc' := 221) rfl ?_
      have H56f := Hp.fr1 H55
      have H57f := Hp.fr1 H56f
      refine g_callV W55 (argsL := [.int e0]) (st := [.int (0 : Int32), .ref x38_0]) (wd_430 hw) (wd_431 hw) (wd_433 hw) (wd_432 hw) (wd_380 hw) (wd_434 hw) (by decide) (a := a40) H57f (i := 0) rfl (c_dist l Z a0 hw n0 a40 nt dsA prA hpA psA hz0 DL0 e0 (E 0) eh0 x00 xg00 _ _ H57f) pd_20 rfl rfl rfl d26_221 (pc' := 224) rfl (by decide) (Wn := 2) (Nat.le_of_eq rfl) (by decide) (kc' := 15) (ks' := 51) rfl rfl (by decide) (by decide) ?_
      intro T58 v58 W58 hp58
      obtain ⟨rfl, H58⟩ := hp58
      show Goes _ _ _ _ (State.setTop _ (mkF _ _ _ [.double x00, .int (0 : Int32), .ref x38_0]))
      obtain ⟨x01, xg01, xh01⟩ := rd0.2 (E 1) (by omega)
      rw [best I0 rx0 arcs be0.1 be0.2.1 be1.1 be1.2.1] at xh01
      refine g_dastoreD W58 H58 (i := 11) rfl (jx := 0) (by decide) (by exact (by decide : 0 < 2)) d26_224 (pc' := 225) rfl (L' := ((a40, o_ShortestPathTree Z (.ref nt) (.ref dsA) (.ref prA) (.ref hpA) (.ref psA) (.int hz0)) :: (dsA, DaC Z DL0) :: (prA, IaC Z PL0) :: (hpA, IaC Z HL0) :: (psA, IaC Z QL0) :: (nt, o_Network Z (.int (3 : Int32)) (.int ftI) (.ref tlA) (.ref hdA) (.ref caA) (.ref ffA) (.ref bsA) (.ref pwA) (.ref foA) (.ref oaA)) :: (foA, IaC Z FO) :: (oaA, IaC Z OA) :: (hdA, IaC Z HDl) :: (tmA, DaC Z TM) :: (a38, ArC Z (.array .double) [.ref x38_0, .ref x38_1]) :: (x38_0, DaC Z ([x00, 0] : List UInt64)) :: (x38_1, DaC Z ([0, 0] : List UInt64)) :: (rt, o_RouteTimes Z (.ref a4) (.ref a38)) :: (a4, IaC Z RL) :: (a10, IaC Z EL) :: JF)) rfl ?_
      intro T59 W59 H59
      refine g_iinc W59 d26_225 (pc' := 228) rfl rfl (v := (1 : Int32)) (by decide) (ls' := #[.val (.ref rt), .val (.ref nt), .val (.ref tmA), .val (.ref al), .val (.ref a10), .val (.int (2 : Int32)), .val (.ref a40), .val (.int (0 : Int32)), .val (.int (1 : Int32)), .val (.int z9)]) rfl ?_
      refine g_goto W59 d26_228 (pc' := 198) (by decide) ?_
      refine g_iload W59 d26_198 (pc' := 200) rfl rfl ?_
      refine g_iload W59 d26_200 (pc' := 202) rfl rfl ?_
      refine g_icmp W59 d26_202 (pcy := 231) (by decide) (pc' := 205) rfl (fun (h : ¬ (1 : Int32) < (2 : Int32)) => absurd h (by decide)) (fun _ => ?_)
      refine g_aloadN W59 d26_205 (pc' := 206) rfl rfl rfl ?_
      refine g_getf W59 (wd_376 hw) Via.refl H59 (i := 13) rfl (jx := 1) rfl d26_206 (pc' := 209) rfl ?_
      intro T60 W60 H60
      refine g_iload W60 d26_209 (pc' := 211) rfl rfl ?_
      refine g_aaloadG W60 H60 (i := 10) rfl (jx := 0) (by decide) (v := .ref x38_0) rfl d26_211 (pc' := 212) rfl ?_
      refine g_iload W60 d26_212 (pc' := 214) rfl rfl ?_
      refine g_aload W60 d26_214 (pc' := 216) rfl rfl rfl ?_
      refine g_aload W60 d26_216 (pc' := 218) rfl rfl rfl ?_
      refine g_iload W60 d26_218 (pc' := 220) rfl rfl ?_
      refine g_ialoadI W60 H60 (i := 15) rfl (jx := 1) (by decide) (u := e1) eg1 d26_220 (pc' := 221) rfl ?_
      have H61f := Hp.fr1 H60
      have H62f := Hp.fr1 H61f
      refine g_callV W60 (argsL := [.int e1]) (st := [.int (1 : Int32), .ref x38_0]) (wd_430 hw) (wd_431 hw) (wd_433 hw) (wd_432 hw) (wd_380 hw) (wd_434 hw) (by decide) (a := a40) H62f (i := 0) rfl (c_dist l Z a0 hw n0 a40 nt dsA prA hpA psA hz0 DL0 e1 (E 1) eh1 x01 xg01 _ _ H62f) pd_20 rfl rfl rfl d26_221 (pc' := 224) rfl (by decide) (Wn := 2) (Nat.le_of_eq rfl) (by decide) (kc' := 15) (ks' := 51) rfl rfl (by decide) (by decide) ?_
      intro T63 v63 W63 hp63
      obtain ⟨rfl, H63⟩ := hp63
      show Goes _ _ _ _ (State.setTop _ (mkF _ _ _ [.double x01, .int (1 : Int32), .ref x38_0]))
      refine g_dastoreD W63 H63 (i := 11) rfl (jx := 1) (by decide) (by exact (by decide : 1 < 2)) d26_224 (pc' := 225) rfl (L' := ((a40, o_ShortestPathTree Z (.ref nt) (.ref dsA) (.ref prA) (.ref hpA) (.ref psA) (.int hz0)) :: (dsA, DaC Z DL0) :: (prA, IaC Z PL0) :: (hpA, IaC Z HL0) :: (psA, IaC Z QL0) :: (nt, o_Network Z (.int (3 : Int32)) (.int ftI) (.ref tlA) (.ref hdA) (.ref caA) (.ref ffA) (.ref bsA) (.ref pwA) (.ref foA) (.ref oaA)) :: (foA, IaC Z FO) :: (oaA, IaC Z OA) :: (hdA, IaC Z HDl) :: (tmA, DaC Z TM) :: (a38, ArC Z (.array .double) [.ref x38_0, .ref x38_1]) :: (x38_0, DaC Z ([x00, x01] : List UInt64)) :: (x38_1, DaC Z ([0, 0] : List UInt64)) :: (rt, o_RouteTimes Z (.ref a4) (.ref a38)) :: (a4, IaC Z RL) :: (a10, IaC Z EL) :: JF)) rfl ?_
      intro T64 W64 H64
      refine g_iinc W64 d26_225 (pc' := 228) rfl rfl (v := (2 : Int32)) (by decide) (ls' := #[.val (.ref rt), .val (.ref nt), .val (.ref tmA), .val (.ref al), .val (.ref a10), .val (.int (2 : Int32)), .val (.ref a40), .val (.int (0 : Int32)), .val (.int (2 : Int32)), .val (.int z9)]) rfl ?_
      refine g_goto W64 d26_228 (pc' := 198) (by decide) ?_
      refine g_iload W64 d26_198 (pc' := 200) rfl rfl ?_
      refine g_iload W64 d26_200 (pc' := 202) rfl rfl ?_
      refine g_icmp W64 d26_202 (pcy := 231) (by decide) (pc' := 205) rfl (fun _ => ?_) (fun (h : ¬ ¬ (2 : Int32) < (2 : Int32)) => absurd h (by decide))
      refine g_iinc W64 d26_231 (pc' := 234) rfl rfl (v := (1 : Int32)) (by decide) (ls' := #[.val (.ref rt), .val (.ref nt), .val (.ref tmA), .val (.ref al), .val (.ref a10), .val (.int (2 : Int32)), .val (.ref a40), .val (.int (1 : Int32)), .val (.int (2 : Int32)), .val (.int z9)]) rfl ?_
      refine g_goto W64 d26_234 (pc' := 177) (by decide) ?_
      refine g_iload W64 d26_177 (pc' := 179) rfl rfl ?_
      refine g_iload W64 d26_179 (pc' := 181) rfl rfl ?_
      refine g_icmp W64 d26_181 (pcy := 237) (by decide) (pc' := 184) rfl (fun (h : ¬ (1 : Int32) < (2 : Int32)) => absurd h (by decide)) (fun _ => ?_)
      refine g_aload W64 d26_184 (pc' := 186) rfl rfl rfl ?_
      refine g_aload W64 d26_186 (pc' := 188) rfl rfl rfl ?_
      refine g_iload W64 d26_188 (pc' := 190) rfl rfl ?_
      refine g_ialoadI W64 H64 (i := 15) rfl (jx := 1) (by decide) (u := e1) eg1 d26_190 (pc' := 191) rfl ?_
      refine g_aloadN W64 d26_191 (pc' := 192) rfl rfl rfl ?_
      have H65f := Hp.fr9 H64
      have H66f := Hp.fr9 H65f
      have H67f := Hp.fr9 H66f
      have H68f := Hp.fr9 H67f
      have H69f := Hp.fr9 H68f
      have H70f := Hp.fr9 H69f
      have H71f := Hp.fr9 H70f
      have H72f := Hp.fr9 H71f
      have H73f := Hp.fr9 H72f
      have H74f := Hp.fr9 H73f
      refine g_callV W64 (argsL := [.int e1, .ref tmA]) (st := []) (wd_396 hw) (wd_397 hw) (wd_399 hw) (wd_398 hw) (wd_380 hw) (wd_400 hw) (by decide) (a := a40) H74f (i := 0) rfl (c_build l Z a0 hw n0 a40 nt dsA prA hpA psA tlA hdA caA ffA bsA pwA foA oaA tmA ftI e1 FO OA HDl TM (E 1) ftn T Hd tm eh1 hft arcs netF hdF tmF netC be1.1 be1.2.1 hz0 DL0 PL0 HL0 QL0 hh0 rd0.1 rp0.1 rh0 rq0.1 _ _ H74f) pd_19 rfl rfl rfl d26_192 (pc' := 195) rfl (by decide) (Wn := 0) (Nat.le_of_eq rfl) (by decide) (kc' := 15) (ks' := 51) rfl rfl (by decide) (by decide) ?_
      intro T75 v75 W75 hp75
      obtain ⟨hz1, DL1, PL1, HL1, QL1, D1, P1, hh1, Q1, Rk1, S1, kk1, rfl, rd1, rp1, rh1, rq1, I1, rx1, H75⟩ := hp75
      show Goes _ _ _ _ (State.setTop _ (mkF _ _ _ []))
      obtain ⟨x10, xg10, xh10⟩ := rd1.2 (E 0) (by omega)
      rw [best I1 rx1 arcs be1.1 be1.2.1 be0.1 be0.2.1] at xh10
      refine g_iconst W75 d26_195 (pc' := 196) rfl (v := (0 : Int32)) (by decide) ?_
      refine g_istore W75 d26_196 (pc' := 198) rfl (ls' := #[.val (.ref rt), .val (.ref nt), .val (.ref tmA), .val (.ref al), .val (.ref a10), .val (.int (2 : Int32)), .val (.ref a40), .val (.int (1 : Int32)), .val (.int (0 : Int32)), .val (.int z9)]) rfl ?_
      refine g_iload W75 d26_198 (pc' := 200) rfl rfl ?_
      refine g_iload W75 d26_200 (pc' := 202) rfl rfl ?_
      refine g_icmp W75 d26_202 (pcy := 231) (by decide) (pc' := 205) rfl (fun (h : ¬ (0 : Int32) < (2 : Int32)) => absurd h (by decide)) (fun _ => ?_)
      refine g_aloadN W75 d26_205 (pc' := 206) rfl rfl rfl ?_
      refine g_getf W75 (wd_376 hw) Via.refl H75 (i := 13) rfl (jx := 1) rfl d26_206 (pc' := 209) rfl ?_
      intro T76 W76 H76
      refine g_iload W76 d26_209 (pc' := 211) rfl rfl ?_
      refine g_aaloadG W76 H76 (i := 10) rfl (jx := 1) (by decide) (v := .ref x38_1) rfl d26_211 (pc' := 212) rfl ?_
      refine g_iload W76 d26_212 (pc' := 214) rfl rfl ?_
      refine g_aload W76 d26_214 (pc' := 216) rfl rfl rfl ?_
      refine g_aload W76 d26_216 (pc' := 218) rfl rfl rfl ?_
      refine g_iload W76 d26_218 (pc' := 220) rfl rfl ?_
      refine g_ialoadI W76 H76 (i := 15) rfl (jx := 0) (by decide) (u := e0) eg0 d26_220 (pc' := 221) rfl ?_
      have H77f := Hp.fr1 H76
      have H78f := Hp.fr1 H77f
      refine g_callV W76 (argsL := [.int e0]) (st := [.int (0 : Int32), .ref x38_1]) (wd_430 hw) (wd_431 hw) (wd_433 hw) (wd_432 hw) (wd_380 hw) (wd_434 hw) (by decide) (a := a40) H78f (i := 0) rfl (c_dist l Z a0 hw n0 a40 nt dsA prA hpA psA hz1 DL1 e0 (E 0) eh0 x10 xg10 _ _ H78f) pd_20 rfl rfl rfl d26_221 (pc' := 224) rfl (by decide) (Wn := 2) (Nat.le_of_eq rfl) (by decide) (kc' := 15) (ks' := 51) rfl rfl (by decide) (by decide) ?_
      intro T79 v79 W79 hp79
      obtain ⟨rfl, H79⟩ := hp79
      show Goes _ _ _ _ (State.setTop _ (mkF _ _ _ [.double x10, .int (0 : Int32), .ref x38_1]))
      obtain ⟨x11, xg11, xh11⟩ := rd1.2 (E 1) (by omega)
      rw [best I1 rx1 arcs be1.1 be1.2.1 be1.1 be1.2.1] at xh11
      refine g_dastoreD W79 H79 (i := 12) rfl (jx := 0) (by decide) (by exact (by decide : 0 < 2)) d26_224 (pc' := 225) rfl (L' := ((a40, o_ShortestPathTree Z (.ref nt) (.ref dsA) (.ref prA) (.ref hpA) (.ref psA) (.int hz1)) :: (dsA, DaC Z DL1) :: (prA, IaC Z PL1) :: (hpA, IaC Z HL1) :: (psA, IaC Z QL1) :: (nt, o_Network Z (.int (3 : Int32)) (.int ftI) (.ref tlA) (.ref hdA) (.ref caA) (.ref ffA) (.ref bsA) (.ref pwA) (.ref foA) (.ref oaA)) :: (foA, IaC Z FO) :: (oaA, IaC Z OA) :: (hdA, IaC Z HDl) :: (tmA, DaC Z TM) :: (a38, ArC Z (.array .double) [.ref x38_0, .ref x38_1]) :: (x38_0, DaC Z ([x00, x01] : List UInt64)) :: (x38_1, DaC Z ([x10, 0] : List UInt64)) :: (rt, o_RouteTimes Z (.ref a4) (.ref a38)) :: (a4, IaC Z RL) :: (a10, IaC Z EL) :: JF)) rfl ?_
      intro T80 W80 H80
      refine g_iinc W80 d26_225 (pc' := 228) rfl rfl (v := (1 : Int32)) (by decide) (ls' := #[.val (.ref rt), .val (.ref nt), .val (.ref tmA), .val (.ref al), .val (.ref a10), .val (.int (2 : Int32)), .val (.ref a40), .val (.int (1 : Int32)), .val (.int (1 : Int32)), .val (.int z9)]) rfl ?_
      refine g_goto W80 d26_228 (pc' := 198) (by decide) ?_
      refine g_iload W80 d26_198 (pc' := 200) rfl rfl ?_
      refine g_iload W80 d26_200 (pc' := 202) rfl rfl ?_
      refine g_icmp W80 d26_202 (pcy := 231) (by decide) (pc' := 205) rfl (fun (h : ¬ (1 : Int32) < (2 : Int32)) => absurd h (by decide)) (fun _ => ?_)
      refine g_aloadN W80 d26_205 (pc' := 206) rfl rfl rfl ?_
      refine g_getf W80 (wd_376 hw) Via.refl H80 (i := 13) rfl (jx := 1) rfl d26_206 (pc' := 209) rfl ?_
      intro T81 W81 H81
      refine g_iload W81 d26_209 (pc' := 211) rfl rfl ?_
      refine g_aaloadG W81 H81 (i := 10) rfl (jx := 1) (by decide) (v := .ref x38_1) rfl d26_211 (pc' := 212) rfl ?_
      refine g_iload W81 d26_212 (pc' := 214) rfl rfl ?_
      refine g_aload W81 d26_214 (pc' := 216) rfl rfl rfl ?_
      refine g_aload W81 d26_216 (pc' := 218) rfl rfl rfl ?_
      refine g_iload W81 d26_218 (pc' := 220) rfl rfl ?_
      refine g_ialoadI W81 H81 (i := 15) rfl (jx := 1) (by decide) (u := e1) eg1 d26_220 (pc' := 221) rfl ?_
      have H82f := Hp.fr1 H81
      have H83f := Hp.fr1 H82f
      refine g_callV W81 (argsL := [.int e1]) (st := [.int (1 : Int32), .ref x38_1]) (wd_430 hw) (wd_431 hw) (wd_433 hw) (wd_432 hw) (wd_380 hw) (wd_434 hw) (by decide) (a := a40) H83f (i := 0) rfl (c_dist l Z a0 hw n0 a40 nt dsA prA hpA psA hz1 DL1 e1 (E 1) eh1 x11 xg11 _ _ H83f) pd_20 rfl rfl rfl d26_221 (pc' := 224) rfl (by decide) (Wn := 2) (Nat.le_of_eq rfl) (by decide) (kc' := 15) (ks' := 51) rfl rfl (by decide) (by decide) ?_
      intro T84 v84 W84 hp84
      obtain ⟨rfl, H84⟩ := hp84
      show Goes _ _ _ _ (State.setTop _ (mkF _ _ _ [.double x11, .int (1 : Int32), .ref x38_1]))
      refine g_dastoreD W84 H84 (i := 12) rfl (jx := 1) (by decide) (by exact (by decide : 1 < 2)) d26_224 (pc' := 225) rfl (L' := ((a40, o_ShortestPathTree Z (.ref nt) (.ref dsA) (.ref prA) (.ref hpA) (.ref psA) (.int hz1)) :: (dsA, DaC Z DL1) :: (prA, IaC Z PL1) :: (hpA, IaC Z HL1) :: (psA, IaC Z QL1) :: (nt, o_Network Z (.int (3 : Int32)) (.int ftI) (.ref tlA) (.ref hdA) (.ref caA) (.ref ffA) (.ref bsA) (.ref pwA) (.ref foA) (.ref oaA)) :: (foA, IaC Z FO) :: (oaA, IaC Z OA) :: (hdA, IaC Z HDl) :: (tmA, DaC Z TM) :: (a38, ArC Z (.array .double) [.ref x38_0, .ref x38_1]) :: (x38_0, DaC Z ([x00, x01] : List UInt64)) :: (x38_1, DaC Z ([x10, x11] : List UInt64)) :: (rt, o_RouteTimes Z (.ref a4) (.ref a38)) :: (a4, IaC Z RL) :: (a10, IaC Z EL) :: JF)) rfl ?_
      intro T85 W85 H85
      refine g_iinc W85 d26_225 (pc' := 228) rfl rfl (v := (2 : Int32)) (by decide) (ls' := #[.val (.ref rt), .val (.ref nt), .val (.ref tmA), .val (.ref al), .val (.ref a10), .val (.int (2 : Int32)), .val (.ref a40), .val (.int (1 : Int32)), .val (.int (2 : Int32)), .val (.int z9)]) rfl ?_
      refine g_goto W85 d26_228 (pc' := 198) (by decide) ?_
      refine g_iload W85 d26_198 (pc' := 200) rfl rfl ?_
      refine g_iload W85 d26_200 (pc' := 202) rfl rfl ?_
      refine g_icmp W85 d26_202 (pcy := 231) (by decide) (pc' := 205) rfl (fun _ => ?_) (fun (h : ¬ ¬ (2 : Int32) < (2 : Int32)) => absurd h (by decide))
      refine g_iinc W85 d26_231 (pc' := 234) rfl rfl (v := (2 : Int32)) (by decide) (ls' := #[.val (.ref rt), .val (.ref nt), .val (.ref tmA), .val (.ref al), .val (.ref a10), .val (.int (2 : Int32)), .val (.ref a40), .val (.int (2 : Int32)), .val (.int (2 : Int32)), .val (.int z9)]) rfl ?_
      refine g_goto W85 d26_234 (pc' := 177) (by decide) ?_
      refine g_iload W85 d26_177 (pc' := 179) rfl rfl ?_
      refine g_iload W85 d26_179 (pc' := 181) rfl rfl ?_
      refine g_icmp W85 d26_181 (pcy := 237) (by decide) (pc' := 184) rfl (fun _ => ?_) (fun (h : ¬ ¬ (2 : Int32) < (2 : Int32)) => absurd h (by decide))
      have H86f := Hp.fr10 H85
      have H87f := Hp.fr14 H86f
      have H88f := Hp.fr14 H87f
      have fin : ∀ J, (∀ r ∈ [(x38_0, DaC Z [x00, x01]), (x38_1, DaC Z [x10, x11])], r ∈ J) → TOk Z ftn T Hd tm Rw [.ref x38_0, .ref x38_1] J := fun J hJ => tok ei.1 (fun i j hi hj => by
        match i, j, hi, hj with
        | 0, 0, _, _ => exact ⟨x38_0, _, x00, rfl, hJ _ (List.mem_cons_self ..), rfl, xh00⟩
        | 0, 1, _, _ => exact ⟨x38_0, _, x01, rfl, hJ _ (List.mem_cons_self ..), rfl, xh01⟩
        | 1, 0, _, _ => exact ⟨x38_1, _, x10, rfl, hJ _ (mc1 (List.mem_cons_self ..)), rfl, xh10⟩
        | 1, 1, _, _ => exact ⟨x38_1, _, x11, rfl, hJ _ (mc1 (List.mem_cons_self ..)), rfl, xh11⟩)
      exact g_return W85 d26_237 ⟨a4, a38, RL, _, _, Rw, rfl, H88f, rr, s1, s2, s34, fin _ (fun r hr => by simp only [List.mem_cons, List.not_mem_nil, or_false] at hr; rcases hr with rfl | rfl; exact (mc10 (List.mem_cons_self ..)); exact (mc11 (List.mem_cons_self ..)))⟩ (by decide) (by decide)
    · obtain rfl : cI = (3 : Int32) := i32_lit hcI (by decide)
      obtain ⟨e0, eg0, eh0⟩ := re.2 0 (by omega)
      have be0 := ei.1.1 0 (by omega)
      obtain ⟨e1, eg1, eh1⟩ := re.2 1 (by omega)
      have be1 := ei.1.1 1 (by omega)
      obtain ⟨e2, eg2, eh2⟩ := re.2 2 (by omega)
      have be2 := ei.1.1 2 (by omega)
      refine g_aloadN WJTL d26_152 (pc' := 153) rfl rfl rfl ?_
      refine g_iload WJTL d26_153 (pc' := 155) rfl rfl ?_
      refine g_iload WJTL d26_155 (pc' := 157) rfl rfl ?_
      refine g_grid WJTL (wd_374 hw) (wd_375 hw) (wd_113 hw) HJTL (x := (3 : Int32)) (N := 3) (by decide) (by decide) (by decide) d26_157 (pc' := 161) rfl (kc' := 11) (ks' := 35) rfl rfl (by decide) (by decide) ?_
      intro T89 a89 xs89 hxs89 W89 H89
      obtain ⟨x89_0, x89_1, x89_2, rfl⟩ := len_3 hxs89
      replace H89 : Hp Z n0 T89.heap ((a89, ArC Z (.array .double) [.ref x89_0, .ref x89_1, .ref x89_2]) :: (x89_0, DaC Z ([0, 0, 0] : List UInt64)) :: (x89_1, DaC Z ([0, 0, 0] : List UInt64)) :: (x89_2, DaC Z ([0, 0, 0] : List UInt64)) :: (rt, o_RouteTimes Z (.ref a4) .null) :: (a4, IaC Z RL) :: (a10, IaC Z EL) :: (nt, o_Network Z (.int (3 : Int32)) (.int ftI) (.ref tlA) (.ref hdA) (.ref caA) (.ref ffA) (.ref bsA) (.ref pwA) (.ref foA) (.ref oaA)) :: (foA, IaC Z FO) :: (oaA, IaC Z OA) :: (hdA, IaC Z HDl) :: (tmA, DaC Z TM) :: JF) := H89
      refine g_putf W89 (wd_376 hw) Via.refl (Or.inr ⟨(wd_377 hw), rfl, rfl⟩) (wd_201 hw) (ty := (.array (.array .double))) (by decide) rfl rfl H89 (i := 4) rfl (jx := 1) rfl d26_161 (pc' := 164) rfl (L' := ((a89, ArC Z (.array .double) [.ref x89_0, .ref x89_1, .ref x89_2]) :: (x89_0, DaC Z ([0, 0, 0] : List UInt64)) :: (x89_1, DaC Z ([0, 0, 0] : List UInt64)) :: (x89_2, DaC Z ([0, 0, 0] : List UInt64)) :: (rt, o_RouteTimes Z (.ref a4) (.ref a89)) :: (a4, IaC Z RL) :: (a10, IaC Z EL) :: (nt, o_Network Z (.int (3 : Int32)) (.int ftI) (.ref tlA) (.ref hdA) (.ref caA) (.ref ffA) (.ref bsA) (.ref pwA) (.ref foA) (.ref oaA)) :: (foA, IaC Z FO) :: (oaA, IaC Z OA) :: (hdA, IaC Z HDl) :: (tmA, DaC Z TM) :: JF)) rfl ?_
      intro T90 W90 H90
      refine g_new W90 (wd_378 hw) (wd_379 hw) (wd_380 hw) (la_ShortestPathTree hw) (by decide) H90 d26_164 (pc' := 167) rfl (kc' := 12) (ks' := 41) rfl rfl (by decide) (by decide) ?_
      intro T91 a91 W91 H91
      refine g_dup W91 d26_167 (pc' := 168) rfl rfl ?_
      refine g_aloadN W91 d26_168 (pc' := 169) rfl rfl rfl ?_
      have H92f := Hp.fr8 H91
      have H93f := Hp.fr1 H92f
      refine g_callI W91 (argsL := [.ref nt]) (st := [.ref a91]) rfl (wd_381 hw) (wd_382 hw) (wd_380 hw) (wd_383 hw) (by decide) (a := a91) (c_tini l Z a0 hw n0 a91 nt tlA hdA caA ffA bsA pwA foA oaA ftI _ _ H93f) pd_18 rfl rfl rfl d26_169 (pc' := 172) rfl (by decide) (Wn := 1) (Nat.le_of_eq rfl) (by decide) (kc' := 16) (ks' := 57) rfl rfl (by decide) (by decide) ?_
      intro T94 v94 W94 hp94
      obtain ⟨dsA, prA, hpA, psA, rfl, H94⟩ := hp94
      show Goes _ _ _ _ (State.setTop _ (mkF _ _ _ [.ref a91]))
      refine g_astore W94 d26_172 (pc' := 174) rfl rfl (ls' := #[.val (.ref rt), .val (.ref nt), .val (.ref tmA), .val (.ref al), .val (.ref a10), .val (.int (3 : Int32)), .val (.ref a91), .val (.ref z7), .val (.ref z8), .val (.int z9)]) rfl ?_
      refine g_iconst W94 d26_174 (pc' := 175) rfl (v := (0 : Int32)) (by decide) ?_
      refine g_istore W94 d26_175 (pc' := 177) rfl (ls' := #[.val (.ref rt), .val (.ref nt), .val (.ref tmA), .val (.ref al), .val (.ref a10), .val (.int (3 : Int32)), .val (.ref a91), .val (.int (0 : Int32)), .val (.ref z8), .val (.int z9)]) rfl ?_
      refine g_iload W94 d26_177 (pc' := 179) rfl rfl ?_
      refine g_iload W94 d26_179 (pc' := 181) rfl rfl ?_
      refine g_icmp W94 d26_181 (pcy := 237) (by decide) (pc' := 184) rfl (fun (h : ¬ (0 : Int32) < (3 : Int32)) => absurd h (by decide)) (fun _ => ?_)
      refine g_aload W94 d26_184 (pc' := 186) rfl rfl rfl ?_
      refine g_aload W94 d26_186 (pc' := 188) rfl rfl rfl ?_
      refine g_iload W94 d26_188 (pc' := 190) rfl rfl ?_
      refine g_ialoadI W94 H94 (i := 12) rfl (jx := 0) (by decide) (u := e0) eg0 d26_190 (pc' := 191) rfl ?_
      refine g_aloadN W94 d26_191 (pc' := 192) rfl rfl rfl ?_
      have H95f := Hp.fr16 H94
      have H96f := Hp.fr16 H95f
      have H97f := Hp.fr16 H96f
      have H98f := Hp.fr16 H97f
      have H99f := Hp.fr9 H98f
      have H100f := Hp.fr9 H99f
      have H101f := Hp.fr9 H100f
      have H102f := Hp.fr9 H101f
      have H103f := Hp.fr9 H102f
      have H104f := Hp.fr9 H103f
      refine g_callV W94 (argsL := [.int e0, .ref tmA]) (st := []) (wd_396 hw) (wd_397 hw) (wd_399 hw) (wd_398 hw) (wd_380 hw) (wd_400 hw) (by decide) (a := a91) H104f (i := 0) rfl (c_build l Z a0 hw n0 a91 nt dsA prA hpA psA tlA hdA caA ffA bsA pwA foA oaA tmA ftI e0 FO OA HDl TM (E 0) ftn T Hd tm eh0 hft arcs netF hdF tmF netC be0.1 be0.2.1 (0 : Int32) ([0, 0, 0, 0] : List UInt64) (List.replicate 4 0) (List.replicate 4 0) (List.replicate 4 0) (fun _ => 0) rfl rfl rn_0 rfl _ _ H104f) pd_19 rfl rfl rfl d26_192 (pc' := 195) rfl (by decide) (Wn := 0) (Nat.le_of_eq rfl) (by decide) (kc' := 16) (ks' := 57) rfl rfl (by decide) (by decide) ?_
      intro T105 v105 W105 hp105
      obtain ⟨hz0, DL0, PL0, HL0, QL0, D0, P0, hh0, Q0, Rk0, S0, kk0, rfl, rd0, rp0, rh0, rq0, I0, rx0, H105⟩ := hp105
      show Goes _ _ _ _ (State.setTop _ (mkF _ _ _ []))
      obtain ⟨x00, xg00, xh00⟩ := rd0.2 (E 0) (by omega)
      rw [best I0 rx0 arcs be0.1 be0.2.1 be0.1 be0.2.1] at xh00
      refine g_iconst W105 d26_195 (pc' := 196) rfl (v := (0 : Int32)) (by decide) ?_
      refine g_istore W105 d26_196 (pc' := 198) rfl (ls' := #[.val (.ref rt), .val (.ref nt), .val (.ref tmA), .val (.ref al), .val (.ref a10), .val (.int (3 : Int32)), .val (.ref a91), .val (.int (0 : Int32)), .val (.int (0 : Int32)), .val (.int z9)]) rfl ?_
      refine g_iload W105 d26_198 (pc' := 200) rfl rfl ?_
      refine g_iload W105 d26_200 (pc' := 202) rfl rfl ?_
      refine g_icmp W105 d26_202 (pcy := 231) (by decide) (pc' := 205) rfl (fun (h : ¬ (0 : Int32) < (3 : Int32)) => absurd h (by decide)) (fun _ => ?_)
      refine g_aloadN W105 d26_205 (pc' := 206) rfl rfl rfl ?_
      refine g_getf W105 (wd_376 hw) Via.refl H105 (i := 14) rfl (jx := 1) rfl d26_206 (pc' := 209) rfl ?_
      intro T106 W106 H106
      refine g_iload W106 d26_209 (pc' := 211) rfl rfl ?_
      refine g_aaloadG W106 H106 (i := 10) rfl (jx := 0) (by decide) (v := .ref x89_0) rfl d26_211 (pc' := 212) rfl ?_
      refine g_iload W106 d26_212 (pc' := 214) rfl rfl ?_
      refine g_aload W106 d26_214 (pc' := 216) rfl rfl rfl ?_
      refine g_aload W106 d26_216 (pc' := 218) rfl rfl rfl ?_
      refine g_iload W106 d26_218 (pc' := 220) rfl rfl ?_
      refine g_ialoadI W106 H106 (i := 16) rfl (jx := 0) (by decide) (u := e0) eg0 d26_220 (pc' := 221) rfl ?_
      have H107f := Hp.fr1 H106
      have H108f := Hp.fr1 H107f
      refine g_callV W106 (argsL := [.int e0]) (st := [.int (0 : Int32), .ref x89_0]) (wd_430 hw) (wd_431 hw) (wd_433 hw) (wd_432 hw) (wd_380 hw) (wd_434 hw) (by decide) (a := a91) H108f (i := 0) rfl (c_dist l Z a0 hw n0 a91 nt dsA prA hpA psA hz0 DL0 e0 (E 0) eh0 x00 xg00 _ _ H108f) pd_20 rfl rfl rfl d26_221 (pc' := 224) rfl (by decide) (Wn := 2) (Nat.le_of_eq rfl) (by decide) (kc' := 16) (ks' := 57) rfl rfl (by decide) (by decide) ?_
      intro T109 v109 W109 hp109
      obtain ⟨rfl, H109⟩ := hp109
      show Goes _ _ _ _ (State.setTop _ (mkF _ _ _ [.double x00, .int (0 : Int32), .ref x89_0]))
      obtain ⟨x01, xg01, xh01⟩ := rd0.2 (E 1) (by omega)
      rw [best I0 rx0 arcs be0.1 be0.2.1 be1.1 be1.2.1] at xh01
      refine g_dastoreD W109 H109 (i := 11) rfl (jx := 0) (by decide) (by exact (by decide : 0 < 3)) d26_224 (pc' := 225) rfl (L' := ((a91, o_ShortestPathTree Z (.ref nt) (.ref dsA) (.ref prA) (.ref hpA) (.ref psA) (.int hz0)) :: (dsA, DaC Z DL0) :: (prA, IaC Z PL0) :: (hpA, IaC Z HL0) :: (psA, IaC Z QL0) :: (nt, o_Network Z (.int (3 : Int32)) (.int ftI) (.ref tlA) (.ref hdA) (.ref caA) (.ref ffA) (.ref bsA) (.ref pwA) (.ref foA) (.ref oaA)) :: (foA, IaC Z FO) :: (oaA, IaC Z OA) :: (hdA, IaC Z HDl) :: (tmA, DaC Z TM) :: (a89, ArC Z (.array .double) [.ref x89_0, .ref x89_1, .ref x89_2]) :: (x89_0, DaC Z ([x00, 0, 0] : List UInt64)) :: (x89_1, DaC Z ([0, 0, 0] : List UInt64)) :: (x89_2, DaC Z ([0, 0, 0] : List UInt64)) :: (rt, o_RouteTimes Z (.ref a4) (.ref a89)) :: (a4, IaC Z RL) :: (a10, IaC Z EL) :: JF)) rfl ?_
      intro T110 W110 H110
      refine g_iinc W110 d26_225 (pc' := 228) rfl rfl (v := (1 : Int32)) (by decide) (ls' := #[.val (.ref rt), .val (.ref nt), .val (.ref tmA), .val (.ref al), .val (.ref a10), .val (.int (3 : Int32)), .val (.ref a91), .val (.int (0 : Int32)), .val (.int (1 : Int32)), .val (.int z9)]) rfl ?_
      refine g_goto W110 d26_228 (pc' := 198) (by decide) ?_
      refine g_iload W110 d26_198 (pc' := 200) rfl rfl ?_
      refine g_iload W110 d26_200 (pc' := 202) rfl rfl ?_
      refine g_icmp W110 d26_202 (pcy := 231) (by decide) (pc' := 205) rfl (fun (h : ¬ (1 : Int32) < (3 : Int32)) => absurd h (by decide)) (fun _ => ?_)
      refine g_aloadN W110 d26_205 (pc' := 206) rfl rfl rfl ?_
      refine g_getf W110 (wd_376 hw) Via.refl H110 (i := 14) rfl (jx := 1) rfl d26_206 (pc' := 209) rfl ?_
      intro T111 W111 H111
      refine g_iload W111 d26_209 (pc' := 211) rfl rfl ?_
      refine g_aaloadG W111 H111 (i := 10) rfl (jx := 0) (by decide) (v := .ref x89_0) rfl d26_211 (pc' := 212) rfl ?_
      refine g_iload W111 d26_212 (pc' := 214) rfl rfl ?_
      refine g_aload W111 d26_214 (pc' := 216) rfl rfl rfl ?_
      refine g_aload W111 d26_216 (pc' := 218) rfl rfl rfl ?_
      refine g_iload W111 d26_218 (pc' := 220) rfl rfl ?_
      refine g_ialoadI W111 H111 (i := 16) rfl (jx := 1) (by decide) (u := e1) eg1 d26_220 (pc' := 221) rfl ?_
      have H112f := Hp.fr1 H111
      have H113f := Hp.fr1 H112f
      refine g_callV W111 (argsL := [.int e1]) (st := [.int (1 : Int32), .ref x89_0]) (wd_430 hw) (wd_431 hw) (wd_433 hw) (wd_432 hw) (wd_380 hw) (wd_434 hw) (by decide) (a := a91) H113f (i := 0) rfl (c_dist l Z a0 hw n0 a91 nt dsA prA hpA psA hz0 DL0 e1 (E 1) eh1 x01 xg01 _ _ H113f) pd_20 rfl rfl rfl d26_221 (pc' := 224) rfl (by decide) (Wn := 2) (Nat.le_of_eq rfl) (by decide) (kc' := 16) (ks' := 57) rfl rfl (by decide) (by decide) ?_
      intro T114 v114 W114 hp114
      obtain ⟨rfl, H114⟩ := hp114
      show Goes _ _ _ _ (State.setTop _ (mkF _ _ _ [.double x01, .int (1 : Int32), .ref x89_0]))
      obtain ⟨x02, xg02, xh02⟩ := rd0.2 (E 2) (by omega)
      rw [best I0 rx0 arcs be0.1 be0.2.1 be2.1 be2.2.1] at xh02
      refine g_dastoreD W114 H114 (i := 11) rfl (jx := 1) (by decide) (by exact (by decide : 1 < 3)) d26_224 (pc' := 225) rfl (L' := ((a91, o_ShortestPathTree Z (.ref nt) (.ref dsA) (.ref prA) (.ref hpA) (.ref psA) (.int hz0)) :: (dsA, DaC Z DL0) :: (prA, IaC Z PL0) :: (hpA, IaC Z HL0) :: (psA, IaC Z QL0) :: (nt, o_Network Z (.int (3 : Int32)) (.int ftI) (.ref tlA) (.ref hdA) (.ref caA) (.ref ffA) (.ref bsA) (.ref pwA) (.ref foA) (.ref oaA)) :: (foA, IaC Z FO) :: (oaA, IaC Z OA) :: (hdA, IaC Z HDl) :: (tmA, DaC Z TM) :: (a89, ArC Z (.array .double) [.ref x89_0, .ref x89_1, .ref x89_2]) :: (x89_0, DaC Z ([x00, x01, 0] : List UInt64)) :: (x89_1, DaC Z ([0, 0, 0] : List UInt64)) :: (x89_2, DaC Z ([0, 0, 0] : List UInt64)) :: (rt, o_RouteTimes Z (.ref a4) (.ref a89)) :: (a4, IaC Z RL) :: (a10, IaC Z EL) :: JF)) rfl ?_
      intro T115 W115 H115
      refine g_iinc W115 d26_225 (pc' := 228) rfl rfl (v := (2 : Int32)) (by decide) (ls' := #[.val (.ref rt), .val (.ref nt), .val (.ref tmA), .val (.ref al), .val (.ref a10), .val (.int (3 : Int32)), .val (.ref a91), .val (.int (0 : Int32)), .val (.int (2 : Int32)), .val (.int z9)]) rfl ?_
      refine g_goto W115 d26_228 (pc' := 198) (by decide) ?_
      refine g_iload W115 d26_198 (pc' := 200) rfl rfl ?_
      refine g_iload W115 d26_200 (pc' := 202) rfl rfl ?_
      refine g_icmp W115 d26_202 (pcy := 231) (by decide) (pc' := 205) rfl (fun (h : ¬ (2 : Int32) < (3 : Int32)) => absurd h (by decide)) (fun _ => ?_)
      refine g_aloadN W115 d26_205 (pc' := 206) rfl rfl rfl ?_
      refine g_getf W115 (wd_376 hw) Via.refl H115 (i := 14) rfl (jx := 1) rfl d26_206 (pc' := 209) rfl ?_
      intro T116 W116 H116
      refine g_iload W116 d26_209 (pc' := 211) rfl rfl ?_
      refine g_aaloadG W116 H116 (i := 10) rfl (jx := 0) (by decide) (v := .ref x89_0) rfl d26_211 (pc' := 212) rfl ?_
      refine g_iload W116 d26_212 (pc' := 214) rfl rfl ?_
      refine g_aload W116 d26_214 (pc' := 216) rfl rfl rfl ?_
      refine g_aload W116 d26_216 (pc' := 218) rfl rfl rfl ?_
      refine g_iload W116 d26_218 (pc' := 220) rfl rfl ?_
      refine g_ialoadI W116 H116 (i := 16) rfl (jx := 2) (by decide) (u := e2) eg2 d26_220 (pc' := 221) rfl ?_
      have H117f := Hp.fr1 H116
      have H118f := Hp.fr1 H117f
      refine g_callV W116 (argsL := [.int e2]) (st := [.int (2 : Int32), .ref x89_0]) (wd_430 hw) (wd_431 hw) (wd_433 hw) (wd_432 hw) (wd_380 hw) (wd_434 hw) (by decide) (a := a91) H118f (i := 0) rfl (c_dist l Z a0 hw n0 a91 nt dsA prA hpA psA hz0 DL0 e2 (E 2) eh2 x02 xg02 _ _ H118f) pd_20 rfl rfl rfl d26_221 (pc' := 224) rfl (by decide) (Wn := 2) (Nat.le_of_eq rfl) (by decide) (kc' := 16) (ks' := 57) rfl rfl (by decide) (by decide) ?_
      intro T119 v119 W119 hp119
      obtain ⟨rfl, H119⟩ := hp119
      show Goes _ _ _ _ (State.setTop _ (mkF _ _ _ [.double x02, .int (2 : Int32), .ref x89_0]))
      refine g_dastoreD W119 H119 (i := 11) rfl (jx := 2) (by decide) (by exact (by decide : 2 < 3)) d26_224 (pc' := 225) rfl (L' := ((a91, o_ShortestPathTree Z (.ref nt) (.ref dsA) (.ref prA) (.ref hpA) (.ref psA) (.int hz0)) :: (dsA, DaC Z DL0) :: (prA, IaC Z PL0) :: (hpA, IaC Z HL0) :: (psA, IaC Z QL0) :: (nt, o_Network Z (.int (3 : Int32)) (.int ftI) (.ref tlA) (.ref hdA) (.ref caA) (.ref ffA) (.ref bsA) (.ref pwA) (.ref foA) (.ref oaA)) :: (foA, IaC Z FO) :: (oaA, IaC Z OA) :: (hdA, IaC Z HDl) :: (tmA, DaC Z TM) :: (a89, ArC Z (.array .double) [.ref x89_0, .ref x89_1, .ref x89_2]) :: (x89_0, DaC Z ([x00, x01, x02] : List UInt64)) :: (x89_1, DaC Z ([0, 0, 0] : List UInt64)) :: (x89_2, DaC Z ([0, 0, 0] : List UInt64)) :: (rt, o_RouteTimes Z (.ref a4) (.ref a89)) :: (a4, IaC Z RL) :: (a10, IaC Z EL) :: JF)) rfl ?_
      intro T120 W120 H120
      refine g_iinc W120 d26_225 (pc' := 228) rfl rfl (v := (3 : Int32)) (by decide) (ls' := #[.val (.ref rt), .val (.ref nt), .val (.ref tmA), .val (.ref al), .val (.ref a10), .val (.int (3 : Int32)), .val (.ref a91), .val (.int (0 : Int32)), .val (.int (3 : Int32)), .val (.int z9)]) rfl ?_
      refine g_goto W120 d26_228 (pc' := 198) (by decide) ?_
      refine g_iload W120 d26_198 (pc' := 200) rfl rfl ?_
      refine g_iload W120 d26_200 (pc' := 202) rfl rfl ?_
      refine g_icmp W120 d26_202 (pcy := 231) (by decide) (pc' := 205) rfl (fun _ => ?_) (fun (h : ¬ ¬ (3 : Int32) < (3 : Int32)) => absurd h (by decide))
      refine g_iinc W120 d26_231 (pc' := 234) rfl rfl (v := (1 : Int32)) (by decide) (ls' := #[.val (.ref rt), .val (.ref nt), .val (.ref tmA), .val (.ref al), .val (.ref a10), .val (.int (3 : Int32)), .val (.ref a91), .val (.int (1 : Int32)), .val (.int (3 : Int32)), .val (.int z9)]) rfl ?_
      refine g_goto W120 d26_234 (pc' := 177) (by decide) ?_
      refine g_iload W120 d26_177 (pc' := 179) rfl rfl ?_
      refine g_iload W120 d26_179 (pc' := 181) rfl rfl ?_
      refine g_icmp W120 d26_181 (pcy := 237) (by decide) (pc' := 184) rfl (fun (h : ¬ (1 : Int32) < (3 : Int32)) => absurd h (by decide)) (fun _ => ?_)
      refine g_aload W120 d26_184 (pc' := 186) rfl rfl rfl ?_
      refine g_aload W120 d26_186 (pc' := 188) rfl rfl rfl ?_
      refine g_iload W120 d26_188 (pc' := 190) rfl rfl ?_
      refine g_ialoadI W120 H120 (i := 16) rfl (jx := 1) (by decide) (u := e1) eg1 d26_190 (pc' := 191) rfl ?_
      refine g_aloadN W120 d26_191 (pc' := 192) rfl rfl rfl ?_
      have H121f := Hp.fr9 H120
      have H122f := Hp.fr9 H121f
      have H123f := Hp.fr9 H122f
      have H124f := Hp.fr9 H123f
      have H125f := Hp.fr9 H124f
      have H126f := Hp.fr9 H125f
      have H127f := Hp.fr9 H126f
      have H128f := Hp.fr9 H127f
      have H129f := Hp.fr9 H128f
      have H130f := Hp.fr9 H129f
      refine g_callV W120 (argsL := [.int e1, .ref tmA]) (st := []) (wd_396 hw) (wd_397 hw) (wd_399 hw) (wd_398 hw) (wd_380 hw) (wd_400 hw) (by decide) (a := a91) H130f (i := 0) rfl (c_build l Z a0 hw n0 a91 nt dsA prA hpA psA tlA hdA caA ffA bsA pwA foA oaA tmA ftI e1 FO OA HDl TM (E 1) ftn T Hd tm eh1 hft arcs netF hdF tmF netC be1.1 be1.2.1 hz0 DL0 PL0 HL0 QL0 hh0 rd0.1 rp0.1 rh0 rq0.1 _ _ H130f) pd_19 rfl rfl rfl d26_192 (pc' := 195) rfl (by decide) (Wn := 0) (Nat.le_of_eq rfl) (by decide) (kc' := 16) (ks' := 57) rfl rfl (by decide) (by decide) ?_
      intro T131 v131 W131 hp131
      obtain ⟨hz1, DL1, PL1, HL1, QL1, D1, P1, hh1, Q1, Rk1, S1, kk1, rfl, rd1, rp1, rh1, rq1, I1, rx1, H131⟩ := hp131
      show Goes _ _ _ _ (State.setTop _ (mkF _ _ _ []))
      obtain ⟨x10, xg10, xh10⟩ := rd1.2 (E 0) (by omega)
      rw [best I1 rx1 arcs be1.1 be1.2.1 be0.1 be0.2.1] at xh10
      refine g_iconst W131 d26_195 (pc' := 196) rfl (v := (0 : Int32)) (by decide) ?_
      refine g_istore W131 d26_196 (pc' := 198) rfl (ls' := #[.val (.ref rt), .val (.ref nt), .val (.ref tmA), .val (.ref al), .val (.ref a10), .val (.int (3 : Int32)), .val (.ref a91), .val (.int (1 : Int32)), .val (.int (0 : Int32)), .val (.int z9)]) rfl ?_
      refine g_iload W131 d26_198 (pc' := 200) rfl rfl ?_
      refine g_iload W131 d26_200 (pc' := 202) rfl rfl ?_
      refine g_icmp W131 d26_202 (pcy := 231) (by decide) (pc' := 205) rfl (fun (h : ¬ (0 : Int32) < (3 : Int32)) => absurd h (by decide)) (fun _ => ?_)
      refine g_aloadN W131 d26_205 (pc' := 206) rfl rfl rfl ?_
      refine g_getf W131 (wd_376 hw) Via.refl H131 (i := 14) rfl (jx := 1) rfl d26_206 (pc' := 209) rfl ?_
      intro T132 W132 H132
      refine g_iload W132 d26_209 (pc' := 211) rfl rfl ?_
      refine g_aaloadG W132 H132 (i := 10) rfl (jx := 1) (by decide) (v := .ref x89_1) rfl d26_211 (pc' := 212) rfl ?_
      refine g_iload W132 d26_212 (pc' := 214) rfl rfl ?_
      refine g_aload W132 d26_214 (pc' := 216) rfl rfl rfl ?_
      refine g_aload W132 d26_216 (pc' := 218) rfl rfl rfl ?_
      refine g_iload W132 d26_218 (pc' := 220) rfl rfl ?_
      refine g_ialoadI W132 H132 (i := 16) rfl (jx := 0) (by decide) (u := e0) eg0 d26_220 (pc' := 221) rfl ?_
      have H133f := Hp.fr1 H132
      have H134f := Hp.fr1 H133f
      refine g_callV W132 (argsL := [.int e0]) (st := [.int (0 : Int32), .ref x89_1]) (wd_430 hw) (wd_431 hw) (wd_433 hw) (wd_432 hw) (wd_380 hw) (wd_434 hw) (by decide) (a := a91) H134f (i := 0) rfl (c_dist l Z a0 hw n0 a91 nt dsA prA hpA psA hz1 DL1 e0 (E 0) eh0 x10 xg10 _ _ H134f) pd_20 rfl rfl rfl d26_221 (pc' := 224) rfl (by decide) (Wn := 2) (Nat.le_of_eq rfl) (by decide) (kc' := 16) (ks' := 57) rfl rfl (by decide) (by decide) ?_
      intro T135 v135 W135 hp135
      obtain ⟨rfl, H135⟩ := hp135
      show Goes _ _ _ _ (State.setTop _ (mkF _ _ _ [.double x10, .int (0 : Int32), .ref x89_1]))
      obtain ⟨x11, xg11, xh11⟩ := rd1.2 (E 1) (by omega)
      rw [best I1 rx1 arcs be1.1 be1.2.1 be1.1 be1.2.1] at xh11
      refine g_dastoreD W135 H135 (i := 12) rfl (jx := 0) (by decide) (by exact (by decide : 0 < 3)) d26_224 (pc' := 225) rfl (L' := ((a91, o_ShortestPathTree Z (.ref nt) (.ref dsA) (.ref prA) (.ref hpA) (.ref psA) (.int hz1)) :: (dsA, DaC Z DL1) :: (prA, IaC Z PL1) :: (hpA, IaC Z HL1) :: (psA, IaC Z QL1) :: (nt, o_Network Z (.int (3 : Int32)) (.int ftI) (.ref tlA) (.ref hdA) (.ref caA) (.ref ffA) (.ref bsA) (.ref pwA) (.ref foA) (.ref oaA)) :: (foA, IaC Z FO) :: (oaA, IaC Z OA) :: (hdA, IaC Z HDl) :: (tmA, DaC Z TM) :: (a89, ArC Z (.array .double) [.ref x89_0, .ref x89_1, .ref x89_2]) :: (x89_0, DaC Z ([x00, x01, x02] : List UInt64)) :: (x89_1, DaC Z ([x10, 0, 0] : List UInt64)) :: (x89_2, DaC Z ([0, 0, 0] : List UInt64)) :: (rt, o_RouteTimes Z (.ref a4) (.ref a89)) :: (a4, IaC Z RL) :: (a10, IaC Z EL) :: JF)) rfl ?_
      intro T136 W136 H136
      refine g_iinc W136 d26_225 (pc' := 228) rfl rfl (v := (1 : Int32)) (by decide) (ls' := #[.val (.ref rt), .val (.ref nt), .val (.ref tmA), .val (.ref al), .val (.ref a10), .val (.int (3 : Int32)), .val (.ref a91), .val (.int (1 : Int32)), .val (.int (1 : Int32)), .val (.int z9)]) rfl ?_
      refine g_goto W136 d26_228 (pc' := 198) (by decide) ?_
      refine g_iload W136 d26_198 (pc' := 200) rfl rfl ?_
      refine g_iload W136 d26_200 (pc' := 202) rfl rfl ?_
      refine g_icmp W136 d26_202 (pcy := 231) (by decide) (pc' := 205) rfl (fun (h : ¬ (1 : Int32) < (3 : Int32)) => absurd h (by decide)) (fun _ => ?_)
      refine g_aloadN W136 d26_205 (pc' := 206) rfl rfl rfl ?_
      refine g_getf W136 (wd_376 hw) Via.refl H136 (i := 14) rfl (jx := 1) rfl d26_206 (pc' := 209) rfl ?_
      intro T137 W137 H137
      refine g_iload W137 d26_209 (pc' := 211) rfl rfl ?_
      refine g_aaloadG W137 H137 (i := 10) rfl (jx := 1) (by decide) (v := .ref x89_1) rfl d26_211 (pc' := 212) rfl ?_
      refine g_iload W137 d26_212 (pc' := 214) rfl rfl ?_
      refine g_aload W137 d26_214 (pc' := 216) rfl rfl rfl ?_
      refine g_aload W137 d26_216 (pc' := 218) rfl rfl rfl ?_
      refine g_iload W137 d26_218 (pc' := 220) rfl rfl ?_
      refine g_ialoadI W137 H137 (i := 16) rfl (jx := 1) (by decide) (u := e1) eg1 d26_220 (pc' := 221) rfl ?_
      have H138f := Hp.fr1 H137
      have H139f := Hp.fr1 H138f
      refine g_callV W137 (argsL := [.int e1]) (st := [.int (1 : Int32), .ref x89_1]) (wd_430 hw) (wd_431 hw) (wd_433 hw) (wd_432 hw) (wd_380 hw) (wd_434 hw) (by decide) (a := a91) H139f (i := 0) rfl (c_dist l Z a0 hw n0 a91 nt dsA prA hpA psA hz1 DL1 e1 (E 1) eh1 x11 xg11 _ _ H139f) pd_20 rfl rfl rfl d26_221 (pc' := 224) rfl (by decide) (Wn := 2) (Nat.le_of_eq rfl) (by decide) (kc' := 16) (ks' := 57) rfl rfl (by decide) (by decide) ?_
      intro T140 v140 W140 hp140
      obtain ⟨rfl, H140⟩ := hp140
      show Goes _ _ _ _ (State.setTop _ (mkF _ _ _ [.double x11, .int (1 : Int32), .ref x89_1]))
      obtain ⟨x12, xg12, xh12⟩ := rd1.2 (E 2) (by omega)
      rw [best I1 rx1 arcs be1.1 be1.2.1 be2.1 be2.2.1] at xh12
      refine g_dastoreD W140 H140 (i := 12) rfl (jx := 1) (by decide) (by exact (by decide : 1 < 3)) d26_224 (pc' := 225) rfl (L' := ((a91, o_ShortestPathTree Z (.ref nt) (.ref dsA) (.ref prA) (.ref hpA) (.ref psA) (.int hz1)) :: (dsA, DaC Z DL1) :: (prA, IaC Z PL1) :: (hpA, IaC Z HL1) :: (psA, IaC Z QL1) :: (nt, o_Network Z (.int (3 : Int32)) (.int ftI) (.ref tlA) (.ref hdA) (.ref caA) (.ref ffA) (.ref bsA) (.ref pwA) (.ref foA) (.ref oaA)) :: (foA, IaC Z FO) :: (oaA, IaC Z OA) :: (hdA, IaC Z HDl) :: (tmA, DaC Z TM) :: (a89, ArC Z (.array .double) [.ref x89_0, .ref x89_1, .ref x89_2]) :: (x89_0, DaC Z ([x00, x01, x02] : List UInt64)) :: (x89_1, DaC Z ([x10, x11, 0] : List UInt64)) :: (x89_2, DaC Z ([0, 0, 0] : List UInt64)) :: (rt, o_RouteTimes Z (.ref a4) (.ref a89)) :: (a4, IaC Z RL) :: (a10, IaC Z EL) :: JF)) rfl ?_
      intro T141 W141 H141
      refine g_iinc W141 d26_225 (pc' := 228) rfl rfl (v := (2 : Int32)) (by decide) (ls' := #[.val (.ref rt), .val (.ref nt), .val (.ref tmA), .val (.ref al), .val (.ref a10), .val (.int (3 : Int32)), .val (.ref a91), .val (.int (1 : Int32)), .val (.int (2 : Int32)), .val (.int z9)]) rfl ?_
      refine g_goto W141 d26_228 (pc' := 198) (by decide) ?_
      refine g_iload W141 d26_198 (pc' := 200) rfl rfl ?_
      refine g_iload W141 d26_200 (pc' := 202) rfl rfl ?_
      refine g_icmp W141 d26_202 (pcy := 231) (by decide) (pc' := 205) rfl (fun (h : ¬ (2 : Int32) < (3 : Int32)) => absurd h (by decide)) (fun _ => ?_)
      refine g_aloadN W141 d26_205 (pc' := 206) rfl rfl rfl ?_
      refine g_getf W141 (wd_376 hw) Via.refl H141 (i := 14) rfl (jx := 1) rfl d26_206 (pc' := 209) rfl ?_
      intro T142 W142 H142
      refine g_iload W142 d26_209 (pc' := 211) rfl rfl ?_
      refine g_aaloadG W142 H142 (i := 10) rfl (jx := 1) (by decide) (v := .ref x89_1) rfl d26_211 (pc' := 212) rfl ?_
      refine g_iload W142 d26_212 (pc' := 214) rfl rfl ?_
      refine g_aload W142 d26_214 (pc' := 216) rfl rfl rfl ?_
      refine g_aload W142 d26_216 (pc' := 218) rfl rfl rfl ?_
      refine g_iload W142 d26_218 (pc' := 220) rfl rfl ?_
      refine g_ialoadI W142 H142 (i := 16) rfl (jx := 2) (by decide) (u := e2) eg2 d26_220 (pc' := 221) rfl ?_
      have H143f := Hp.fr1 H142
      have H144f := Hp.fr1 H143f
      refine g_callV W142 (argsL := [.int e2]) (st := [.int (2 : Int32), .ref x89_1]) (wd_430 hw) (wd_431 hw) (wd_433 hw) (wd_432 hw) (wd_380 hw) (wd_434 hw) (by decide) (a := a91) H144f (i := 0) rfl (c_dist l Z a0 hw n0 a91 nt dsA prA hpA psA hz1 DL1 e2 (E 2) eh2 x12 xg12 _ _ H144f) pd_20 rfl rfl rfl d26_221 (pc' := 224) rfl (by decide) (Wn := 2) (Nat.le_of_eq rfl) (by decide) (kc' := 16) (ks' := 57) rfl rfl (by decide) (by decide) ?_
      intro T145 v145 W145 hp145
      obtain ⟨rfl, H145⟩ := hp145
      show Goes _ _ _ _ (State.setTop _ (mkF _ _ _ [.double x12, .int (2 : Int32), .ref x89_1]))
      refine g_dastoreD W145 H145 (i := 12) rfl (jx := 2) (by decide) (by exact (by decide : 2 < 3)) d26_224 (pc' := 225) rfl (L' := ((a91, o_ShortestPathTree Z (.ref nt) (.ref dsA) (.ref prA) (.ref hpA) (.ref psA) (.int hz1)) :: (dsA, DaC Z DL1) :: (prA, IaC Z PL1) :: (hpA, IaC Z HL1) :: (psA, IaC Z QL1) :: (nt, o_Network Z (.int (3 : Int32)) (.int ftI) (.ref tlA) (.ref hdA) (.ref caA) (.ref ffA) (.ref bsA) (.ref pwA) (.ref foA) (.ref oaA)) :: (foA, IaC Z FO) :: (oaA, IaC Z OA) :: (hdA, IaC Z HDl) :: (tmA, DaC Z TM) :: (a89, ArC Z (.array .double) [.ref x89_0, .ref x89_1, .ref x89_2]) :: (x89_0, DaC Z ([x00, x01, x02] : List UInt64)) :: (x89_1, DaC Z ([x10, x11, x12] : List UInt64)) :: (x89_2, DaC Z ([0, 0, 0] : List UInt64)) :: (rt, o_RouteTimes Z (.ref a4) (.ref a89)) :: (a4, IaC Z RL) :: (a10, IaC Z EL) :: JF)) rfl ?_
      intro T146 W146 H146
      refine g_iinc W146 d26_225 (pc' := 228) rfl rfl (v := (3 : Int32)) (by decide) (ls' := #[.val (.ref rt), .val (.ref nt), .val (.ref tmA), .val (.ref al), .val (.ref a10), .val (.int (3 : Int32)), .val (.ref a91), .val (.int (1 : Int32)), .val (.int (3 : Int32)), .val (.int z9)]) rfl ?_
      refine g_goto W146 d26_228 (pc' := 198) (by decide) ?_
      refine g_iload W146 d26_198 (pc' := 200) rfl rfl ?_
      refine g_iload W146 d26_200 (pc' := 202) rfl rfl ?_
      refine g_icmp W146 d26_202 (pcy := 231) (by decide) (pc' := 205) rfl (fun _ => ?_) (fun (h : ¬ ¬ (3 : Int32) < (3 : Int32)) => absurd h (by decide))
      refine g_iinc W146 d26_231 (pc' := 234) rfl rfl (v := (2 : Int32)) (by decide) (ls' := #[.val (.ref rt), .val (.ref nt), .val (.ref tmA), .val (.ref al), .val (.ref a10), .val (.int (3 : Int32)), .val (.ref a91), .val (.int (2 : Int32)), .val (.int (3 : Int32)), .val (.int z9)]) rfl ?_
      refine g_goto W146 d26_234 (pc' := 177) (by decide) ?_
      refine g_iload W146 d26_177 (pc' := 179) rfl rfl ?_
      refine g_iload W146 d26_179 (pc' := 181) rfl rfl ?_
      refine g_icmp W146 d26_181 (pcy := 237) (by decide) (pc' := 184) rfl (fun (h : ¬ (2 : Int32) < (3 : Int32)) => absurd h (by decide)) (fun _ => ?_)
      refine g_aload W146 d26_184 (pc' := 186) rfl rfl rfl ?_
      refine g_aload W146 d26_186 (pc' := 188) rfl rfl rfl ?_
      refine g_iload W146 d26_188 (pc' := 190) rfl rfl ?_
      refine g_ialoadI W146 H146 (i := 16) rfl (jx := 2) (by decide) (u := e2) eg2 d26_190 (pc' := 191) rfl ?_
      refine g_aloadN W146 d26_191 (pc' := 192) rfl rfl rfl ?_
      have H147f := Hp.fr9 H146
      have H148f := Hp.fr9 H147f
      have H149f := Hp.fr9 H148f
      have H150f := Hp.fr9 H149f
      have H151f := Hp.fr9 H150f
      have H152f := Hp.fr9 H151f
      have H153f := Hp.fr9 H152f
      have H154f := Hp.fr9 H153f
      have H155f := Hp.fr9 H154f
      have H156f := Hp.fr9 H155f
      refine g_callV W146 (argsL := [.int e2, .ref tmA]) (st := []) (wd_396 hw) (wd_397 hw) (wd_399 hw) (wd_398 hw) (wd_380 hw) (wd_400 hw) (by decide) (a := a91) H156f (i := 0) rfl (c_build l Z a0 hw n0 a91 nt dsA prA hpA psA tlA hdA caA ffA bsA pwA foA oaA tmA ftI e2 FO OA HDl TM (E 2) ftn T Hd tm eh2 hft arcs netF hdF tmF netC be2.1 be2.2.1 hz1 DL1 PL1 HL1 QL1 hh1 rd1.1 rp1.1 rh1 rq1.1 _ _ H156f) pd_19 rfl rfl rfl d26_192 (pc' := 195) rfl (by decide) (Wn := 0) (Nat.le_of_eq rfl) (by decide) (kc' := 16) (ks' := 57) rfl rfl (by decide) (by decide) ?_
      intro T157 v157 W157 hp157
      obtain ⟨hz2, DL2, PL2, HL2, QL2, D2, P2, hh2, Q2, Rk2, S2, kk2, rfl, rd2, rp2, rh2, rq2, I2, rx2, H157⟩ := hp157
      show Goes _ _ _ _ (State.setTop _ (mkF _ _ _ []))
      obtain ⟨x20, xg20, xh20⟩ := rd2.2 (E 0) (by omega)
      rw [best I2 rx2 arcs be2.1 be2.2.1 be0.1 be0.2.1] at xh20
      refine g_iconst W157 d26_195 (pc' := 196) rfl (v := (0 : Int32)) (by decide) ?_
      refine g_istore W157 d26_196 (pc' := 198) rfl (ls' := #[.val (.ref rt), .val (.ref nt), .val (.ref tmA), .val (.ref al), .val (.ref a10), .val (.int (3 : Int32)), .val (.ref a91), .val (.int (2 : Int32)), .val (.int (0 : Int32)), .val (.int z9)]) rfl ?_
      refine g_iload W157 d26_198 (pc' := 200) rfl rfl ?_
      refine g_iload W157 d26_200 (pc' := 202) rfl rfl ?_
      refine g_icmp W157 d26_202 (pcy := 231) (by decide) (pc' := 205) rfl (fun (h : ¬ (0 : Int32) < (3 : Int32)) => absurd h (by decide)) (fun _ => ?_)
      refine g_aloadN W157 d26_205 (pc' := 206) rfl rfl rfl ?_
      refine g_getf W157 (wd_376 hw) Via.refl H157 (i := 14) rfl (jx := 1) rfl d26_206 (pc' := 209) rfl ?_
      intro T158 W158 H158
      refine g_iload W158 d26_209 (pc' := 211) rfl rfl ?_
      refine g_aaloadG W158 H158 (i := 10) rfl (jx := 2) (by decide) (v := .ref x89_2) rfl d26_211 (pc' := 212) rfl ?_
      refine g_iload W158 d26_212 (pc' := 214) rfl rfl ?_
      refine g_aload W158 d26_214 (pc' := 216) rfl rfl rfl ?_
      refine g_aload W158 d26_216 (pc' := 218) rfl rfl rfl ?_
      refine g_iload W158 d26_218 (pc' := 220) rfl rfl ?_
      refine g_ialoadI W158 H158 (i := 16) rfl (jx := 0) (by decide) (u := e0) eg0 d26_220 (pc' := 221) rfl ?_
      have H159f := Hp.fr1 H158
      have H160f := Hp.fr1 H159f
      refine g_callV W158 (argsL := [.int e0]) (st := [.int (0 : Int32), .ref x89_2]) (wd_430 hw) (wd_431 hw) (wd_433 hw) (wd_432 hw) (wd_380 hw) (wd_434 hw) (by decide) (a := a91) H160f (i := 0) rfl (c_dist l Z a0 hw n0 a91 nt dsA prA hpA psA hz2 DL2 e0 (E 0) eh0 x20 xg20 _ _ H160f) pd_20 rfl rfl rfl d26_221 (pc' := 224) rfl (by decide) (Wn := 2) (Nat.le_of_eq rfl) (by decide) (kc' := 16) (ks' := 57) rfl rfl (by decide) (by decide) ?_
      intro T161 v161 W161 hp161
      obtain ⟨rfl, H161⟩ := hp161
      show Goes _ _ _ _ (State.setTop _ (mkF _ _ _ [.double x20, .int (0 : Int32), .ref x89_2]))
      obtain ⟨x21, xg21, xh21⟩ := rd2.2 (E 1) (by omega)
      rw [best I2 rx2 arcs be2.1 be2.2.1 be1.1 be1.2.1] at xh21
      refine g_dastoreD W161 H161 (i := 13) rfl (jx := 0) (by decide) (by exact (by decide : 0 < 3)) d26_224 (pc' := 225) rfl (L' := ((a91, o_ShortestPathTree Z (.ref nt) (.ref dsA) (.ref prA) (.ref hpA) (.ref psA) (.int hz2)) :: (dsA, DaC Z DL2) :: (prA, IaC Z PL2) :: (hpA, IaC Z HL2) :: (psA, IaC Z QL2) :: (nt, o_Network Z (.int (3 : Int32)) (.int ftI) (.ref tlA) (.ref hdA) (.ref caA) (.ref ffA) (.ref bsA) (.ref pwA) (.ref foA) (.ref oaA)) :: (foA, IaC Z FO) :: (oaA, IaC Z OA) :: (hdA, IaC Z HDl) :: (tmA, DaC Z TM) :: (a89, ArC Z (.array .double) [.ref x89_0, .ref x89_1, .ref x89_2]) :: (x89_0, DaC Z ([x00, x01, x02] : List UInt64)) :: (x89_1, DaC Z ([x10, x11, x12] : List UInt64)) :: (x89_2, DaC Z ([x20, 0, 0] : List UInt64)) :: (rt, o_RouteTimes Z (.ref a4) (.ref a89)) :: (a4, IaC Z RL) :: (a10, IaC Z EL) :: JF)) rfl ?_
      intro T162 W162 H162
      refine g_iinc W162 d26_225 (pc' := 228) rfl rfl (v := (1 : Int32)) (by decide) (ls' := #[.val (.ref rt), .val (.ref nt), .val (.ref tmA), .val (.ref al), .val (.ref a10), .val (.int (3 : Int32)), .val (.ref a91), .val (.int (2 : Int32)), .val (.int (1 : Int32)), .val (.int z9)]) rfl ?_
      refine g_goto W162 d26_228 (pc' := 198) (by decide) ?_
      refine g_iload W162 d26_198 (pc' := 200) rfl rfl ?_
      refine g_iload W162 d26_200 (pc' := 202) rfl rfl ?_
      refine g_icmp W162 d26_202 (pcy := 231) (by decide) (pc' := 205) rfl (fun (h : ¬ (1 : Int32) < (3 : Int32)) => absurd h (by decide)) (fun _ => ?_)
      refine g_aloadN W162 d26_205 (pc' := 206) rfl rfl rfl ?_
      refine g_getf W162 (wd_376 hw) Via.refl H162 (i := 14) rfl (jx := 1) rfl d26_206 (pc' := 209) rfl ?_
      intro T163 W163 H163
      refine g_iload W163 d26_209 (pc' := 211) rfl rfl ?_
      refine g_aaloadG W163 H163 (i := 10) rfl (jx := 2) (by decide) (v := .ref x89_2) rfl d26_211 (pc' := 212) rfl ?_
      refine g_iload W163 d26_212 (pc' := 214) rfl rfl ?_
      refine g_aload W163 d26_214 (pc' := 216) rfl rfl rfl ?_
      refine g_aload W163 d26_216 (pc' := 218) rfl rfl rfl ?_
      refine g_iload W163 d26_218 (pc' := 220) rfl rfl ?_
      refine g_ialoadI W163 H163 (i := 16) rfl (jx := 1) (by decide) (u := e1) eg1 d26_220 (pc' := 221) rfl ?_
      have H164f := Hp.fr1 H163
      have H165f := Hp.fr1 H164f
      refine g_callV W163 (argsL := [.int e1]) (st := [.int (1 : Int32), .ref x89_2]) (wd_430 hw) (wd_431 hw) (wd_433 hw) (wd_432 hw) (wd_380 hw) (wd_434 hw) (by decide) (a := a91) H165f (i := 0) rfl (c_dist l Z a0 hw n0 a91 nt dsA prA hpA psA hz2 DL2 e1 (E 1) eh1 x21 xg21 _ _ H165f) pd_20 rfl rfl rfl d26_221 (pc' := 224) rfl (by decide) (Wn := 2) (Nat.le_of_eq rfl) (by decide) (kc' := 16) (ks' := 57) rfl rfl (by decide) (by decide) ?_
      intro T166 v166 W166 hp166
      obtain ⟨rfl, H166⟩ := hp166
      show Goes _ _ _ _ (State.setTop _ (mkF _ _ _ [.double x21, .int (1 : Int32), .ref x89_2]))
      obtain ⟨x22, xg22, xh22⟩ := rd2.2 (E 2) (by omega)
      rw [best I2 rx2 arcs be2.1 be2.2.1 be2.1 be2.2.1] at xh22
      refine g_dastoreD W166 H166 (i := 13) rfl (jx := 1) (by decide) (by exact (by decide : 1 < 3)) d26_224 (pc' := 225) rfl (L' := ((a91, o_ShortestPathTree Z (.ref nt) (.ref dsA) (.ref prA) (.ref hpA) (.ref psA) (.int hz2)) :: (dsA, DaC Z DL2) :: (prA, IaC Z PL2) :: (hpA, IaC Z HL2) :: (psA, IaC Z QL2) :: (nt, o_Network Z (.int (3 : Int32)) (.int ftI) (.ref tlA) (.ref hdA) (.ref caA) (.ref ffA) (.ref bsA) (.ref pwA) (.ref foA) (.ref oaA)) :: (foA, IaC Z FO) :: (oaA, IaC Z OA) :: (hdA, IaC Z HDl) :: (tmA, DaC Z TM) :: (a89, ArC Z (.array .double) [.ref x89_0, .ref x89_1, .ref x89_2]) :: (x89_0, DaC Z ([x00, x01, x02] : List UInt64)) :: (x89_1, DaC Z ([x10, x11, x12] : List UInt64)) :: (x89_2, DaC Z ([x20, x21, 0] : List UInt64)) :: (rt, o_RouteTimes Z (.ref a4) (.ref a89)) :: (a4, IaC Z RL) :: (a10, IaC Z EL) :: JF)) rfl ?_
      intro T167 W167 H167
      refine g_iinc W167 d26_225 (pc' := 228) rfl rfl (v := (2 : Int32)) (by decide) (ls' := #[.val (.ref rt), .val (.ref nt), .val (.ref tmA), .val (.ref al), .val (.ref a10), .val (.int (3 : Int32)), .val (.ref a91), .val (.int (2 : Int32)), .val (.int (2 : Int32)), .val (.int z9)]) rfl ?_
      refine g_goto W167 d26_228 (pc' := 198) (by decide) ?_
      refine g_iload W167 d26_198 (pc' := 200) rfl rfl ?_
      refine g_iload W167 d26_200 (pc' := 202) rfl rfl ?_
      refine g_icmp W167 d26_202 (pcy := 231) (by decide) (pc' := 205) rfl (fun (h : ¬ (2 : Int32) < (3 : Int32)) => absurd h (by decide)) (fun _ => ?_)
      refine g_aloadN W167 d26_205 (pc' := 206) rfl rfl rfl ?_
      refine g_getf W167 (wd_376 hw) Via.refl H167 (i := 14) rfl (jx := 1) rfl d26_206 (pc' := 209) rfl ?_
      intro T168 W168 H168
      refine g_iload W168 d26_209 (pc' := 211) rfl rfl ?_
      refine g_aaloadG W168 H168 (i := 10) rfl (jx := 2) (by decide) (v := .ref x89_2) rfl d26_211 (pc' := 212) rfl ?_
      refine g_iload W168 d26_212 (pc' := 214) rfl rfl ?_
      refine g_aload W168 d26_214 (pc' := 216) rfl rfl rfl ?_
      refine g_aload W168 d26_216 (pc' := 218) rfl rfl rfl ?_
      refine g_iload W168 d26_218 (pc' := 220) rfl rfl ?_
      refine g_ialoadI W168 H168 (i := 16) rfl (jx := 2) (by decide) (u := e2) eg2 d26_220 (pc' := 221) rfl ?_
      have H169f := Hp.fr1 H168
      have H170f := Hp.fr1 H169f
      refine g_callV W168 (argsL := [.int e2]) (st := [.int (2 : Int32), .ref x89_2]) (wd_430 hw) (wd_431 hw) (wd_433 hw) (wd_432 hw) (wd_380 hw) (wd_434 hw) (by decide) (a := a91) H170f (i := 0) rfl (c_dist l Z a0 hw n0 a91 nt dsA prA hpA psA hz2 DL2 e2 (E 2) eh2 x22 xg22 _ _ H170f) pd_20 rfl rfl rfl d26_221 (pc' := 224) rfl (by decide) (Wn := 2) (Nat.le_of_eq rfl) (by decide) (kc' := 16) (ks' := 57) rfl rfl (by decide) (by decide) ?_
      intro T171 v171 W171 hp171
      obtain ⟨rfl, H171⟩ := hp171
      show Goes _ _ _ _ (State.setTop _ (mkF _ _ _ [.double x22, .int (2 : Int32), .ref x89_2]))
      refine g_dastoreD W171 H171 (i := 13) rfl (jx := 2) (by decide) (by exact (by decide : 2 < 3)) d26_224 (pc' := 225) rfl (L' := ((a91, o_ShortestPathTree Z (.ref nt) (.ref dsA) (.ref prA) (.ref hpA) (.ref psA) (.int hz2)) :: (dsA, DaC Z DL2) :: (prA, IaC Z PL2) :: (hpA, IaC Z HL2) :: (psA, IaC Z QL2) :: (nt, o_Network Z (.int (3 : Int32)) (.int ftI) (.ref tlA) (.ref hdA) (.ref caA) (.ref ffA) (.ref bsA) (.ref pwA) (.ref foA) (.ref oaA)) :: (foA, IaC Z FO) :: (oaA, IaC Z OA) :: (hdA, IaC Z HDl) :: (tmA, DaC Z TM) :: (a89, ArC Z (.array .double) [.ref x89_0, .ref x89_1, .ref x89_2]) :: (x89_0, DaC Z ([x00, x01, x02] : List UInt64)) :: (x89_1, DaC Z ([x10, x11, x12] : List UInt64)) :: (x89_2, DaC Z ([x20, x21, x22] : List UInt64)) :: (rt, o_RouteTimes Z (.ref a4) (.ref a89)) :: (a4, IaC Z RL) :: (a10, IaC Z EL) :: JF)) rfl ?_
      intro T172 W172 H172
      refine g_iinc W172 d26_225 (pc' := 228) rfl rfl (v := (3 : Int32)) (by decide) (ls' := #[.val (.ref rt), .val (.ref nt), .val (.ref tmA), .val (.ref al), .val (.ref a10), .val (.int (3 : Int32)), .val (.ref a91), .val (.int (2 : Int32)), .val (.int (3 : Int32)), .val (.int z9)]) rfl ?_
      refine g_goto W172 d26_228 (pc' := 198) (by decide) ?_
      refine g_iload W172 d26_198 (pc' := 200) rfl rfl ?_
      refine g_iload W172 d26_200 (pc' := 202) rfl rfl ?_
      refine g_icmp W172 d26_202 (pcy := 231) (by decide) (pc' := 205) rfl (fun _ => ?_) (fun (h : ¬ ¬ (3 : Int32) < (3 : Int32)) => absurd h (by decide))
      refine g_iinc W172 d26_231 (pc' := 234) rfl rfl (v := (3 : Int32)) (by decide) (ls' := #[.val (.ref rt), .val (.ref nt), .val (.ref tmA), .val (.ref al), .val (.ref a10), .val (.int (3 : Int32)), .val (.ref a91), .val (.int (3 : Int32)), .val (.int (3 : Int32)), .val (.int z9)]) rfl ?_
      refine g_goto W172 d26_234 (pc' := 177) (by decide) ?_
      refine g_iload W172 d26_177 (pc' := 179) rfl rfl ?_
      refine g_iload W172 d26_179 (pc' := 181) rfl rfl ?_
      refine g_icmp W172 d26_181 (pcy := 237) (by decide) (pc' := 184) rfl (fun _ => ?_) (fun (h : ¬ ¬ (3 : Int32) < (3 : Int32)) => absurd h (by decide))
      have H173f := Hp.fr10 H172
      have H174f := Hp.fr15 H173f
      have H175f := Hp.fr15 H174f
      have fin : ∀ J, (∀ r ∈ [(x89_0, DaC Z [x00, x01, x02]), (x89_1, DaC Z [x10, x11, x12]), (x89_2, DaC Z [x20, x21, x22])], r ∈ J) → TOk Z ftn T Hd tm Rw [.ref x89_0, .ref x89_1, .ref x89_2] J := fun J hJ => tok ei.1 (fun i j hi hj => by
        match i, j, hi, hj with
        | 0, 0, _, _ => exact ⟨x89_0, _, x00, rfl, hJ _ (List.mem_cons_self ..), rfl, xh00⟩
        | 0, 1, _, _ => exact ⟨x89_0, _, x01, rfl, hJ _ (List.mem_cons_self ..), rfl, xh01⟩
        | 0, 2, _, _ => exact ⟨x89_0, _, x02, rfl, hJ _ (List.mem_cons_self ..), rfl, xh02⟩
        | 1, 0, _, _ => exact ⟨x89_1, _, x10, rfl, hJ _ (mc1 (List.mem_cons_self ..)), rfl, xh10⟩
        | 1, 1, _, _ => exact ⟨x89_1, _, x11, rfl, hJ _ (mc1 (List.mem_cons_self ..)), rfl, xh11⟩
        | 1, 2, _, _ => exact ⟨x89_1, _, x12, rfl, hJ _ (mc1 (List.mem_cons_self ..)), rfl, xh12⟩
        | 2, 0, _, _ => exact ⟨x89_2, _, x20, rfl, hJ _ (mc2 (List.mem_cons_self ..)), rfl, xh20⟩
        | 2, 1, _, _ => exact ⟨x89_2, _, x21, rfl, hJ _ (mc2 (List.mem_cons_self ..)), rfl, xh21⟩
        | 2, 2, _, _ => exact ⟨x89_2, _, x22, rfl, hJ _ (mc2 (List.mem_cons_self ..)), rfl, xh22⟩)
      exact g_return W172 d26_237 ⟨a4, a89, RL, _, _, Rw, rfl, H175f, rr, s1, s2, s34, fin _ (fun r hr => by simp only [List.mem_cons, List.not_mem_nil, or_false] at hr; rcases hr with rfl | rfl | rfl; exact (mc10 (List.mem_cons_self ..)); exact (mc11 (List.mem_cons_self ..)); exact (mc12 (List.mem_cons_self ..)))⟩ (by decide) (by decide)
  refine g_aload W12 d26_43 (pc' := 45) rfl rfl rfl ?_
  have H176f := Hp.fr1 H12
  have H177f := Hp.fr1 H176f
  refine g_callF W12 (argsL := []) (st := []) (wd_241 hw) (wd_242 hw) (fun _ _ hZ => mvT hZ (wd_243 hw)) (wd_244 hw) (wd_245 hw) (wd_246 hw) (wd_247 hw) (wd_248 hw) (wd_228 hw) (wd_249 hw) (by decide) (a := it) (H177f.exa (i := 0) rfl) (c_hasn l Z a0 hw n0 it al el mcP sz (0 : Int32) (-1 : Int32) (1 : Int32) (Or.inr ⟨by rcases hsz with rfl | ⟨rfl, -⟩ <;> decide, rfl⟩) _ _ H177f) pd_21 rfl rfl rfl d26_45 (pc' := 50) rfl (by decide) (Wn := 0) (Nat.le_of_eq rfl) (by decide) (kc' := 3) (ks' := 11) rfl rfl (by decide) (by decide) ?_
  intro T178 v178 W178 hp178
  obtain ⟨rfl, H178⟩ := hp178
  show Goes _ _ _ _ (State.setTop _ (mkF _ _ _ [.int (1 : Int32)]))
  refine g_if W178 d26_50 (pcy := 152) (by decide) (pc' := 53) rfl (fun (h : (1 : Int32) = (0 : Int32)) => absurd h (by decide)) (fun _ => ?_)
  refine g_aload W178 d26_53 (pc' := 55) rfl rfl rfl ?_
  have H179f := Hp.fr10 H178
  have H180f := Hp.fr2 H179f
  have H181f := Hp.fr2 H180f
  refine g_callF W178 (argsL := []) (st := []) (wd_253 hw) (wd_254 hw) (fun _ _ hZ => mvT hZ (wd_255 hw)) (wd_256 hw) (wd_257 hw) (wd_258 hw) (wd_259 hw) (wd_248 hw) (wd_228 hw) (wd_260 hw) (by decide) (a := it) (H181f.exa (i := 0) rfl) (c_itnext l Z a0 hw n0 it al el mcP sz (0 : Int32) (-1 : Int32) lv p1 0 hlen (by decide) hl0 (by rcases hsz with rfl | ⟨rfl, -⟩ <;> decide) (by decide) _ _ H181f) pd_22 rfl rfl rfl d26_55 (pc' := 60) rfl (by decide) (Wn := 0) (Nat.le_of_eq rfl) (by decide) (kc' := 3) (ks' := 11) rfl rfl (by decide) (by decide) ?_
  intro T182 v182 W182 hp182
  obtain ⟨rfl, H182⟩ := hp182
  show Goes _ _ _ _ (State.setTop _ (mkF _ _ _ [.ref p1]))
  rw [show (0 : Int32) + (1 : Int32) = (1 : Int32) by decide] at H182
  refine g_cast1 W182 (wd_267 hw) (Ins.self (H182.exam (mc11 hp1))) H182 d26_60 (pc' := 63) rfl ?_
  intro T183 W183 _ H183
  refine g_astore W183 d26_63 (pc' := 65) rfl rfl (ls' := #[.val (.ref rt), .val (.ref nt), .val (.ref tmA), .val (.ref al), .val (.ref a10), .val (.int (0 : Int32)), .val (.ref it), .val (.ref p1), .unset, .unset]) rfl ?_
  refine g_aload W183 d26_65 (pc' := 67) rfl rfl rfl ?_
  refine g_callVE W183 (argsL := []) (st := []) (wd_269 hw) (wd_270 hw) (wd_272 hw) (wd_271 hw) (wd_190 hw) (wd_273 hw) (fun _ hZ => notFace_of_selects (args := #[]) (mvT hZ (wd_272 hw))) (by decide) (a := p1) (H183.exam (mc11 hp1)) (c_p_origin l Z a0 hw n0 p1 i1 i2 _ (mc11 hp1) _ H183) pd_7 rfl rfl rfl d26_67 (pc' := 70) rfl (by decide) (Wn := 0) (Nat.le_of_eq rfl) (by decide) (kc' := 3) (ks' := 11) rfl rfl (by decide) (by decide) ?_
  intro T184 v184 W184 hp184
  obtain ⟨rfl, H184⟩ := hp184
  show Goes _ _ _ _ (State.setTop _ (mkF _ _ _ [.int i1]))
  refine g_callS W184 (argsL := [.int i1]) (st := []) (wd_274 hw) (wd_275 hw) (wd_276 hw) (wd_277 hw) (by decide) (c_ival l Z a0 hw n0 ca cc hH hCa hB i1 (own_sm hi1 b1.2).1 (own_sm hi1 b1.2).2 _ _ H184) pd_23 rfl rfl rfl d26_70 (pc' := 73) rfl (by decide) (Wn := 0) (Nat.le_of_eq rfl) (by decide) (kc' := 3) (ks' := 11) rfl rfl (by decide) (by decide) ?_
  intro T185 v185 W185 hp185
  obtain ⟨xa0, rfl, hxa0, H185⟩ := hp185
  show Goes _ _ _ _ (State.setTop _ (mkF _ _ _ [.ref xa0]))
  refine g_aload W185 d26_73 (pc' := 75) rfl rfl rfl ?_
  refine g_callVE W185 (argsL := []) (st := [.ref xa0]) (wd_281 hw) (wd_282 hw) (wd_284 hw) (wd_283 hw) (wd_190 hw) (wd_285 hw) (fun _ hZ => notFace_of_selects (args := #[]) (mvT hZ (wd_284 hw))) (by decide) (a := p1) (H185.exam (mc11 hp1)) (c_p_destination l Z a0 hw n0 p1 i1 i2 _ (mc11 hp1) _ H185) pd_7 rfl rfl rfl d26_75 (pc' := 78) rfl (by decide) (Wn := 1) (Nat.le_of_eq rfl) (by decide) (kc' := 3) (ks' := 11) rfl rfl (by decide) (by decide) ?_
  intro T186 v186 W186 hp186
  obtain ⟨rfl, H186⟩ := hp186
  show Goes _ _ _ _ (State.setTop _ (mkF _ _ _ [.int i2, .ref xa0]))
  refine g_callS W186 (argsL := [.int i2]) (st := [.ref xa0]) (wd_274 hw) (wd_275 hw) (wd_276 hw) (wd_277 hw) (by decide) (c_ival l Z a0 hw n0 ca cc hH hCa hB i2 (own_sm hi2 b2.2).1 (own_sm hi2 b2.2).2 _ _ H186) pd_23 rfl rfl rfl d26_78 (pc' := 81) rfl (by decide) (Wn := 1) (Nat.le_of_eq rfl) (by decide) (kc' := 3) (ks' := 11) rfl rfl (by decide) (by decide) ?_
  intro T187 v187 W187 hp187
  obtain ⟨ya0, rfl, hya0, H187⟩ := hp187
  show Goes _ _ _ _ (State.setTop _ (mkF _ _ _ [.ref ya0, .ref xa0]))
  refine g_callS W187 (argsL := [.ref xa0, .ref ya0]) (st := []) (wd_286 hw) (wd_287 hw) (wd_288 hw) (wd_289 hw) (by decide) (c_lof l Z a0 hw n0 xa0 ya0 _ _ H187) pd_24 rfl rfl rfl d26_81 (pc' := 84) rfl (by decide) (Wn := 0) (Nat.le_of_eq rfl) (by decide) (kc' := 4) (ks' := 13) rfl rfl (by decide) (by decide) ?_
  intro T188 v188 W188 hp188
  obtain ⟨li0, rfl, H188⟩ := hp188
  show Goes _ _ _ _ (State.setTop _ (mkF _ _ _ [.ref li0]))
  have hne0 : ya0 ≠ em := exa_ne hya0.1 hEx (by decide)
  refine g_callF W188 (argsL := []) (st := []) (wd_218 hw) (wd_219 hw) (fun _ _ hZ => mvT hZ (wd_220 hw)) (wd_318 hw) (wd_319 hw) (wd_320 hw) (wd_321 hw) (wd_322 hw) (wd_301 hw) (wd_323 hw) (by decide) (a := li0) (H188.exa (i := 0) rfl) (c_liter l Z a0 hw n0 em hEm hEx li0 xa0 ya0 hne0 _ _ H188) pd_17 rfl rfl rfl d26_84 (pc' := 89) rfl (by decide) (Wn := 0) (Nat.le_of_eq rfl) (by decide) (kc' := 5) (ks' := 17) rfl rfl (by decide) (by decide) ?_
  intro T189 v189 W189 hp189
  obtain ⟨lt0, rfl, H189⟩ := hp189
  show Goes _ _ _ _ (State.setTop _ (mkF _ _ _ [.ref lt0]))
  refine g_astore W189 d26_89 (pc' := 91) rfl rfl (ls' := #[.val (.ref rt), .val (.ref nt), .val (.ref tmA), .val (.ref al), .val (.ref a10), .val (.int (0 : Int32)), .val (.ref it), .val (.ref p1), .val (.ref lt0), .unset]) rfl ?_
  have h00 : ((0 : Int32)).toInt = ((0 : Nat) : Int) := by decide
  have N1 : ∀ (TJN1 : State) (z9 : Int32) (RL EL : List Int32) (Rw : Nat → Int) (E : Nat → Nat) (cn : Nat) (cI : Int32) (hcI : cI.toInt = (cn : Int)) (rr : RI RL Rw) (re : REn EL E cn) (ei : EI Rw E cn) (s1 : 0 ≤ Rw k1), Wk Z ⟨"com/example/lanewright/lanewright/RouteTimes", "<init>", "(Lcom/example/lanewright/lanewright/Network;[DLjava/util/List;)V"⟩ prog_47_method_1_code 10 none n0 p l e ({ frames := 6, cells := 16, slots := 57, locals := 76 } : Room) s m #[.ref rt, .ref nt, .ref tmA, .ref al] below meth c TJN1 5 17 → Hp Z n0 TJN1.heap ((lt0, o_ImmutableCollections_ListItr Z (.ref li0) (.int (2 : Int32)) (.int (1 : Int32)) (.int (0 : Int32))) :: (li0, o_ImmutableCollections_List12 Z (.ref xa0) (.ref ya0)) :: (it, o_ArrayList_Itr Z (.ref al) (.int (0 : Int32)) (.int mcP) (.int (1 : Int32))) :: (al, o_ArrayList Z (.int mcP) (.ref el) (.int sz)) :: (el, RaC Z "java/lang/Object" lv) :: (a10, IaC Z EL) :: (nt, o_Network Z (.int (3 : Int32)) (.int ftI) (.ref tlA) (.ref hdA) (.ref caA) (.ref ffA) (.ref bsA) (.ref pwA) (.ref foA) (.ref oaA)) :: (a4, IaC Z RL) :: (rt, o_RouteTimes Z (.ref a4) .null) :: (foA, IaC Z FO) :: (oaA, IaC Z OA) :: (hdA, IaC Z HDl) :: (tmA, DaC Z TM) :: F) → Goes p e below (En s n0 (Room.cells ({ frames := 6, cells := 16, slots := 57, locals := 76 } : Room)) (Room.slots ({ frames := 6, cells := 16, slots := 57, locals := 76 } : Room)) (fun v h => ∃ (rA tA : Addr) (RL : List Int32) (xs : List Value) (J : List HRow) (Rw : Nat → Int), v = none ∧ Hp Z n0 h ((rt, o_RouteTimes Z (.ref rA) (.ref tA)) :: (rA, IaC Z RL) :: (tA, ArC Z (.array .double) xs) :: J) ∧ RI RL Rw ∧ 0 ≤ Rw k1 ∧ 0 ≤ Rw k2 ∧ (sz = 2 → 0 ≤ Rw k3 ∧ 0 ≤ Rw k4) ∧ TOk Z ftn T Hd tm Rw xs J)) (TJN1.setTop (mkF m 91 #[.val (.ref rt), .val (.ref nt), .val (.ref tmA), .val (.ref al), .val (.ref a10), .val (.int cI), .val (.ref it), .val (.ref p1), .val (.ref lt0), .val (.int z9)] [])) := by
    intro TJN1 z9 RL EL Rw E cn cI hcI rr re ei s1 WJN1 HJN1
    have N2 : ∀ (TJN2 : State) (z9 : Int32) (RL EL : List Int32) (Rw : Nat → Int) (E : Nat → Nat) (cn : Nat) (cI : Int32) (hcI : cI.toInt = (cn : Int)) (rr : RI RL Rw) (re : REn EL E cn) (ei : EI Rw E cn) (s1 : 0 ≤ Rw k1) (s2 : 0 ≤ Rw k2), Wk Z ⟨"com/example/lanewright/lanewright/RouteTimes", "<init>", "(Lcom/example/lanewright/lanewright/Network;[DLjava/util/List;)V"⟩ prog_47_method_1_code 10 none n0 p l e ({ frames := 6, cells := 16, slots := 57, locals := 76 } : Room) s m #[.ref rt, .ref nt, .ref tmA, .ref al] below meth c TJN2 5 17 → Hp Z n0 TJN2.heap ((lt0, o_ImmutableCollections_ListItr Z (.ref li0) (.int (2 : Int32)) (.int (2 : Int32)) (.int (0 : Int32))) :: (li0, o_ImmutableCollections_List12 Z (.ref xa0) (.ref ya0)) :: (it, o_ArrayList_Itr Z (.ref al) (.int (0 : Int32)) (.int mcP) (.int (1 : Int32))) :: (al, o_ArrayList Z (.int mcP) (.ref el) (.int sz)) :: (el, RaC Z "java/lang/Object" lv) :: (a10, IaC Z EL) :: (nt, o_Network Z (.int (3 : Int32)) (.int ftI) (.ref tlA) (.ref hdA) (.ref caA) (.ref ffA) (.ref bsA) (.ref pwA) (.ref foA) (.ref oaA)) :: (a4, IaC Z RL) :: (rt, o_RouteTimes Z (.ref a4) .null) :: (foA, IaC Z FO) :: (oaA, IaC Z OA) :: (hdA, IaC Z HDl) :: (tmA, DaC Z TM) :: F) → Goes p e below (En s n0 (Room.cells ({ frames := 6, cells := 16, slots := 57, locals := 76 } : Room)) (Room.slots ({ frames := 6, cells := 16, slots := 57, locals := 76 } : Room)) (fun v h => ∃ (rA tA : Addr) (RL : List Int32) (xs : List Value) (J : List HRow) (Rw : Nat → Int), v = none ∧ Hp Z n0 h ((rt, o_RouteTimes Z (.ref rA) (.ref tA)) :: (rA, IaC Z RL) :: (tA, ArC Z (.array .double) xs) :: J) ∧ RI RL Rw ∧ 0 ≤ Rw k1 ∧ 0 ≤ Rw k2 ∧ (sz = 2 → 0 ≤ Rw k3 ∧ 0 ≤ Rw k4) ∧ TOk Z ftn T Hd tm Rw xs J)) (TJN2.setTop (mkF m 91 #[.val (.ref rt), .val (.ref nt), .val (.ref tmA), .val (.ref al), .val (.ref a10), .val (.int cI), .val (.ref it), .val (.ref p1), .val (.ref lt0), .val (.int z9)] [])) := by
      intro TJN2 z9 RL EL Rw E cn cI hcI rr re ei s1 s2 WJN2 HJN2
      refine g_aload WJN2 d26_91 (pc' := 93) rfl rfl rfl ?_
      refine g_callF WJN2 (argsL := []) (st := []) (wd_241 hw) (wd_242 hw) (fun _ _ hZ => mvT hZ (wd_243 hw)) (wd_348 hw) (wd_349 hw) (wd_350 hw) (wd_351 hw) (wd_352 hw) (wd_326 hw) (wd_353 hw) (by decide) (a := lt0) (HJN2.exa (i := 0) rfl) (c_hasl l Z a0 hw n0 lt0 li0 (2 : Int32) (0 : Int32) (Or.inl ⟨rfl, rfl⟩) _ _ HJN2) pd_21 rfl rfl rfl d26_93 (pc' := 98) rfl (by decide) (Wn := 0) (Nat.le_of_eq rfl) (by decide) (kc' := 5) (ks' := 17) rfl rfl (by decide) (by decide) ?_
      intro T190 v190 W190 hp190
      obtain ⟨rfl, H190⟩ := hp190
      show Goes _ _ _ _ (State.setTop _ (mkF _ _ _ [.int (0 : Int32)]))
      refine g_if W190 d26_98 (pcy := 149) (by decide) (pc' := 101) rfl (fun _ => ?_) (fun (h : ¬ (0 : Int32) = (0 : Int32)) => absurd h (by decide))
      refine g_goto W190 d26_149 (pc' := 43) (by decide) ?_
      rcases hsz with rfl | ⟨rfl, p2, hl1, hp2⟩
      · refine g_aload W190 d26_43 (pc' := 45) rfl rfl rfl ?_
        have H191f := Hp.fr3 H190
        have H192f := Hp.fr3 H191f
        refine g_callF W190 (argsL := []) (st := []) (wd_241 hw) (wd_242 hw) (fun _ _ hZ => mvT hZ (wd_243 hw)) (wd_244 hw) (wd_245 hw) (wd_246 hw) (wd_247 hw) (wd_248 hw) (wd_228 hw) (wd_249 hw) (by decide) (a := it) (H192f.exa (i := 0) rfl) (c_hasn l Z a0 hw n0 it al el mcP (1 : Int32) (1 : Int32) (0 : Int32) (0 : Int32) (Or.inl ⟨rfl, rfl⟩) _ _ H192f) pd_21 rfl rfl rfl d26_45 (pc' := 50) rfl (by decide) (Wn := 0) (Nat.le_of_eq rfl) (by decide) (kc' := 5) (ks' := 17) rfl rfl (by decide) (by decide) ?_
        intro T193 v193 W193 hp193
        obtain ⟨rfl, H193⟩ := hp193
        show Goes _ _ _ _ (State.setTop _ (mkF _ _ _ [.int (0 : Int32)]))
        refine g_if W193 d26_50 (pcy := 152) (by decide) (pc' := 53) rfl (fun _ => ?_) (fun (h : ¬ (0 : Int32) = (0 : Int32)) => absurd h (by decide))
        have H194f := Hp.fr12 H193
        have H195f := Hp.fr12 H194f
        have H196f := Hp.fr12 H195f
        have H197f := Hp.fr12 H196f
        have H198f := Hp.fr10 H197f
        have H199f := Hp.fr10 H198f
        have H200f := Hp.fr11 H199f
        have H201f := Hp.fr12 H200f
        exact TL _ it p1 lt0 z9 _ RL EL Rw E cn cI hcI rr re ei s1 s2 (fun z => absurd z (by decide)) (W193.more (by decide) (by decide)) H201f
      · refine g_aload W190 d26_43 (pc' := 45) rfl rfl rfl ?_
        have H202f := Hp.fr3 H190
        have H203f := Hp.fr3 H202f
        refine g_callF W190 (argsL := []) (st := []) (wd_241 hw) (wd_242 hw) (fun _ _ hZ => mvT hZ (wd_243 hw)) (wd_244 hw) (wd_245 hw) (wd_246 hw) (wd_247 hw) (wd_248 hw) (wd_228 hw) (wd_249 hw) (by decide) (a := it) (H203f.exa (i := 0) rfl) (c_hasn l Z a0 hw n0 it al el mcP (2 : Int32) (1 : Int32) (0 : Int32) (1 : Int32) (Or.inr ⟨by decide, rfl⟩) _ _ H203f) pd_21 rfl rfl rfl d26_45 (pc' := 50) rfl (by decide) (Wn := 0) (Nat.le_of_eq rfl) (by decide) (kc' := 5) (ks' := 17) rfl rfl (by decide) (by decide) ?_
        intro T204 v204 W204 hp204
        obtain ⟨rfl, H204⟩ := hp204
        show Goes _ _ _ _ (State.setTop _ (mkF _ _ _ [.int (1 : Int32)]))
        refine g_if W204 d26_50 (pcy := 152) (by decide) (pc' := 53) rfl (fun (h : (1 : Int32) = (0 : Int32)) => absurd h (by decide)) (fun _ => ?_)
        refine g_aload W204 d26_53 (pc' := 55) rfl rfl rfl ?_
        have H205f := Hp.fr4 H204
        have H206f := Hp.fr2 H205f
        have H207f := Hp.fr2 H206f
        refine g_callF W204 (argsL := []) (st := []) (wd_253 hw) (wd_254 hw) (fun _ _ hZ => mvT hZ (wd_255 hw)) (wd_256 hw) (wd_257 hw) (wd_258 hw) (wd_259 hw) (wd_248 hw) (wd_228 hw) (wd_260 hw) (by decide) (a := it) (H207f.exa (i := 0) rfl) (c_itnext l Z a0 hw n0 it al el mcP (2 : Int32) (1 : Int32) (0 : Int32) lv p2 1 hlen (by decide) hl1 (by decide) (by decide) _ _ H207f) pd_22 rfl rfl rfl d26_55 (pc' := 60) rfl (by decide) (Wn := 0) (Nat.le_of_eq rfl) (by decide) (kc' := 5) (ks' := 17) rfl rfl (by decide) (by decide) ?_
        intro T208 v208 W208 hp208
        obtain ⟨rfl, H208⟩ := hp208
        show Goes _ _ _ _ (State.setTop _ (mkF _ _ _ [.ref p2]))
        rw [show (1 : Int32) + (1 : Int32) = (2 : Int32) by decide] at H208
        refine g_cast1 W208 (wd_267 hw) (Ins.self (H208.exam (mc13 hp2))) H208 d26_60 (pc' := 63) rfl ?_
        intro T209 W209 _ H209
        refine g_astore W209 d26_63 (pc' := 65) rfl rfl (ls' := #[.val (.ref rt), .val (.ref nt), .val (.ref tmA), .val (.ref al), .val (.ref a10), .val (.int cI), .val (.ref it), .val (.ref p2), .val (.ref lt0), .val (.int z9)]) rfl ?_
        refine g_aload W209 d26_65 (pc' := 67) rfl rfl rfl ?_
        refine g_callVE W209 (argsL := []) (st := []) (wd_269 hw) (wd_270 hw) (wd_272 hw) (wd_271 hw) (wd_190 hw) (wd_273 hw) (fun _ hZ => notFace_of_selects (args := #[]) (mvT hZ (wd_272 hw))) (by decide) (a := p2) (H209.exam (mc13 hp2)) (c_p_origin l Z a0 hw n0 p2 i3 i4 _ (mc13 hp2) _ H209) pd_7 rfl rfl rfl d26_67 (pc' := 70) rfl (by decide) (Wn := 0) (Nat.le_of_eq rfl) (by decide) (kc' := 5) (ks' := 17) rfl rfl (by decide) (by decide) ?_
        intro T210 v210 W210 hp210
        obtain ⟨rfl, H210⟩ := hp210
        show Goes _ _ _ _ (State.setTop _ (mkF _ _ _ [.int i3]))
        refine g_callS W210 (argsL := [.int i3]) (st := []) (wd_274 hw) (wd_275 hw) (wd_276 hw) (wd_277 hw) (by decide) (c_ival l Z a0 hw n0 ca cc hH hCa hB i3 (own_sm hi3 b3.2).1 (own_sm hi3 b3.2).2 _ _ H210) pd_23 rfl rfl rfl d26_70 (pc' := 73) rfl (by decide) (Wn := 0) (Nat.le_of_eq rfl) (by decide) (kc' := 5) (ks' := 17) rfl rfl (by decide) (by decide) ?_
        intro T211 v211 W211 hp211
        obtain ⟨xa1, rfl, hxa1, H211⟩ := hp211
        show Goes _ _ _ _ (State.setTop _ (mkF _ _ _ [.ref xa1]))
        refine g_aload W211 d26_73 (pc' := 75) rfl rfl rfl ?_
        refine g_callVE W211 (argsL := []) (st := [.ref xa1]) (wd_281 hw) (wd_282 hw) (wd_284 hw) (wd_283 hw) (wd_190 hw) (wd_285 hw) (fun _ hZ => notFace_of_selects (args := #[]) (mvT hZ (wd_284 hw))) (by decide) (a := p2) (H211.exam (mc13 hp2)) (c_p_destination l Z a0 hw n0 p2 i3 i4 _ (mc13 hp2) _ H211) pd_7 rfl rfl rfl d26_75 (pc' := 78) rfl (by decide) (Wn := 1) (Nat.le_of_eq rfl) (by decide) (kc' := 5) (ks' := 17) rfl rfl (by decide) (by decide) ?_
        intro T212 v212 W212 hp212
        obtain ⟨rfl, H212⟩ := hp212
        show Goes _ _ _ _ (State.setTop _ (mkF _ _ _ [.int i4, .ref xa1]))
        refine g_callS W212 (argsL := [.int i4]) (st := [.ref xa1]) (wd_274 hw) (wd_275 hw) (wd_276 hw) (wd_277 hw) (by decide) (c_ival l Z a0 hw n0 ca cc hH hCa hB i4 (own_sm hi4 b4.2).1 (own_sm hi4 b4.2).2 _ _ H212) pd_23 rfl rfl rfl d26_78 (pc' := 81) rfl (by decide) (Wn := 1) (Nat.le_of_eq rfl) (by decide) (kc' := 5) (ks' := 17) rfl rfl (by decide) (by decide) ?_
        intro T213 v213 W213 hp213
        obtain ⟨ya1, rfl, hya1, H213⟩ := hp213
        show Goes _ _ _ _ (State.setTop _ (mkF _ _ _ [.ref ya1, .ref xa1]))
        refine g_callS W213 (argsL := [.ref xa1, .ref ya1]) (st := []) (wd_286 hw) (wd_287 hw) (wd_288 hw) (wd_289 hw) (by decide) (c_lof l Z a0 hw n0 xa1 ya1 _ _ H213) pd_24 rfl rfl rfl d26_81 (pc' := 84) rfl (by decide) (Wn := 0) (Nat.le_of_eq rfl) (by decide) (kc' := 6) (ks' := 19) rfl rfl (by decide) (by decide) ?_
        intro T214 v214 W214 hp214
        obtain ⟨li1, rfl, H214⟩ := hp214
        show Goes _ _ _ _ (State.setTop _ (mkF _ _ _ [.ref li1]))
        have hne1 : ya1 ≠ em := exa_ne hya1.1 hEx (by decide)
        refine g_callF W214 (argsL := []) (st := []) (wd_218 hw) (wd_219 hw) (fun _ _ hZ => mvT hZ (wd_220 hw)) (wd_318 hw) (wd_319 hw) (wd_320 hw) (wd_321 hw) (wd_322 hw) (wd_301 hw) (wd_323 hw) (by decide) (a := li1) (H214.exa (i := 0) rfl) (c_liter l Z a0 hw n0 em hEm hEx li1 xa1 ya1 hne1 _ _ H214) pd_17 rfl rfl rfl d26_84 (pc' := 89) rfl (by decide) (Wn := 0) (Nat.le_of_eq rfl) (by decide) (kc' := 7) (ks' := 23) rfl rfl (by decide) (by decide) ?_
        intro T215 v215 W215 hp215
        obtain ⟨lt1, rfl, H215⟩ := hp215
        show Goes _ _ _ _ (State.setTop _ (mkF _ _ _ [.ref lt1]))
        refine g_astore W215 d26_89 (pc' := 91) rfl rfl (ls' := #[.val (.ref rt), .val (.ref nt), .val (.ref tmA), .val (.ref al), .val (.ref a10), .val (.int cI), .val (.ref it), .val (.ref p2), .val (.ref lt1), .val (.int z9)]) rfl ?_
        have N3 : ∀ (TJN3 : State) (z9 : Int32) (RL EL : List Int32) (Rw : Nat → Int) (E : Nat → Nat) (cn : Nat) (cI : Int32) (hcI : cI.toInt = (cn : Int)) (rr : RI RL Rw) (re : REn EL E cn) (ei : EI Rw E cn) (s1 : 0 ≤ Rw k1) (s2 : 0 ≤ Rw k2) (s3 : 0 ≤ Rw k3), Wk Z ⟨"com/example/lanewright/lanewright/RouteTimes", "<init>", "(Lcom/example/lanewright/lanewright/Network;[DLjava/util/List;)V"⟩ prog_47_method_1_code 10 none n0 p l e ({ frames := 6, cells := 16, slots := 57, locals := 76 } : Room) s m #[.ref rt, .ref nt, .ref tmA, .ref al] below meth c TJN3 7 23 → Hp Z n0 TJN3.heap ((lt1, o_ImmutableCollections_ListItr Z (.ref li1) (.int (2 : Int32)) (.int (1 : Int32)) (.int (0 : Int32))) :: (li1, o_ImmutableCollections_List12 Z (.ref xa1) (.ref ya1)) :: (it, o_ArrayList_Itr Z (.ref al) (.int (1 : Int32)) (.int mcP) (.int (2 : Int32))) :: (al, o_ArrayList Z (.int mcP) (.ref el) (.int (2 : Int32))) :: (el, RaC Z "java/lang/Object" lv) :: (lt0, o_ImmutableCollections_ListItr Z (.ref li0) (.int (2 : Int32)) (.int (2 : Int32)) (.int (0 : Int32))) :: (li0, o_ImmutableCollections_List12 Z (.ref xa0) (.ref ya0)) :: (a10, IaC Z EL) :: (nt, o_Network Z (.int (3 : Int32)) (.int ftI) (.ref tlA) (.ref hdA) (.ref caA) (.ref ffA) (.ref bsA) (.ref pwA) (.ref foA) (.ref oaA)) :: (a4, IaC Z RL) :: (rt, o_RouteTimes Z (.ref a4) .null) :: (foA, IaC Z FO) :: (oaA, IaC Z OA) :: (hdA, IaC Z HDl) :: (tmA, DaC Z TM) :: F) → Goes p e below (En s n0 (Room.cells ({ frames := 6, cells := 16, slots := 57, locals := 76 } : Room)) (Room.slots ({ frames := 6, cells := 16, slots := 57, locals := 76 } : Room)) (fun v h => ∃ (rA tA : Addr) (RL : List Int32) (xs : List Value) (J : List HRow) (Rw : Nat → Int), v = none ∧ Hp Z n0 h ((rt, o_RouteTimes Z (.ref rA) (.ref tA)) :: (rA, IaC Z RL) :: (tA, ArC Z (.array .double) xs) :: J) ∧ RI RL Rw ∧ 0 ≤ Rw k1 ∧ 0 ≤ Rw k2 ∧ ((2 : Int32) = 2 → 0 ≤ Rw k3 ∧ 0 ≤ Rw k4) ∧ TOk Z ftn T Hd tm Rw xs J)) (TJN3.setTop (mkF m 91 #[.val (.ref rt), .val (.ref nt), .val (.ref tmA), .val (.ref al), .val (.ref a10), .val (.int cI), .val (.ref it), .val (.ref p2), .val (.ref lt1), .val (.int z9)] [])) := by
          intro TJN3 z9 RL EL Rw E cn cI hcI rr re ei s1 s2 s3 WJN3 HJN3
          have N4 : ∀ (TJN4 : State) (z9 : Int32) (RL EL : List Int32) (Rw : Nat → Int) (E : Nat → Nat) (cn : Nat) (cI : Int32) (hcI : cI.toInt = (cn : Int)) (rr : RI RL Rw) (re : REn EL E cn) (ei : EI Rw E cn) (s1 : 0 ≤ Rw k1) (s2 : 0 ≤ Rw k2) (s3 : 0 ≤ Rw k3) (s4 : 0 ≤ Rw k4), Wk Z ⟨"com/example/lanewright/lanewright/RouteTimes", "<init>", "(Lcom/example/lanewright/lanewright/Network;[DLjava/util/List;)V"⟩ prog_47_method_1_code 10 none n0 p l e ({ frames := 6, cells := 16, slots := 57, locals := 76 } : Room) s m #[.ref rt, .ref nt, .ref tmA, .ref al] below meth c TJN4 7 23 → Hp Z n0 TJN4.heap ((lt1, o_ImmutableCollections_ListItr Z (.ref li1) (.int (2 : Int32)) (.int (2 : Int32)) (.int (0 : Int32))) :: (li1, o_ImmutableCollections_List12 Z (.ref xa1) (.ref ya1)) :: (it, o_ArrayList_Itr Z (.ref al) (.int (1 : Int32)) (.int mcP) (.int (2 : Int32))) :: (al, o_ArrayList Z (.int mcP) (.ref el) (.int (2 : Int32))) :: (el, RaC Z "java/lang/Object" lv) :: (lt0, o_ImmutableCollections_ListItr Z (.ref li0) (.int (2 : Int32)) (.int (2 : Int32)) (.int (0 : Int32))) :: (li0, o_ImmutableCollections_List12 Z (.ref xa0) (.ref ya0)) :: (a10, IaC Z EL) :: (nt, o_Network Z (.int (3 : Int32)) (.int ftI) (.ref tlA) (.ref hdA) (.ref caA) (.ref ffA) (.ref bsA) (.ref pwA) (.ref foA) (.ref oaA)) :: (a4, IaC Z RL) :: (rt, o_RouteTimes Z (.ref a4) .null) :: (foA, IaC Z FO) :: (oaA, IaC Z OA) :: (hdA, IaC Z HDl) :: (tmA, DaC Z TM) :: F) → Goes p e below (En s n0 (Room.cells ({ frames := 6, cells := 16, slots := 57, locals := 76 } : Room)) (Room.slots ({ frames := 6, cells := 16, slots := 57, locals := 76 } : Room)) (fun v h => ∃ (rA tA : Addr) (RL : List Int32) (xs : List Value) (J : List HRow) (Rw : Nat → Int), v = none ∧ Hp Z n0 h ((rt, o_RouteTimes Z (.ref rA) (.ref tA)) :: (rA, IaC Z RL) :: (tA, ArC Z (.array .double) xs) :: J) ∧ RI RL Rw ∧ 0 ≤ Rw k1 ∧ 0 ≤ Rw k2 ∧ ((2 : Int32) = 2 → 0 ≤ Rw k3 ∧ 0 ≤ Rw k4) ∧ TOk Z ftn T Hd tm Rw xs J)) (TJN4.setTop (mkF m 91 #[.val (.ref rt), .val (.ref nt), .val (.ref tmA), .val (.ref al), .val (.ref a10), .val (.int cI), .val (.ref it), .val (.ref p2), .val (.ref lt1), .val (.int z9)] [])) := by
            intro TJN4 z9 RL EL Rw E cn cI hcI rr re ei s1 s2 s3 s4 WJN4 HJN4
            refine g_aload WJN4 d26_91 (pc' := 93) rfl rfl rfl ?_
            refine g_callF WJN4 (argsL := []) (st := []) (wd_241 hw) (wd_242 hw) (fun _ _ hZ => mvT hZ (wd_243 hw)) (wd_348 hw) (wd_349 hw) (wd_350 hw) (wd_351 hw) (wd_352 hw) (wd_326 hw) (wd_353 hw) (by decide) (a := lt1) (HJN4.exa (i := 0) rfl) (c_hasl l Z a0 hw n0 lt1 li1 (2 : Int32) (0 : Int32) (Or.inl ⟨rfl, rfl⟩) _ _ HJN4) pd_21 rfl rfl rfl d26_93 (pc' := 98) rfl (by decide) (Wn := 0) (Nat.le_of_eq rfl) (by decide) (kc' := 7) (ks' := 23) rfl rfl (by decide) (by decide) ?_
            intro T216 v216 W216 hp216
            obtain ⟨rfl, H216⟩ := hp216
            show Goes _ _ _ _ (State.setTop _ (mkF _ _ _ [.int (0 : Int32)]))
            refine g_if W216 d26_98 (pcy := 149) (by decide) (pc' := 101) rfl (fun _ => ?_) (fun (h : ¬ (0 : Int32) = (0 : Int32)) => absurd h (by decide))
            refine g_goto W216 d26_149 (pc' := 43) (by decide) ?_
            refine g_aload W216 d26_43 (pc' := 45) rfl rfl rfl ?_
            have H217f := Hp.fr3 H216
            have H218f := Hp.fr3 H217f
            refine g_callF W216 (argsL := []) (st := []) (wd_241 hw) (wd_242 hw) (fun _ _ hZ => mvT hZ (wd_243 hw)) (wd_244 hw) (wd_245 hw) (wd_246 hw) (wd_247 hw) (wd_248 hw) (wd_228 hw) (wd_249 hw) (by decide) (a := it) (H218f.exa (i := 0) rfl) (c_hasn l Z a0 hw n0 it al el mcP (2 : Int32) (2 : Int32) (1 : Int32) (0 : Int32) (Or.inl ⟨rfl, rfl⟩) _ _ H218f) pd_21 rfl rfl rfl d26_45 (pc' := 50) rfl (by decide) (Wn := 0) (Nat.le_of_eq rfl) (by decide) (kc' := 7) (ks' := 23) rfl rfl (by decide) (by decide) ?_
            intro T219 v219 W219 hp219
            obtain ⟨rfl, H219⟩ := hp219
            show Goes _ _ _ _ (State.setTop _ (mkF _ _ _ [.int (0 : Int32)]))
            refine g_if W219 d26_50 (pcy := 152) (by decide) (pc' := 53) rfl (fun _ => ?_) (fun (h : ¬ (0 : Int32) = (0 : Int32)) => absurd h (by decide))
            have H220f := Hp.fr14 H219
            have H221f := Hp.fr14 H220f
            have H222f := Hp.fr14 H221f
            have H223f := Hp.fr14 H222f
            have H224f := Hp.fr12 H223f
            have H225f := Hp.fr12 H224f
            have H226f := Hp.fr13 H225f
            have H227f := Hp.fr14 H226f
            exact TL _ it p2 lt1 z9 _ RL EL Rw E cn cI hcI rr re ei s1 s2 (fun _ => ⟨s3, s4⟩) (W219.more (by decide) (by decide)) H227f
          refine g_aload WJN3 d26_91 (pc' := 93) rfl rfl rfl ?_
          refine g_callF WJN3 (argsL := []) (st := []) (wd_241 hw) (wd_242 hw) (fun _ _ hZ => mvT hZ (wd_243 hw)) (wd_348 hw) (wd_349 hw) (wd_350 hw) (wd_351 hw) (wd_352 hw) (wd_326 hw) (wd_353 hw) (by decide) (a := lt1) (HJN3.exa (i := 0) rfl) (c_hasl l Z a0 hw n0 lt1 li1 (1 : Int32) (1 : Int32) (Or.inr ⟨by decide, rfl⟩) _ _ HJN3) pd_21 rfl rfl rfl d26_93 (pc' := 98) rfl (by decide) (Wn := 0) (Nat.le_of_eq rfl) (by decide) (kc' := 7) (ks' := 23) rfl rfl (by decide) (by decide) ?_
          intro T228 v228 W228 hp228
          obtain ⟨rfl, H228⟩ := hp228
          show Goes _ _ _ _ (State.setTop _ (mkF _ _ _ [.int (1 : Int32)]))
          refine g_if W228 d26_98 (pcy := 149) (by decide) (pc' := 101) rfl (fun (h : (1 : Int32) = (0 : Int32)) => absurd h (by decide)) (fun _ => ?_)
          refine g_aload W228 d26_101 (pc' := 103) rfl rfl rfl ?_
          have H229f := Hp.fr1 H228
          have H230f := Hp.fr1 H229f
          refine g_callFH W228 (argsL := []) (st := []) (wd_253 hw) (wd_254 hw) (fun _ _ hZ => mvT hZ (wd_255 hw)) (wd_354 hw) (wd_355 hw) (wd_356 hw) (wd_357 hw) (wd_352 hw) (wd_326 hw) (wd_358 hw) (by decide) (a := lt1) (H230f.exa (i := 0) rfl) (c_lnext1 l Z a0 hw n0 em hEm hEx lt1 li1 xa1 ya1 hne1 _ _ H230f) pd_22 rfl rfl rfl d26_103 (pc' := 108) rfl (by decide) (Wn := 0) (Nat.le_of_eq rfl) (by decide) (kc' := 7) (ks' := 23) rfl rfl (by decide) (by decide) ?_
          intro T231 v231 W231 hp231
          obtain ⟨rfl, H231⟩ := hp231
          show Goes _ _ _ _ (State.setTop _ (mkF _ _ _ [.ref ya1]))
          refine g_cast1 W231 (wd_365 hw) (Ins.self (hya1.1.ext H231.old)) H231 d26_108 (pc' := 111) rfl ?_
          intro T232 W232 _ H232
          refine g_callVE W232 (argsL := []) (st := []) (wd_367 hw) (wd_368 hw) (wd_370 hw) (wd_369 hw) (wd_276 hw) (wd_371 hw) (fun _ hZ => notFace_of_selects (args := #[]) (mvT hZ (wd_370 hw))) (by decide) (a := ya1) (hya1.1.ext H232.old) (c_intv l Z a0 hw n0 ya1 i4 hya1 _ _ H232) pd_7 rfl rfl rfl d26_111 (pc' := 114) rfl (by decide) (Wn := 0) (Nat.le_of_eq rfl) (by decide) (kc' := 7) (ks' := 23) rfl rfl (by decide) (by decide) ?_
          intro T233 v233 W233 hp233
          obtain ⟨rfl, H233⟩ := hp233
          show Goes _ _ _ _ (State.setTop _ (mkF _ _ _ [.int i4]))
          obtain ⟨rv, rvg, rvh⟩ := rr.2 k4 (by omega)
          refine g_istore W233 d26_114 (pc' := 116) rfl (ls' := #[.val (.ref rt), .val (.ref nt), .val (.ref tmA), .val (.ref al), .val (.ref a10), .val (.int cI), .val (.ref it), .val (.ref p2), .val (.ref lt1), .val (.int i4)]) rfl ?_
          refine g_aloadN W233 d26_116 (pc' := 117) rfl rfl rfl ?_
          refine g_getf W233 (wd_212 hw) Via.refl H233 (i := 10) rfl (jx := 0) rfl d26_117 (pc' := 120) rfl ?_
          intro T234 W234 H234
          refine g_iload W234 d26_120 (pc' := 122) rfl rfl ?_
          refine g_ialoadI W234 H234 (i := 9) rfl (jx := k4) hi4 (u := rv) rvg d26_122 (pc' := 123) rfl ?_
          refine g_iconst W234 d26_123 (pc' := 124) rfl (v := (-1 : Int32)) (by decide) ?_
          refine g_icmp W234 d26_124 (pcy := 146) (by decide) (pc' := 127) rfl (fun (c235 : ¬ rv = (-1 : Int32)) => ?_) (fun (c235 : ¬ ¬ rv = (-1 : Int32)) => ?_)
          · refine g_goto W234 d26_146 (pc' := 91) (by decide) ?_
            have H236f := Hp.fr14 H234
            have H237f := Hp.fr14 H236f
            have H238f := Hp.fr14 H237f
            have H239f := Hp.fr14 H238f
            have H240f := Hp.fr14 H239f
            have H241f := Hp.fr14 H240f
            have H242f := Hp.fr14 H241f
            have H243f := Hp.fr14 H242f
            have H244f := Hp.fr14 H243f
            have H245f := Hp.fr14 H244f
            have H246f := Hp.fr14 H245f
            have H247f := Hp.fr14 H246f
            have H248f := Hp.fr14 H247f
            have H249f := Hp.fr14 H248f
            have H250f := Hp.fr14 H249f
            exact N4 _ i4 RL EL Rw E cn cI hcI rr re ei s1 s2 s3 (own_rv rvh (ei.1.2.2 k4 b4.1 b4.2) c235) W234 H250f
          · replace c235 := Classical.not_not.mp c235
            have ng : Rw k4 < 0 := by rw [c235] at rvh; have z : (-1 : Int32).toInt = -1 := (by decide); omega
            have cl := cntQ_lt (Q := Rw) b4.1 b4.2 ng
            have c3 := ei.2
            refine g_aloadN W234 d26_127 (pc' := 128) rfl rfl rfl ?_
            refine g_getf W234 (wd_212 hw) Via.refl H234 (i := 10) rfl (jx := 0) rfl d26_128 (pc' := 131) rfl ?_
            intro T251 W251 H251
            refine g_iload W251 d26_131 (pc' := 133) rfl rfl ?_
            refine g_iload W251 d26_133 (pc' := 135) rfl rfl ?_
            refine g_iastoreI W251 H251 (i := 9) rfl (jx := k4) hi4 (by rw [rr.1]; omega) d26_135 (pc' := 136) rfl (L' := ((lt1, o_ImmutableCollections_ListItr Z (.ref li1) (.int (2 : Int32)) (.int (2 : Int32)) (.int (0 : Int32))) :: (li1, o_ImmutableCollections_List12 Z (.ref xa1) (.ref ya1)) :: (it, o_ArrayList_Itr Z (.ref al) (.int (1 : Int32)) (.int mcP) (.int (2 : Int32))) :: (al, o_ArrayList Z (.int mcP) (.ref el) (.int (2 : Int32))) :: (el, RaC Z "java/lang/Object" lv) :: (lt0, o_ImmutableCollections_ListItr Z (.ref li0) (.int (2 : Int32)) (.int (2 : Int32)) (.int (0 : Int32))) :: (li0, o_ImmutableCollections_List12 Z (.ref xa0) (.ref ya0)) :: (a10, IaC Z EL) :: (nt, o_Network Z (.int (3 : Int32)) (.int ftI) (.ref tlA) (.ref hdA) (.ref caA) (.ref ffA) (.ref bsA) (.ref pwA) (.ref foA) (.ref oaA)) :: (a4, IaC Z (RL.set k4 cI)) :: (rt, o_RouteTimes Z (.ref a4) .null) :: (foA, IaC Z FO) :: (oaA, IaC Z OA) :: (hdA, IaC Z HDl) :: (tmA, DaC Z TM) :: F)) rfl ?_
            intro T252 W252 H252
            refine g_aload W252 d26_136 (pc' := 138) rfl rfl rfl ?_
            refine g_iload W252 d26_138 (pc' := 140) rfl rfl ?_
            refine g_iload W252 d26_140 (pc' := 142) rfl rfl ?_
            refine g_iastoreI W252 H252 (i := 7) rfl (jx := cn) hcI (by rw [re.1]; omega) d26_142 (pc' := 143) rfl (L' := ((lt1, o_ImmutableCollections_ListItr Z (.ref li1) (.int (2 : Int32)) (.int (2 : Int32)) (.int (0 : Int32))) :: (li1, o_ImmutableCollections_List12 Z (.ref xa1) (.ref ya1)) :: (it, o_ArrayList_Itr Z (.ref al) (.int (1 : Int32)) (.int mcP) (.int (2 : Int32))) :: (al, o_ArrayList Z (.int mcP) (.ref el) (.int (2 : Int32))) :: (el, RaC Z "java/lang/Object" lv) :: (lt0, o_ImmutableCollections_ListItr Z (.ref li0) (.int (2 : Int32)) (.int (2 : Int32)) (.int (0 : Int32))) :: (li0, o_ImmutableCollections_List12 Z (.ref xa0) (.ref ya0)) :: (a10, IaC Z (EL.set cn i4)) :: (nt, o_Network Z (.int (3 : Int32)) (.int ftI) (.ref tlA) (.ref hdA) (.ref caA) (.ref ffA) (.ref bsA) (.ref pwA) (.ref foA) (.ref oaA)) :: (a4, IaC Z (RL.set k4 cI)) :: (rt, o_RouteTimes Z (.ref a4) .null) :: (foA, IaC Z FO) :: (oaA, IaC Z OA) :: (hdA, IaC Z HDl) :: (tmA, DaC Z TM) :: F)) rfl ?_
            intro T253 W253 H253
            refine g_iinc W253 d26_143 (pc' := 146) rfl rfl (v := (cI + (1 : Int32))) (by rfl) (ls' := #[.val (.ref rt), .val (.ref nt), .val (.ref tmA), .val (.ref al), .val (.ref a10), .val (.int (cI + (1 : Int32))), .val (.ref it), .val (.ref p2), .val (.ref lt1), .val (.int i4)]) rfl ?_
            refine g_goto W253 d26_146 (pc' := 91) (by decide) ?_
            have H254f := Hp.fr14 H253
            have H255f := Hp.fr14 H254f
            have H256f := Hp.fr14 H255f
            have H257f := Hp.fr14 H256f
            have H258f := Hp.fr14 H257f
            have H259f := Hp.fr14 H258f
            have H260f := Hp.fr14 H259f
            have H261f := Hp.fr14 H260f
            have H262f := Hp.fr14 H261f
            have H263f := Hp.fr14 H262f
            have H264f := Hp.fr14 H263f
            have H265f := Hp.fr14 H264f
            have H266f := Hp.fr14 H265f
            have H267f := Hp.fr14 H266f
            have H268f := Hp.fr14 H267f
            exact N4 _ i4 _ _ (up Rw k4 (cn : Nat)) (up E cn k4) (cn + 1) (cI + (1 : Int32)) (i_p1 hcI (by omega)) (rr.set (by omega) hcI) (re.push (by omega) hi4) (ei.push b4.1 b4.2 ng) (up_nn s1) (up_nn s2) (up_nn s3) up_nd W253 H268f
        refine g_aload W215 d26_91 (pc' := 93) rfl rfl rfl ?_
        refine g_callF W215 (argsL := []) (st := []) (wd_241 hw) (wd_242 hw) (fun _ _ hZ => mvT hZ (wd_243 hw)) (wd_348 hw) (wd_349 hw) (wd_350 hw) (wd_351 hw) (wd_352 hw) (wd_326 hw) (wd_353 hw) (by decide) (a := lt1) (H215.exa (i := 0) rfl) (c_hasl l Z a0 hw n0 lt1 li1 (0 : Int32) (1 : Int32) (Or.inr ⟨by decide, rfl⟩) _ _ H215) pd_21 rfl rfl rfl d26_93 (pc' := 98) rfl (by decide) (Wn := 0) (Nat.le_of_eq rfl) (by decide) (kc' := 7) (ks' := 23) rfl rfl (by decide) (by decide) ?_
        intro T269 v269 W269 hp269
        obtain ⟨rfl, H269⟩ := hp269
        show Goes _ _ _ _ (State.setTop _ (mkF _ _ _ [.int (1 : Int32)]))
        refine g_if W269 d26_98 (pcy := 149) (by decide) (pc' := 101) rfl (fun (h : (1 : Int32) = (0 : Int32)) => absurd h (by decide)) (fun _ => ?_)
        refine g_aload W269 d26_101 (pc' := 103) rfl rfl rfl ?_
        have H270f := Hp.fr1 H269
        have H271f := Hp.fr1 H270f
        refine g_callFH W269 (argsL := []) (st := []) (wd_253 hw) (wd_254 hw) (fun _ _ hZ => mvT hZ (wd_255 hw)) (wd_354 hw) (wd_355 hw) (wd_356 hw) (wd_357 hw) (wd_352 hw) (wd_326 hw) (wd_358 hw) (by decide) (a := lt1) (H271f.exa (i := 0) rfl) (c_lnext0 l Z a0 hw n0 em hEm hEx lt1 li1 xa1 ya1 hne1 _ _ H271f) pd_22 rfl rfl rfl d26_103 (pc' := 108) rfl (by decide) (Wn := 0) (Nat.le_of_eq rfl) (by decide) (kc' := 7) (ks' := 23) rfl rfl (by decide) (by decide) ?_
        intro T272 v272 W272 hp272
        obtain ⟨rfl, H272⟩ := hp272
        show Goes _ _ _ _ (State.setTop _ (mkF _ _ _ [.ref xa1]))
        refine g_cast1 W272 (wd_365 hw) (Ins.self (hxa1.1.ext H272.old)) H272 d26_108 (pc' := 111) rfl ?_
        intro T273 W273 _ H273
        refine g_callVE W273 (argsL := []) (st := []) (wd_367 hw) (wd_368 hw) (wd_370 hw) (wd_369 hw) (wd_276 hw) (wd_371 hw) (fun _ hZ => notFace_of_selects (args := #[]) (mvT hZ (wd_370 hw))) (by decide) (a := xa1) (hxa1.1.ext H273.old) (c_intv l Z a0 hw n0 xa1 i3 hxa1 _ _ H273) pd_7 rfl rfl rfl d26_111 (pc' := 114) rfl (by decide) (Wn := 0) (Nat.le_of_eq rfl) (by decide) (kc' := 7) (ks' := 23) rfl rfl (by decide) (by decide) ?_
        intro T274 v274 W274 hp274
        obtain ⟨rfl, H274⟩ := hp274
        show Goes _ _ _ _ (State.setTop _ (mkF _ _ _ [.int i3]))
        obtain ⟨rv, rvg, rvh⟩ := rr.2 k3 (by omega)
        refine g_istore W274 d26_114 (pc' := 116) rfl (ls' := #[.val (.ref rt), .val (.ref nt), .val (.ref tmA), .val (.ref al), .val (.ref a10), .val (.int cI), .val (.ref it), .val (.ref p2), .val (.ref lt1), .val (.int i3)]) rfl ?_
        refine g_aloadN W274 d26_116 (pc' := 117) rfl rfl rfl ?_
        refine g_getf W274 (wd_212 hw) Via.refl H274 (i := 10) rfl (jx := 0) rfl d26_117 (pc' := 120) rfl ?_
        intro T275 W275 H275
        refine g_iload W275 d26_120 (pc' := 122) rfl rfl ?_
        refine g_ialoadI W275 H275 (i := 9) rfl (jx := k3) hi3 (u := rv) rvg d26_122 (pc' := 123) rfl ?_
        refine g_iconst W275 d26_123 (pc' := 124) rfl (v := (-1 : Int32)) (by decide) ?_
        refine g_icmp W275 d26_124 (pcy := 146) (by decide) (pc' := 127) rfl (fun (c276 : ¬ rv = (-1 : Int32)) => ?_) (fun (c276 : ¬ ¬ rv = (-1 : Int32)) => ?_)
        · refine g_goto W275 d26_146 (pc' := 91) (by decide) ?_
          have H277f := Hp.fr14 H275
          have H278f := Hp.fr14 H277f
          have H279f := Hp.fr14 H278f
          have H280f := Hp.fr14 H279f
          have H281f := Hp.fr14 H280f
          have H282f := Hp.fr14 H281f
          have H283f := Hp.fr14 H282f
          have H284f := Hp.fr14 H283f
          have H285f := Hp.fr14 H284f
          have H286f := Hp.fr14 H285f
          have H287f := Hp.fr14 H286f
          have H288f := Hp.fr14 H287f
          have H289f := Hp.fr14 H288f
          have H290f := Hp.fr14 H289f
          have H291f := Hp.fr14 H290f
          exact N3 _ i3 RL EL Rw E cn cI hcI rr re ei s1 s2 (own_rv rvh (ei.1.2.2 k3 b3.1 b3.2) c276) W275 H291f
        · replace c276 := Classical.not_not.mp c276
          have ng : Rw k3 < 0 := by rw [c276] at rvh; have z : (-1 : Int32).toInt = -1 := (by decide); omega
          have cl := cntQ_lt (Q := Rw) b3.1 b3.2 ng
          have c3 := ei.2
          refine g_aloadN W275 d26_127 (pc' := 128) rfl rfl rfl ?_
          refine g_getf W275 (wd_212 hw) Via.refl H275 (i := 10) rfl (jx := 0) rfl d26_128 (pc' := 131) rfl ?_
          intro T292 W292 H292
          refine g_iload W292 d26_131 (pc' := 133) rfl rfl ?_
          refine g_iload W292 d26_133 (pc' := 135) rfl rfl ?_
          refine g_iastoreI W292 H292 (i := 9) rfl (jx := k3) hi3 (by rw [rr.1]; omega) d26_135 (pc' := 136) rfl (L' := ((lt1, o_ImmutableCollections_ListItr Z (.ref li1) (.int (2 : Int32)) (.int (1 : Int32)) (.int (0 : Int32))) :: (li1, o_ImmutableCollections_List12 Z (.ref xa1) (.ref ya1)) :: (it, o_ArrayList_Itr Z (.ref al) (.int (1 : Int32)) (.int mcP) (.int (2 : Int32))) :: (al, o_ArrayList Z (.int mcP) (.ref el) (.int (2 : Int32))) :: (el, RaC Z "java/lang/Object" lv) :: (lt0, o_ImmutableCollections_ListItr Z (.ref li0) (.int (2 : Int32)) (.int (2 : Int32)) (.int (0 : Int32))) :: (li0, o_ImmutableCollections_List12 Z (.ref xa0) (.ref ya0)) :: (a10, IaC Z EL) :: (nt, o_Network Z (.int (3 : Int32)) (.int ftI) (.ref tlA) (.ref hdA) (.ref caA) (.ref ffA) (.ref bsA) (.ref pwA) (.ref foA) (.ref oaA)) :: (a4, IaC Z (RL.set k3 cI)) :: (rt, o_RouteTimes Z (.ref a4) .null) :: (foA, IaC Z FO) :: (oaA, IaC Z OA) :: (hdA, IaC Z HDl) :: (tmA, DaC Z TM) :: F)) rfl ?_
          intro T293 W293 H293
          refine g_aload W293 d26_136 (pc' := 138) rfl rfl rfl ?_
          refine g_iload W293 d26_138 (pc' := 140) rfl rfl ?_
          refine g_iload W293 d26_140 (pc' := 142) rfl rfl ?_
          refine g_iastoreI W293 H293 (i := 7) rfl (jx := cn) hcI (by rw [re.1]; omega) d26_142 (pc' := 143) rfl (L' := ((lt1, o_ImmutableCollections_ListItr Z (.ref li1) (.int (2 : Int32)) (.int (1 : Int32)) (.int (0 : Int32))) :: (li1, o_ImmutableCollections_List12 Z (.ref xa1) (.ref ya1)) :: (it, o_ArrayList_Itr Z (.ref al) (.int (1 : Int32)) (.int mcP) (.int (2 : Int32))) :: (al, o_ArrayList Z (.int mcP) (.ref el) (.int (2 : Int32))) :: (el, RaC Z "java/lang/Object" lv) :: (lt0, o_ImmutableCollections_ListItr Z (.ref li0) (.int (2 : Int32)) (.int (2 : Int32)) (.int (0 : Int32))) :: (li0, o_ImmutableCollections_List12 Z (.ref xa0) (.ref ya0)) :: (a10, IaC Z (EL.set cn i3)) :: (nt, o_Network Z (.int (3 : Int32)) (.int ftI) (.ref tlA) (.ref hdA) (.ref caA) (.ref ffA) (.ref bsA) (.ref pwA) (.ref foA) (.ref oaA)) :: (a4, IaC Z (RL.set k3 cI)) :: (rt, o_RouteTimes Z (.ref a4) .null) :: (foA, IaC Z FO) :: (oaA, IaC Z OA) :: (hdA, IaC Z HDl) :: (tmA, DaC Z TM) :: F)) rfl ?_
          intro T294 W294 H294
          refine g_iinc W294 d26_143 (pc' := 146) rfl rfl (v := (cI + (1 : Int32))) (by rfl) (ls' := #[.val (.ref rt), .val (.ref nt), .val (.ref tmA), .val (.ref al), .val (.ref a10), .val (.int (cI + (1 : Int32))), .val (.ref it), .val (.ref p2), .val (.ref lt1), .val (.int i3)]) rfl ?_
          refine g_goto W294 d26_146 (pc' := 91) (by decide) ?_
          have H295f := Hp.fr14 H294
          have H296f := Hp.fr14 H295f
          have H297f := Hp.fr14 H296f
          have H298f := Hp.fr14 H297f
          have H299f := Hp.fr14 H298f
          have H300f := Hp.fr14 H299f
          have H301f := Hp.fr14 H300f
          have H302f := Hp.fr14 H301f
          have H303f := Hp.fr14 H302f
          have H304f := Hp.fr14 H303f
          have H305f := Hp.fr14 H304f
          have H306f := Hp.fr14 H305f
          have H307f := Hp.fr14 H306f
          have H308f := Hp.fr14 H307f
          have H309f := Hp.fr14 H308f
          exact N3 _ i3 _ _ (up Rw k3 (cn : Nat)) (up E cn k3) (cn + 1) (cI + (1 : Int32)) (i_p1 hcI (by omega)) (rr.set (by omega) hcI) (re.push (by omega) hi3) (ei.push b3.1 b3.2 ng) (up_nn s1) (up_nn s2) up_nd W294 H309f
    refine g_aload WJN1 d26_91 (pc' := 93) rfl rfl rfl ?_
    refine g_callF WJN1 (argsL := []) (st := []) (wd_241 hw) (wd_242 hw) (fun _ _ hZ => mvT hZ (wd_243 hw)) (wd_348 hw) (wd_349 hw) (wd_350 hw) (wd_351 hw) (wd_352 hw) (wd_326 hw) (wd_353 hw) (by decide) (a := lt0) (HJN1.exa (i := 0) rfl) (c_hasl l Z a0 hw n0 lt0 li0 (1 : Int32) (1 : Int32) (Or.inr ⟨by decide, rfl⟩) _ _ HJN1) pd_21 rfl rfl rfl d26_93 (pc' := 98) rfl (by decide) (Wn := 0) (Nat.le_of_eq rfl) (by decide) (kc' := 5) (ks' := 17) rfl rfl (by decide) (by decide) ?_
    intro T310 v310 W310 hp310
    obtain ⟨rfl, H310⟩ := hp310
    show Goes _ _ _ _ (State.setTop _ (mkF _ _ _ [.int (1 : Int32)]))
    refine g_if W310 d26_98 (pcy := 149) (by decide) (pc' := 101) rfl (fun (h : (1 : Int32) = (0 : Int32)) => absurd h (by decide)) (fun _ => ?_)
    refine g_aload W310 d26_101 (pc' := 103) rfl rfl rfl ?_
    have H311f := Hp.fr1 H310
    have H312f := Hp.fr1 H311f
    refine g_callFH W310 (argsL := []) (st := []) (wd_253 hw) (wd_254 hw) (fun _ _ hZ => mvT hZ (wd_255 hw)) (wd_354 hw) (wd_355 hw) (wd_356 hw) (wd_357 hw) (wd_352 hw) (wd_326 hw) (wd_358 hw) (by decide) (a := lt0) (H312f.exa (i := 0) rfl) (c_lnext1 l Z a0 hw n0 em hEm hEx lt0 li0 xa0 ya0 hne0 _ _ H312f) pd_22 rfl rfl rfl d26_103 (pc' := 108) rfl (by decide) (Wn := 0) (Nat.le_of_eq rfl) (by decide) (kc' := 5) (ks' := 17) rfl rfl (by decide) (by decide) ?_
    intro T313 v313 W313 hp313
    obtain ⟨rfl, H313⟩ := hp313
    show Goes _ _ _ _ (State.setTop _ (mkF _ _ _ [.ref ya0]))
    refine g_cast1 W313 (wd_365 hw) (Ins.self (hya0.1.ext H313.old)) H313 d26_108 (pc' := 111) rfl ?_
    intro T314 W314 _ H314
    refine g_callVE W314 (argsL := []) (st := []) (wd_367 hw) (wd_368 hw) (wd_370 hw) (wd_369 hw) (wd_276 hw) (wd_371 hw) (fun _ hZ => notFace_of_selects (args := #[]) (mvT hZ (wd_370 hw))) (by decide) (a := ya0) (hya0.1.ext H314.old) (c_intv l Z a0 hw n0 ya0 i2 hya0 _ _ H314) pd_7 rfl rfl rfl d26_111 (pc' := 114) rfl (by decide) (Wn := 0) (Nat.le_of_eq rfl) (by decide) (kc' := 5) (ks' := 17) rfl rfl (by decide) (by decide) ?_
    intro T315 v315 W315 hp315
    obtain ⟨rfl, H315⟩ := hp315
    show Goes _ _ _ _ (State.setTop _ (mkF _ _ _ [.int i2]))
    obtain ⟨rv, rvg, rvh⟩ := rr.2 k2 (by omega)
    refine g_istore W315 d26_114 (pc' := 116) rfl (ls' := #[.val (.ref rt), .val (.ref nt), .val (.ref tmA), .val (.ref al), .val (.ref a10), .val (.int cI), .val (.ref it), .val (.ref p1), .val (.ref lt0), .val (.int i2)]) rfl ?_
    refine g_aloadN W315 d26_116 (pc' := 117) rfl rfl rfl ?_
    refine g_getf W315 (wd_212 hw) Via.refl H315 (i := 8) rfl (jx := 0) rfl d26_117 (pc' := 120) rfl ?_
    intro T316 W316 H316
    refine g_iload W316 d26_120 (pc' := 122) rfl rfl ?_
    refine g_ialoadI W316 H316 (i := 7) rfl (jx := k2) hi2 (u := rv) rvg d26_122 (pc' := 123) rfl ?_
    refine g_iconst W316 d26_123 (pc' := 124) rfl (v := (-1 : Int32)) (by decide) ?_
    refine g_icmp W316 d26_124 (pcy := 146) (by decide) (pc' := 127) rfl (fun (c317 : ¬ rv = (-1 : Int32)) => ?_) (fun (c317 : ¬ ¬ rv = (-1 : Int32)) => ?_)
    · refine g_goto W316 d26_146 (pc' := 91) (by decide) ?_
      have H318f := Hp.fr12 H316
      have H319f := Hp.fr12 H318f
      have H320f := Hp.fr12 H319f
      have H321f := Hp.fr12 H320f
      have H322f := Hp.fr12 H321f
      have H323f := Hp.fr12 H322f
      have H324f := Hp.fr12 H323f
      have H325f := Hp.fr12 H324f
      have H326f := Hp.fr12 H325f
      have H327f := Hp.fr12 H326f
      have H328f := Hp.fr12 H327f
      have H329f := Hp.fr12 H328f
      have H330f := Hp.fr12 H329f
      exact N2 _ i2 RL EL Rw E cn cI hcI rr re ei s1 (own_rv rvh (ei.1.2.2 k2 b2.1 b2.2) c317) W316 H330f
    · replace c317 := Classical.not_not.mp c317
      have ng : Rw k2 < 0 := by rw [c317] at rvh; have z : (-1 : Int32).toInt = -1 := (by decide); omega
      have cl := cntQ_lt (Q := Rw) b2.1 b2.2 ng
      have c3 := ei.2
      refine g_aloadN W316 d26_127 (pc' := 128) rfl rfl rfl ?_
      refine g_getf W316 (wd_212 hw) Via.refl H316 (i := 8) rfl (jx := 0) rfl d26_128 (pc' := 131) rfl ?_
      intro T331 W331 H331
      refine g_iload W331 d26_131 (pc' := 133) rfl rfl ?_
      refine g_iload W331 d26_133 (pc' := 135) rfl rfl ?_
      refine g_iastoreI W331 H331 (i := 7) rfl (jx := k2) hi2 (by rw [rr.1]; omega) d26_135 (pc' := 136) rfl (L' := ((lt0, o_ImmutableCollections_ListItr Z (.ref li0) (.int (2 : Int32)) (.int (2 : Int32)) (.int (0 : Int32))) :: (li0, o_ImmutableCollections_List12 Z (.ref xa0) (.ref ya0)) :: (it, o_ArrayList_Itr Z (.ref al) (.int (0 : Int32)) (.int mcP) (.int (1 : Int32))) :: (al, o_ArrayList Z (.int mcP) (.ref el) (.int sz)) :: (el, RaC Z "java/lang/Object" lv) :: (a10, IaC Z EL) :: (nt, o_Network Z (.int (3 : Int32)) (.int ftI) (.ref tlA) (.ref hdA) (.ref caA) (.ref ffA) (.ref bsA) (.ref pwA) (.ref foA) (.ref oaA)) :: (a4, IaC Z (RL.set k2 cI)) :: (rt, o_RouteTimes Z (.ref a4) .null) :: (foA, IaC Z FO) :: (oaA, IaC Z OA) :: (hdA, IaC Z HDl) :: (tmA, DaC Z TM) :: F)) rfl ?_
      intro T332 W332 H332
      refine g_aload W332 d26_136 (pc' := 138) rfl rfl rfl ?_
      refine g_iload W332 d26_138 (pc' := 140) rfl rfl ?_
      refine g_iload W332 d26_140 (pc' := 142) rfl rfl ?_
      refine g_iastoreI W332 H332 (i := 5) rfl (jx := cn) hcI (by rw [re.1]; omega) d26_142 (pc' := 143) rfl (L' := ((lt0, o_ImmutableCollections_ListItr Z (.ref li0) (.int (2 : Int32)) (.int (2 : Int32)) (.int (0 : Int32))) :: (li0, o_ImmutableCollections_List12 Z (.ref xa0) (.ref ya0)) :: (it, o_ArrayList_Itr Z (.ref al) (.int (0 : Int32)) (.int mcP) (.int (1 : Int32))) :: (al, o_ArrayList Z (.int mcP) (.ref el) (.int sz)) :: (el, RaC Z "java/lang/Object" lv) :: (a10, IaC Z (EL.set cn i2)) :: (nt, o_Network Z (.int (3 : Int32)) (.int ftI) (.ref tlA) (.ref hdA) (.ref caA) (.ref ffA) (.ref bsA) (.ref pwA) (.ref foA) (.ref oaA)) :: (a4, IaC Z (RL.set k2 cI)) :: (rt, o_RouteTimes Z (.ref a4) .null) :: (foA, IaC Z FO) :: (oaA, IaC Z OA) :: (hdA, IaC Z HDl) :: (tmA, DaC Z TM) :: F)) rfl ?_
      intro T333 W333 H333
      refine g_iinc W333 d26_143 (pc' := 146) rfl rfl (v := (cI + (1 : Int32))) (by rfl) (ls' := #[.val (.ref rt), .val (.ref nt), .val (.ref tmA), .val (.ref al), .val (.ref a10), .val (.int (cI + (1 : Int32))), .val (.ref it), .val (.ref p1), .val (.ref lt0), .val (.int i2)]) rfl ?_
      refine g_goto W333 d26_146 (pc' := 91) (by decide) ?_
      have H334f := Hp.fr12 H333
      have H335f := Hp.fr12 H334f
      have H336f := Hp.fr12 H335f
      have H337f := Hp.fr12 H336f
      have H338f := Hp.fr12 H337f
      have H339f := Hp.fr12 H338f
      have H340f := Hp.fr12 H339f
      have H341f := Hp.fr12 H340f
      have H342f := Hp.fr12 H341f
      have H343f := Hp.fr12 H342f
      have H344f := Hp.fr12 H343f
      have H345f := Hp.fr12 H344f
      have H346f := Hp.fr12 H345f
      exact N2 _ i2 _ _ (up Rw k2 (cn : Nat)) (up E cn k2) (cn + 1) (cI + (1 : Int32)) (i_p1 hcI (by omega)) (rr.set (by omega) hcI) (re.push (by omega) hi2) (ei.push b2.1 b2.2 ng) (up_nn s1) up_nd W333 H346f
  refine g_aload W189 d26_91 (pc' := 93) rfl rfl rfl ?_
  refine g_callF W189 (argsL := []) (st := []) (wd_241 hw) (wd_242 hw) (fun _ _ hZ => mvT hZ (wd_243 hw)) (wd_348 hw) (wd_349 hw) (wd_350 hw) (wd_351 hw) (wd_352 hw) (wd_326 hw) (wd_353 hw) (by decide) (a := lt0) (H189.exa (i := 0) rfl) (c_hasl l Z a0 hw n0 lt0 li0 (0 : Int32) (1 : Int32) (Or.inr ⟨by decide, rfl⟩) _ _ H189) pd_21 rfl rfl rfl d26_93 (pc' := 98) rfl (by decide) (Wn := 0) (Nat.le_of_eq rfl) (by decide) (kc' := 5) (ks' := 17) rfl rfl (by decide) (by decide) ?_
  intro T347 v347 W347 hp347
  obtain ⟨rfl, H347⟩ := hp347
  show Goes _ _ _ _ (State.setTop _ (mkF _ _ _ [.int (1 : Int32)]))
  refine g_if W347 d26_98 (pcy := 149) (by decide) (pc' := 101) rfl (fun (h : (1 : Int32) = (0 : Int32)) => absurd h (by decide)) (fun _ => ?_)
  refine g_aload W347 d26_101 (pc' := 103) rfl rfl rfl ?_
  have H348f := Hp.fr1 H347
  have H349f := Hp.fr1 H348f
  refine g_callFH W347 (argsL := []) (st := []) (wd_253 hw) (wd_254 hw) (fun _ _ hZ => mvT hZ (wd_255 hw)) (wd_354 hw) (wd_355 hw) (wd_356 hw) (wd_357 hw) (wd_352 hw) (wd_326 hw) (wd_358 hw) (by decide) (a := lt0) (H349f.exa (i := 0) rfl) (c_lnext0 l Z a0 hw n0 em hEm hEx lt0 li0 xa0 ya0 hne0 _ _ H349f) pd_22 rfl rfl rfl d26_103 (pc' := 108) rfl (by decide) (Wn := 0) (Nat.le_of_eq rfl) (by decide) (kc' := 5) (ks' := 17) rfl rfl (by decide) (by decide) ?_
  intro T350 v350 W350 hp350
  obtain ⟨rfl, H350⟩ := hp350
  show Goes _ _ _ _ (State.setTop _ (mkF _ _ _ [.ref xa0]))
  refine g_cast1 W350 (wd_365 hw) (Ins.self (hxa0.1.ext H350.old)) H350 d26_108 (pc' := 111) rfl ?_
  intro T351 W351 _ H351
  refine g_callVE W351 (argsL := []) (st := []) (wd_367 hw) (wd_368 hw) (wd_370 hw) (wd_369 hw) (wd_276 hw) (wd_371 hw) (fun _ hZ => notFace_of_selects (args := #[]) (mvT hZ (wd_370 hw))) (by decide) (a := xa0) (hxa0.1.ext H351.old) (c_intv l Z a0 hw n0 xa0 i1 hxa0 _ _ H351) pd_7 rfl rfl rfl d26_111 (pc' := 114) rfl (by decide) (Wn := 0) (Nat.le_of_eq rfl) (by decide) (kc' := 5) (ks' := 17) rfl rfl (by decide) (by decide) ?_
  intro T352 v352 W352 hp352
  obtain ⟨rfl, H352⟩ := hp352
  show Goes _ _ _ _ (State.setTop _ (mkF _ _ _ [.int i1]))
  obtain ⟨rv, rvg, rvh⟩ := ri_m.2 k1 (by omega)
  refine g_istore W352 d26_114 (pc' := 116) rfl (ls' := #[.val (.ref rt), .val (.ref nt), .val (.ref tmA), .val (.ref al), .val (.ref a10), .val (.int (0 : Int32)), .val (.ref it), .val (.ref p1), .val (.ref lt0), .val (.int i1)]) rfl ?_
  refine g_aloadN W352 d26_116 (pc' := 117) rfl rfl rfl ?_
  refine g_getf W352 (wd_212 hw) Via.refl H352 (i := 8) rfl (jx := 0) rfl d26_117 (pc' := 120) rfl ?_
  intro T353 W353 H353
  refine g_iload W353 d26_120 (pc' := 122) rfl rfl ?_
  refine g_ialoadI W353 H353 (i := 7) rfl (jx := k1) hi1 (u := rv) rvg d26_122 (pc' := 123) rfl ?_
  refine g_iconst W353 d26_123 (pc' := 124) rfl (v := (-1 : Int32)) (by decide) ?_
  refine g_icmp W353 d26_124 (pcy := 146) (by decide) (pc' := 127) rfl (fun (c354 : ¬ rv = (-1 : Int32)) => ?_) (fun (c354 : ¬ ¬ rv = (-1 : Int32)) => ?_)
  · refine g_goto W353 d26_146 (pc' := 91) (by decide) ?_
    have H355f := Hp.fr12 H353
    have H356f := Hp.fr12 H355f
    have H357f := Hp.fr12 H356f
    have H358f := Hp.fr12 H357f
    have H359f := Hp.fr12 H358f
    have H360f := Hp.fr12 H359f
    have H361f := Hp.fr12 H360f
    have H362f := Hp.fr12 H361f
    have H363f := Hp.fr12 H362f
    have H364f := Hp.fr12 H363f
    have H365f := Hp.fr12 H364f
    have H366f := Hp.fr12 H365f
    have H367f := Hp.fr12 H366f
    exact N1 _ i1 ([(-1 : Int32), (-1 : Int32), (-1 : Int32), (-1 : Int32)] : List Int32) (List.replicate 3 0) (fun _ => -1) (fun _ => 0) 0 (0 : Int32) h00 ri_m ren_0 ei_0  (own_rv rvh (ei_0.1.2.2 k1 b1.1 b1.2) c354) W353 H367f
  · replace c354 := Classical.not_not.mp c354
    have ng : (fun _ => -1) k1 < 0 := by rw [c354] at rvh; have z : (-1 : Int32).toInt = -1 := (by decide); omega
    have cl := cntQ_lt (Q := (fun _ => -1)) b1.1 b1.2 ng
    have c3 := ei_0.2
    refine g_aloadN W353 d26_127 (pc' := 128) rfl rfl rfl ?_
    refine g_getf W353 (wd_212 hw) Via.refl H353 (i := 8) rfl (jx := 0) rfl d26_128 (pc' := 131) rfl ?_
    intro T368 W368 H368
    refine g_iload W368 d26_131 (pc' := 133) rfl rfl ?_
    refine g_iload W368 d26_133 (pc' := 135) rfl rfl ?_
    refine g_iastoreI W368 H368 (i := 7) rfl (jx := k1) hi1 (by rw [ri_m.1]; omega) d26_135 (pc' := 136) rfl (L' := ((lt0, o_ImmutableCollections_ListItr Z (.ref li0) (.int (2 : Int32)) (.int (1 : Int32)) (.int (0 : Int32))) :: (li0, o_ImmutableCollections_List12 Z (.ref xa0) (.ref ya0)) :: (it, o_ArrayList_Itr Z (.ref al) (.int (0 : Int32)) (.int mcP) (.int (1 : Int32))) :: (al, o_ArrayList Z (.int mcP) (.ref el) (.int sz)) :: (el, RaC Z "java/lang/Object" lv) :: (a10, IaC Z (List.replicate 3 0)) :: (nt, o_Network Z (.int (3 : Int32)) (.int ftI) (.ref tlA) (.ref hdA) (.ref caA) (.ref ffA) (.ref bsA) (.ref pwA) (.ref foA) (.ref oaA)) :: (a4, IaC Z (([(-1 : Int32), (-1 : Int32), (-1 : Int32), (-1 : Int32)] : List Int32).set k1 (0 : Int32))) :: (rt, o_RouteTimes Z (.ref a4) .null) :: (foA, IaC Z FO) :: (oaA, IaC Z OA) :: (hdA, IaC Z HDl) :: (tmA, DaC Z TM) :: F)) rfl ?_
    intro T369 W369 H369
    refine g_aload W369 d26_136 (pc' := 138) rfl rfl rfl ?_
    refine g_iload W369 d26_138 (pc' := 140) rfl rfl ?_
    refine g_iload W369 d26_140 (pc' := 142) rfl rfl ?_
    refine g_iastoreI W369 H369 (i := 5) rfl (jx := 0) h00 (by rw [ren_0.1]; omega) d26_142 (pc' := 143) rfl (L' := ((lt0, o_ImmutableCollections_ListItr Z (.ref li0) (.int (2 : Int32)) (.int (1 : Int32)) (.int (0 : Int32))) :: (li0, o_ImmutableCollections_List12 Z (.ref xa0) (.ref ya0)) :: (it, o_ArrayList_Itr Z (.ref al) (.int (0 : Int32)) (.int mcP) (.int (1 : Int32))) :: (al, o_ArrayList Z (.int mcP) (.ref el) (.int sz)) :: (el, RaC Z "java/lang/Object" lv) :: (a10, IaC Z ((List.replicate 3 0).set 0 i1)) :: (nt, o_Network Z (.int (3 : Int32)) (.int ftI) (.ref tlA) (.ref hdA) (.ref caA) (.ref ffA) (.ref bsA) (.ref pwA) (.ref foA) (.ref oaA)) :: (a4, IaC Z (([(-1 : Int32), (-1 : Int32), (-1 : Int32), (-1 : Int32)] : List Int32).set k1 (0 : Int32))) :: (rt, o_RouteTimes Z (.ref a4) .null) :: (foA, IaC Z FO) :: (oaA, IaC Z OA) :: (hdA, IaC Z HDl) :: (tmA, DaC Z TM) :: F)) rfl ?_
    intro T370 W370 H370
    refine g_iinc W370 d26_143 (pc' := 146) rfl rfl (v := (1 : Int32)) (by decide) (ls' := #[.val (.ref rt), .val (.ref nt), .val (.ref tmA), .val (.ref al), .val (.ref a10), .val (.int (1 : Int32)), .val (.ref it), .val (.ref p1), .val (.ref lt0), .val (.int i1)]) rfl ?_
    refine g_goto W370 d26_146 (pc' := 91) (by decide) ?_
    have H371f := Hp.fr12 H370
    have H372f := Hp.fr12 H371f
    have H373f := Hp.fr12 H372f
    have H374f := Hp.fr12 H373f
    have H375f := Hp.fr12 H374f
    have H376f := Hp.fr12 H375f
    have H377f := Hp.fr12 H376f
    have H378f := Hp.fr12 H377f
    have H379f := Hp.fr12 H378f
    have H380f := Hp.fr12 H379f
    have H381f := Hp.fr12 H380f
    have H382f := Hp.fr12 H381f
    have H383f := Hp.fr12 H382f
    exact N1 _ i1 _ _ (up (fun _ => -1) k1 (0 : Nat)) (up (fun _ => 0) 0 k1) (0 + 1) (1 : Int32) (by decide) (ri_m.set (by omega) h00) (ren_0.push (by omega) hi1) (ei_0.push b1.1 b1.2 ng)  up_nd W370 H383f

theorem own_e3 {y x : Int32} (h : ((y &&& (15 : Int32)) - (y &&& (15 : Int32)) / (3 : Int32) * (3 : Int32)) + (1 : Int32) = x) : ∃ n : Nat, x.toInt = (n : Int) ∧ 1 ≤ n ∧ n ≤ 3 := by
  subst h
  have q : 0 ≤ (y &&& (15 : Int32)).toInt := by rw [Kit.i32_mask y 15 (k := 4) (by decide) (by decide)]; omega
  have r := i32_remN (x := y &&& (15 : Int32)) (y := (3 : Int32)) q
  rw [show (3 : Int32).toInt = 3 by decide] at r
  generalize (y &&& (15 : Int32)) - (y &&& (15 : Int32)) / (3 : Int32) * (3 : Int32) = z at r
  refine ⟨(z.toInt + 1).toNat, ?_, by omega, by omega⟩
  rw [Int32.toInt_add, show (1 : Int32).toInt = 1 by decide, Kit.bmod32 (by omega) (by omega)]; omega
theorem own_d3 {y x o : Int32} {k : Nat} (ho : o.toInt = (k : Int)) (hk : 1 ≤ k ∧ k ≤ 3) (h : ((o + (y &&& (1 : Int32))) - (o + (y &&& (1 : Int32))) / (3 : Int32) * (3 : Int32)) + (1 : Int32) = x) : ∃ n : Nat, x.toInt = (n : Int) ∧ 1 ≤ n ∧ n ≤ 3 := by
  subst h
  have q1 := Kit.i32_mask y 1 (k := 1) (by decide) (by decide)
  have q : 0 ≤ (o + (y &&& (1 : Int32))).toInt := by rw [Int32.toInt_add, ho, Kit.bmod32 (by omega) (by omega)]; omega
  have r := i32_remN (x := o + (y &&& (1 : Int32))) (y := (3 : Int32)) q
  rw [show (3 : Int32).toInt = 3 by decide] at r
  generalize (o + (y &&& (1 : Int32))) - (o + (y &&& (1 : Int32))) / (3 : Int32) * (3 : Int32) = z at r
  refine ⟨(z.toInt + 1).toNat, ?_, by omega, by omega⟩
  rw [Int32.toInt_add, show (1 : Int32).toInt = 1 by decide, Kit.bmod32 (by omega) (by omega)]; omega
theorem own_e5 {y x : Int32} (h : (y &&& (7 : Int32)) - (y &&& (7 : Int32)) / (5 : Int32) * (5 : Int32) = x) : ∃ n : Nat, x.toInt = (n : Int) := by
  subst h
  have q : 0 ≤ (y &&& (7 : Int32)).toInt := by rw [Kit.i32_mask y 7 (k := 3) (by decide) (by decide)]; omega
  have r := i32_remN (x := y &&& (7 : Int32)) (y := (5 : Int32)) q
  rw [show (5 : Int32).toInt = 5 by decide] at r
  exact ⟨((y &&& (7 : Int32)) - (y &&& (7 : Int32)) / (5 : Int32) * (5 : Int32)).toInt.toNat, by omega⟩
theorem own_w {y x : Int32} (h : y &&& (15 : Int32) = x) : ∃ n : Nat, x.toInt = (n : Int) ∧ n ≤ 15 := by
  subst h
  have q := Kit.i32_mask y 15 (k := 4) (by decide) (by decide)
  exact ⟨(y &&& (15 : Int32)).toInt.toNat, by omega, by omega⟩
theorem own_dy {x : Int32} {n : Nat} (h : x.toInt = (n : Int)) : Jvm.OwnKit.Dy (n : Int) 0 (FP.i2d x) := by rw [← h]; exact dy_i2d x
theorem own_6 {u v x : Int32} {a b : Nat} (hu : u.toInt = (a : Int)) (hv : v.toInt = (b : Int)) (ha : 1 ≤ a ∧ a ≤ 3) (hb : 1 ≤ b ∧ b ≤ 3) (h : ((6 : Int32) - u) - v = x) : x.toInt = ((6 - a - b : Nat) : Int) := by
  subst h
  have e1 : ((6 : Int32) - u).toInt = 6 - (a : Int) := by rw [Int32.toInt_sub, show (6 : Int32).toInt = 6 by decide, hu]; exact Kit.bmod32 (by omega) (by omega)
  rw [Int32.toInt_sub, e1, hv, Kit.bmod32 (by omega) (by omega)]; omega
theorem own_ad {u v : Int32} {a b : Nat} (hu : u.toInt = (a : Int)) (hv : v.toInt = (b : Int)) (ha : a ≤ 1000) (hb : b ≤ 1000) : (u + v).toInt = ((a + b : Nat) : Int) := by
  rw [Int32.toInt_add, hu, hv, Kit.bmod32 (by omega) (by omega)]; omega
theorem pick2 {o1 d1 o2 d2 : Int32} {P : Int32 → Prop} (h1 : P o1) (h2 : P d1) (y : Int32) : ∃ (i : Nat) (x : Int32), (y &&& (1 : Int32)).toInt = (i : Int) ∧ [Value.int o1, Value.int d1, Value.int o2, Value.int d2][i]? = some (Value.int x) ∧ P x := by
  rcases and1 y with q | q <;> rw [q]
  · exact ⟨0, o1, by decide, rfl, h1⟩
  · exact ⟨1, d1, by decide, rfl, h2⟩
theorem pick4 {o1 d1 o2 d2 : Int32} {P : Int32 → Prop} (h1 : P o1) (h2 : P d1) (h3 : P o2) (h4 : P d2) (y : Int32) : ∃ (i : Nat) (x : Int32), (y &&& (3 : Int32)).toInt = (i : Int) ∧ [Value.int o1, Value.int d1, Value.int o2, Value.int d2][i]? = some (Value.int x) ∧ P x := by
  rcases and3 y with q | q | q | q <;> rw [q]
  · exact ⟨0, o1, by decide, rfl, h1⟩
  · exact ⟨1, d1, by decide, rfl, h2⟩
  · exact ⟨2, o2, by decide, rfl, h3⟩
  · exact ⟨3, d2, by decide, rfl, h4⟩
theorem dst_y {t h w x y b : Nat} (h1 : t = x) (h2 : h = y) : dst t h w x y b = min b w := if_pos ⟨h1, h2⟩
theorem dst_n1 {t h w x y b : Nat} (h1 : t ≠ x) : dst t h w x y b = b := if_neg fun q => h1 q.1
theorem dst_n2 {t h w x y b : Nat} (h1 : h ≠ y) : dst t h w x y b = b := if_neg fun q => h1 q.2
theorem nat_ne {x y : Int32} {a b : Nat} (hx : x.toInt = (a : Int)) (hy : y.toInt = (b : Int)) (q : ¬ x = y) : a ≠ b := fun e => q (i32_lit (hx.trans (by rw [e])) hy)
theorem nat_eq {x y : Int32} {a b : Nat} (hx : x.toInt = (a : Int)) (hy : y.toInt = (b : Int)) (q : x = y) : a = b := by
  have z := congrArg Int32.toInt q; omega
theorem dv_eq0 {x y : UInt64} {n j : Nat} (hx : DV x n) (hy : DV y j) (e : n = j) (o : CmpOp) : cmpValue (FP.dcmp x y) o = (0 : Int32) := by
  subst e; rw [dv_cmp hx hy, show compare (n : Int) (n : Int) = .eq from Int.compare_eq_eq.mpr rfl]; cases o <;> rfl
theorem dv_inf {x : UInt64} {n : Nat} (h : DV x n) (hn : n = 1000) : x = (9218868437227405312 : UInt64) := by
  rcases h with ⟨-, q⟩ | ⟨q, -⟩
  · exact q
  · omega
theorem bst_eq {ft u v : Nat} {T Hd tm : Nat → Nat} (h : u = v) : bst ft T Hd tm u v = 0 := if_pos h
theorem bst_n {ft u v : Nat} {T Hd tm : Nat → Nat} (h : u ≠ v) (q : ¬ ft ≤ 6 - u - v) : bst ft T Hd tm u v = min 1000 (dir T Hd tm u v) := by unfold bst; rw [if_neg h, if_neg q]
theorem bst_y {ft u v : Nat} {T Hd tm : Nat → Nat} (h : u ≠ v) (q : ft ≤ 6 - u - v) : bst ft T Hd tm u v = min 1000 (min (dir T Hd tm u v) (dir T Hd tm u (6 - u - v) + dir T Hd tm (6 - u - v) v)) := by unfold bst; rw [if_neg h, if_pos q]
theorem inf_pos : cmpValue (FP.dcmp (9218868437227405312 : UInt64) 0) .l = (1 : Int32) := by decide +kernel
theorem inf_two : FP.dmul (9218868437227405312 : UInt64) (4611686018427387904 : UInt64) = (9218868437227405312 : UInt64) := by decide +kernel
theorem inf_self : cmpValue (FP.dcmp (9218868437227405312 : UInt64) (9218868437227405312 : UInt64)) .l = (0 : Int32) := by decide +kernel
theorem inf_nn : NoNaN64 (FP.dmul (9218868437227405312 : UInt64) (4611686018427387904 : UInt64)) := by rw [inf_two]; unfold NoNaN64; decide

theorem c_end (l : Launch) (Z : State) (a0 : Array Value) (hw : ∀ d ∈ tables_1, d.before a0 Z = true) (n0 : Nat) (g kk : Int32) (h0 : Heap) (F : List HRow) (H00 : Hp Z n0 h0 F) :
    Con l Z n0 ⟨"com/example/lanewright/lanewright/RouteTimesTimePinLaw", "end", "(II)I"⟩ [] method_2_code 2 (some .int) ({ frames := 0, cells := 0, slots := 0, locals := 0 } : Room) #[.int g, .int kk] h0 (fun v h => ∃ (x : Int32) (n : Nat), v = some (.int x) ∧ x.toInt = (n : Int) ∧ (1 ≤ n ∧ n ≤ 3) ∧ Hp Z n0 h F) := by
  refine con_of (plainFor_of_name pn_RouteTimesTimePinLaw) ?_
  intro p e s m below meth c T0 W0 e0
  subst e0
  have H0 := H00
  refine g_cast (ef_ii2 m g kk) ?_
  refine g_iloadN W0 d1_0 (pc' := 1) rfl rfl ?_
  refine g_iloadN W0 d1_1 (pc' := 2) rfl rfl ?_
  refine g_iushr W0 d1_2 (pc' := 3) rfl rfl ?_
  refine g_bipush W0 d1_3 (pc' := 5) rfl (v := (15 : Int32)) (by decide) ?_
  refine g_iand W0 d1_5 (pc' := 6) rfl rfl ?_
  refine g_iconst W0 d1_6 (pc' := 7) rfl (v := (3 : Int32)) (by decide) ?_
  refine g_irem W0 d1_7 (pc' := 8) rfl (by decide) rfl ?_
  refine g_iconst W0 d1_8 (pc' := 9) rfl (v := (1 : Int32)) (by decide) ?_
  refine g_iadd W0 d1_9 (pc' := 10) rfl rfl ?_
  generalize h_x : ((((XT.ushr g kk) &&& (15 : Int32)) - ((XT.ushr g kk) &&& (15 : Int32)) / (3 : Int32) * (3 : Int32)) + (1 : Int32)) = x
  obtain ⟨n, q1, q2⟩ := own_e3 h_x
  exact g_ireturn W0 d1_10 ⟨x, n, rfl, q1, q2, H0⟩ (by decide) (by decide)
theorem c_min (l : Launch) (Z : State) (a0 : Array Value) (hw : ∀ d ∈ tables_1, d.before a0 Z = true) (n0 : Nat) (x y : Int32) (xn yn : Nat) (hx : x.toInt = (xn : Int)) (hy : y.toInt = (yn : Int)) (h0 : Heap) (F : List HRow) (H00 : Hp Z n0 h0 F) :
    Con l Z n0 ⟨"java/lang/Math", "min", "(II)I"⟩ [] jdk_29_method_69_code 2 (some .int) ({ frames := 0, cells := 0, slots := 0, locals := 0 } : Room) #[.int x, .int y] h0 (fun v h => ∃ z : Int32, v = some (.int z) ∧ z.toInt = ((min xn yn : Nat) : Int) ∧ Hp Z n0 h F) := by
  refine con_of pf_61 ?_
  intro p e s m below meth c T0 W0 e0
  subst e0
  have H0 := H00
  refine g_cast (ef_ii2 m x y) ?_
  refine g_iloadN W0 d61_0 (pc' := 1) rfl rfl ?_
  refine g_iloadN W0 d61_1 (pc' := 2) rfl rfl ?_
  refine g_icmp W0 d61_2 (pcy := 9) (by decide) (pc' := 5) rfl (fun (c1 : y < x) => ?_) (fun (c1 : ¬ y < x) => ?_)
  · refine g_iloadN W0 d61_9 (pc' := 10) rfl rfl ?_
    exact g_ireturn W0 d61_10 ⟨_, rfl, (by have z := c1; rw [Int32.lt_iff_toInt_lt, hx, hy] at z; omega), H0⟩ (by decide) (by decide)
  · refine g_iloadN W0 d61_5 (pc' := 6) rfl rfl ?_
    refine g_goto W0 d61_6 (pc' := 10) (by decide) ?_
    exact g_ireturn W0 d61_10 ⟨_, rfl, (by have z := c1; rw [Int32.lt_iff_toInt_lt, hx, hy] at z; omega), H0⟩ (by decide) (by decide)
theorem c_direct (l : Launch) (Z : State) (a0 : Array Value) (hw : ∀ d ∈ tables_1, d.before a0 Z = true) (n0 : Nat) (ta ha wa : Addr) (x y : Int32) (xn yn : Nat) (hx : x.toInt = (xn : Int)) (hy : y.toInt = (yn : Int)) (t0 g0 q0 : Int32) (nt0 ng0 nq0 : Nat) (ht0 : t0.toInt = (nt0 : Int)) (hg0 : g0.toInt = (ng0 : Int)) (hq0 : q0.toInt = (nq0 : Int)) (t1 g1 q1 : Int32) (nt1 ng1 nq1 : Nat) (ht1 : t1.toInt = (nt1 : Int)) (hg1 : g1.toInt = (ng1 : Int)) (hq1 : q1.toInt = (nq1 : Int)) (t2 g2 q2 : Int32) (nt2 ng2 nq2 : Nat) (ht2 : t2.toInt = (nt2 : Int)) (hg2 : g2.toInt = (ng2 : Int)) (hq2 : q2.toInt = (nq2 : Int))  (h0 : Heap) (F : List HRow) (H00 : Hp Z n0 h0 ((ta, IaC Z ([t0, t1, t2] : List Int32)) :: (ha, IaC Z ([g0, g1, g2] : List Int32)) :: (wa, IaC Z ([q0, q1, q2] : List Int32)) :: F)) :
    Con l Z n0 ⟨"com/example/lanewright/lanewright/RouteTimesTimePinLaw", "direct", "(II[I[I[I)I"⟩ [] method_3_code 6 (some .int) ({ frames := 1, cells := 0, slots := 0, locals := 13 } : Room) #[.int x, .int y, .ref ta, .ref ha, .ref wa] h0 (fun v h => ∃ z : Int32, v = some (.int z) ∧ z.toInt = ((dst nt2 ng2 nq2 xn yn (dst nt1 ng1 nq1 xn yn (dst nt0 ng0 nq0 xn yn 1000))) : Nat) ∧ Hp Z n0 h ((ta, IaC Z ([t0, t1, t2] : List Int32)) :: (ha, IaC Z ([g0, g1, g2] : List Int32)) :: (wa, IaC Z ([q0, q1, q2] : List Int32)) :: F)) := by
  refine con_of (plainFor_of_name pn_RouteTimesTimePinLaw) ?_
  intro p e s m below meth c T0 W0 e0
  subst e0
  have H0 := H00
  refine g_cast (ef_iirrr6 m x y ta ha wa) ?_
  refine g_sipush W0 d60_0 (pc' := 3) rfl (v := (1000 : Int32)) (by decide) ?_
  refine g_istore W0 d60_3 (pc' := 5) rfl (ls' := #[.val (.int x), .val (.int y), .val (.ref ta), .val (.ref ha), .val (.ref wa), .val (.int (1000 : Int32))]) rfl ?_
  have hb0 : (1000 : Int32).toInt = ((1000 : Nat) : Int) := by decide
  have J1 : ∀ (TJJ1 : State) (b1 : Int32) (hb1 : b1.toInt = ((dst nt0 ng0 nq0 xn yn 1000) : Nat)), Wk Z ⟨"com/example/lanewright/lanewright/RouteTimesTimePinLaw", "direct", "(II[I[I[I)I"⟩ method_3_code 6 (some .int) n0 p l e ({ frames := 1, cells := 0, slots := 0, locals := 13 } : Room) s m #[.int x, .int y, .ref ta, .ref ha, .ref wa] below meth c TJJ1 0 0 → Hp Z n0 TJJ1.heap ((ta, IaC Z ([t0, t1, t2] : List Int32)) :: (ha, IaC Z ([g0, g1, g2] : List Int32)) :: (wa, IaC Z ([q0, q1, q2] : List Int32)) :: F) → Goes p e below (En s n0 (Room.cells ({ frames := 1, cells := 0, slots := 0, locals := 13 } : Room)) (Room.slots ({ frames := 1, cells := 0, slots := 0, locals := 13 } : Room)) (fun v h => ∃ z : Int32, v = some (.int z) ∧ z.toInt = ((dst nt2 ng2 nq2 xn yn (dst nt1 ng1 nq1 xn yn (dst nt0 ng0 nq0 xn yn 1000))) : Nat) ∧ Hp Z n0 h ((ta, IaC Z ([t0, t1, t2] : List Int32)) :: (ha, IaC Z ([g0, g1, g2] : List Int32)) :: (wa, IaC Z ([q0, q1, q2] : List Int32)) :: F))) (TJJ1.setTop (mkF m 30 #[.val (.int x), .val (.int y), .val (.ref ta), .val (.ref ha), .val (.ref wa), .val (.int b1)] [])) := by
    intro TJJ1 b1 hb1 WJJ1 HJJ1
    have J2 : ∀ (TJJ2 : State) (b2 : Int32) (hb2 : b2.toInt = ((dst nt1 ng1 nq1 xn yn (dst nt0 ng0 nq0 xn yn 1000)) : Nat)), Wk Z ⟨"com/example/lanewright/lanewright/RouteTimesTimePinLaw", "direct", "(II[I[I[I)I"⟩ method_3_code 6 (some .int) n0 p l e ({ frames := 1, cells := 0, slots := 0, locals := 13 } : Room) s m #[.int x, .int y, .ref ta, .ref ha, .ref wa] below meth c TJJ2 0 0 → Hp Z n0 TJJ2.heap ((ta, IaC Z ([t0, t1, t2] : List Int32)) :: (ha, IaC Z ([g0, g1, g2] : List Int32)) :: (wa, IaC Z ([q0, q1, q2] : List Int32)) :: F) → Goes p e below (En s n0 (Room.cells ({ frames := 1, cells := 0, slots := 0, locals := 13 } : Room)) (Room.slots ({ frames := 1, cells := 0, slots := 0, locals := 13 } : Room)) (fun v h => ∃ z : Int32, v = some (.int z) ∧ z.toInt = ((dst nt2 ng2 nq2 xn yn (dst nt1 ng1 nq1 xn yn (dst nt0 ng0 nq0 xn yn 1000))) : Nat) ∧ Hp Z n0 h ((ta, IaC Z ([t0, t1, t2] : List Int32)) :: (ha, IaC Z ([g0, g1, g2] : List Int32)) :: (wa, IaC Z ([q0, q1, q2] : List Int32)) :: F))) (TJJ2.setTop (mkF m 55 #[.val (.int x), .val (.int y), .val (.ref ta), .val (.ref ha), .val (.ref wa), .val (.int b2)] [])) := by
      intro TJJ2 b2 hb2 WJJ2 HJJ2
      have J3 : ∀ (TJJ3 : State) (b3 : Int32) (hb3 : b3.toInt = ((dst nt2 ng2 nq2 xn yn (dst nt1 ng1 nq1 xn yn (dst nt0 ng0 nq0 xn yn 1000))) : Nat)), Wk Z ⟨"com/example/lanewright/lanewright/RouteTimesTimePinLaw", "direct", "(II[I[I[I)I"⟩ method_3_code 6 (some .int) n0 p l e ({ frames := 1, cells := 0, slots := 0, locals := 13 } : Room) s m #[.int x, .int y, .ref ta, .ref ha, .ref wa] below meth c TJJ3 0 0 → Hp Z n0 TJJ3.heap ((ta, IaC Z ([t0, t1, t2] : List Int32)) :: (ha, IaC Z ([g0, g1, g2] : List Int32)) :: (wa, IaC Z ([q0, q1, q2] : List Int32)) :: F) → Goes p e below (En s n0 (Room.cells ({ frames := 1, cells := 0, slots := 0, locals := 13 } : Room)) (Room.slots ({ frames := 1, cells := 0, slots := 0, locals := 13 } : Room)) (fun v h => ∃ z : Int32, v = some (.int z) ∧ z.toInt = ((dst nt2 ng2 nq2 xn yn (dst nt1 ng1 nq1 xn yn (dst nt0 ng0 nq0 xn yn 1000))) : Nat) ∧ Hp Z n0 h ((ta, IaC Z ([t0, t1, t2] : List Int32)) :: (ha, IaC Z ([g0, g1, g2] : List Int32)) :: (wa, IaC Z ([q0, q1, q2] : List Int32)) :: F))) (TJJ3.setTop (mkF m 80 #[.val (.int x), .val (.int y), .val (.ref ta), .val (.ref ha), .val (.ref wa), .val (.int b3)] [])) := by
        intro TJJ3 b3 hb3 WJJ3 HJJ3
        refine g_iload WJJ3 d60_80 (pc' := 82) rfl rfl ?_
        exact g_ireturn WJJ3 d60_82 ⟨_, rfl, hb3, HJJ3⟩ (by decide) (by decide)
      refine g_aloadN WJJ2 d60_55 (pc' := 56) rfl rfl rfl ?_
      refine g_iconst WJJ2 d60_56 (pc' := 57) rfl (v := (2 : Int32)) (by decide) ?_
      refine g_ialoadI WJJ2 HJJ2 (i := 0) rfl (jx := 2) (by decide) (u := t2) rfl d60_57 (pc' := 58) rfl ?_
      refine g_iloadN WJJ2 d60_58 (pc' := 59) rfl rfl ?_
      refine g_icmp WJJ2 d60_59 (pcy := 80) (by decide) (pc' := 62) rfl (fun (c1 : ¬ t2 = x) => ?_) (fun (c1 : ¬ ¬ t2 = x) => ?_)
      · exact J3 _ _ (by rw [dst_n1 (nat_ne ht2 hx c1)]; exact hb2) WJJ2 HJJ2
      · replace c1 := Classical.not_not.mp c1
        refine g_aloadN WJJ2 d60_62 (pc' := 63) rfl rfl rfl ?_
        refine g_iconst WJJ2 d60_63 (pc' := 64) rfl (v := (2 : Int32)) (by decide) ?_
        refine g_ialoadI WJJ2 HJJ2 (i := 1) rfl (jx := 2) (by decide) (u := g2) rfl d60_64 (pc' := 65) rfl ?_
        refine g_iloadN WJJ2 d60_65 (pc' := 66) rfl rfl ?_
        refine g_icmp WJJ2 d60_66 (pcy := 80) (by decide) (pc' := 69) rfl (fun (c2 : ¬ g2 = y) => ?_) (fun (c2 : ¬ ¬ g2 = y) => ?_)
        · exact J3 _ _ (by rw [dst_n2 (nat_ne hg2 hy c2)]; exact hb2) WJJ2 HJJ2
        · replace c2 := Classical.not_not.mp c2
          refine g_iload WJJ2 d60_69 (pc' := 71) rfl rfl ?_
          refine g_aload WJJ2 d60_71 (pc' := 73) rfl rfl rfl ?_
          refine g_iconst WJJ2 d60_73 (pc' := 74) rfl (v := (2 : Int32)) (by decide) ?_
          refine g_ialoadI WJJ2 HJJ2 (i := 2) rfl (jx := 2) (by decide) (u := q2) rfl d60_74 (pc' := 75) rfl ?_
          refine g_callS WJJ2 (argsL := [.int b2, .int q2]) (st := []) (wd_453 hw) (wd_454 hw) (wd_84 hw) (wd_455 hw) (by decide) (c_min l Z a0 hw n0 b2 q2 _ nq2 hb2 hq2 _ _ HJJ2) pd_1 rfl rfl rfl d60_75 (pc' := 78) rfl (by decide) (Wn := 0) (Nat.le_of_eq rfl) (by decide) (kc' := 0) (ks' := 0) rfl rfl (by decide) (by decide) ?_
          intro T3 v3 W3 hp3
          obtain ⟨z, rfl, hz, H3⟩ := hp3
          show Goes _ _ _ _ (State.setTop _ (mkF _ _ _ [.int z]))
          refine g_istore W3 d60_78 (pc' := 80) rfl (ls' := #[.val (.int x), .val (.int y), .val (.ref ta), .val (.ref ha), .val (.ref wa), .val (.int z)]) rfl ?_
          exact J3 _ _ (by rw [dst_y (nat_eq ht2 hx c1) (nat_eq hg2 hy c2)]; exact hz) W3 H3
    refine g_aloadN WJJ1 d60_30 (pc' := 31) rfl rfl rfl ?_
    refine g_iconst WJJ1 d60_31 (pc' := 32) rfl (v := (1 : Int32)) (by decide) ?_
    refine g_ialoadI WJJ1 HJJ1 (i := 0) rfl (jx := 1) (by decide) (u := t1) rfl d60_32 (pc' := 33) rfl ?_
    refine g_iloadN WJJ1 d60_33 (pc' := 34) rfl rfl ?_
    refine g_icmp WJJ1 d60_34 (pcy := 55) (by decide) (pc' := 37) rfl (fun (c4 : ¬ t1 = x) => ?_) (fun (c4 : ¬ ¬ t1 = x) => ?_)
    · exact J2 _ _ (by rw [dst_n1 (nat_ne ht1 hx c4)]; exact hb1) WJJ1 HJJ1
    · replace c4 := Classical.not_not.mp c4
      refine g_aloadN WJJ1 d60_37 (pc' := 38) rfl rfl rfl ?_
      refine g_iconst WJJ1 d60_38 (pc' := 39) rfl (v := (1 : Int32)) (by decide) ?_
      refine g_ialoadI WJJ1 HJJ1 (i := 1) rfl (jx := 1) (by decide) (u := g1) rfl d60_39 (pc' := 40) rfl ?_
      refine g_iloadN WJJ1 d60_40 (pc' := 41) rfl rfl ?_
      refine g_icmp WJJ1 d60_41 (pcy := 55) (by decide) (pc' := 44) rfl (fun (c5 : ¬ g1 = y) => ?_) (fun (c5 : ¬ ¬ g1 = y) => ?_)
      · exact J2 _ _ (by rw [dst_n2 (nat_ne hg1 hy c5)]; exact hb1) WJJ1 HJJ1
      · replace c5 := Classical.not_not.mp c5
        refine g_iload WJJ1 d60_44 (pc' := 46) rfl rfl ?_
        refine g_aload WJJ1 d60_46 (pc' := 48) rfl rfl rfl ?_
        refine g_iconst WJJ1 d60_48 (pc' := 49) rfl (v := (1 : Int32)) (by decide) ?_
        refine g_ialoadI WJJ1 HJJ1 (i := 2) rfl (jx := 1) (by decide) (u := q1) rfl d60_49 (pc' := 50) rfl ?_
        refine g_callS WJJ1 (argsL := [.int b1, .int q1]) (st := []) (wd_453 hw) (wd_454 hw) (wd_84 hw) (wd_455 hw) (by decide) (c_min l Z a0 hw n0 b1 q1 _ nq1 hb1 hq1 _ _ HJJ1) pd_1 rfl rfl rfl d60_50 (pc' := 53) rfl (by decide) (Wn := 0) (Nat.le_of_eq rfl) (by decide) (kc' := 0) (ks' := 0) rfl rfl (by decide) (by decide) ?_
        intro T6 v6 W6 hp6
        obtain ⟨z, rfl, hz, H6⟩ := hp6
        show Goes _ _ _ _ (State.setTop _ (mkF _ _ _ [.int z]))
        refine g_istore W6 d60_53 (pc' := 55) rfl (ls' := #[.val (.int x), .val (.int y), .val (.ref ta), .val (.ref ha), .val (.ref wa), .val (.int z)]) rfl ?_
        exact J2 _ _ (by rw [dst_y (nat_eq ht1 hx c4) (nat_eq hg1 hy c5)]; exact hz) W6 H6
  refine g_aloadN W0 d60_5 (pc' := 6) rfl rfl rfl ?_
  refine g_iconst W0 d60_6 (pc' := 7) rfl (v := (0 : Int32)) (by decide) ?_
  refine g_ialoadI W0 H0 (i := 0) rfl (jx := 0) (by decide) (u := t0) rfl d60_7 (pc' := 8) rfl ?_
  refine g_iloadN W0 d60_8 (pc' := 9) rfl rfl ?_
  refine g_icmp W0 d60_9 (pcy := 30) (by decide) (pc' := 12) rfl (fun (c7 : ¬ t0 = x) => ?_) (fun (c7 : ¬ ¬ t0 = x) => ?_)
  · exact J1 _ _ (by rw [dst_n1 (nat_ne ht0 hx c7)]; exact hb0) W0 H0
  · replace c7 := Classical.not_not.mp c7
    refine g_aloadN W0 d60_12 (pc' := 13) rfl rfl rfl ?_
    refine g_iconst W0 d60_13 (pc' := 14) rfl (v := (0 : Int32)) (by decide) ?_
    refine g_ialoadI W0 H0 (i := 1) rfl (jx := 0) (by decide) (u := g0) rfl d60_14 (pc' := 15) rfl ?_
    refine g_iloadN W0 d60_15 (pc' := 16) rfl rfl ?_
    refine g_icmp W0 d60_16 (pcy := 30) (by decide) (pc' := 19) rfl (fun (c8 : ¬ g0 = y) => ?_) (fun (c8 : ¬ ¬ g0 = y) => ?_)
    · exact J1 _ _ (by rw [dst_n2 (nat_ne hg0 hy c8)]; exact hb0) W0 H0
    · replace c8 := Classical.not_not.mp c8
      refine g_iload W0 d60_19 (pc' := 21) rfl rfl ?_
      refine g_aload W0 d60_21 (pc' := 23) rfl rfl rfl ?_
      refine g_iconst W0 d60_23 (pc' := 24) rfl (v := (0 : Int32)) (by decide) ?_
      refine g_ialoadI W0 H0 (i := 2) rfl (jx := 0) (by decide) (u := q0) rfl d60_24 (pc' := 25) rfl ?_
      refine g_callS W0 (argsL := [.int (1000 : Int32), .int q0]) (st := []) (wd_453 hw) (wd_454 hw) (wd_84 hw) (wd_455 hw) (by decide) (c_min l Z a0 hw n0 (1000 : Int32) q0 _ nq0 hb0 hq0 _ _ H0) pd_1 rfl rfl rfl d60_25 (pc' := 28) rfl (by decide) (Wn := 0) (Nat.le_of_eq rfl) (by decide) (kc' := 0) (ks' := 0) rfl rfl (by decide) (by decide) ?_
      intro T9 v9 W9 hp9
      obtain ⟨z, rfl, hz, H9⟩ := hp9
      show Goes _ _ _ _ (State.setTop _ (mkF _ _ _ [.int z]))
      refine g_istore W9 d60_28 (pc' := 30) rfl (ls' := #[.val (.int x), .val (.int y), .val (.ref ta), .val (.ref ha), .val (.ref wa), .val (.int z)]) rfl ?_
      exact J1 _ _ (by rw [dst_y (nat_eq ht0 hx c7) (nat_eq hg0 hy c8)]; exact hz) W9 H9
theorem c_time (l : Launch) (Z : State) (a0 : Array Value) (hw : ∀ d ∈ tables_1, d.before a0 Z = true) (n0 : Nat) (rt rA tA x : Addr) (RL : List Int32) (xs : List Value) (row : List UInt64) (u w ru rv : Int32) (un wn i j : Nat) (r : UInt64) (hu : u.toInt = (un : Int)) (hv : w.toInt = (wn : Int)) (gu : RL[un]? = some ru) (gv : RL[wn]? = some rv) (hru : ru.toInt = (i : Int)) (hrv : rv.toInt = (j : Int)) (gx : xs[i]? = some (.ref x)) (gr : row[j]? = some r) (F : List HRow) (hm : (x, DaC Z row) ∈ F) (h0 : Heap) (H00 : Hp Z n0 h0 ((rt, o_RouteTimes Z (.ref rA) (.ref tA)) :: (rA, IaC Z RL) :: (tA, ArC Z (.array .double) xs) :: F)) :
    Con l Z n0 ⟨"com/example/lanewright/lanewright/RouteTimes", "time", "(II)D"⟩ [] prog_47_method_2_code 3 (some .double) ({ frames := 0, cells := 0, slots := 0, locals := 0 } : Room) #[.ref rt, .int u, .int w] h0 (fun v h => v = some (.double r) ∧ Hp Z n0 h ((rt, o_RouteTimes Z (.ref rA) (.ref tA)) :: (rA, IaC Z RL) :: (tA, ArC Z (.array .double) xs) :: F)) := by
  refine con_of (plainFor_of_name pn_RouteTimes) ?_
  intro p e s m below meth c T0 W0 e0
  subst e0
  have H0 := H00
  refine g_cast (ef_rii3 m rt u w) ?_
  refine g_aloadN W0 d59_0 (pc' := 1) rfl rfl rfl ?_
  refine g_getf W0 (wd_376 hw) Via.refl H0 (i := 0) rfl (jx := 1) rfl d59_1 (pc' := 4) rfl ?_
  intro T1 W1 H1
  refine g_aloadN W1 d59_4 (pc' := 5) rfl rfl rfl ?_
  refine g_getf W1 (wd_212 hw) Via.refl H1 (i := 0) rfl (jx := 0) rfl d59_5 (pc' := 8) rfl ?_
  intro T2 W2 H2
  refine g_iloadN W2 d59_8 (pc' := 9) rfl rfl ?_
  refine g_ialoadI W2 H2 (i := 1) rfl (jx := un) hu (u := ru) gu d59_9 (pc' := 10) rfl ?_
  refine g_aaloadG W2 H2 (i := 2) rfl (jx := i) hru (v := .ref x) gx d59_10 (pc' := 11) rfl ?_
  refine g_aloadN W2 d59_11 (pc' := 12) rfl rfl rfl ?_
  refine g_getf W2 (wd_212 hw) Via.refl H2 (i := 0) rfl (jx := 0) rfl d59_12 (pc' := 15) rfl ?_
  intro T3 W3 H3
  refine g_iloadN W3 d59_15 (pc' := 16) rfl rfl ?_
  refine g_ialoadI W3 H3 (i := 1) rfl (jx := wn) hv (u := rv) gv d59_16 (pc' := 17) rfl ?_
  obtain ⟨ix, hix⟩ := List.getElem?_of_mem (mc3 hm)
  refine g_daloadD W3 H3 (i := ix) hix (jx := j) hrv (u := r) gr d59_17 (pc' := 18) rfl ?_
  exact g_dreturn W3 d59_18 ⟨rfl, H3⟩ (by decide) (by decide)
theorem law_con (l : Launch) (Z : State) (a0 : Array Value) (hw : ∀ d ∈ tables_1, d.before a0 Z = true) (n0 : Nat) (em : Addr) (hEm : Sta Z Z.heap "java/util/ImmutableCollections" "EMPTY" "Ljava/lang/Object;" (.ref em)) (hEx : Exa Z Z.heap em "java/lang/Object") (ca : Addr) (cc : Cell) (hH : Sta Z Z.heap "java/lang/Integer$IntegerCache" "high" "I" (.int 127)) (hCa : Sta Z Z.heap "java/lang/Integer$IntegerCache" "cache" "[Ljava/lang/Integer;" (.ref ca)) (hB : Bxs Z ca cc "java/lang/Integer" "I" (256 : Int32) (fun j => .int (j - 128))) (de : Addr) (dc : Cell) (hD : Sta Z Z.heap "java/util/ArrayList" "DEFAULTCAPACITY_EMPTY_ELEMENTDATA" "[Ljava/lang/Object;" (.ref de)) (hA : Arr Z Z.heap de dc (.object "java/lang/Object")) (hA0 : dc.slots.size.toInt32 = 0) (pa pt pp pq : Int32) (h0 : Heap) (H00 : Hp Z n0 h0 []) :
    Con l Z n0 x tables_1 code maxLocals ret room_1 #[.int pa, .int pt, .int pp, .int pq] h0 (fun v _ => v = some (.int 1)) := by
  refine con_of (plainFor_of_name pn_RouteTimesTimePinLaw) ?_
  intro p e s m below meth c T0 W0 e0
  subst e0
  have H0 := H00
  refine g_cast (ef_0 m pa pt pp pq) ?_
  refine g_iloadN W0 at_0 (pc' := 1) rfl rfl ?_
  refine g_iconst W0 at_1 (pc' := 2) rfl (v := (0 : Int32)) (by decide) ?_
  refine g_callS W0 (argsL := [.int pa, .int (0 : Int32)]) (st := []) (wd_0 hw) (wd_1 hw) (wd_2 hw) (wd_3 hw) (by decide) (c_end l Z a0 hw n0 pa (0 : Int32) _ _ H0) pd_1 rfl rfl rfl at_2 (pc' := 5) rfl (by decide) (Wn := 0) (Nat.le_of_eq rfl) (by decide) (kc' := 0) (ks' := 0) rfl rfl (by decide) (by decide) ?_
  intro T1 v1 W1 hp1
  obtain ⟨t0, nt0, rfl, ht0, bt0, H1⟩ := hp1
  show Goes _ _ _ _ (State.setTop _ (mkF _ _ _ [.int t0]))
  refine g_istore W1 at_5 (pc' := 7) rfl (ls' := #[.val (.int pa), .val (.int pt), .val (.int pp), .val (.int pq), .val (.int t0), .unset, .unset, .unset, .unset, .unset, .unset, .unset, .unset, .unset, .unset, .unset, .unset, .unset, .unset, .unset, .unset, .unset, .unset, .unset, .unset, .unset, .unset, .unset, .unset, .unset, .unset, .unset, .unset, .unset, .unset]) rfl ?_
  refine g_iloadN W1 at_7 (pc' := 8) rfl rfl ?_
  refine g_iconst W1 at_8 (pc' := 9) rfl (v := (4 : Int32)) (by decide) ?_
  refine g_callS W1 (argsL := [.int pa, .int (4 : Int32)]) (st := []) (wd_0 hw) (wd_1 hw) (wd_2 hw) (wd_3 hw) (by decide) (c_end l Z a0 hw n0 pa (4 : Int32) _ _ H1) pd_1 rfl rfl rfl at_9 (pc' := 12) rfl (by decide) (Wn := 0) (Nat.le_of_eq rfl) (by decide) (kc' := 0) (ks' := 0) rfl rfl (by decide) (by decide) ?_
  intro T2 v2 W2 hp2
  obtain ⟨g0, ng0, rfl, hg0, bg0, H2⟩ := hp2
  show Goes _ _ _ _ (State.setTop _ (mkF _ _ _ [.int g0]))
  refine g_istore W2 at_12 (pc' := 14) rfl (ls' := #[.val (.int pa), .val (.int pt), .val (.int pp), .val (.int pq), .val (.int t0), .val (.int g0), .unset, .unset, .unset, .unset, .unset, .unset, .unset, .unset, .unset, .unset, .unset, .unset, .unset, .unset, .unset, .unset, .unset, .unset, .unset, .unset, .unset, .unset, .unset, .unset, .unset, .unset, .unset, .unset, .unset]) rfl ?_
  refine g_iloadN W2 at_14 (pc' := 15) rfl rfl ?_
  refine g_bipush W2 at_15 (pc' := 17) rfl (v := (8 : Int32)) (by decide) ?_
  refine g_callS W2 (argsL := [.int pa, .int (8 : Int32)]) (st := []) (wd_0 hw) (wd_1 hw) (wd_2 hw) (wd_3 hw) (by decide) (c_end l Z a0 hw n0 pa (8 : Int32) _ _ H2) pd_1 rfl rfl rfl at_17 (pc' := 20) rfl (by decide) (Wn := 0) (Nat.le_of_eq rfl) (by decide) (kc' := 0) (ks' := 0) rfl rfl (by decide) (by decide) ?_
  intro T3 v3 W3 hp3
  obtain ⟨t1, nt1, rfl, ht1, bt1, H3⟩ := hp3
  show Goes _ _ _ _ (State.setTop _ (mkF _ _ _ [.int t1]))
  refine g_istore W3 at_20 (pc' := 22) rfl (ls' := #[.val (.int pa), .val (.int pt), .val (.int pp), .val (.int pq), .val (.int t0), .val (.int g0), .val (.int t1), .unset, .unset, .unset, .unset, .unset, .unset, .unset, .unset, .unset, .unset, .unset, .unset, .unset, .unset, .unset, .unset, .unset, .unset, .unset, .unset, .unset, .unset, .unset, .unset, .unset, .unset, .unset, .unset]) rfl ?_
  refine g_iloadN W3 at_22 (pc' := 23) rfl rfl ?_
  refine g_bipush W3 at_23 (pc' := 25) rfl (v := (12 : Int32)) (by decide) ?_
  refine g_callS W3 (argsL := [.int pa, .int (12 : Int32)]) (st := []) (wd_0 hw) (wd_1 hw) (wd_2 hw) (wd_3 hw) (by decide) (c_end l Z a0 hw n0 pa (12 : Int32) _ _ H3) pd_1 rfl rfl rfl at_25 (pc' := 28) rfl (by decide) (Wn := 0) (Nat.le_of_eq rfl) (by decide) (kc' := 0) (ks' := 0) rfl rfl (by decide) (by decide) ?_
  intro T4 v4 W4 hp4
  obtain ⟨g1, ng1, rfl, hg1, bg1, H4⟩ := hp4
  show Goes _ _ _ _ (State.setTop _ (mkF _ _ _ [.int g1]))
  refine g_istore W4 at_28 (pc' := 30) rfl (ls' := #[.val (.int pa), .val (.int pt), .val (.int pp), .val (.int pq), .val (.int t0), .val (.int g0), .val (.int t1), .val (.int g1), .unset, .unset, .unset, .unset, .unset, .unset, .unset, .unset, .unset, .unset, .unset, .unset, .unset, .unset, .unset, .unset, .unset, .unset, .unset, .unset, .unset, .unset, .unset, .unset, .unset, .unset, .unset]) rfl ?_
  refine g_iloadN W4 at_30 (pc' := 31) rfl rfl ?_
  refine g_bipush W4 at_31 (pc' := 33) rfl (v := (16 : Int32)) (by decide) ?_
  refine g_callS W4 (argsL := [.int pa, .int (16 : Int32)]) (st := []) (wd_0 hw) (wd_1 hw) (wd_2 hw) (wd_3 hw) (by decide) (c_end l Z a0 hw n0 pa (16 : Int32) _ _ H4) pd_1 rfl rfl rfl at_33 (pc' := 36) rfl (by decide) (Wn := 0) (Nat.le_of_eq rfl) (by decide) (kc' := 0) (ks' := 0) rfl rfl (by decide) (by decide) ?_
  intro T5 v5 W5 hp5
  obtain ⟨t2, nt2, rfl, ht2, bt2, H5⟩ := hp5
  show Goes _ _ _ _ (State.setTop _ (mkF _ _ _ [.int t2]))
  refine g_istore W5 at_36 (pc' := 38) rfl (ls' := #[.val (.int pa), .val (.int pt), .val (.int pp), .val (.int pq), .val (.int t0), .val (.int g0), .val (.int t1), .val (.int g1), .val (.int t2), .unset, .unset, .unset, .unset, .unset, .unset, .unset, .unset, .unset, .unset, .unset, .unset, .unset, .unset, .unset, .unset, .unset, .unset, .unset, .unset, .unset, .unset, .unset, .unset, .unset, .unset]) rfl ?_
  refine g_iloadN W5 at_38 (pc' := 39) rfl rfl ?_
  refine g_bipush W5 at_39 (pc' := 41) rfl (v := (20 : Int32)) (by decide) ?_
  refine g_callS W5 (argsL := [.int pa, .int (20 : Int32)]) (st := []) (wd_0 hw) (wd_1 hw) (wd_2 hw) (wd_3 hw) (by decide) (c_end l Z a0 hw n0 pa (20 : Int32) _ _ H5) pd_1 rfl rfl rfl at_41 (pc' := 44) rfl (by decide) (Wn := 0) (Nat.le_of_eq rfl) (by decide) (kc' := 0) (ks' := 0) rfl rfl (by decide) (by decide) ?_
  intro T6 v6 W6 hp6
  obtain ⟨g2, ng2, rfl, hg2, bg2, H6⟩ := hp6
  show Goes _ _ _ _ (State.setTop _ (mkF _ _ _ [.int g2]))
  refine g_istore W6 at_44 (pc' := 46) rfl (ls' := #[.val (.int pa), .val (.int pt), .val (.int pp), .val (.int pq), .val (.int t0), .val (.int g0), .val (.int t1), .val (.int g1), .val (.int t2), .val (.int g2), .unset, .unset, .unset, .unset, .unset, .unset, .unset, .unset, .unset, .unset, .unset, .unset, .unset, .unset, .unset, .unset, .unset, .unset, .unset, .unset, .unset, .unset, .unset, .unset, .unset]) rfl ?_
  refine g_iloadN W6 at_46 (pc' := 47) rfl rfl ?_
  refine g_bipush W6 at_47 (pc' := 49) rfl (v := (15 : Int32)) (by decide) ?_
  refine g_iand W6 at_49 (pc' := 50) rfl rfl ?_
  generalize h_q0 : (pt &&& (15 : Int32)) = q0
  obtain ⟨nq0, hq0, bq0⟩ := own_w h_q0
  refine g_istore W6 at_50 (pc' := 52) rfl (ls' := #[.val (.int pa), .val (.int pt), .val (.int pp), .val (.int pq), .val (.int t0), .val (.int g0), .val (.int t1), .val (.int g1), .val (.int t2), .val (.int g2), .val (.int q0), .unset, .unset, .unset, .unset, .unset, .unset, .unset, .unset, .unset, .unset, .unset, .unset, .unset, .unset, .unset, .unset, .unset, .unset, .unset, .unset, .unset, .unset, .unset, .unset]) rfl ?_
  refine g_iloadN W6 at_52 (pc' := 53) rfl rfl ?_
  refine g_iconst W6 at_53 (pc' := 54) rfl (v := (4 : Int32)) (by decide) ?_
  refine g_iushr W6 at_54 (pc' := 55) rfl rfl ?_
  refine g_bipush W6 at_55 (pc' := 57) rfl (v := (15 : Int32)) (by decide) ?_
  refine g_iand W6 at_57 (pc' := 58) rfl rfl ?_
  generalize h_q1 : ((XT.ushr pt (4 : Int32)) &&& (15 : Int32)) = q1
  obtain ⟨nq1, hq1, bq1⟩ := own_w h_q1
  refine g_istore W6 at_58 (pc' := 60) rfl (ls' := #[.val (.int pa), .val (.int pt), .val (.int pp), .val (.int pq), .val (.int t0), .val (.int g0), .val (.int t1), .val (.int g1), .val (.int t2), .val (.int g2), .val (.int q0), .val (.int q1), .unset, .unset, .unset, .unset, .unset, .unset, .unset, .unset, .unset, .unset, .unset, .unset, .unset, .unset, .unset, .unset, .unset, .unset, .unset, .unset, .unset, .unset, .unset]) rfl ?_
  refine g_iloadN W6 at_60 (pc' := 61) rfl rfl ?_
  refine g_bipush W6 at_61 (pc' := 63) rfl (v := (8 : Int32)) (by decide) ?_
  refine g_iushr W6 at_63 (pc' := 64) rfl rfl ?_
  refine g_bipush W6 at_64 (pc' := 66) rfl (v := (15 : Int32)) (by decide) ?_
  refine g_iand W6 at_66 (pc' := 67) rfl rfl ?_
  generalize h_q2 : ((XT.ushr pt (8 : Int32)) &&& (15 : Int32)) = q2
  obtain ⟨nq2, hq2, bq2⟩ := own_w h_q2
  refine g_istore W6 at_67 (pc' := 69) rfl (ls' := #[.val (.int pa), .val (.int pt), .val (.int pp), .val (.int pq), .val (.int t0), .val (.int g0), .val (.int t1), .val (.int g1), .val (.int t2), .val (.int g2), .val (.int q0), .val (.int q1), .val (.int q2), .unset, .unset, .unset, .unset, .unset, .unset, .unset, .unset, .unset, .unset, .unset, .unset, .unset, .unset, .unset, .unset, .unset, .unset, .unset, .unset, .unset, .unset]) rfl ?_
  refine g_new W6 (wd_4 hw) (wd_5 hw) (wd_6 hw) (la_ArrayList hw) (by decide) H6 at_69 (pc' := 72) rfl (kc' := 1) (ks' := 3) rfl rfl (by decide) (by decide) ?_
  intro T7 a7 W7 H7
  refine g_dup W7 at_72 (pc' := 73) rfl rfl ?_
  refine g_callI W7 (argsL := []) (st := [.ref a7]) rfl (wd_7 hw) (wd_8 hw) (wd_6 hw) (wd_9 hw) (by decide) (a := a7) (c_alini l Z a0 hw n0 de dc hD hA hA0 a7 _ _ H7) pd_0 rfl rfl rfl at_73 (pc' := 76) rfl (by decide) (Wn := 1) (Nat.le_of_eq rfl) (by decide) (kc' := 1) (ks' := 3) rfl rfl (by decide) (by decide) ?_
  intro T8 v8 W8 hp8
  obtain ⟨rfl, H8⟩ := hp8
  show Goes _ _ _ _ (State.setTop _ (mkF _ _ _ [.ref a7]))
  refine g_astore W8 at_76 (pc' := 78) rfl rfl (ls' := #[.val (.int pa), .val (.int pt), .val (.int pp), .val (.int pq), .val (.int t0), .val (.int g0), .val (.int t1), .val (.int g1), .val (.int t2), .val (.int g2), .val (.int q0), .val (.int q1), .val (.int q2), .val (.ref a7), .unset, .unset, .unset, .unset, .unset, .unset, .unset, .unset, .unset, .unset, .unset, .unset, .unset, .unset, .unset, .unset, .unset, .unset, .unset, .unset, .unset]) rfl ?_
  refine g_aload W8 at_78 (pc' := 80) rfl rfl rfl ?_
  refine g_new W8 (wd_30 hw) (wd_31 hw) (wd_32 hw) (la_Network_Arc hw) (by decide) H8 at_80 (pc' := 83) rfl (kc' := 2) (ks' := 9) rfl rfl (by decide) (by decide) ?_
  intro T9 a9 W9 H9
  refine g_dup W9 at_83 (pc' := 84) rfl rfl ?_
  refine g_iload W9 at_84 (pc' := 86) rfl rfl ?_
  refine g_iload W9 at_86 (pc' := 88) rfl rfl ?_
  refine g_dconst1 W9 at_88 (pc' := 89) rfl ?_
  refine g_dconst0 W9 at_89 (pc' := 90) rfl ?_
  refine g_dconst0 W9 at_90 (pc' := 91) rfl ?_
  refine g_dconst0 W9 at_91 (pc' := 92) rfl ?_
  refine g_callI W9 (argsL := [.int t0, .int g0, .double (4607182418800017408 : UInt64), .double 0, .double 0, .double 0]) (st := [.ref a9, .ref a7]) rfl (wd_33 hw) (wd_34 hw) (wd_32 hw) (wd_35 hw) (by decide) (a := a9) (c_arci l Z a0 hw n0 a9 t0 g0 (4607182418800017408 : UInt64) 0 0 0 _ _ H9) pd_25 rfl rfl rfl at_92 (pc' := 95) rfl (by decide) (Wn := 2) (Nat.le_of_eq rfl) (by decide) (kc' := 2) (ks' := 9) rfl rfl (by decide) (by decide) ?_
  intro T10 v10 W10 hp10
  obtain ⟨rfl, H10⟩ := hp10
  show Goes _ _ _ _ (State.setTop _ (mkF _ _ _ [.ref a9, .ref a7]))
  have H11f := Hp.fr1 H10
  refine g_callF W10 (argsL := [.ref a9]) (st := []) (wd_54 hw) (wd_55 hw) (fun _ _ hZ => mvT hZ (wd_56 hw)) (wd_57 hw) (wd_58 hw) (wd_59 hw) (wd_60 hw) (wd_61 hw) (wd_6 hw) (wd_62 hw) (by decide) (a := a7) (H11f.exa (i := 0) rfl) (c_add10 l Z a0 hw n0 de dc hD hA hA0 a7 (0 : Int32) _ a9 ([] : List FR) (fun h L H z => Ins.of_exa (H.exam (z _ (List.mem_cons_self ..))) (wd_88 hw)) _ H11f) pd_26 rfl rfl rfl at_95 (pc' := 100) rfl (by decide) (Wn := 0) (Nat.le_of_eq rfl) (by decide) (kc' := 3) (ks' := 19) rfl rfl (by decide) (by decide) ?_
  intro T12 v12 W12 hp12
  obtain ⟨el1, rfl, H12⟩ := hp12
  show Goes _ _ _ _ (State.setTop _ (mkF _ _ _ [.int (1 : Int32)]))
  refine g_pop W12 at_100 (pc' := 101) rfl rfl ?_
  refine g_aload W12 at_101 (pc' := 103) rfl rfl rfl ?_
  refine g_new W12 (wd_30 hw) (wd_31 hw) (wd_32 hw) (la_Network_Arc hw) (by decide) H12 at_103 (pc' := 106) rfl (kc' := 4) (ks' := 25) rfl rfl (by decide) (by decide) ?_
  intro T13 a13 W13 H13
  refine g_dup W13 at_106 (pc' := 107) rfl rfl ?_
  refine g_iload W13 at_107 (pc' := 109) rfl rfl ?_
  refine g_iload W13 at_109 (pc' := 111) rfl rfl ?_
  refine g_dconst1 W13 at_111 (pc' := 112) rfl ?_
  refine g_dconst0 W13 at_112 (pc' := 113) rfl ?_
  refine g_dconst0 W13 at_113 (pc' := 114) rfl ?_
  refine g_dconst0 W13 at_114 (pc' := 115) rfl ?_
  refine g_callI W13 (argsL := [.int t1, .int g1, .double (4607182418800017408 : UInt64), .double 0, .double 0, .double 0]) (st := [.ref a13, .ref a7]) rfl (wd_33 hw) (wd_34 hw) (wd_32 hw) (wd_35 hw) (by decide) (a := a13) (c_arci l Z a0 hw n0 a13 t1 g1 (4607182418800017408 : UInt64) 0 0 0 _ _ H13) pd_25 rfl rfl rfl at_115 (pc' := 118) rfl (by decide) (Wn := 2) (Nat.le_of_eq rfl) (by decide) (kc' := 4) (ks' := 25) rfl rfl (by decide) (by decide) ?_
  intro T14 v14 W14 hp14
  obtain ⟨rfl, H14⟩ := hp14
  show Goes _ _ _ _ (State.setTop _ (mkF _ _ _ [.ref a13, .ref a7]))
  have H15f := Hp.fr1 H14
  have H16f := Hp.fr2 H15f
  refine g_callF W14 (argsL := [.ref a13]) (st := []) (wd_54 hw) (wd_55 hw) (fun _ _ hZ => mvT hZ (wd_56 hw)) (wd_57 hw) (wd_58 hw) (wd_59 hw) (wd_60 hw) (wd_61 hw) (wd_6 hw) (wd_62 hw) (by decide) (a := a7) (H16f.exa (i := 0) rfl) (c_add11 l Z a0 hw n0 a7 ((0 : Int32) + (1 : Int32)) _ a13 ([] : List FR) (fun h L H z => Ins.of_exa (H.exam (z _ (List.mem_cons_self ..))) (wd_88 hw)) el1 ((List.replicate 10 Value.null).set 0 (.ref a9)) (1 : Int32) 1 (by rw [List.length_set]; decide) (by decide) (by decide) (by rw [List.length_set]; decide) _ H16f) pd_26 rfl rfl rfl at_118 (pc' := 123) rfl (by decide) (Wn := 0) (Nat.le_of_eq rfl) (by decide) (kc' := 4) (ks' := 25) rfl rfl (by decide) (by decide) ?_
  intro T17 v17 W17 hp17
  obtain ⟨rfl, H17⟩ := hp17
  show Goes _ _ _ _ (State.setTop _ (mkF _ _ _ [.int (1 : Int32)]))
  rw [show (1 : Int32) + (1 : Int32) = (2 : Int32) by decide] at H17
  refine g_pop W17 at_123 (pc' := 124) rfl rfl ?_
  refine g_aload W17 at_124 (pc' := 126) rfl rfl rfl ?_
  refine g_new W17 (wd_30 hw) (wd_31 hw) (wd_32 hw) (la_Network_Arc hw) (by decide) H17 at_126 (pc' := 129) rfl (kc' := 5) (ks' := 31) rfl rfl (by decide) (by decide) ?_
  intro T18 a18 W18 H18
  refine g_dup W18 at_129 (pc' := 130) rfl rfl ?_
  refine g_iload W18 at_130 (pc' := 132) rfl rfl ?_
  refine g_iload W18 at_132 (pc' := 134) rfl rfl ?_
  refine g_dconst1 W18 at_134 (pc' := 135) rfl ?_
  refine g_dconst0 W18 at_135 (pc' := 136) rfl ?_
  refine g_dconst0 W18 at_136 (pc' := 137) rfl ?_
  refine g_dconst0 W18 at_137 (pc' := 138) rfl ?_
  refine g_callI W18 (argsL := [.int t2, .int g2, .double (4607182418800017408 : UInt64), .double 0, .double 0, .double 0]) (st := [.ref a18, .ref a7]) rfl (wd_33 hw) (wd_34 hw) (wd_32 hw) (wd_35 hw) (by decide) (a := a18) (c_arci l Z a0 hw n0 a18 t2 g2 (4607182418800017408 : UInt64) 0 0 0 _ _ H18) pd_25 rfl rfl rfl at_138 (pc' := 141) rfl (by decide) (Wn := 2) (Nat.le_of_eq rfl) (by decide) (kc' := 5) (ks' := 31) rfl rfl (by decide) (by decide) ?_
  intro T19 v19 W19 hp19
  obtain ⟨rfl, H19⟩ := hp19
  show Goes _ _ _ _ (State.setTop _ (mkF _ _ _ [.ref a18, .ref a7]))
  have H20f := Hp.fr2 H19
  have H21f := Hp.fr2 H20f
  refine g_callF W19 (argsL := [.ref a18]) (st := []) (wd_54 hw) (wd_55 hw) (fun _ _ hZ => mvT hZ (wd_56 hw)) (wd_57 hw) (wd_58 hw) (wd_59 hw) (wd_60 hw) (wd_61 hw) (wd_6 hw) (wd_62 hw) (by decide) (a := a7) (H21f.exa (i := 0) rfl) (c_add11 l Z a0 hw n0 a7 (((0 : Int32) + (1 : Int32)) + (1 : Int32)) _ a18 ([] : List FR) (fun h L H z => Ins.of_exa (H.exam (z _ (List.mem_cons_self ..))) (wd_88 hw)) el1 (((List.replicate 10 Value.null).set 0 (.ref a9)).set 1 (.ref a13)) (2 : Int32) 2 (by rw [List.length_set, List.length_set]; decide) (by decide) (by decide) (by rw [List.length_set, List.length_set]; decide) _ H21f) pd_26 rfl rfl rfl at_141 (pc' := 146) rfl (by decide) (Wn := 0) (Nat.le_of_eq rfl) (by decide) (kc' := 5) (ks' := 31) rfl rfl (by decide) (by decide) ?_
  intro T22 v22 W22 hp22
  obtain ⟨rfl, H22⟩ := hp22
  show Goes _ _ _ _ (State.setTop _ (mkF _ _ _ [.int (1 : Int32)]))
  rw [show (2 : Int32) + (1 : Int32) = (3 : Int32) by decide] at H22
  refine g_pop W22 at_146 (pc' := 147) rfl rfl ?_
  refine g_iloadN W22 at_147 (pc' := 148) rfl rfl ?_
  refine g_bipush W22 at_148 (pc' := 150) rfl (v := (11 : Int32)) (by decide) ?_
  refine g_iushr W22 at_150 (pc' := 151) rfl rfl ?_
  refine g_bipush W22 at_151 (pc' := 153) rfl (v := (7 : Int32)) (by decide) ?_
  refine g_iand W22 at_153 (pc' := 154) rfl rfl ?_
  refine g_iconst W22 at_154 (pc' := 155) rfl (v := (5 : Int32)) (by decide) ?_
  refine g_irem W22 at_155 (pc' := 156) rfl (by decide) rfl ?_
  generalize h_ft : (((XT.ushr pp (11 : Int32)) &&& (7 : Int32)) - ((XT.ushr pp (11 : Int32)) &&& (7 : Int32)) / (5 : Int32) * (5 : Int32)) = ft
  obtain ⟨ftn, hft⟩ := own_e5 h_ft
  refine g_istore W22 at_156 (pc' := 158) rfl (ls' := #[.val (.int pa), .val (.int pt), .val (.int pp), .val (.int pq), .val (.int t0), .val (.int g0), .val (.int t1), .val (.int g1), .val (.int t2), .val (.int g2), .val (.int q0), .val (.int q1), .val (.int q2), .val (.ref a7), .val (.int ft), .unset, .unset, .unset, .unset, .unset, .unset, .unset, .unset, .unset, .unset, .unset, .unset, .unset, .unset, .unset, .unset, .unset, .unset, .unset, .unset]) rfl ?_
  refine g_new W22 (wd_89 hw) (wd_90 hw) (wd_91 hw) (la_Network hw) (by decide) H22 at_158 (pc' := 161) rfl (kc' := 6) (ks' := 41) rfl rfl (by decide) (by decide) ?_
  intro T23 a23 W23 H23
  refine g_dup W23 at_161 (pc' := 162) rfl rfl ?_
  refine g_iconst W23 at_162 (pc' := 163) rfl (v := (3 : Int32)) (by decide) ?_
  refine g_iload W23 at_163 (pc' := 165) rfl rfl ?_
  refine g_aload W23 at_165 (pc' := 167) rfl rfl rfl ?_
  have H24f := Hp.fr2 H23
  have H25f := Hp.fr2 H24f
  have H26f := Hp.fr2 H25f
  refine g_callI W23 (argsL := [.int (3 : Int32), .int ft, .ref a7]) (st := [.ref a23]) rfl (wd_92 hw) (wd_93 hw) (wd_91 hw) (wd_94 hw) (by decide) (a := a23) (c_net l Z a0 hw n0 a23 a7 el1 ((((0 : Int32) + (1 : Int32)) + (1 : Int32)) + (1 : Int32)) ft ((((List.replicate 10 Value.null).set 0 (.ref a9)).set 1 (.ref a13)).set 2 (.ref a18)) (4607182418800017408 : UInt64) 0 0 0 _ a9 t0 g0 nt0 rfl (mc2 (List.mem_cons_self ..)) ht0 (mem_r bt0.1 bt0.2) a13 t1 g1 nt1 rfl (mc1 (List.mem_cons_self ..)) ht1 (mem_r bt1.1 bt1.2) a18 t2 g2 nt2 rfl (List.mem_cons_self ..) ht2 (mem_r bt2.1 bt2.2) _ H26f) pd_27 rfl rfl rfl at_167 (pc' := 170) rfl (by decide) (Wn := 1) (Nat.le_of_eq rfl) (by decide) (kc' := 15) (ks' := 72) rfl rfl (by decide) (by decide) ?_
  intro T27 v27 W27 hp27
  obtain ⟨tlA, hdA, caA, ffA, bsA, pwA, foA, oaA, J, rfl, H27⟩ := hp27
  show Goes _ _ _ _ (State.setTop _ (mkF _ _ _ [.ref a23]))
  obtain ⟨T, Hd, tm, arcs, netF, hdF, tmF, netC, dirE⟩ : ∃ T Hd tm : Nat → Nat, Arcs T Hd tm ∧ NetF (zP3 nt0 nt1 nt2) (zO3 nt0 nt1 nt2) T ∧ HdF ([g0, g1, g2] : List Int32) Hd ∧ TmF ([FP.i2d q0, FP.i2d q1, FP.i2d q2] : List UInt64) tm ∧ NetC (zP3 nt0 nt1 nt2) (zO3 nt0 nt1 nt2) T ∧ (∀ x y, dir T Hd tm x y = (dst nt2 ng2 nq2 x y (dst nt1 ng1 nq1 x y (dst nt0 ng0 nq0 x y 1000)))) := ⟨_, _, _, arcs_f bt0 bg0 bq0 bt1 bg1 bq1 bt2 bg2 bq2, net_f (mem_r bt0.1 bt0.2) (mem_r bt1.1 bt1.2) (mem_r bt2.1 bt2.2), hd_f hg0 hg1 hg2, tm_f (own_dy hq0) (own_dy hq1) (own_dy hq2), net_c (mem_r bt0.1 bt0.2) (mem_r bt1.1 bt1.2) (mem_r bt2.1 bt2.2), fun x y => rfl⟩
  refine g_astore W27 at_170 (pc' := 172) rfl rfl (ls' := #[.val (.int pa), .val (.int pt), .val (.int pp), .val (.int pq), .val (.int t0), .val (.int g0), .val (.int t1), .val (.int g1), .val (.int t2), .val (.int g2), .val (.int q0), .val (.int q1), .val (.int q2), .val (.ref a7), .val (.int ft), .val (.ref a23), .unset, .unset, .unset, .unset, .unset, .unset, .unset, .unset, .unset, .unset, .unset, .unset, .unset, .unset, .unset, .unset, .unset, .unset, .unset]) rfl ?_
  refine g_iloadN W27 at_172 (pc' := 173) rfl rfl ?_
  refine g_bipush W27 at_173 (pc' := 175) rfl (v := (15 : Int32)) (by decide) ?_
  refine g_iand W27 at_175 (pc' := 176) rfl rfl ?_
  refine g_iconst W27 at_176 (pc' := 177) rfl (v := (3 : Int32)) (by decide) ?_
  refine g_irem W27 at_177 (pc' := 178) rfl (by decide) rfl ?_
  refine g_iconst W27 at_178 (pc' := 179) rfl (v := (1 : Int32)) (by decide) ?_
  refine g_iadd W27 at_179 (pc' := 180) rfl rfl ?_
  generalize h_o1 : (((pp &&& (15 : Int32)) - (pp &&& (15 : Int32)) / (3 : Int32) * (3 : Int32)) + (1 : Int32)) = o1
  obtain ⟨k1, hk1, bk1⟩ := own_e3 h_o1
  refine g_istore W27 at_180 (pc' := 182) rfl (ls' := #[.val (.int pa), .val (.int pt), .val (.int pp), .val (.int pq), .val (.int t0), .val (.int g0), .val (.int t1), .val (.int g1), .val (.int t2), .val (.int g2), .val (.int q0), .val (.int q1), .val (.int q2), .val (.ref a7), .val (.int ft), .val (.ref a23), .val (.int o1), .unset, .unset, .unset, .unset, .unset, .unset, .unset, .unset, .unset, .unset, .unset, .unset, .unset, .unset, .unset, .unset, .unset, .unset]) rfl ?_
  refine g_iload W27 at_182 (pc' := 184) rfl rfl ?_
  refine g_iloadN W27 at_184 (pc' := 185) rfl rfl ?_
  refine g_iconst W27 at_185 (pc' := 186) rfl (v := (4 : Int32)) (by decide) ?_
  refine g_iushr W27 at_186 (pc' := 187) rfl rfl ?_
  refine g_iconst W27 at_187 (pc' := 188) rfl (v := (1 : Int32)) (by decide) ?_
  refine g_iand W27 at_188 (pc' := 189) rfl rfl ?_
  refine g_iadd W27 at_189 (pc' := 190) rfl rfl ?_
  refine g_iconst W27 at_190 (pc' := 191) rfl (v := (3 : Int32)) (by decide) ?_
  refine g_irem W27 at_191 (pc' := 192) rfl (by decide) rfl ?_
  refine g_iconst W27 at_192 (pc' := 193) rfl (v := (1 : Int32)) (by decide) ?_
  refine g_iadd W27 at_193 (pc' := 194) rfl rfl ?_
  generalize h_d1 : (((o1 + ((XT.ushr pp (4 : Int32)) &&& (1 : Int32))) - (o1 + ((XT.ushr pp (4 : Int32)) &&& (1 : Int32))) / (3 : Int32) * (3 : Int32)) + (1 : Int32)) = d1
  obtain ⟨k2, hk2, bk2⟩ := own_d3 hk1 bk1 h_d1
  refine g_istore W27 at_194 (pc' := 196) rfl (ls' := #[.val (.int pa), .val (.int pt), .val (.int pp), .val (.int pq), .val (.int t0), .val (.int g0), .val (.int t1), .val (.int g1), .val (.int t2), .val (.int g2), .val (.int q0), .val (.int q1), .val (.int q2), .val (.ref a7), .val (.int ft), .val (.ref a23), .val (.int o1), .val (.int d1), .unset, .unset, .unset, .unset, .unset, .unset, .unset, .unset, .unset, .unset, .unset, .unset, .unset, .unset, .unset, .unset, .unset]) rfl ?_
  refine g_iloadN W27 at_196 (pc' := 197) rfl rfl ?_
  refine g_iconst W27 at_197 (pc' := 198) rfl (v := (5 : Int32)) (by decide) ?_
  refine g_iushr W27 at_198 (pc' := 199) rfl rfl ?_
  refine g_bipush W27 at_199 (pc' := 201) rfl (v := (15 : Int32)) (by decide) ?_
  refine g_iand W27 at_201 (pc' := 202) rfl rfl ?_
  refine g_iconst W27 at_202 (pc' := 203) rfl (v := (3 : Int32)) (by decide) ?_
  refine g_irem W27 at_203 (pc' := 204) rfl (by decide) rfl ?_
  refine g_iconst W27 at_204 (pc' := 205) rfl (v := (1 : Int32)) (by decide) ?_
  refine g_iadd W27 at_205 (pc' := 206) rfl rfl ?_
  generalize h_o2 : ((((XT.ushr pp (5 : Int32)) &&& (15 : Int32)) - ((XT.ushr pp (5 : Int32)) &&& (15 : Int32)) / (3 : Int32) * (3 : Int32)) + (1 : Int32)) = o2
  obtain ⟨k3, hk3, bk3⟩ := own_e3 h_o2
  refine g_istore W27 at_206 (pc' := 208) rfl (ls' := #[.val (.int pa), .val (.int pt), .val (.int pp), .val (.int pq), .val (.int t0), .val (.int g0), .val (.int t1), .val (.int g1), .val (.int t2), .val (.int g2), .val (.int q0), .val (.int q1), .val (.int q2), .val (.ref a7), .val (.int ft), .val (.ref a23), .val (.int o1), .val (.int d1), .val (.int o2), .unset, .unset, .unset, .unset, .unset, .unset, .unset, .unset, .unset, .unset, .unset, .unset, .unset, .unset, .unset, .unset]) rfl ?_
  refine g_iload W27 at_208 (pc' := 210) rfl rfl ?_
  refine g_iloadN W27 at_210 (pc' := 211) rfl rfl ?_
  refine g_bipush W27 at_211 (pc' := 213) rfl (v := (9 : Int32)) (by decide) ?_
  refine g_iushr W27 at_213 (pc' := 214) rfl rfl ?_
  refine g_iconst W27 at_214 (pc' := 215) rfl (v := (1 : Int32)) (by decide) ?_
  refine g_iand W27 at_215 (pc' := 216) rfl rfl ?_
  refine g_iadd W27 at_216 (pc' := 217) rfl rfl ?_
  refine g_iconst W27 at_217 (pc' := 218) rfl (v := (3 : Int32)) (by decide) ?_
  refine g_irem W27 at_218 (pc' := 219) rfl (by decide) rfl ?_
  refine g_iconst W27 at_219 (pc' := 220) rfl (v := (1 : Int32)) (by decide) ?_
  refine g_iadd W27 at_220 (pc' := 221) rfl rfl ?_
  generalize h_d2 : (((o2 + ((XT.ushr pp (9 : Int32)) &&& (1 : Int32))) - (o2 + ((XT.ushr pp (9 : Int32)) &&& (1 : Int32))) / (3 : Int32) * (3 : Int32)) + (1 : Int32)) = d2
  obtain ⟨k4, hk4, bk4⟩ := own_d3 hk3 bk3 h_d2
  refine g_istore W27 at_221 (pc' := 223) rfl (ls' := #[.val (.int pa), .val (.int pt), .val (.int pp), .val (.int pq), .val (.int t0), .val (.int g0), .val (.int t1), .val (.int g1), .val (.int t2), .val (.int g2), .val (.int q0), .val (.int q1), .val (.int q2), .val (.ref a7), .val (.int ft), .val (.ref a23), .val (.int o1), .val (.int d1), .val (.int o2), .val (.int d2), .unset, .unset, .unset, .unset, .unset, .unset, .unset, .unset, .unset, .unset, .unset, .unset, .unset, .unset, .unset]) rfl ?_
  refine g_iloadN W27 at_223 (pc' := 224) rfl rfl ?_
  refine g_bipush W27 at_224 (pc' := 226) rfl (v := (10 : Int32)) (by decide) ?_
  refine g_iushr W27 at_226 (pc' := 227) rfl rfl ?_
  refine g_iconst W27 at_227 (pc' := 228) rfl (v := (1 : Int32)) (by decide) ?_
  refine g_iand W27 at_228 (pc' := 229) rfl rfl ?_
  have H28f := Hp.fr2 H27
  have H29f := Hp.fr4 H28f
  have H30f := Hp.fr4 H29f
  have H31f := Hp.fr3 H30f
  have TW : ∀ (TJTW : State) (QF : List HRow) (tw : Int32) (htw : tw = 0 ∨ tw = 1), Wk Z x code maxLocals ret n0 p l e room_1 s m #[.int pa, .int pt, .int pp, .int pq] below meth c TJTW 15 72 → Hp Z n0 TJTW.heap ((a23, o_Network Z (.int (3 : Int32)) (.int ft) (.ref tlA) (.ref hdA) (.ref caA) (.ref ffA) (.ref bsA) (.ref pwA) (.ref foA) (.ref oaA)) :: (foA, IaC Z (zP3 nt0 nt1 nt2)) :: (oaA, IaC Z (zO3 nt0 nt1 nt2)) :: (hdA, IaC Z ([g0, g1, g2] : List Int32)) :: QF) → Goes p e below (En s n0 (Room.cells room_1) (Room.slots room_1) (fun v _ => v = some (.int 1))) (TJTW.setTop (mkF m 237 #[.val (.int pa), .val (.int pt), .val (.int pp), .val (.int pq), .val (.int t0), .val (.int g0), .val (.int t1), .val (.int g1), .val (.int t2), .val (.int g2), .val (.int q0), .val (.int q1), .val (.int q2), .val (.ref a7), .val (.int ft), .val (.ref a23), .val (.int o1), .val (.int d1), .val (.int o2), .val (.int d2), .unset, .unset, .unset, .unset, .unset, .unset, .unset, .unset, .unset, .unset, .unset, .unset, .unset, .unset, .unset] [.int tw])) := by
    intro TJTW QF tw htw WJTW HJTW
    refine g_istore WJTW at_237 (pc' := 239) rfl (ls' := #[.val (.int pa), .val (.int pt), .val (.int pp), .val (.int pq), .val (.int t0), .val (.int g0), .val (.int t1), .val (.int g1), .val (.int t2), .val (.int g2), .val (.int q0), .val (.int q1), .val (.int q2), .val (.ref a7), .val (.int ft), .val (.ref a23), .val (.int o1), .val (.int d1), .val (.int o2), .val (.int d2), .val (.int tw), .unset, .unset, .unset, .unset, .unset, .unset, .unset, .unset, .unset, .unset, .unset, .unset, .unset, .unset]) rfl ?_
    refine g_new WJTW (wd_4 hw) (wd_5 hw) (wd_6 hw) (la_ArrayList hw) (by decide) HJTW at_239 (pc' := 242) rfl (kc' := 16) (ks' := 75) rfl rfl (by decide) (by decide) ?_
    intro T32 a32 W32 H32
    refine g_dup W32 at_242 (pc' := 243) rfl rfl ?_
    refine g_callI W32 (argsL := []) (st := [.ref a32]) rfl (wd_7 hw) (wd_8 hw) (wd_6 hw) (wd_9 hw) (by decide) (a := a32) (c_alini l Z a0 hw n0 de dc hD hA hA0 a32 _ _ H32) pd_0 rfl rfl rfl at_243 (pc' := 246) rfl (by decide) (Wn := 1) (Nat.le_of_eq rfl) (by decide) (kc' := 16) (ks' := 75) rfl rfl (by decide) (by decide) ?_
    intro T33 v33 W33 hp33
    obtain ⟨rfl, H33⟩ := hp33
    show Goes _ _ _ _ (State.setTop _ (mkF _ _ _ [.ref a32]))
    refine g_astore W33 at_246 (pc' := 248) rfl rfl (ls' := #[.val (.int pa), .val (.int pt), .val (.int pp), .val (.int pq), .val (.int t0), .val (.int g0), .val (.int t1), .val (.int g1), .val (.int t2), .val (.int g2), .val (.int q0), .val (.int q1), .val (.int q2), .val (.ref a7), .val (.int ft), .val (.ref a23), .val (.int o1), .val (.int d1), .val (.int o2), .val (.int d2), .val (.int tw), .val (.ref a32), .unset, .unset, .unset, .unset, .unset, .unset, .unset, .unset, .unset, .unset, .unset, .unset, .unset]) rfl ?_
    refine g_aload W33 at_248 (pc' := 250) rfl rfl rfl ?_
    refine g_new W33 (wd_188 hw) (wd_189 hw) (wd_190 hw) (la_TripTable_Pair hw) (by decide) H33 at_250 (pc' := 253) rfl (kc' := 17) (ks' := 77) rfl rfl (by decide) (by decide) ?_
    intro T34 a34 W34 H34
    refine g_dup W34 at_253 (pc' := 254) rfl rfl ?_
    refine g_iload W34 at_254 (pc' := 256) rfl rfl ?_
    refine g_iload W34 at_256 (pc' := 258) rfl rfl ?_
    refine g_callI W34 (argsL := [.int o1, .int d1]) (st := [.ref a34, .ref a32]) rfl (wd_191 hw) (wd_192 hw) (wd_190 hw) (wd_193 hw) (by decide) (a := a34) (c_pri l Z a0 hw n0 a34 o1 d1 _ _ H34) pd_28 rfl rfl rfl at_258 (pc' := 261) rfl (by decide) (Wn := 2) (Nat.le_of_eq rfl) (by decide) (kc' := 17) (ks' := 77) rfl rfl (by decide) (by decide) ?_
    intro T35 v35 W35 hp35
    obtain ⟨rfl, H35⟩ := hp35
    show Goes _ _ _ _ (State.setTop _ (mkF _ _ _ [.ref a34, .ref a32]))
    have H36f := Hp.fr1 H35
    refine g_callF W35 (argsL := [.ref a34]) (st := []) (wd_54 hw) (wd_55 hw) (fun _ _ hZ => mvT hZ (wd_56 hw)) (wd_57 hw) (wd_58 hw) (wd_59 hw) (wd_60 hw) (wd_61 hw) (wd_6 hw) (wd_62 hw) (by decide) (a := a32) (H36f.exa (i := 0) rfl) (c_add10 l Z a0 hw n0 de dc hD hA hA0 a32 (0 : Int32) _ a34 ([] : List FR) (fun h L H z => Ins.of_exa (H.exam (z _ (List.mem_cons_self ..))) (wd_199 hw)) _ H36f) pd_26 rfl rfl rfl at_261 (pc' := 266) rfl (by decide) (Wn := 0) (Nat.le_of_eq rfl) (by decide) (kc' := 18) (ks' := 87) rfl rfl (by decide) (by decide) ?_
    intro T37 v37 W37 hp37
    obtain ⟨el2, rfl, H37⟩ := hp37
    show Goes _ _ _ _ (State.setTop _ (mkF _ _ _ [.int (1 : Int32)]))
    refine g_pop W37 at_266 (pc' := 267) rfl rfl ?_
    refine g_iload W37 at_267 (pc' := 269) rfl rfl ?_
    have PA : ∀ (TJPA : State) (mcP sz : Int32) (lvP : List Value) (PF : List HRow) (hlP : lvP.length.toInt32 = 10) (hl0 : lvP[0]? = some (.ref a34)) (hp1 : (a34, o_TripTable_Pair Z (.int o1) (.int d1)) ∈ PF) (hcs : (tw = 0 ∧ sz = 1) ∨ (tw = 1 ∧ sz = 2 ∧ ∃ p2, lvP[1]? = some (.ref p2) ∧ (p2, o_TripTable_Pair Z (.int o2) (.int d2)) ∈ PF)), Wk Z x code maxLocals ret n0 p l e room_1 s m #[.int pa, .int pt, .int pp, .int pq] below meth c TJPA 19 89 → Hp Z n0 TJPA.heap ((a32, o_ArrayList Z (.int mcP) (.ref el2) (.int sz)) :: (el2, RaC Z "java/lang/Object" lvP) :: (a23, o_Network Z (.int (3 : Int32)) (.int ft) (.ref tlA) (.ref hdA) (.ref caA) (.ref ffA) (.ref bsA) (.ref pwA) (.ref foA) (.ref oaA)) :: (foA, IaC Z (zP3 nt0 nt1 nt2)) :: (oaA, IaC Z (zO3 nt0 nt1 nt2)) :: (hdA, IaC Z ([g0, g1, g2] : List Int32)) :: PF) → Goes p e below (En s n0 (Room.cells room_1) (Room.slots room_1) (fun v _ => v = some (.int 1))) (TJPA.setTop (mkF m 291 #[.val (.int pa), .val (.int pt), .val (.int pp), .val (.int pq), .val (.int t0), .val (.int g0), .val (.int t1), .val (.int g1), .val (.int t2), .val (.int g2), .val (.int q0), .val (.int q1), .val (.int q2), .val (.ref a7), .val (.int ft), .val (.ref a23), .val (.int o1), .val (.int d1), .val (.int o2), .val (.int d2), .val (.int tw), .val (.ref a32), .unset, .unset, .unset, .unset, .unset, .unset, .unset, .unset, .unset, .unset, .unset, .unset, .unset] [])) := by
      intro TJPA mcP sz lvP PF hlP hl0 hp1 hcs WJPA HJPA
      refine g_iconst WJPA at_291 (pc' := 292) rfl (v := (3 : Int32)) (by decide) ?_
      refine g_newarr (aty := .double) WJPA (wd_113 hw) HJPA (by decide) (vs := [.double 0, .double 0, .double 0]) rfl (cap := 3) (Nat.le_of_eq rfl) (by decide) at_292 (pc' := 294) rfl (kc' := 20) (ks' := 92) rfl rfl (by decide) (by decide) ?_
      intro T38 a38 W38 H38
      replace H38 : Hp Z n0 T38.heap ((a38, ArC Z .double [.double 0, .double 0, .double 0]) :: (a32, o_ArrayList Z (.int mcP) (.ref el2) (.int sz)) :: (el2, RaC Z "java/lang/Object" lvP) :: (a23, o_Network Z (.int (3 : Int32)) (.int ft) (.ref tlA) (.ref hdA) (.ref caA) (.ref ffA) (.ref bsA) (.ref pwA) (.ref foA) (.ref oaA)) :: (foA, IaC Z (zP3 nt0 nt1 nt2)) :: (oaA, IaC Z (zO3 nt0 nt1 nt2)) :: (hdA, IaC Z ([g0, g1, g2] : List Int32)) :: PF) := H38
      refine g_dup W38 at_294 (pc' := 295) rfl rfl ?_
      refine g_iconst W38 at_295 (pc' := 296) rfl (v := (0 : Int32)) (by decide) ?_
      refine g_iload W38 at_296 (pc' := 298) rfl rfl ?_
      refine g_i2d W38 at_298 (pc' := 299) rfl rfl ?_
      refine g_dastore W38 H38 (i := 0) rfl (jx := 0) (by decide) (by exact (by decide : 0 < 3)) at_299 (pc' := 300) rfl (L' := ((a38, ArC Z .double [.double (FP.i2d q0), .double 0, .double 0]) :: (a32, o_ArrayList Z (.int mcP) (.ref el2) (.int sz)) :: (el2, RaC Z "java/lang/Object" lvP) :: (a23, o_Network Z (.int (3 : Int32)) (.int ft) (.ref tlA) (.ref hdA) (.ref caA) (.ref ffA) (.ref bsA) (.ref pwA) (.ref foA) (.ref oaA)) :: (foA, IaC Z (zP3 nt0 nt1 nt2)) :: (oaA, IaC Z (zO3 nt0 nt1 nt2)) :: (hdA, IaC Z ([g0, g1, g2] : List Int32)) :: PF)) rfl ?_
      intro T39 W39 H39
      refine g_dup W39 at_300 (pc' := 301) rfl rfl ?_
      refine g_iconst W39 at_301 (pc' := 302) rfl (v := (1 : Int32)) (by decide) ?_
      refine g_iload W39 at_302 (pc' := 304) rfl rfl ?_
      refine g_i2d W39 at_304 (pc' := 305) rfl rfl ?_
      refine g_dastore W39 H39 (i := 0) rfl (jx := 1) (by decide) (by exact (by decide : 1 < 3)) at_305 (pc' := 306) rfl (L' := ((a38, ArC Z .double [.double (FP.i2d q0), .double (FP.i2d q1), .double 0]) :: (a32, o_ArrayList Z (.int mcP) (.ref el2) (.int sz)) :: (el2, RaC Z "java/lang/Object" lvP) :: (a23, o_Network Z (.int (3 : Int32)) (.int ft) (.ref tlA) (.ref hdA) (.ref caA) (.ref ffA) (.ref bsA) (.ref pwA) (.ref foA) (.ref oaA)) :: (foA, IaC Z (zP3 nt0 nt1 nt2)) :: (oaA, IaC Z (zO3 nt0 nt1 nt2)) :: (hdA, IaC Z ([g0, g1, g2] : List Int32)) :: PF)) rfl ?_
      intro T40 W40 H40
      refine g_dup W40 at_306 (pc' := 307) rfl rfl ?_
      refine g_iconst W40 at_307 (pc' := 308) rfl (v := (2 : Int32)) (by decide) ?_
      refine g_iload W40 at_308 (pc' := 310) rfl rfl ?_
      refine g_i2d W40 at_310 (pc' := 311) rfl rfl ?_
      refine g_dastore W40 H40 (i := 0) rfl (jx := 2) (by decide) (by exact (by decide : 2 < 3)) at_311 (pc' := 312) rfl (L' := ((a38, ArC Z .double [.double (FP.i2d q0), .double (FP.i2d q1), .double (FP.i2d q2)]) :: (a32, o_ArrayList Z (.int mcP) (.ref el2) (.int sz)) :: (el2, RaC Z "java/lang/Object" lvP) :: (a23, o_Network Z (.int (3 : Int32)) (.int ft) (.ref tlA) (.ref hdA) (.ref caA) (.ref ffA) (.ref bsA) (.ref pwA) (.ref foA) (.ref oaA)) :: (foA, IaC Z (zP3 nt0 nt1 nt2)) :: (oaA, IaC Z (zO3 nt0 nt1 nt2)) :: (hdA, IaC Z ([g0, g1, g2] : List Int32)) :: PF)) rfl ?_
      intro T41 W41 H41
      replace H41 : Hp Z n0 T41.heap ((a38, DaC Z ([FP.i2d q0, FP.i2d q1, FP.i2d q2] : List UInt64)) :: (a32, o_ArrayList Z (.int mcP) (.ref el2) (.int sz)) :: (el2, RaC Z "java/lang/Object" lvP) :: (a23, o_Network Z (.int (3 : Int32)) (.int ft) (.ref tlA) (.ref hdA) (.ref caA) (.ref ffA) (.ref bsA) (.ref pwA) (.ref foA) (.ref oaA)) :: (foA, IaC Z (zP3 nt0 nt1 nt2)) :: (oaA, IaC Z (zO3 nt0 nt1 nt2)) :: (hdA, IaC Z ([g0, g1, g2] : List Int32)) :: PF) := H41
      refine g_astore W41 at_312 (pc' := 314) rfl rfl (ls' := #[.val (.int pa), .val (.int pt), .val (.int pp), .val (.int pq), .val (.int t0), .val (.int g0), .val (.int t1), .val (.int g1), .val (.int t2), .val (.int g2), .val (.int q0), .val (.int q1), .val (.int q2), .val (.ref a7), .val (.int ft), .val (.ref a23), .val (.int o1), .val (.int d1), .val (.int o2), .val (.int d2), .val (.int tw), .val (.ref a32), .val (.ref a38), .unset, .unset, .unset, .unset, .unset, .unset, .unset, .unset, .unset, .unset, .unset, .unset]) rfl ?_
      refine g_new W41 (wd_200 hw) (wd_201 hw) (wd_202 hw) (la_RouteTimes hw) (by decide) H41 at_314 (pc' := 317) rfl (kc' := 21) (ks' := 94) rfl rfl (by decide) (by decide) ?_
      intro T42 a42 W42 H42
      refine g_dup W42 at_317 (pc' := 318) rfl rfl ?_
      refine g_aload W42 at_318 (pc' := 320) rfl rfl rfl ?_
      refine g_aload W42 at_320 (pc' := 322) rfl rfl rfl ?_
      refine g_aload W42 at_322 (pc' := 324) rfl rfl rfl ?_
      have H43f := Hp.fr3 H42
      have H44f := Hp.fr3 H43f
      have H45f := Hp.fr3 H44f
      have H46f := Hp.fr7 H45f
      have H47f := Hp.fr7 H46f
      have H48f := Hp.fr7 H47f
      have H49f := Hp.fr7 H48f
      have H50f := Hp.fr7 H49f
      refine g_callI W42 (argsL := [.ref a23, .ref a38, .ref a32]) (st := [.ref a42]) rfl (wd_203 hw) (wd_204 hw) (wd_202 hw) (wd_205 hw) (by decide) (a := a42) (c_rtini l Z a0 hw n0 em hEm hEx ca cc hH hCa hB a42 a23 tlA hdA caA ffA bsA pwA foA oaA a38 a32 el2 a34 ft mcP sz (zP3 nt0 nt1 nt2) (zO3 nt0 nt1 nt2) ([g0, g1, g2] : List Int32) ([FP.i2d q0, FP.i2d q1, FP.i2d q2] : List UInt64) lvP ftn T Hd tm hft arcs netF hdF tmF netC _ hlP o1 k1 hk1 bk1 d1 k2 hk2 bk2 o2 k3 hk3 bk3 d2 k4 hk4 bk4 hl0 hp1 (hcs.imp (fun z => z.2) (fun z => z.2)) _ H50f) pd_29 rfl rfl rfl at_324 (pc' := 327) rfl (by decide) (Wn := 1) (Nat.le_of_eq rfl) (by decide) (kc' := 37) (ks' := 151) rfl rfl (by decide) (by decide) ?_
      intro T51 v51 W51 hp51
      obtain ⟨rA, tA, RL, xs, J, Rw, rfl, H51, rr, s1, s2, s34, tk⟩ := hp51
      show Goes _ _ _ _ (State.setTop _ (mkF _ _ _ [.ref a42]))
      refine g_astore W51 at_327 (pc' := 329) rfl rfl (ls' := #[.val (.int pa), .val (.int pt), .val (.int pp), .val (.int pq), .val (.int t0), .val (.int g0), .val (.int t1), .val (.int g1), .val (.int t2), .val (.int g2), .val (.int q0), .val (.int q1), .val (.int q2), .val (.ref a7), .val (.int ft), .val (.ref a23), .val (.int o1), .val (.int d1), .val (.int o2), .val (.int d2), .val (.int tw), .val (.ref a32), .val (.ref a38), .val (.ref a42), .unset, .unset, .unset, .unset, .unset, .unset, .unset, .unset, .unset, .unset, .unset]) rfl ?_
      refine g_iconst W51 at_329 (pc' := 330) rfl (v := (4 : Int32)) (by decide) ?_
      refine g_newarr (aty := .int) W51 (wd_108 hw) H51 (by decide) (vs := [.int 0, .int 0, .int 0, .int 0]) rfl (cap := 4) (Nat.le_of_eq rfl) (by decide) at_330 (pc' := 332) rfl (kc' := 38) (ks' := 155) rfl rfl (by decide) (by decide) ?_
      intro T52 a52 W52 H52
      replace H52 : Hp Z n0 T52.heap ((a52, ArC Z .int [.int 0, .int 0, .int 0, .int 0]) :: (a42, o_RouteTimes Z (.ref rA) (.ref tA)) :: (rA, IaC Z RL) :: (tA, ArC Z (.array .double) xs) :: J) := H52
      refine g_dup W52 at_332 (pc' := 333) rfl rfl ?_
      refine g_iconst W52 at_333 (pc' := 334) rfl (v := (0 : Int32)) (by decide) ?_
      refine g_iload W52 at_334 (pc' := 336) rfl rfl ?_
      refine g_iastore W52 H52 (i := 0) rfl (jx := 0) (by decide) (by exact (by decide : 0 < 4)) at_336 (pc' := 337) rfl (L' := ((a52, ArC Z .int [.int o1, .int 0, .int 0, .int 0]) :: (a42, o_RouteTimes Z (.ref rA) (.ref tA)) :: (rA, IaC Z RL) :: (tA, ArC Z (.array .double) xs) :: J)) rfl ?_
      intro T53 W53 H53
      refine g_dup W53 at_337 (pc' := 338) rfl rfl ?_
      refine g_iconst W53 at_338 (pc' := 339) rfl (v := (1 : Int32)) (by decide) ?_
      refine g_iload W53 at_339 (pc' := 341) rfl rfl ?_
      refine g_iastore W53 H53 (i := 0) rfl (jx := 1) (by decide) (by exact (by decide : 1 < 4)) at_341 (pc' := 342) rfl (L' := ((a52, ArC Z .int [.int o1, .int d1, .int 0, .int 0]) :: (a42, o_RouteTimes Z (.ref rA) (.ref tA)) :: (rA, IaC Z RL) :: (tA, ArC Z (.array .double) xs) :: J)) rfl ?_
      intro T54 W54 H54
      refine g_dup W54 at_342 (pc' := 343) rfl rfl ?_
      refine g_iconst W54 at_343 (pc' := 344) rfl (v := (2 : Int32)) (by decide) ?_
      refine g_iload W54 at_344 (pc' := 346) rfl rfl ?_
      refine g_iastore W54 H54 (i := 0) rfl (jx := 2) (by decide) (by exact (by decide : 2 < 4)) at_346 (pc' := 347) rfl (L' := ((a52, ArC Z .int [.int o1, .int d1, .int o2, .int 0]) :: (a42, o_RouteTimes Z (.ref rA) (.ref tA)) :: (rA, IaC Z RL) :: (tA, ArC Z (.array .double) xs) :: J)) rfl ?_
      intro T55 W55 H55
      refine g_dup W55 at_347 (pc' := 348) rfl rfl ?_
      refine g_iconst W55 at_348 (pc' := 349) rfl (v := (3 : Int32)) (by decide) ?_
      refine g_iload W55 at_349 (pc' := 351) rfl rfl ?_
      refine g_iastore W55 H55 (i := 0) rfl (jx := 3) (by decide) (by exact (by decide : 3 < 4)) at_351 (pc' := 352) rfl (L' := ((a52, ArC Z .int [.int o1, .int d1, .int o2, .int d2]) :: (a42, o_RouteTimes Z (.ref rA) (.ref tA)) :: (rA, IaC Z RL) :: (tA, ArC Z (.array .double) xs) :: J)) rfl ?_
      intro T56 W56 H56
      refine g_astore W56 at_352 (pc' := 354) rfl rfl (ls' := #[.val (.int pa), .val (.int pt), .val (.int pp), .val (.int pq), .val (.int t0), .val (.int g0), .val (.int t1), .val (.int g1), .val (.int t2), .val (.int g2), .val (.int q0), .val (.int q1), .val (.int q2), .val (.ref a7), .val (.int ft), .val (.ref a23), .val (.int o1), .val (.int d1), .val (.int o2), .val (.int d2), .val (.int tw), .val (.ref a32), .val (.ref a38), .val (.ref a42), .val (.ref a52), .unset, .unset, .unset, .unset, .unset, .unset, .unset, .unset, .unset, .unset]) rfl ?_
      refine g_iload W56 at_354 (pc' := 356) rfl rfl ?_
      have QV : ∀ (TJQV : State) (mk u w : Int32) (un wn : Nat) (hu : u.toInt = (un : Int)) (bu : 1 ≤ un ∧ un ≤ 3) (ru : 0 ≤ Rw un) (hv : w.toInt = (wn : Int)) (bv : 1 ≤ wn ∧ wn ≤ 3) (rv : 0 ≤ Rw wn), Wk Z x code maxLocals ret n0 p l e room_1 s m #[.int pa, .int pt, .int pp, .int pq] below meth c TJQV 38 155 → Hp Z n0 TJQV.heap ((a52, ArC Z .int [.int o1, .int d1, .int o2, .int d2]) :: (a42, o_RouteTimes Z (.ref rA) (.ref tA)) :: (rA, IaC Z RL) :: (tA, ArC Z (.array .double) xs) :: J) → Goes p e below (En s n0 (Room.cells room_1) (Room.slots room_1) (fun v _ => v = some (.int 1))) (TJQV.setTop (mkF m 386 #[.val (.int pa), .val (.int pt), .val (.int pp), .val (.int pq), .val (.int t0), .val (.int g0), .val (.int t1), .val (.int g1), .val (.int t2), .val (.int g2), .val (.int q0), .val (.int q1), .val (.int q2), .val (.ref a7), .val (.int ft), .val (.ref a23), .val (.int o1), .val (.int d1), .val (.int o2), .val (.int d2), .val (.int tw), .val (.ref a32), .val (.ref a38), .val (.ref a42), .val (.ref a52), .val (.int mk), .val (.int u), .val (.int w), .unset, .unset, .unset, .unset, .unset, .unset, .unset] [])) := by
        intro TJQV mk u w un wn hu bu ru hv bv rv WJQV HJQV
        obtain ⟨xR, row, r, gx, hm, gr, dvr⟩ := tk un wn bu.1 bu.2 bv.1 bv.2 ru rv
        obtain ⟨fu, gu, hfu⟩ := rr.2 un (by omega)
        obtain ⟨fw, gw, hfw⟩ := rr.2 wn (by omega)
        refine g_aload WJQV at_386 (pc' := 388) rfl rfl rfl ?_
        refine g_iload WJQV at_388 (pc' := 390) rfl rfl ?_
        refine g_iload WJQV at_390 (pc' := 392) rfl rfl ?_
        have H57f := Hp.fr3 HJQV
        have H58f := Hp.fr3 H57f
        have H59f := Hp.fr3 H58f
        refine g_callV WJQV (argsL := [.int u, .int w]) (st := []) (wd_445 hw) (wd_446 hw) (wd_448 hw) (wd_447 hw) (wd_202 hw) (wd_449 hw) (by decide) (a := a42) H59f (i := 0) rfl (c_time l Z a0 hw n0 a42 rA tA xR RL xs row u w fu fw un wn (Rw un).toNat (Rw wn).toNat r hu hv gu gw (hfu.trans (Int.toNat_of_nonneg ru).symm) (hfw.trans (Int.toNat_of_nonneg rv).symm) gx gr _ (List.mem_cons_of_mem _ hm) _ H59f) pd_30 rfl rfl rfl at_392 (pc' := 395) rfl (by decide) (Wn := 0) (Nat.le_of_eq rfl) (by decide) (kc' := 38) (ks' := 155) rfl rfl (by decide) (by decide) ?_
        intro T60 v60 W60 hp60
        obtain ⟨rfl, H60⟩ := hp60
        show Goes _ _ _ _ (State.setTop _ (mkF _ _ _ [.double r]))
        refine g_dstore W60 at_395 (pc' := 397) rfl (ls' := #[.val (.int pa), .val (.int pt), .val (.int pp), .val (.int pq), .val (.int t0), .val (.int g0), .val (.int t1), .val (.int g1), .val (.int t2), .val (.int g2), .val (.int q0), .val (.int q1), .val (.int q2), .val (.ref a7), .val (.int ft), .val (.ref a23), .val (.int o1), .val (.int d1), .val (.int o2), .val (.int d2), .val (.int tw), .val (.ref a32), .val (.ref a38), .val (.ref a42), .val (.ref a52), .val (.int mk), .val (.int u), .val (.int w), .val (.double r), .second, .unset, .unset, .unset, .unset, .unset]) rfl ?_
        refine g_iconst W60 at_397 (pc' := 398) rfl (v := (3 : Int32)) (by decide) ?_
        refine g_newarrI W60 (wd_108 hw) H60 (by decide) (n := 3) (by decide) (cap := 3) (by decide) (by decide) at_398 (pc' := 400) rfl (kc' := 39) (ks' := 158) rfl rfl (by decide) (by decide) ?_
        intro T61 a61 W61 H61
        refine g_dup W61 at_400 (pc' := 401) rfl rfl ?_
        refine g_iconst W61 at_401 (pc' := 402) rfl (v := (0 : Int32)) (by decide) ?_
        refine g_iload W61 at_402 (pc' := 404) rfl rfl ?_
        refine g_iastoreI W61 H61 (i := 0) rfl (jx := 0) (by decide) (by exact (by decide : 0 < 3)) at_404 (pc' := 405) rfl (L' := ((a61, IaC Z ([t0, 0, 0] : List Int32)) :: (a42, o_RouteTimes Z (.ref rA) (.ref tA)) :: (rA, IaC Z RL) :: (tA, ArC Z (.array .double) xs) :: (a52, ArC Z .int [.int o1, .int d1, .int o2, .int d2]) :: J)) rfl ?_
        intro T62 W62 H62
        refine g_dup W62 at_405 (pc' := 406) rfl rfl ?_
        refine g_iconst W62 at_406 (pc' := 407) rfl (v := (1 : Int32)) (by decide) ?_
        refine g_iload W62 at_407 (pc' := 409) rfl rfl ?_
        refine g_iastoreI W62 H62 (i := 0) rfl (jx := 1) (by decide) (by exact (by decide : 1 < 3)) at_409 (pc' := 410) rfl (L' := ((a61, IaC Z ([t0, t1, 0] : List Int32)) :: (a42, o_RouteTimes Z (.ref rA) (.ref tA)) :: (rA, IaC Z RL) :: (tA, ArC Z (.array .double) xs) :: (a52, ArC Z .int [.int o1, .int d1, .int o2, .int d2]) :: J)) rfl ?_
        intro T63 W63 H63
        refine g_dup W63 at_410 (pc' := 411) rfl rfl ?_
        refine g_iconst W63 at_411 (pc' := 412) rfl (v := (2 : Int32)) (by decide) ?_
        refine g_iload W63 at_412 (pc' := 414) rfl rfl ?_
        refine g_iastoreI W63 H63 (i := 0) rfl (jx := 2) (by decide) (by exact (by decide : 2 < 3)) at_414 (pc' := 415) rfl (L' := ((a61, IaC Z ([t0, t1, t2] : List Int32)) :: (a42, o_RouteTimes Z (.ref rA) (.ref tA)) :: (rA, IaC Z RL) :: (tA, ArC Z (.array .double) xs) :: (a52, ArC Z .int [.int o1, .int d1, .int o2, .int d2]) :: J)) rfl ?_
        intro T64 W64 H64
        refine g_astore W64 at_415 (pc' := 417) rfl rfl (ls' := #[.val (.int pa), .val (.int pt), .val (.int pp), .val (.int pq), .val (.int t0), .val (.int g0), .val (.int t1), .val (.int g1), .val (.int t2), .val (.int g2), .val (.int q0), .val (.int q1), .val (.int q2), .val (.ref a7), .val (.int ft), .val (.ref a23), .val (.int o1), .val (.int d1), .val (.int o2), .val (.int d2), .val (.int tw), .val (.ref a32), .val (.ref a38), .val (.ref a42), .val (.ref a52), .val (.int mk), .val (.int u), .val (.int w), .val (.double r), .second, .val (.ref a61), .unset, .unset, .unset, .unset]) rfl ?_
        refine g_iconst W64 at_417 (pc' := 418) rfl (v := (3 : Int32)) (by decide) ?_
        refine g_newarrI W64 (wd_108 hw) H64 (by decide) (n := 3) (by decide) (cap := 3) (by decide) (by decide) at_418 (pc' := 420) rfl (kc' := 40) (ks' := 161) rfl rfl (by decide) (by decide) ?_
        intro T65 a65 W65 H65
        refine g_dup W65 at_420 (pc' := 421) rfl rfl ?_
        refine g_iconst W65 at_421 (pc' := 422) rfl (v := (0 : Int32)) (by decide) ?_
        refine g_iload W65 at_422 (pc' := 424) rfl rfl ?_
        refine g_iastoreI W65 H65 (i := 0) rfl (jx := 0) (by decide) (by exact (by decide : 0 < 3)) at_424 (pc' := 425) rfl (L' := ((a65, IaC Z ([g0, 0, 0] : List Int32)) :: (a61, IaC Z ([t0, t1, t2] : List Int32)) :: (a42, o_RouteTimes Z (.ref rA) (.ref tA)) :: (rA, IaC Z RL) :: (tA, ArC Z (.array .double) xs) :: (a52, ArC Z .int [.int o1, .int d1, .int o2, .int d2]) :: J)) rfl ?_
        intro T66 W66 H66
        refine g_dup W66 at_425 (pc' := 426) rfl rfl ?_
        refine g_iconst W66 at_426 (pc' := 427) rfl (v := (1 : Int32)) (by decide) ?_
        refine g_iload W66 at_427 (pc' := 429) rfl rfl ?_
        refine g_iastoreI W66 H66 (i := 0) rfl (jx := 1) (by decide) (by exact (by decide : 1 < 3)) at_429 (pc' := 430) rfl (L' := ((a65, IaC Z ([g0, g1, 0] : List Int32)) :: (a61, IaC Z ([t0, t1, t2] : List Int32)) :: (a42, o_RouteTimes Z (.ref rA) (.ref tA)) :: (rA, IaC Z RL) :: (tA, ArC Z (.array .double) xs) :: (a52, ArC Z .int [.int o1, .int d1, .int o2, .int d2]) :: J)) rfl ?_
        intro T67 W67 H67
        refine g_dup W67 at_430 (pc' := 431) rfl rfl ?_
        refine g_iconst W67 at_431 (pc' := 432) rfl (v := (2 : Int32)) (by decide) ?_
        refine g_iload W67 at_432 (pc' := 434) rfl rfl ?_
        refine g_iastoreI W67 H67 (i := 0) rfl (jx := 2) (by decide) (by exact (by decide : 2 < 3)) at_434 (pc' := 435) rfl (L' := ((a65, IaC Z ([g0, g1, g2] : List Int32)) :: (a61, IaC Z ([t0, t1, t2] : List Int32)) :: (a42, o_RouteTimes Z (.ref rA) (.ref tA)) :: (rA, IaC Z RL) :: (tA, ArC Z (.array .double) xs) :: (a52, ArC Z .int [.int o1, .int d1, .int o2, .int d2]) :: J)) rfl ?_
        intro T68 W68 H68
        refine g_astore W68 at_435 (pc' := 437) rfl rfl (ls' := #[.val (.int pa), .val (.int pt), .val (.int pp), .val (.int pq), .val (.int t0), .val (.int g0), .val (.int t1), .val (.int g1), .val (.int t2), .val (.int g2), .val (.int q0), .val (.int q1), .val (.int q2), .val (.ref a7), .val (.int ft), .val (.ref a23), .val (.int o1), .val (.int d1), .val (.int o2), .val (.int d2), .val (.int tw), .val (.ref a32), .val (.ref a38), .val (.ref a42), .val (.ref a52), .val (.int mk), .val (.int u), .val (.int w), .val (.double r), .second, .val (.ref a61), .val (.ref a65), .unset, .unset, .unset]) rfl ?_
        refine g_iconst W68 at_437 (pc' := 438) rfl (v := (3 : Int32)) (by decide) ?_
        refine g_newarrI W68 (wd_108 hw) H68 (by decide) (n := 3) (by decide) (cap := 3) (by decide) (by decide) at_438 (pc' := 440) rfl (kc' := 41) (ks' := 164) rfl rfl (by decide) (by decide) ?_
        intro T69 a69 W69 H69
        refine g_dup W69 at_440 (pc' := 441) rfl rfl ?_
        refine g_iconst W69 at_441 (pc' := 442) rfl (v := (0 : Int32)) (by decide) ?_
        refine g_iload W69 at_442 (pc' := 444) rfl rfl ?_
        refine g_iastoreI W69 H69 (i := 0) rfl (jx := 0) (by decide) (by exact (by decide : 0 < 3)) at_444 (pc' := 445) rfl (L' := ((a69, IaC Z ([q0, 0, 0] : List Int32)) :: (a65, IaC Z ([g0, g1, g2] : List Int32)) :: (a61, IaC Z ([t0, t1, t2] : List Int32)) :: (a42, o_RouteTimes Z (.ref rA) (.ref tA)) :: (rA, IaC Z RL) :: (tA, ArC Z (.array .double) xs) :: (a52, ArC Z .int [.int o1, .int d1, .int o2, .int d2]) :: J)) rfl ?_
        intro T70 W70 H70
        refine g_dup W70 at_445 (pc' := 446) rfl rfl ?_
        refine g_iconst W70 at_446 (pc' := 447) rfl (v := (1 : Int32)) (by decide) ?_
        refine g_iload W70 at_447 (pc' := 449) rfl rfl ?_
        refine g_iastoreI W70 H70 (i := 0) rfl (jx := 1) (by decide) (by exact (by decide : 1 < 3)) at_449 (pc' := 450) rfl (L' := ((a69, IaC Z ([q0, q1, 0] : List Int32)) :: (a65, IaC Z ([g0, g1, g2] : List Int32)) :: (a61, IaC Z ([t0, t1, t2] : List Int32)) :: (a42, o_RouteTimes Z (.ref rA) (.ref tA)) :: (rA, IaC Z RL) :: (tA, ArC Z (.array .double) xs) :: (a52, ArC Z .int [.int o1, .int d1, .int o2, .int d2]) :: J)) rfl ?_
        intro T71 W71 H71
        refine g_dup W71 at_450 (pc' := 451) rfl rfl ?_
        refine g_iconst W71 at_451 (pc' := 452) rfl (v := (2 : Int32)) (by decide) ?_
        refine g_iload W71 at_452 (pc' := 454) rfl rfl ?_
        refine g_iastoreI W71 H71 (i := 0) rfl (jx := 2) (by decide) (by exact (by decide : 2 < 3)) at_454 (pc' := 455) rfl (L' := ((a69, IaC Z ([q0, q1, q2] : List Int32)) :: (a65, IaC Z ([g0, g1, g2] : List Int32)) :: (a61, IaC Z ([t0, t1, t2] : List Int32)) :: (a42, o_RouteTimes Z (.ref rA) (.ref tA)) :: (rA, IaC Z RL) :: (tA, ArC Z (.array .double) xs) :: (a52, ArC Z .int [.int o1, .int d1, .int o2, .int d2]) :: J)) rfl ?_
        intro T72 W72 H72
        refine g_astore W72 at_455 (pc' := 457) rfl rfl (ls' := #[.val (.int pa), .val (.int pt), .val (.int pp), .val (.int pq), .val (.int t0), .val (.int g0), .val (.int t1), .val (.int g1), .val (.int t2), .val (.int g2), .val (.int q0), .val (.int q1), .val (.int q2), .val (.ref a7), .val (.int ft), .val (.ref a23), .val (.int o1), .val (.int d1), .val (.int o2), .val (.int d2), .val (.int tw), .val (.ref a32), .val (.ref a38), .val (.ref a42), .val (.ref a52), .val (.int mk), .val (.int u), .val (.int w), .val (.double r), .second, .val (.ref a61), .val (.ref a65), .val (.ref a69), .unset, .unset]) rfl ?_
        refine g_iload W72 at_457 (pc' := 459) rfl rfl ?_
        refine g_iload W72 at_459 (pc' := 461) rfl rfl ?_
        have H73f := Hp.fr1 H72
        have H74f := Hp.fr2 H73f
        have EX : ∀ (TJEX : State) (ex : Int32) (xn : Nat) (s34x : Slot) (hxe : ex.toInt = (xn : Int)) (heq : bst ftn T Hd tm un wn = min 1000 xn), Wk Z x code maxLocals ret n0 p l e room_1 s m #[.int pa, .int pt, .int pp, .int pq] below meth c TJEX 41 164 → Hp Z n0 TJEX.heap ((a61, IaC Z ([t0, t1, t2] : List Int32)) :: (a65, IaC Z ([g0, g1, g2] : List Int32)) :: (a69, IaC Z ([q0, q1, q2] : List Int32)) :: (a42, o_RouteTimes Z (.ref rA) (.ref tA)) :: (rA, IaC Z RL) :: (tA, ArC Z (.array .double) xs) :: (a52, ArC Z .int [.int o1, .int d1, .int o2, .int d2]) :: J) → Goes p e below (En s n0 (Room.cells room_1) (Room.slots room_1) (fun v _ => v = some (.int 1))) (TJEX.setTop (mkF m 536 #[.val (.int pa), .val (.int pt), .val (.int pp), .val (.int pq), .val (.int t0), .val (.int g0), .val (.int t1), .val (.int g1), .val (.int t2), .val (.int g2), .val (.int q0), .val (.int q1), .val (.int q2), .val (.ref a7), .val (.int ft), .val (.ref a23), .val (.int o1), .val (.int d1), .val (.int o2), .val (.int d2), .val (.int tw), .val (.ref a32), .val (.ref a38), .val (.ref a42), .val (.ref a52), .val (.int mk), .val (.int u), .val (.int w), .val (.double r), .second, .val (.ref a61), .val (.ref a65), .val (.ref a69), .val (.int ex), s34x] [])) := by
          intro TJEX ex xn s34x hxe heq WJEX HJEX
          refine g_iload WJEX at_536 (pc' := 538) rfl rfl ?_
          refine g_sipush WJEX at_538 (pc' := 541) rfl (v := (1000 : Int32)) (by decide) ?_
          refine g_icmp WJEX at_541 (pcy := 569) (by decide) (pc' := 544) rfl (fun (c75 : ex < (1000 : Int32)) => ?_) (fun (c75 : ¬ ex < (1000 : Int32)) => ?_)
          · have lt : xn < 1000 := by have z := c75; rw [Int32.lt_iff_toInt_lt, hxe, show (1000 : Int32).toInt = 1000 by decide] at z; omega
            refine g_dload WJEX at_569 (pc' := 571) rfl rfl ?_
            refine g_iload WJEX at_571 (pc' := 573) rfl rfl ?_
            refine g_i2d WJEX at_573 (pc' := 574) rfl rfl ?_
            refine g_dcmp WJEX at_574 (pc' := 575) rfl rfl ?_
            rw [show (cmpValue (FP.dcmp r (FP.i2d ex)) .l) = (0 : Int32) from dv_eq0 dvr (Or.inr ⟨lt, own_dy hxe⟩) (by rw [heq]; omega) _]
            refine g_if WJEX at_575 (pcy := 582) (by decide) (pc' := 578) rfl (fun (h : ¬ (0 : Int32) = (0 : Int32)) => absurd h (by decide)) (fun _ => ?_)
            refine g_iconst WJEX at_578 (pc' := 579) rfl (v := (1 : Int32)) (by decide) ?_
            refine g_goto WJEX at_579 (pc' := 583) (by decide) ?_
            exact g_zreturn WJEX (by decide) at_583 rfl (by decide) (by decide)
          · have ge : 1000 ≤ xn := by have z := c75; rw [Int32.lt_iff_toInt_lt, hxe, show (1000 : Int32).toInt = 1000 by decide] at z; omega
            obtain rfl := dv_inf dvr (by rw [heq]; omega)
            refine g_dload WJEX at_544 (pc' := 546) rfl rfl ?_
            refine g_dconst0 WJEX at_546 (pc' := 547) rfl ?_
            refine g_dcmp WJEX at_547 (pc' := 548) rfl rfl ?_
            rw [show (cmpValue (FP.dcmp (9218868437227405312 : UInt64) 0) .l) = (1 : Int32) from inf_pos]
            refine g_if WJEX at_548 (pcy := 567) (by decide) (pc' := 551) rfl (fun (h : ¬ (0 : Int32) < (1 : Int32)) => absurd h (by decide)) (fun _ => ?_)
            refine g_dload WJEX at_551 (pc' := 553) rfl rfl ?_
            refine g_ldc2Double WJEX (wd_456 hw) at_553 (pc' := 556) rfl ?_
            refine g_dmul WJEX at_556 (pc' := 557) rfl rfl inf_nn ?_
            rw [show (FP.dmul (9218868437227405312 : UInt64) (4611686018427387904 : UInt64)) = (9218868437227405312 : UInt64) from inf_two]
            refine g_dload WJEX at_557 (pc' := 559) rfl rfl ?_
            refine g_dcmp WJEX at_559 (pc' := 560) rfl rfl ?_
            rw [show (cmpValue (FP.dcmp (9218868437227405312 : UInt64) (9218868437227405312 : UInt64)) .l) = (0 : Int32) from inf_self]
            refine g_if WJEX at_560 (pcy := 567) (by decide) (pc' := 563) rfl (fun (h : ¬ (0 : Int32) = (0 : Int32)) => absurd h (by decide)) (fun _ => ?_)
            refine g_iconst WJEX at_563 (pc' := 564) rfl (v := (1 : Int32)) (by decide) ?_
            refine g_goto WJEX at_564 (pc' := 568) (by decide) ?_
            exact g_zreturn WJEX (by decide) at_568 rfl (by decide) (by decide)
        refine g_icmp W72 at_461 (pcy := 470) (by decide) (pc' := 464) rfl (fun (c76 : ¬ u = w) => ?_) (fun (c76 : ¬ ¬ u = w) => ?_)
        · have une := nat_ne hu hv c76
          refine g_iload W72 at_470 (pc' := 472) rfl rfl ?_
          refine g_iload W72 at_472 (pc' := 474) rfl rfl ?_
          refine g_aload W72 at_474 (pc' := 476) rfl rfl rfl ?_
          refine g_aload W72 at_476 (pc' := 478) rfl rfl rfl ?_
          refine g_aload W72 at_478 (pc' := 480) rfl rfl rfl ?_
          have H77f := Hp.fr2 H74f
          have H78f := Hp.fr2 H77f
          have H79f := Hp.fr2 H78f
          refine g_callS W72 (argsL := [.int u, .int w, .ref a61, .ref a65, .ref a69]) (st := []) (wd_450 hw) (wd_451 hw) (wd_2 hw) (wd_452 hw) (by decide) (c_direct l Z a0 hw n0 a61 a65 a69 u w un wn hu hv t0 g0 q0 nt0 ng0 nq0 ht0 hg0 hq0 t1 g1 q1 nt1 ng1 nq1 ht1 hg1 hq1 t2 g2 q2 nt2 ng2 nq2 ht2 hg2 hq2 _ _ H79f) pd_31 rfl rfl rfl at_480 (pc' := 483) rfl (by decide) (Wn := 0) (Nat.le_of_eq rfl) (by decide) (kc' := 41) (ks' := 164) rfl rfl (by decide) (by decide) ?_
          intro T80 v80 W80 hp80
          obtain ⟨z1, rfl, hz1, H80⟩ := hp80
          show Goes _ _ _ _ (State.setTop _ (mkF _ _ _ [.int z1]))
          rw [← dirE] at hz1
          refine g_istore W80 at_483 (pc' := 485) rfl (ls' := #[.val (.int pa), .val (.int pt), .val (.int pp), .val (.int pq), .val (.int t0), .val (.int g0), .val (.int t1), .val (.int g1), .val (.int t2), .val (.int g2), .val (.int q0), .val (.int q1), .val (.int q2), .val (.ref a7), .val (.int ft), .val (.ref a23), .val (.int o1), .val (.int d1), .val (.int o2), .val (.int d2), .val (.int tw), .val (.ref a32), .val (.ref a38), .val (.ref a42), .val (.ref a52), .val (.int mk), .val (.int u), .val (.int w), .val (.double r), .second, .val (.ref a61), .val (.ref a65), .val (.ref a69), .val (.int z1), .unset]) rfl ?_
          refine g_bipush W80 at_485 (pc' := 487) rfl (v := (6 : Int32)) (by decide) ?_
          refine g_iload W80 at_487 (pc' := 489) rfl rfl ?_
          refine g_isub W80 at_489 (pc' := 490) rfl rfl ?_
          refine g_iload W80 at_490 (pc' := 492) rfl rfl ?_
          refine g_isub W80 at_492 (pc' := 493) rfl rfl ?_
          generalize h_wI : (((6 : Int32) - u) - w) = wI
          have hwI := own_6 hu hv bu bv h_wI
          refine g_istore W80 at_493 (pc' := 495) rfl (ls' := #[.val (.int pa), .val (.int pt), .val (.int pp), .val (.int pq), .val (.int t0), .val (.int g0), .val (.int t1), .val (.int g1), .val (.int t2), .val (.int g2), .val (.int q0), .val (.int q1), .val (.int q2), .val (.ref a7), .val (.int ft), .val (.ref a23), .val (.int o1), .val (.int d1), .val (.int o2), .val (.int d2), .val (.int tw), .val (.ref a32), .val (.ref a38), .val (.ref a42), .val (.ref a52), .val (.int mk), .val (.int u), .val (.int w), .val (.double r), .second, .val (.ref a61), .val (.ref a65), .val (.ref a69), .val (.int z1), .val (.int wI)]) rfl ?_
          refine g_iload W80 at_495 (pc' := 497) rfl rfl ?_
          refine g_iload W80 at_497 (pc' := 499) rfl rfl ?_
          refine g_icmp W80 at_499 (pcy := 536) (by decide) (pc' := 502) rfl (fun (c81 : wI < ft) => ?_) (fun (c81 : ¬ wI < ft) => ?_)
          · have H82f := Hp.fr6 H80
            have H83f := Hp.fr6 H82f
            have H84f := Hp.fr6 H83f
            have H85f := Hp.fr6 H84f
            have H86f := Hp.fr6 H85f
            have H87f := Hp.fr6 H86f
            have H88f := Hp.fr6 H87f
            exact EX _ z1 _ _ hz1 (bst_n une (by have z := c81; rw [Int32.lt_iff_toInt_lt, hwI, hft] at z; omega)) W80 H88f
          · refine g_iload W80 at_502 (pc' := 504) rfl rfl ?_
            refine g_iload W80 at_504 (pc' := 506) rfl rfl ?_
            refine g_iload W80 at_506 (pc' := 508) rfl rfl ?_
            refine g_aload W80 at_508 (pc' := 510) rfl rfl rfl ?_
            refine g_aload W80 at_510 (pc' := 512) rfl rfl rfl ?_
            refine g_aload W80 at_512 (pc' := 514) rfl rfl rfl ?_
            have H89f := Hp.fr2 H80
            have H90f := Hp.fr2 H89f
            have H91f := Hp.fr2 H90f
            refine g_callS W80 (argsL := [.int u, .int wI, .ref a61, .ref a65, .ref a69]) (st := [.int z1]) (wd_450 hw) (wd_451 hw) (wd_2 hw) (wd_452 hw) (by decide) (c_direct l Z a0 hw n0 a61 a65 a69 u wI un (6 - un - wn) hu hwI t0 g0 q0 nt0 ng0 nq0 ht0 hg0 hq0 t1 g1 q1 nt1 ng1 nq1 ht1 hg1 hq1 t2 g2 q2 nt2 ng2 nq2 ht2 hg2 hq2 _ _ H91f) pd_31 rfl rfl rfl at_514 (pc' := 517) rfl (by decide) (Wn := 1) (Nat.le_of_eq rfl) (by decide) (kc' := 41) (ks' := 164) rfl rfl (by decide) (by decide) ?_
            intro T92 v92 W92 hp92
            obtain ⟨z2, rfl, hz2, H92⟩ := hp92
            show Goes _ _ _ _ (State.setTop _ (mkF _ _ _ [.int z2, .int z1]))
            rw [← dirE] at hz2
            refine g_iload W92 at_517 (pc' := 519) rfl rfl ?_
            refine g_iload W92 at_519 (pc' := 521) rfl rfl ?_
            refine g_aload W92 at_521 (pc' := 523) rfl rfl rfl ?_
            refine g_aload W92 at_523 (pc' := 525) rfl rfl rfl ?_
            refine g_aload W92 at_525 (pc' := 527) rfl rfl rfl ?_
            have H93f := Hp.fr2 H92
            have H94f := Hp.fr2 H93f
            have H95f := Hp.fr2 H94f
            refine g_callS W92 (argsL := [.int wI, .int w, .ref a61, .ref a65, .ref a69]) (st := [.int z2, .int z1]) (wd_450 hw) (wd_451 hw) (wd_2 hw) (wd_452 hw) (by decide) (c_direct l Z a0 hw n0 a61 a65 a69 wI w (6 - un - wn) wn hwI hv t0 g0 q0 nt0 ng0 nq0 ht0 hg0 hq0 t1 g1 q1 nt1 ng1 nq1 ht1 hg1 hq1 t2 g2 q2 nt2 ng2 nq2 ht2 hg2 hq2 _ _ H95f) pd_31 rfl rfl rfl at_527 (pc' := 530) rfl (by decide) (Wn := 2) (Nat.le_of_eq rfl) (by decide) (kc' := 41) (ks' := 164) rfl rfl (by decide) (by decide) ?_
            intro T96 v96 W96 hp96
            obtain ⟨z3, rfl, hz3, H96⟩ := hp96
            show Goes _ _ _ _ (State.setTop _ (mkF _ _ _ [.int z3, .int z2, .int z1]))
            rw [← dirE] at hz3
            refine g_iadd W96 at_530 (pc' := 531) rfl rfl ?_
            refine g_callS W96 (argsL := [.int z1, .int (z2 + z3)]) (st := []) (wd_453 hw) (wd_454 hw) (wd_84 hw) (wd_455 hw) (by decide) (c_min l Z a0 hw n0 z1 (z2 + z3) _ _ hz1 (own_ad hz2 hz3 dir_1000 dir_1000) _ _ H96) pd_1 rfl rfl rfl at_531 (pc' := 534) rfl (by decide) (Wn := 0) (Nat.le_of_eq rfl) (by decide) (kc' := 41) (ks' := 164) rfl rfl (by decide) (by decide) ?_
            intro T97 v97 W97 hp97
            obtain ⟨z4, rfl, hz4, H97⟩ := hp97
            show Goes _ _ _ _ (State.setTop _ (mkF _ _ _ [.int z4]))
            refine g_istore W97 at_534 (pc' := 536) rfl (ls' := #[.val (.int pa), .val (.int pt), .val (.int pp), .val (.int pq), .val (.int t0), .val (.int g0), .val (.int t1), .val (.int g1), .val (.int t2), .val (.int g2), .val (.int q0), .val (.int q1), .val (.int q2), .val (.ref a7), .val (.int ft), .val (.ref a23), .val (.int o1), .val (.int d1), .val (.int o2), .val (.int d2), .val (.int tw), .val (.ref a32), .val (.ref a38), .val (.ref a42), .val (.ref a52), .val (.int mk), .val (.int u), .val (.int w), .val (.double r), .second, .val (.ref a61), .val (.ref a65), .val (.ref a69), .val (.int z4), .val (.int wI)]) rfl ?_
            have H98f := Hp.fr6 H97
            have H99f := Hp.fr6 H98f
            have H100f := Hp.fr6 H99f
            have H101f := Hp.fr6 H100f
            have H102f := Hp.fr6 H101f
            have H103f := Hp.fr6 H102f
            have H104f := Hp.fr6 H103f
            exact EX _ z4 _ _ hz4 (bst_y une (by have z := c81; rw [Int32.lt_iff_toInt_lt, hwI, hft] at z; omega)) W97 H104f
        · replace c76 := Classical.not_not.mp c76
          refine g_iconst W72 at_464 (pc' := 465) rfl (v := (0 : Int32)) (by decide) ?_
          refine g_istore W72 at_465 (pc' := 467) rfl (ls' := #[.val (.int pa), .val (.int pt), .val (.int pp), .val (.int pq), .val (.int t0), .val (.int g0), .val (.int t1), .val (.int g1), .val (.int t2), .val (.int g2), .val (.int q0), .val (.int q1), .val (.int q2), .val (.ref a7), .val (.int ft), .val (.ref a23), .val (.int o1), .val (.int d1), .val (.int o2), .val (.int d2), .val (.int tw), .val (.ref a32), .val (.ref a38), .val (.ref a42), .val (.ref a52), .val (.int mk), .val (.int u), .val (.int w), .val (.double r), .second, .val (.ref a61), .val (.ref a65), .val (.ref a69), .val (.int (0 : Int32)), .unset]) rfl ?_
          refine g_goto W72 at_467 (pc' := 536) (by decide) ?_
          have H105f := Hp.fr6 H74f
          have H106f := Hp.fr6 H105f
          have H107f := Hp.fr6 H106f
          have H108f := Hp.fr6 H107f
          have H109f := Hp.fr6 H108f
          have H110f := Hp.fr6 H109f
          have H111f := Hp.fr6 H110f
          exact EX _ (0 : Int32) 0 _ (by decide) (bst_eq (nat_eq hu hv c76)) W72 H111f
      refine g_if W56 at_356 (pcy := 363) (by decide) (pc' := 359) rfl (fun (c112 : tw = (0 : Int32)) => ?_) (fun (c112 : ¬ tw = (0 : Int32)) => ?_)
      · obtain ⟨j1, u1, hj1, gj1, n1, hn1, bn1, rn1⟩ := pick2 (o1 := o1) (d1 := d1) (o2 := o2) (d2 := d2) (P := fun x => ∃ n : Nat, x.toInt = (n : Int) ∧ (1 ≤ n ∧ n ≤ 3) ∧ 0 ≤ Rw n) ⟨k1, hk1, bk1, s1⟩ ⟨k2, hk2, bk2, s2⟩ pq
        obtain ⟨j2, u2, hj2, gj2, n2, hn2, bn2, rn2⟩ := pick2 (o1 := o1) (d1 := d1) (o2 := o2) (d2 := d2) (P := fun x => ∃ n : Nat, x.toInt = (n : Int) ∧ (1 ≤ n ∧ n ≤ 3) ∧ 0 ≤ Rw n) ⟨k1, hk1, bk1, s1⟩ ⟨k2, hk2, bk2, s2⟩ (XT.ushr pq (2 : Int32))
        refine g_iconst W56 at_363 (pc' := 364) rfl (v := (1 : Int32)) (by decide) ?_
        refine g_istore W56 at_364 (pc' := 366) rfl (ls' := #[.val (.int pa), .val (.int pt), .val (.int pp), .val (.int pq), .val (.int t0), .val (.int g0), .val (.int t1), .val (.int g1), .val (.int t2), .val (.int g2), .val (.int q0), .val (.int q1), .val (.int q2), .val (.ref a7), .val (.int ft), .val (.ref a23), .val (.int o1), .val (.int d1), .val (.int o2), .val (.int d2), .val (.int tw), .val (.ref a32), .val (.ref a38), .val (.ref a42), .val (.ref a52), .val (.int (1 : Int32)), .unset, .unset, .unset, .unset, .unset, .unset, .unset, .unset, .unset]) rfl ?_
        refine g_aload W56 at_366 (pc' := 368) rfl rfl rfl ?_
        refine g_iloadN W56 at_368 (pc' := 369) rfl rfl ?_
        refine g_iload W56 at_369 (pc' := 371) rfl rfl ?_
        refine g_iand W56 at_371 (pc' := 372) rfl rfl ?_
        refine g_iaload W56 H56 (i := 0) rfl (jx := j1) hj1 (v := .int u1) gj1 at_372 (pc' := 373) rfl ?_
        refine g_istore W56 at_373 (pc' := 375) rfl (ls' := #[.val (.int pa), .val (.int pt), .val (.int pp), .val (.int pq), .val (.int t0), .val (.int g0), .val (.int t1), .val (.int g1), .val (.int t2), .val (.int g2), .val (.int q0), .val (.int q1), .val (.int q2), .val (.ref a7), .val (.int ft), .val (.ref a23), .val (.int o1), .val (.int d1), .val (.int o2), .val (.int d2), .val (.int tw), .val (.ref a32), .val (.ref a38), .val (.ref a42), .val (.ref a52), .val (.int (1 : Int32)), .val (.int u1), .unset, .unset, .unset, .unset, .unset, .unset, .unset, .unset]) rfl ?_
        refine g_aload W56 at_375 (pc' := 377) rfl rfl rfl ?_
        refine g_iloadN W56 at_377 (pc' := 378) rfl rfl ?_
        refine g_iconst W56 at_378 (pc' := 379) rfl (v := (2 : Int32)) (by decide) ?_
        refine g_iushr W56 at_379 (pc' := 380) rfl rfl ?_
        refine g_iload W56 at_380 (pc' := 382) rfl rfl ?_
        refine g_iand W56 at_382 (pc' := 383) rfl rfl ?_
        refine g_iaload W56 H56 (i := 0) rfl (jx := j2) hj2 (v := .int u2) gj2 at_383 (pc' := 384) rfl ?_
        refine g_istore W56 at_384 (pc' := 386) rfl (ls' := #[.val (.int pa), .val (.int pt), .val (.int pp), .val (.int pq), .val (.int t0), .val (.int g0), .val (.int t1), .val (.int g1), .val (.int t2), .val (.int g2), .val (.int q0), .val (.int q1), .val (.int q2), .val (.ref a7), .val (.int ft), .val (.ref a23), .val (.int o1), .val (.int d1), .val (.int o2), .val (.int d2), .val (.int tw), .val (.ref a32), .val (.ref a38), .val (.ref a42), .val (.ref a52), .val (.int (1 : Int32)), .val (.int u1), .val (.int u2), .unset, .unset, .unset, .unset, .unset, .unset, .unset]) rfl ?_
        exact QV _ _ u1 u2 n1 n2 hn1 bn1 rn1 hn2 bn2 rn2 W56 H56
      · have sz2 : sz = 2 := hcs.elim (fun z => absurd z.1 c112) (fun z => z.2.1)
        obtain ⟨s3, s4⟩ := s34 sz2
        obtain ⟨j1, u1, hj1, gj1, n1, hn1, bn1, rn1⟩ := pick4 (o1 := o1) (d1 := d1) (o2 := o2) (d2 := d2) (P := fun x => ∃ n : Nat, x.toInt = (n : Int) ∧ (1 ≤ n ∧ n ≤ 3) ∧ 0 ≤ Rw n) ⟨k1, hk1, bk1, s1⟩ ⟨k2, hk2, bk2, s2⟩ ⟨k3, hk3, bk3, s3⟩ ⟨k4, hk4, bk4, s4⟩ pq
        obtain ⟨j2, u2, hj2, gj2, n2, hn2, bn2, rn2⟩ := pick4 (o1 := o1) (d1 := d1) (o2 := o2) (d2 := d2) (P := fun x => ∃ n : Nat, x.toInt = (n : Int) ∧ (1 ≤ n ∧ n ≤ 3) ∧ 0 ≤ Rw n) ⟨k1, hk1, bk1, s1⟩ ⟨k2, hk2, bk2, s2⟩ ⟨k3, hk3, bk3, s3⟩ ⟨k4, hk4, bk4, s4⟩ (XT.ushr pq (2 : Int32))
        refine g_iconst W56 at_359 (pc' := 360) rfl (v := (3 : Int32)) (by decide) ?_
        refine g_goto W56 at_360 (pc' := 364) (by decide) ?_
        refine g_istore W56 at_364 (pc' := 366) rfl (ls' := #[.val (.int pa), .val (.int pt), .val (.int pp), .val (.int pq), .val (.int t0), .val (.int g0), .val (.int t1), .val (.int g1), .val (.int t2), .val (.int g2), .val (.int q0), .val (.int q1), .val (.int q2), .val (.ref a7), .val (.int ft), .val (.ref a23), .val (.int o1), .val (.int d1), .val (.int o2), .val (.int d2), .val (.int tw), .val (.ref a32), .val (.ref a38), .val (.ref a42), .val (.ref a52), .val (.int (3 : Int32)), .unset, .unset, .unset, .unset, .unset, .unset, .unset, .unset, .unset]) rfl ?_
        refine g_aload W56 at_366 (pc' := 368) rfl rfl rfl ?_
        refine g_iloadN W56 at_368 (pc' := 369) rfl rfl ?_
        refine g_iload W56 at_369 (pc' := 371) rfl rfl ?_
        refine g_iand W56 at_371 (pc' := 372) rfl rfl ?_
        refine g_iaload W56 H56 (i := 0) rfl (jx := j1) hj1 (v := .int u1) gj1 at_372 (pc' := 373) rfl ?_
        refine g_istore W56 at_373 (pc' := 375) rfl (ls' := #[.val (.int pa), .val (.int pt), .val (.int pp), .val (.int pq), .val (.int t0), .val (.int g0), .val (.int t1), .val (.int g1), .val (.int t2), .val (.int g2), .val (.int q0), .val (.int q1), .val (.int q2), .val (.ref a7), .val (.int ft), .val (.ref a23), .val (.int o1), .val (.int d1), .val (.int o2), .val (.int d2), .val (.int tw), .val (.ref a32), .val (.ref a38), .val (.ref a42), .val (.ref a52), .val (.int (3 : Int32)), .val (.int u1), .unset, .unset, .unset, .unset, .unset, .unset, .unset, .unset]) rfl ?_
        refine g_aload W56 at_375 (pc' := 377) rfl rfl rfl ?_
        refine g_iloadN W56 at_377 (pc' := 378) rfl rfl ?_
        refine g_iconst W56 at_378 (pc' := 379) rfl (v := (2 : Int32)) (by decide) ?_
        refine g_iushr W56 at_379 (pc' := 380) rfl rfl ?_
        refine g_iload W56 at_380 (pc' := 382) rfl rfl ?_
        refine g_iand W56 at_382 (pc' := 383) rfl rfl ?_
        refine g_iaload W56 H56 (i := 0) rfl (jx := j2) hj2 (v := .int u2) gj2 at_383 (pc' := 384) rfl ?_
        refine g_istore W56 at_384 (pc' := 386) rfl (ls' := #[.val (.int pa), .val (.int pt), .val (.int pp), .val (.int pq), .val (.int t0), .val (.int g0), .val (.int t1), .val (.int g1), .val (.int t2), .val (.int g2), .val (.int q0), .val (.int q1), .val (.int q2), .val (.ref a7), .val (.int ft), .val (.ref a23), .val (.int o1), .val (.int d1), .val (.int o2), .val (.int d2), .val (.int tw), .val (.ref a32), .val (.ref a38), .val (.ref a42), .val (.ref a52), .val (.int (3 : Int32)), .val (.int u1), .val (.int u2), .unset, .unset, .unset, .unset, .unset, .unset, .unset]) rfl ?_
        exact QV _ _ u1 u2 n1 n2 hn1 bn1 rn1 hn2 bn2 rn2 W56 H56
    refine g_if W37 at_269 (pcy := 291) (by decide) (pc' := 272) rfl (fun (c113 : tw = (0 : Int32)) => ?_) (fun (c113 : ¬ tw = (0 : Int32)) => ?_)
    · have H114f := Hp.fr6 H37
      have H115f := Hp.fr6 H114f
      have H116f := Hp.fr6 H115f
      have H117f := Hp.fr6 H116f
      have H118f := Hp.fr4 H117f
      have H119f := Hp.fr5 H118f
      exact PA _ ((0 : Int32) + (1 : Int32)) (1 : Int32) _ _ (by rw [List.length_set]; decide) rfl (List.mem_cons_self ..) (Or.inl ⟨c113, rfl⟩) (W37.more (by decide) (by decide)) H119f
    · refine g_aload W37 at_272 (pc' := 274) rfl rfl rfl ?_
      refine g_new W37 (wd_188 hw) (wd_189 hw) (wd_190 hw) (la_TripTable_Pair hw) (by decide) H37 at_274 (pc' := 277) rfl (kc' := 19) (ks' := 89) rfl rfl (by decide) (by decide) ?_
      intro T120 a120 W120 H120
      refine g_dup W120 at_277 (pc' := 278) rfl rfl ?_
      refine g_iload W120 at_278 (pc' := 280) rfl rfl ?_
      refine g_iload W120 at_280 (pc' := 282) rfl rfl ?_
      refine g_callI W120 (argsL := [.int o2, .int d2]) (st := [.ref a120, .ref a32]) rfl (wd_191 hw) (wd_192 hw) (wd_190 hw) (wd_193 hw) (by decide) (a := a120) (c_pri l Z a0 hw n0 a120 o2 d2 _ _ H120) pd_28 rfl rfl rfl at_282 (pc' := 285) rfl (by decide) (Wn := 2) (Nat.le_of_eq rfl) (by decide) (kc' := 19) (ks' := 89) rfl rfl (by decide) (by decide) ?_
      intro T121 v121 W121 hp121
      obtain ⟨rfl, H121⟩ := hp121
      show Goes _ _ _ _ (State.setTop _ (mkF _ _ _ [.ref a120, .ref a32]))
      have H122f := Hp.fr1 H121
      have H123f := Hp.fr2 H122f
      refine g_callF W121 (argsL := [.ref a120]) (st := []) (wd_54 hw) (wd_55 hw) (fun _ _ hZ => mvT hZ (wd_56 hw)) (wd_57 hw) (wd_58 hw) (wd_59 hw) (wd_60 hw) (wd_61 hw) (wd_6 hw) (wd_62 hw) (by decide) (a := a32) (H123f.exa (i := 0) rfl) (c_add11 l Z a0 hw n0 a32 ((0 : Int32) + (1 : Int32)) _ a120 ([] : List FR) (fun h L H z => Ins.of_exa (H.exam (z _ (List.mem_cons_self ..))) (wd_199 hw)) el2 ((List.replicate 10 Value.null).set 0 (.ref a34)) (1 : Int32) 1 (by rw [List.length_set]; decide) (by decide) (by decide) (by rw [List.length_set]; decide) _ H123f) pd_26 rfl rfl rfl at_285 (pc' := 290) rfl (by decide) (Wn := 0) (Nat.le_of_eq rfl) (by decide) (kc' := 19) (ks' := 89) rfl rfl (by decide) (by decide) ?_
      intro T124 v124 W124 hp124
      obtain ⟨rfl, H124⟩ := hp124
      show Goes _ _ _ _ (State.setTop _ (mkF _ _ _ [.int (1 : Int32)]))
      rw [show (1 : Int32) + (1 : Int32) = (2 : Int32) by decide] at H124
      refine g_pop W124 at_290 (pc' := 291) rfl rfl ?_
      have H125f := Hp.fr7 H124
      have H126f := Hp.fr7 H125f
      have H127f := Hp.fr7 H126f
      have H128f := Hp.fr7 H127f
      have H129f := Hp.fr5 H128f
      have H130f := Hp.fr5 H129f
      exact PA _ (((0 : Int32) + (1 : Int32)) + (1 : Int32)) (2 : Int32) _ _ (by rw [List.length_set, List.length_set]; decide) rfl (mc1 (List.mem_cons_self ..)) (Or.inr ⟨htw.resolve_left c113, rfl, a120, rfl, (List.mem_cons_self ..)⟩) (W124.more (by decide) (by decide)) H130f
  refine g_if W27 at_229 (pcy := 236) (by decide) (pc' := 232) rfl (fun (c131 : ((XT.ushr pp (10 : Int32)) &&& (1 : Int32)) = (0 : Int32)) => ?_) (fun (c131 : ¬ ((XT.ushr pp (10 : Int32)) &&& (1 : Int32)) = (0 : Int32)) => ?_)
  · refine g_iconst W27 at_236 (pc' := 237) rfl (v := (0 : Int32)) (by decide) ?_
    exact TW _ _ (0 : Int32) (Or.inl rfl) W27 H31f
  · refine g_iconst W27 at_232 (pc' := 233) rfl (v := (1 : Int32)) (by decide) ?_
    refine g_goto W27 at_233 (pc' := 237) (by decide) ?_
    exact TW _ _ (1 : Int32) (Or.inr rfl) W27 H31f

theorem own_len {args : Array Value} {s : State} {t : Term} {a : Addr} {d : Cell} {z : Int32} {ty : FieldType} (et : t.eval args s none [] s = some (.ref a)) (hA : Arr s s.heap a d ty) (h : (Cond.eq (.length t) (.int z)).value args s none s [] = some true) : d.slots.size < 2 ^ 31 ∧ d.slots.size.toInt32 = z := by
  obtain ⟨b, d', f1, f2, f3, f4⟩ := Jvm.Lib.length_spec (eqv_i (Term.int_eval z) h)
  cases et.symm.trans f1
  cases (hA.fin (Vm.Alike.refl _)).symm.trans f2
  cases f4
  exact ⟨f3, rfl⟩

set_option maxRecDepth 65536 in
set_option maxHeartbeats 40000000 in
theorem comes_1 {Post : Tables → Env → Array Value → State → Outcome → State → Prop} (hpost : ∀ tb e args s v u, (limb_1_1.after args s (.returned v) u = true ∧ limb_1_2.after args s (.returned v) u = true ∧ True) → FrameEnd s (.returned v) u (Jvm.fieldLocs frame_1_writes args s ++ Jvm.arrayLocs frame_1_arrays args s ++ Jvm.staticLocs frame_1_statics s) 96 448 → Post tb e args s (.returned v) u) :
    ArmFor flags0 classFile x code maxLocals ret World_1 tables_1 room_1 Calls_1 rest_1 Pre_1 Post := by
  intro l hfl _ _ p e ha hc hk s m args below hf hA hF happ hP
  obtain ⟨hcalls, hrest, hpre⟩ := hP
  obtain ⟨-, -, -, hnamed, -, -, -, hat⟩ := (Spec.applies_iff hf).mp happ
  obtain ⟨hg, hn⟩ := and_e (Cond.before_iff.mp (show (Jvm.Cond.and given_1 narrow_1).before args s = true from hpre))
  obtain ⟨hcount, hg0⟩ := and_e hg
  obtain ⟨ha0, hg1⟩ := and_e hg0
  obtain ⟨ha1, hg2⟩ := and_e hg1
  obtain ⟨ha2, hg3⟩ := and_e hg2
  obtain ⟨w0, w1, w2, w3, rfl⟩ : ∃ w0 w1 w2 w3 : Value, args = #[w0, w1, w2, w3] := by
    have hs : args.size = 4 := by simpa [Cond.value, given_1] using hcount
    obtain ⟨L⟩ := args
    match L, hs with
    | [w0, w1, w2, w3], _ => exact ⟨w0, w1, w2, w3, rfl⟩
  have hw := fun d (hd : d ∈ tables_1) => atoms_spec (ws := Jvm.Cond.code x code maxLocals ret :: tables_1) hat d (List.mem_cons_of_mem _ hd)
  obtain ⟨pa, e0⟩ := is_v ha0
  obtain rfl : w0 = (.int pa) := Option.some.inj e0
  obtain ⟨pt, e1⟩ := is_v ha1
  obtain rfl : w1 = (.int pt) := Option.some.inj e1
  obtain ⟨pp, e2⟩ := is_v ha2
  obtain rfl : w2 = (.int pp) := Option.some.inj e2
  obtain ⟨pq, e3⟩ := is_v hg3
  obtain rfl : w3 = (.int pq) := Option.some.inj e3
  obtain ⟨hsets, hown0⟩ := atoms_of _ (rest_1_c_eq ▸ (show rest_1_c.before _ s = true from hrest))
  obtain ⟨de, ede⟩ := arr_v (Cond.before_iff.mp (hsets _ (List.mem_of_getElem? (i := 6) rfl)))
  obtain ⟨dc, hA⟩ := Arr.start ede (Cond.before_iff.mp (hsets _ (List.mem_of_getElem? (i := 6) rfl)))
  have hD : Sta s s.heap "java/util/ArrayList" "DEFAULTCAPACITY_EMPTY_ELEMENTDATA" "[Ljava/lang/Object;" (.ref de) := Sta.start ede (Or.inr ⟨hw _ (List.mem_of_getElem? (i := 6) rfl), hsets _ (List.mem_of_getElem? (i := 2) rfl)⟩)
  have hA0 := (own_len ede hA (Cond.before_iff.mp (hsets _ (List.mem_of_getElem? (i := 8) rfl)))).2
  have eh := eqv_i (Term.int_eval (127)) (Cond.before_iff.mp (hsets _ (List.mem_of_getElem? (i := 12) rfl)))
  have hH : Sta s s.heap "java/lang/Integer$IntegerCache" "high" "I" (.int 127) := Sta.start eh (Or.inl (hsets _ (List.mem_of_getElem? (i := 10) rfl)))
  obtain ⟨ca, eca⟩ := arr_v (Cond.before_iff.mp (hsets _ (List.mem_of_getElem? (i := 13) rfl)))
  obtain ⟨cc, hcc⟩ := Arr.start eca (Cond.before_iff.mp (hsets _ (List.mem_of_getElem? (i := 13) rfl)))
  have hCa : Sta s s.heap "java/lang/Integer$IntegerCache" "cache" "[Ljava/lang/Integer;" (.ref ca) := Sta.start eca (Or.inr ⟨hw _ (List.mem_of_getElem? (i := 279) rfl), hsets _ (List.mem_of_getElem? (i := 11) rfl)⟩)
  have hcl := own_len eca hcc (Cond.before_iff.mp (hsets _ (List.mem_of_getElem? (i := 15) rfl)))
  have hB : Bxs s ca cc "java/lang/Integer" "I" (256 : Int32) (fun j => .int (j - 128)) := Bxs.start (args := #[.int pa, .int pt, .int pp, .int pq]) (t := .static "java/lang/Integer$IntegerCache" "cache" "[Ljava/lang/Integer;") (fun _ => eca) hcc hcl.1 hcl.2 (by decide) (Cond.before_iff.mp (hsets _ (List.mem_of_getElem? (i := 16) rfl))) (fun X j hj h => eqv_i (Term.sub_int (idx_at hj) (Term.int_eval (128))) h)
  obtain ⟨em, eem⟩ := exa_v (Cond.before_iff.mp (hsets _ (List.mem_of_getElem? (i := 19) rfl)))
  have hEx : Exa s s.heap em "java/lang/Object" := exa_at eem (Cond.before_iff.mp (hsets _ (List.mem_of_getElem? (i := 19) rfl)))
  have hEm : Sta s s.heap "java/util/ImmutableCollections" "EMPTY" "Ljava/lang/Object;" (.ref em) := Sta.start eem (Or.inl (hsets _ (List.mem_of_getElem? (i := 18) rfl)))
  obtain ⟨n, o, h1, h2, h3, _, L, rfl, ⟨N, rfl⟩, hq⟩ := law_con l s _ hw s.heap.size em hEm hEx ca cc hH hCa hB de dc hD hA hA0 pa pt pp pq s.heap (Hp.nil Bs.start) p e ha hc hk s m _ below hf ((Spec.applies_iff_loose hf).mp happ).1 ⟨rfl, State.Warmed39.refl s, rfl⟩ trivial
  refine ⟨n, _, h1, h2, h3, hpost _ _ _ _ _ _ ⟨Cond.after_iff.mpr rfl, Cond.after_iff.mpr (eq_i res_at (Term.int_eval (1)) rfl), trivial⟩ ⟨hq.1, hq.2.1, (hq.2.2.sift fun y hy => Or.inr (N y hy)).mono (by decide) (by decide)⟩⟩
theorem main_1_1 : Claimed_1_1 := comes_1 fun _ _ _ _ _ _ h hF => ⟨h.1, hF⟩
theorem main_1_2 : Claimed_1_2 := comes_1 fun _ _ _ _ _ _ h hF => ⟨h.2.1, hF⟩
end Jvm.Pilot.@@N@@
namespace Jvm.Pilot.@@N@@
open Jvm Jvm.ClassFile Sem Op Lib Jvm.Free Jvm.Stand Jvm.Pilot.@@N@@.Jvm.D
/-! MADE BY PROGRAM (witnessworld.py) out of the Statement's table words and the real class files: 46 classes; the members and pool entries that the words name. The judged class is class 1, her method 3. -/
namespace start1
open Jvm.ClassFile
def u (s : String) : CpInfo := .utf8 (stringToUtf16 s)
/-- a pool by its gaps: so many unusable entries, then the entry; so many at the end -/
def gap : Nat → List CpInfo → List CpInfo
  | 0, r => r
  | n + 1, r => .unusable :: gap n r
def poolList (es : List (Nat × CpInfo)) (last : Nat) : List CpInfo := es.foldr (fun e r => gap e.1 (e.2 :: r)) (gap last [])
def pool (es : List (Nat × CpInfo)) (last : Nat) : Array CpInfo := ⟨poolList es last⟩
def fileOf (pool : Array CpInfo) (this : Nat) (attrs : Array Attribute := #[]) (ms : Array MethodInfo := #[]) (fl : Nat := 33) (sup : Nat := 0) (ifs : Array Nat := #[]) (fds : Array FieldInfo := #[]) : ClassFile where
  minorVersion := 0
  majorVersion := 65
  constantPool := pool
  accessFlags := fl
  thisClass := this
  superClass := sup
  interfaces := ifs
  fields := fds
  methods := ms
  attributes := attrs
def plain (name : String) (sup : Option ClassId) : Class where
  name := name
  kind := .ordinary
  loader := none
  accessFlags := 33
  super := sup
  interfaces := #[]
  cf := none
  fields := #[]
  methods := #[]
  instanceTypes := #[]
  staticTypes := #[]
  resolved := #[]
  callSites := []
  init := .initialized
  statics := none
  mirror := none

def pool0 : Array CpInfo := pool [(5, u "<init>"), (0, u "()V"), (1, .class_ 10), (1, u "java/lang/Object"), (85, u "clone"), (0, u "()Ljava/lang/Object;")] 26

def k0c0 : Code := { maxStack := 0, maxLocals := 1, code := object_method_1_code, exceptionTable := #[], attributes := #[] }
def k0m0 : Method := { name := "<init>", desc := "()V", sig := { parameters := [], returnType := none }, accessFlags := 1, code := some k0c0 }
def k0m1 : Method := { name := "clone", desc := "()Ljava/lang/Object;", sig := { parameters := [], returnType := some (.object "java/lang/Object") }, accessFlags := 260, code := none }
/-- java/lang/Object -/
def k0 : Class := { plain "java/lang/Object" none with
  accessFlags := 33
  interfaces := #[]
  cf := some (fileOf pool0 8 #[] #[{ accessFlags := 1, nameIndex := 5, descriptorIndex := 6, attributes := #[] }, { accessFlags := 260, nameIndex := 96, descriptorIndex := 97, attributes := #[] }] 33 0 #[] #[])
  fields := #[]
  methods := #[k0m0, k0m1]
  instanceTypes := #[]
  staticTypes := #[]
  resolved := Array.replicate 124 none
  statics := none }

def pool1 : Array CpInfo := pool [(2, .class_ 4), (0, .nameAndType 5 6), (0, u "java/lang/Object"), (0, u "<init>"), (0, u "()V"), (0, .methodref 8 9), (0, .class_ 10), (0, .nameAndType 11 12), (0, u "java/lang/Math"), (0, u "min"), (0, u "(II)I"), (0, .methodref 14 15), (0, .class_ 16), (0, .nameAndType 17 12), (0, u "com/example/lanewright/lanewright/RouteTimesTimePinLaw"), (0, u "end"), (0, .class_ 19), (0, u "java/util/ArrayList"), (0, .methodref 18 3), (0, .class_ 22), (0, u "com/example/lanewright/lanewright/Network$Arc"), (0, .methodref 21 24), (0, .nameAndType 5 25), (0, u "(IIDDDD)V"), (0, .interfaceMethodref 27 28), (0, .class_ 29), (0, .nameAndType 30 31), (0, u "java/util/List"), (0, u "add"), (0, u "(Ljava/lang/Object;)Z"), (0, .class_ 33), (0, u "com/example/lanewright/lanewright/Network"), (0, .methodref 32 35), (0, .nameAndType 5 36), (0, u "(IILjava/util/List;)V"), (0, .class_ 38), (0, u "com/example/lanewright/lanewright/TripTable$Pair"), (0, .methodref 37 40), (0, .nameAndType 5 41), (0, u "(II)V"), (0, .class_ 43), (0, u "com/example/lanewright/lanewright/RouteTimes"), (0, .methodref 42 45), (0, .nameAndType 5 46), (0, u "(Lcom/example/lanewright/lanewright/Network;[DLjava/util/List;)V"), (0, .methodref 42 48), (0, .nameAndType 49 50), (0, u "time"), (0, u "(II)D"), (0, .methodref 14 52), (0, .nameAndType 53 54), (0, u "direct"), (0, u "(II[I[I[I)I"), (0, .double 4611686018427387904), (4, u "law"), (0, u "(IIII)Z")] 11

def k1m0 : Method := { name := "<init>", desc := "()V", sig := { parameters := [], returnType := none }, accessFlags := 1, code := none }
def k1c1 : Code := { maxStack := 2, maxLocals := 2, code := method_2_code, exceptionTable := #[], attributes := #[] }
def k1m1 : Method := { name := "end", desc := "(II)I", sig := { parameters := [.int, .int], returnType := some .int }, accessFlags := 10, code := some k1c1 }
def k1c2 : Code := { maxStack := 3, maxLocals := 6, code := method_3_code, exceptionTable := #[], attributes := #[] }
def k1m2 : Method := { name := "direct", desc := "(II[I[I[I)I", sig := { parameters := [.int, .int, (.array .int), (.array .int), (.array .int)], returnType := some .int }, accessFlags := 10, code := some k1c2 }
def k1c3 : Code := { maxStack := 13, maxLocals := 35, code := code, exceptionTable := #[], attributes := #[] }
def k1m3 : Method := { name := "law", desc := "(IIII)Z", sig := { parameters := [.int, .int, .int, .int], returnType := some .boolean }, accessFlags := 9, code := some k1c3 }
/-- com/example/lanewright/lanewright/RouteTimesTimePinLaw -/
def k1 : Class := { plain "com/example/lanewright/lanewright/RouteTimesTimePinLaw" (some 0) with
  accessFlags := 49
  interfaces := #[]
  cf := some (fileOf pool1 14 #[] #[{ accessFlags := 1, nameIndex := 5, descriptorIndex := 6, attributes := #[] }, { accessFlags := 10, nameIndex := 17, descriptorIndex := 12, attributes := #[] }, { accessFlags := 10, nameIndex := 53, descriptorIndex := 54, attributes := #[] }, { accessFlags := 9, nameIndex := 60, descriptorIndex := 61, attributes := #[] }] 49 2 #[] #[])
  fields := #[]
  methods := #[k1m0, k1m1, k1m2, k1m3]
  instanceTypes := #[]
  staticTypes := #[]
  resolved := Array.replicate 73 none
  statics := none }

def pool2 : Array CpInfo := pool [(8, .class_ 10), (1, u "java/lang/Iterable"), (24, .class_ 36), (0, u "java/lang/Object")] 25

/-- java/lang/Iterable -/
def k2 : Class := { plain "java/lang/Iterable" (some 0) with
  accessFlags := 1537
  interfaces := #[]
  cf := some (fileOf pool2 8 #[] #[] 1537 35 #[] #[])
  fields := #[]
  methods := #[]
  instanceTypes := #[]
  staticTypes := #[]
  resolved := Array.replicate 62 none
  statics := none }

def pool3 : Array CpInfo := pool [(10, .class_ 12), (1, u "java/util/Collection"), (47, .class_ 61), (0, u "java/lang/Object"), (0, .class_ 63), (0, u "java/lang/Iterable")] 51

/-- java/util/Collection -/
def k3 : Class := { plain "java/util/Collection" (some 0) with
  accessFlags := 1537
  interfaces := #[2]
  cf := some (fileOf pool3 10 #[] #[] 1537 60 #[62] #[])
  fields := #[]
  methods := #[]
  instanceTypes := #[]
  staticTypes := #[]
  resolved := Array.replicate 115 none
  statics := none }

def pool4 : Array CpInfo := pool [(1, .methodref 2 3), (0, .class_ 4), (0, .nameAndType 5 6), (0, u "java/lang/Object"), (0, u "<init>"), (0, u "()V"), (1, .class_ 10), (1, u "java/util/AbstractCollection"), (0, u "size"), (0, u "()I"), (64, .class_ 78), (0, u "java/util/Collection")] 81

def k4c0 : Code := { maxStack := 1, maxLocals := 1, code := jdk_22_method_1_code, exceptionTable := #[], attributes := #[] }
def k4m0 : Method := { name := "<init>", desc := "()V", sig := { parameters := [], returnType := none }, accessFlags := 4, code := some k4c0 }
def k4m1 : Method := { name := "size", desc := "()I", sig := { parameters := [], returnType := some .int }, accessFlags := 1025, code := none }
/-- java/util/AbstractCollection -/
def k4 : Class := { plain "java/util/AbstractCollection" (some 0) with
  accessFlags := 1057
  interfaces := #[3]
  cf := some (fileOf pool4 8 #[] #[{ accessFlags := 4, nameIndex := 5, descriptorIndex := 6, attributes := #[] }, { accessFlags := 1025, nameIndex := 11, descriptorIndex := 12, attributes := #[] }] 1057 2 #[77] #[])
  fields := #[]
  methods := #[k4m0, k4m1]
  instanceTypes := #[]
  staticTypes := #[]
  resolved := Array.replicate 160 none
  statics := none }

def pool5 : Array CpInfo := pool [(8, .class_ 10), (1, u "java/util/SequencedCollection"), (15, .class_ 27), (0, u "java/lang/Object"), (0, .class_ 29), (0, u "java/util/Collection")] 27

/-- java/util/SequencedCollection -/
def k5 : Class := { plain "java/util/SequencedCollection" (some 0) with
  accessFlags := 1537
  interfaces := #[3]
  cf := some (fileOf pool5 8 #[] #[] 1537 26 #[28] #[])
  fields := #[]
  methods := #[]
  instanceTypes := #[]
  staticTypes := #[]
  resolved := Array.replicate 57 none
  statics := none }

def pool6 : Array CpInfo := pool [(8, .class_ 10), (1, u "java/util/List"), (37, u "<init>"), (11, u "add"), (3, u "(Ljava/lang/Object;)Z"), (10, u "get"), (0, u "(I)Ljava/lang/Object;"), (2, u "size"), (0, u "()I"), (7, u "of"), (7, .class_ 97), (0, u "java/util/ImmutableCollections$List12"), (2, .methodref 96 101), (0, .nameAndType 48 102), (0, u "(Ljava/lang/Object;Ljava/lang/Object;)V"), (0, .class_ 104), (0, u "java/lang/Object"), (15, .class_ 121), (0, u "java/util/SequencedCollection"), (1, u "iterator"), (0, u "()Ljava/util/Iterator;"), (76, u "(Ljava/lang/Object;Ljava/lang/Object;)Ljava/util/List;")] 49

def k6m0 : Method := { name := "size", desc := "()I", sig := { parameters := [], returnType := some .int }, accessFlags := 1025, code := none }
def k6m1 : Method := { name := "iterator", desc := "()Ljava/util/Iterator;", sig := { parameters := [], returnType := some (.object "java/util/Iterator") }, accessFlags := 1025, code := none }
def k6m2 : Method := { name := "add", desc := "(Ljava/lang/Object;)Z", sig := { parameters := [(.object "java/lang/Object")], returnType := some .boolean }, accessFlags := 1025, code := none }
def k6m3 : Method := { name := "get", desc := "(I)Ljava/lang/Object;", sig := { parameters := [.int], returnType := some (.object "java/lang/Object") }, accessFlags := 1025, code := none }
def k6c4 : Code := { maxStack := 4, maxLocals := 2, code := jdk_40_method_38_code, exceptionTable := #[], attributes := #[] }
def k6m4 : Method := { name := "of", desc := "(Ljava/lang/Object;Ljava/lang/Object;)Ljava/util/List;", sig := { parameters := [(.object "java/lang/Object"), (.object "java/lang/Object")], returnType := some (.object "java/util/List") }, accessFlags := 9, code := some k6c4 }
/-- java/util/List -/
def k6 : Class := { plain "java/util/List" (some 0) with
  accessFlags := 1537
  interfaces := #[5]
  cf := some (fileOf pool6 8 #[] #[{ accessFlags := 1025, nameIndex := 79, descriptorIndex := 80, attributes := #[] }, { accessFlags := 1025, nameIndex := 123, descriptorIndex := 124, attributes := #[] }, { accessFlags := 1025, nameIndex := 60, descriptorIndex := 64, attributes := #[] }, { accessFlags := 1025, nameIndex := 75, descriptorIndex := 76, attributes := #[] }, { accessFlags := 9, nameIndex := 88, descriptorIndex := 201, attributes := #[] }] 1537 103 #[120] #[])
  fields := #[]
  methods := #[k6m0, k6m1, k6m2, k6m3, k6m4]
  instanceTypes := #[]
  staticTypes := #[]
  resolved := Array.replicate 251 none
  statics := none }

def pool7 : Array CpInfo := pool [(1, .methodref 2 3), (0, .class_ 4), (0, .nameAndType 5 6), (0, u "java/util/AbstractCollection"), (0, u "<init>"), (0, u "()V"), (0, .fieldref 8 9), (0, .class_ 10), (0, .nameAndType 11 12), (0, u "java/util/AbstractList"), (0, u "modCount"), (0, u "I"), (64, .class_ 78), (0, u "java/util/AbstractList$Itr"), (3, .class_ 83), (0, u "java/util/AbstractList$ListItr"), (9, .class_ 94), (0, u "java/util/AbstractList$RandomAccessSubList"), (3, .class_ 99), (0, u "java/util/AbstractList$SubList"), (33, .class_ 134), (0, u "java/util/List"), (73, .class_ 209), (0, u "java/util/AbstractList$SubList$1"), (0, .class_ 211), (0, u "java/util/AbstractList$RandomAccessSpliterator")] 6

def k7c0 : Code := { maxStack := 2, maxLocals := 1, code := jdk_39_method_1_code, exceptionTable := #[], attributes := #[] }
def k7m0 : Method := { name := "<init>", desc := "()V", sig := { parameters := [], returnType := none }, accessFlags := 4, code := some k7c0 }
/-- java/util/AbstractList -/
def k7 : Class := { plain "java/util/AbstractList" (some 4) with
  accessFlags := 1057
  interfaces := #[6]
  cf := some (fileOf pool7 8 #[.nestMembers #[93, 98, 208, 210, 82, 77]] #[{ accessFlags := 4, nameIndex := 5, descriptorIndex := 6, attributes := #[] }] 1057 2 #[133] #[{ accessFlags := 132, nameIndex := 11, descriptorIndex := 12, attributes := #[] }])
  fields := #[{ name := "modCount", type := .int, accessFlags := 132, slot := 0, constantValue := 0 }]
  methods := #[k7m0]
  instanceTypes := #[.int]
  staticTypes := #[]
  resolved := Array.replicate 218 none
  statics := none }

def pool8 : Array CpInfo := pool [(1, .class_ 2), (0, u "java/util/RandomAccess"), (0, .class_ 4), (0, u "java/lang/Object")] 2

/-- java/util/RandomAccess -/
def k8 : Class := { plain "java/util/RandomAccess" (some 0) with
  accessFlags := 1537
  interfaces := #[]
  cf := some (fileOf pool8 1 #[] #[] 1537 3 #[] #[])
  fields := #[]
  methods := #[]
  instanceTypes := #[]
  staticTypes := #[]
  resolved := Array.replicate 7 none
  statics := none }

def pool9 : Array CpInfo := pool [(1, .class_ 2), (0, u "java/lang/Cloneable"), (0, .class_ 4), (0, u "java/lang/Object")] 2

/-- java/lang/Cloneable -/
def k9 : Class := { plain "java/lang/Cloneable" (some 0) with
  accessFlags := 1537
  interfaces := #[]
  cf := some (fileOf pool9 1 #[] #[] 1537 3 #[] #[])
  fields := #[]
  methods := #[]
  instanceTypes := #[]
  staticTypes := #[]
  resolved := Array.replicate 7 none
  statics := none }

def pool10 : Array CpInfo := pool [(1, .class_ 2), (0, u "java/io/Serializable"), (0, .class_ 4), (0, u "java/lang/Object")] 2

/-- java/io/Serializable -/
def k10 : Class := { plain "java/io/Serializable" (some 0) with
  accessFlags := 1537
  interfaces := #[]
  cf := some (fileOf pool10 1 #[] #[] 1537 3 #[] #[])
  fields := #[]
  methods := #[]
  instanceTypes := #[]
  staticTypes := #[]
  resolved := Array.replicate 7 none
  statics := none }

def pool11 : Array CpInfo := pool [(1, .methodref 2 3), (0, .class_ 4), (0, .nameAndType 5 6), (0, u "java/util/AbstractList"), (0, u "<init>"), (0, u "()V"), (0, .class_ 8), (0, u "java/lang/Object"), (0, .fieldref 10 11), (0, .class_ 12), (0, .nameAndType 13 14), (0, u "java/util/ArrayList"), (0, u "elementData"), (0, u "[Ljava/lang/Object;"), (2, u "EMPTY_ELEMENTDATA"), (21, .fieldref 10 40), (0, .nameAndType 41 14), (0, u "DEFAULTCAPACITY_EMPTY_ELEMENTDATA"), (5, u "()[Ljava/lang/Object;"), (0, .fieldref 10 49), (0, .nameAndType 50 51), (0, u "size"), (0, u "I"), (11, .fieldref 10 64), (0, .nameAndType 65 51), (0, u "modCount"), (3, .methodref 10 70), (0, .nameAndType 71 72), (0, u "grow"), (0, u "(I)[Ljava/lang/Object;"), (6, .methodref 80 81), (0, .class_ 82), (0, .nameAndType 83 84), (0, u "java/lang/Math"), (0, u "max"), (0, u "(II)I"), (11, u "(Ljava/lang/Object;)Z"), (21, .methodref 119 120), (0, .class_ 121), (0, .nameAndType 122 84), (0, u "java/util/Objects"), (0, u "checkIndex"), (0, .methodref 10 124), (0, .nameAndType 13 125), (0, u "(I)Ljava/lang/Object;"), (3, .methodref 10 130), (0, .nameAndType 71 47), (0, .methodref 10 132), (0, .nameAndType 133 134), (0, u "add"), (0, u "(Ljava/lang/Object;[Ljava/lang/Object;I)V"), (13, .class_ 149), (0, u "java/util/List"), (16, u "iterator"), (0, u "()Ljava/util/Iterator;"), (18, u "()I"), (75, .class_ 263), (0, u "java/util/ArrayList$ListItr"), (3, .class_ 268), (0, u "java/util/ArrayList$Itr"), (0, .methodref 267 270), (0, .nameAndType 5 271), (0, u "(Ljava/util/ArrayList;)V"), (4, .class_ 277), (0, u "java/util/ArrayList$SubList"), (12, .class_ 291), (0, u "java/util/ArrayList$ArrayListSpliterator"), (37, .class_ 330), (0, u "java/util/RandomAccess"), (0, .class_ 332), (0, u "java/lang/Cloneable"), (0, .class_ 334), (0, u "java/io/Serializable"), (0, u "serialVersionUID"), (0, u "J"), (3, u "DEFAULT_CAPACITY"), (40, u "get"), (118, .class_ 501), (0, u "java/util/ArrayList$SubList$2"), (0, .class_ 503), (0, u "java/util/ArrayList$SubList$1")] 5

def k11c0 : Code := { maxStack := 2, maxLocals := 1, code := jdk_38_method_2_code, exceptionTable := #[], attributes := #[] }
def k11m0 : Method := { name := "<init>", desc := "()V", sig := { parameters := [], returnType := none }, accessFlags := 1, code := some k11c0 }
def k11c1 : Code := { maxStack := 4, maxLocals := 4, code := jdk_38_method_6_code, exceptionTable := #[], attributes := #[] }
def k11m1 : Method := { name := "grow", desc := "(I)[Ljava/lang/Object;", sig := { parameters := [.int], returnType := some (.array (.object "java/lang/Object")) }, accessFlags := 2, code := some k11c1 }
def k11c2 : Code := { maxStack := 3, maxLocals := 1, code := jdk_38_method_7_code, exceptionTable := #[], attributes := #[] }
def k11m2 : Method := { name := "grow", desc := "()[Ljava/lang/Object;", sig := { parameters := [], returnType := some (.array (.object "java/lang/Object")) }, accessFlags := 2, code := some k11c2 }
def k11c3 : Code := { maxStack := 1, maxLocals := 1, code := jdk_38_method_8_code, exceptionTable := #[], attributes := #[] }
def k11m3 : Method := { name := "size", desc := "()I", sig := { parameters := [], returnType := some .int }, accessFlags := 1, code := some k11c3 }
def k11c4 : Code := { maxStack := 2, maxLocals := 2, code := jdk_38_method_18_code, exceptionTable := #[], attributes := #[] }
def k11m4 : Method := { name := "elementData", desc := "(I)Ljava/lang/Object;", sig := { parameters := [.int], returnType := some (.object "java/lang/Object") }, accessFlags := 0, code := some k11c4 }
def k11c5 : Code := { maxStack := 2, maxLocals := 2, code := jdk_38_method_20_code, exceptionTable := #[], attributes := #[] }
def k11m5 : Method := { name := "get", desc := "(I)Ljava/lang/Object;", sig := { parameters := [.int], returnType := some (.object "java/lang/Object") }, accessFlags := 1, code := some k11c5 }
def k11c6 : Code := { maxStack := 3, maxLocals := 4, code := jdk_38_method_24_code, exceptionTable := #[], attributes := #[] }
def k11m6 : Method := { name := "add", desc := "(Ljava/lang/Object;[Ljava/lang/Object;I)V", sig := { parameters := [(.object "java/lang/Object"), (.array (.object "java/lang/Object")), .int], returnType := none }, accessFlags := 2, code := some k11c6 }
def k11c7 : Code := { maxStack := 4, maxLocals := 2, code := jdk_38_method_25_code, exceptionTable := #[], attributes := #[] }
def k11m7 : Method := { name := "add", desc := "(Ljava/lang/Object;)Z", sig := { parameters := [(.object "java/lang/Object")], returnType := some .boolean }, accessFlags := 1, code := some k11c7 }
def k11c8 : Code := { maxStack := 3, maxLocals := 1, code := jdk_38_method_55_code, exceptionTable := #[], attributes := #[] }
def k11m8 : Method := { name := "iterator", desc := "()Ljava/util/Iterator;", sig := { parameters := [], returnType := some (.object "java/util/Iterator") }, accessFlags := 1, code := some k11c8 }
/-- java/util/ArrayList -/
def k11 : Class := { plain "java/util/ArrayList" (some 7) with
  accessFlags := 33
  interfaces := #[6, 8, 9, 10]
  cf := some (fileOf pool11 10 #[.nestMembers #[290, 276, 500, 502, 262, 267]] #[{ accessFlags := 1, nameIndex := 5, descriptorIndex := 6, attributes := #[] }, { accessFlags := 2, nameIndex := 71, descriptorIndex := 72, attributes := #[] }, { accessFlags := 2, nameIndex := 71, descriptorIndex := 47, attributes := #[] }, { accessFlags := 1, nameIndex := 50, descriptorIndex := 186, attributes := #[] }, { accessFlags := 0, nameIndex := 13, descriptorIndex := 125, attributes := #[] }, { accessFlags := 1, nameIndex := 381, descriptorIndex := 125, attributes := #[] }, { accessFlags := 2, nameIndex := 133, descriptorIndex := 134, attributes := #[] }, { accessFlags := 1, nameIndex := 133, descriptorIndex := 96, attributes := #[] }, { accessFlags := 1, nameIndex := 166, descriptorIndex := 167, attributes := #[] }] 33 2 #[148, 329, 331, 333] #[{ accessFlags := 26, nameIndex := 335, descriptorIndex := 336, attributes := #[] }, { accessFlags := 26, nameIndex := 340, descriptorIndex := 51, attributes := #[] }, { accessFlags := 26, nameIndex := 17, descriptorIndex := 14, attributes := #[] }, { accessFlags := 26, nameIndex := 41, descriptorIndex := 14, attributes := #[] }, { accessFlags := 128, nameIndex := 13, descriptorIndex := 14, attributes := #[] }, { accessFlags := 2, nameIndex := 50, descriptorIndex := 51, attributes := #[] }])
  fields := #[{ name := "serialVersionUID", type := .long, accessFlags := 26, slot := 0, constantValue := 0 }, { name := "DEFAULT_CAPACITY", type := .int, accessFlags := 26, slot := 1, constantValue := 0 }, { name := "EMPTY_ELEMENTDATA", type := (.array (.object "java/lang/Object")), accessFlags := 26, slot := 2, constantValue := 0 }, { name := "DEFAULTCAPACITY_EMPTY_ELEMENTDATA", type := (.array (.object "java/lang/Object")), accessFlags := 26, slot := 3, constantValue := 0 }, { name := "elementData", type := (.array (.object "java/lang/Object")), accessFlags := 128, slot := 1, constantValue := 0 }, { name := "size", type := .int, accessFlags := 2, slot := 2, constantValue := 0 }]
  methods := #[k11m0, k11m1, k11m2, k11m3, k11m4, k11m5, k11m6, k11m7, k11m8]
  instanceTypes := #[.int, (.array (.object "java/lang/Object")), .int]
  staticTypes := #[.long, .int, (.array (.object "java/lang/Object")), (.array (.object "java/lang/Object"))]
  resolved := Array.replicate 509 none
  statics := some 0 }

def pool12 : Array CpInfo := pool [(1, .methodref 2 3), (0, .class_ 4), (0, .nameAndType 5 6), (0, u "java/lang/Object"), (0, u "<init>"), (0, u "()V"), (0, .class_ 8), (0, u "java/lang/Record")] 13

def k12c0 : Code := { maxStack := 1, maxLocals := 1, code := jdk_30_method_1_code, exceptionTable := #[], attributes := #[] }
def k12m0 : Method := { name := "<init>", desc := "()V", sig := { parameters := [], returnType := none }, accessFlags := 4, code := some k12c0 }
/-- java/lang/Record -/
def k12 : Class := { plain "java/lang/Record" (some 0) with
  accessFlags := 1057
  interfaces := #[]
  cf := some (fileOf pool12 7 #[] #[{ accessFlags := 4, nameIndex := 5, descriptorIndex := 6, attributes := #[] }] 1057 2 #[] #[])
  fields := #[]
  methods := #[k12m0]
  instanceTypes := #[]
  staticTypes := #[]
  resolved := Array.replicate 22 none
  statics := none }

def pool13 : Array CpInfo := pool [(1, .methodref 2 3), (0, .class_ 4), (0, .nameAndType 5 6), (0, u "java/lang/Record"), (0, u "<init>"), (0, u "()V"), (0, .fieldref 8 9), (0, .class_ 10), (0, .nameAndType 11 12), (0, u "com/example/lanewright/lanewright/Network$Arc"), (0, u "tail"), (0, u "I"), (0, .fieldref 8 14), (0, .nameAndType 15 12), (0, u "head"), (0, .fieldref 8 17), (0, .nameAndType 18 19), (0, u "capacity"), (0, u "D"), (0, .fieldref 8 21), (0, .nameAndType 22 19), (0, u "freeFlowTime"), (0, .fieldref 8 24), (0, .nameAndType 25 19), (0, u "b"), (0, .fieldref 8 27), (0, .nameAndType 28 19), (0, u "power"), (12, u "(IIDDDD)V"), (4, u "()I"), (1, u "()D"), (3, .class_ 53), (0, u "com/example/lanewright/lanewright/Network")] 24

def k13c0 : Code := { maxStack := 3, maxLocals := 11, code := prog_30_method_1_code, exceptionTable := #[], attributes := #[] }
def k13m0 : Method := { name := "<init>", desc := "(IIDDDD)V", sig := { parameters := [.int, .int, .double, .double, .double, .double], returnType := none }, accessFlags := 0, code := some k13c0 }
def k13c1 : Code := { maxStack := 1, maxLocals := 1, code := prog_30_method_5_code, exceptionTable := #[], attributes := #[] }
def k13m1 : Method := { name := "tail", desc := "()I", sig := { parameters := [], returnType := some .int }, accessFlags := 1, code := some k13c1 }
def k13c2 : Code := { maxStack := 1, maxLocals := 1, code := prog_30_method_6_code, exceptionTable := #[], attributes := #[] }
def k13m2 : Method := { name := "head", desc := "()I", sig := { parameters := [], returnType := some .int }, accessFlags := 1, code := some k13c2 }
def k13c3 : Code := { maxStack := 2, maxLocals := 1, code := prog_30_method_7_code, exceptionTable := #[], attributes := #[] }
def k13m3 : Method := { name := "capacity", desc := "()D", sig := { parameters := [], returnType := some .double }, accessFlags := 1, code := some k13c3 }
def k13c4 : Code := { maxStack := 2, maxLocals := 1, code := prog_30_method_8_code, exceptionTable := #[], attributes := #[] }
def k13m4 : Method := { name := "freeFlowTime", desc := "()D", sig := { parameters := [], returnType := some .double }, accessFlags := 1, code := some k13c4 }
def k13c5 : Code := { maxStack := 2, maxLocals := 1, code := prog_30_method_9_code, exceptionTable := #[], attributes := #[] }
def k13m5 : Method := { name := "b", desc := "()D", sig := { parameters := [], returnType := some .double }, accessFlags := 1, code := some k13c5 }
def k13c6 : Code := { maxStack := 2, maxLocals := 1, code := prog_30_method_10_code, exceptionTable := #[], attributes := #[] }
def k13m6 : Method := { name := "power", desc := "()D", sig := { parameters := [], returnType := some .double }, accessFlags := 1, code := some k13c6 }
/-- com/example/lanewright/lanewright/Network$Arc -/
def k13 : Class := { plain "com/example/lanewright/lanewright/Network$Arc" (some 12) with
  accessFlags := 48
  interfaces := #[]
  cf := some (fileOf pool13 8 #[.nestHost 52] #[{ accessFlags := 0, nameIndex := 5, descriptorIndex := 41, attributes := #[] }, { accessFlags := 1, nameIndex := 11, descriptorIndex := 46, attributes := #[] }, { accessFlags := 1, nameIndex := 15, descriptorIndex := 46, attributes := #[] }, { accessFlags := 1, nameIndex := 18, descriptorIndex := 48, attributes := #[] }, { accessFlags := 1, nameIndex := 22, descriptorIndex := 48, attributes := #[] }, { accessFlags := 1, nameIndex := 25, descriptorIndex := 48, attributes := #[] }, { accessFlags := 1, nameIndex := 28, descriptorIndex := 48, attributes := #[] }] 48 2 #[] #[{ accessFlags := 18, nameIndex := 11, descriptorIndex := 12, attributes := #[] }, { accessFlags := 18, nameIndex := 15, descriptorIndex := 12, attributes := #[] }, { accessFlags := 18, nameIndex := 18, descriptorIndex := 19, attributes := #[] }, { accessFlags := 18, nameIndex := 22, descriptorIndex := 19, attributes := #[] }, { accessFlags := 18, nameIndex := 25, descriptorIndex := 19, attributes := #[] }, { accessFlags := 18, nameIndex := 28, descriptorIndex := 19, attributes := #[] }])
  fields := #[{ name := "tail", type := .int, accessFlags := 18, slot := 0, constantValue := 0 }, { name := "head", type := .int, accessFlags := 18, slot := 1, constantValue := 0 }, { name := "capacity", type := .double, accessFlags := 18, slot := 2, constantValue := 0 }, { name := "freeFlowTime", type := .double, accessFlags := 18, slot := 3, constantValue := 0 }, { name := "b", type := .double, accessFlags := 18, slot := 4, constantValue := 0 }, { name := "power", type := .double, accessFlags := 18, slot := 5, constantValue := 0 }]
  methods := #[k13m0, k13m1, k13m2, k13m3, k13m4, k13m5, k13m6]
  instanceTypes := #[.int, .int, .double, .double, .double, .double]
  staticTypes := #[]
  resolved := Array.replicate 78 none
  statics := none }

def pool14 : Array CpInfo := pool [(1, .class_ 2), (0, u "java/lang/Math"), (1, .class_ 6), (1, u "java/lang/Object"), (0, u "<init>"), (0, u "()V"), (89, .class_ 100), (1, u "java/lang/Math$RandomNumberGeneratorHolder"), (71, u "negativeZeroFloatBits"), (0, u "J"), (2, u "negativeZeroDoubleBits"), (21, u "max"), (2, u "min"), (43, u "$assertionsDisabled"), (0, u "Z"), (88, u "(II)I"), (2, u "twoToTheDoubleScaleDown"), (0, u "D"), (4, u "twoToTheDoubleScaleUp"), (9, u "E"), (3, u "PI"), (2, u "TAU"), (2, u "DEGREES_TO_RADIANS"), (0, u "RADIANS_TO_DEGREES")] 94

def k14m0 : Method := { name := "<init>", desc := "()V", sig := { parameters := [], returnType := none }, accessFlags := 2, code := none }
def k14c1 : Code := { maxStack := 2, maxLocals := 2, code := jdk_29_method_65_code, exceptionTable := #[], attributes := #[] }
def k14m1 : Method := { name := "max", desc := "(II)I", sig := { parameters := [.int, .int], returnType := some .int }, accessFlags := 9, code := some k14c1 }
def k14c2 : Code := { maxStack := 2, maxLocals := 2, code := jdk_29_method_69_code, exceptionTable := #[], attributes := #[] }
def k14m2 : Method := { name := "min", desc := "(II)I", sig := { parameters := [.int, .int], returnType := some .int }, accessFlags := 9, code := some k14c2 }
/-- java/lang/Math -/
def k14 : Class := { plain "java/lang/Math" (some 0) with
  accessFlags := 49
  interfaces := #[]
  cf := some (fileOf pool14 1 #[.nestMembers #[98]] #[{ accessFlags := 2, nameIndex := 7, descriptorIndex := 8, attributes := #[] }, { accessFlags := 9, nameIndex := 198, descriptorIndex := 335, attributes := #[] }, { accessFlags := 9, nameIndex := 201, descriptorIndex := 335, attributes := #[] }] 49 4 #[] #[{ accessFlags := 25, nameIndex := 354, descriptorIndex := 339, attributes := #[] }, { accessFlags := 25, nameIndex := 358, descriptorIndex := 339, attributes := #[] }, { accessFlags := 25, nameIndex := 361, descriptorIndex := 339, attributes := #[] }, { accessFlags := 26, nameIndex := 364, descriptorIndex := 339, attributes := #[] }, { accessFlags := 26, nameIndex := 365, descriptorIndex := 339, attributes := #[] }, { accessFlags := 26, nameIndex := 172, descriptorIndex := 173, attributes := #[] }, { accessFlags := 26, nameIndex := 176, descriptorIndex := 173, attributes := #[] }, { accessFlags := 8, nameIndex := 344, descriptorIndex := 339, attributes := #[] }, { accessFlags := 8, nameIndex := 338, descriptorIndex := 339, attributes := #[] }, { accessFlags := 4120, nameIndex := 245, descriptorIndex := 246, attributes := #[] }])
  fields := #[{ name := "E", type := .double, accessFlags := 25, slot := 0, constantValue := 0 }, { name := "PI", type := .double, accessFlags := 25, slot := 1, constantValue := 0 }, { name := "TAU", type := .double, accessFlags := 25, slot := 2, constantValue := 0 }, { name := "DEGREES_TO_RADIANS", type := .double, accessFlags := 26, slot := 3, constantValue := 0 }, { name := "RADIANS_TO_DEGREES", type := .double, accessFlags := 26, slot := 4, constantValue := 0 }, { name := "negativeZeroFloatBits", type := .long, accessFlags := 26, slot := 5, constantValue := 0 }, { name := "negativeZeroDoubleBits", type := .long, accessFlags := 26, slot := 6, constantValue := 0 }, { name := "twoToTheDoubleScaleUp", type := .double, accessFlags := 8, slot := 7, constantValue := 0 }, { name := "twoToTheDoubleScaleDown", type := .double, accessFlags := 8, slot := 8, constantValue := 0 }, { name := "$assertionsDisabled", type := .boolean, accessFlags := 4120, slot := 9, constantValue := 0 }]
  methods := #[k14m0, k14m1, k14m2]
  instanceTypes := #[]
  staticTypes := #[.double, .double, .double, .double, .double, .long, .long, .double, .double, .boolean]
  resolved := Array.replicate 460 none
  statics := none }

def pool15 : Array CpInfo := pool [(1, .methodref 2 3), (0, .class_ 4), (0, .nameAndType 5 6), (0, u "java/lang/Object"), (0, u "<init>"), (0, u "()V"), (0, .fieldref 8 9), (0, .class_ 10), (0, .nameAndType 11 12), (0, u "com/example/lanewright/lanewright/Network"), (0, u "nodeCount"), (0, u "I"), (0, .fieldref 8 14), (0, .nameAndType 15 12), (0, u "firstThruNode"), (0, .interfaceMethodref 17 18), (0, .class_ 19), (0, .nameAndType 20 21), (0, u "java/util/List"), (0, u "size"), (0, u "()I"), (0, .fieldref 8 23), (0, .nameAndType 24 25), (0, u "tails"), (0, u "[I"), (0, .fieldref 8 27), (0, .nameAndType 28 25), (0, u "heads"), (0, .fieldref 8 30), (0, .nameAndType 31 32), (0, u "capacities"), (0, u "[D"), (0, .fieldref 8 34), (0, .nameAndType 35 32), (0, u "freeFlowTimes"), (0, .fieldref 8 37), (0, .nameAndType 38 32), (0, u "bs"), (0, .fieldref 8 40), (0, .nameAndType 41 32), (0, u "powers"), (0, .fieldref 8 43), (0, .nameAndType 44 25), (0, u "firstOut"), (0, .interfaceMethodref 17 46), (0, .nameAndType 47 48), (0, u "get"), (0, u "(I)Ljava/lang/Object;"), (0, .class_ 50), (0, u "com/example/lanewright/lanewright/Network$Arc"), (0, .methodref 49 52), (0, .nameAndType 53 21), (0, u "tail"), (0, .methodref 49 55), (0, .nameAndType 56 21), (0, u "head"), (0, .methodref 49 58), (0, .nameAndType 59 60), (0, u "capacity"), (0, u "()D"), (0, .methodref 49 62), (0, .nameAndType 63 60), (0, u "freeFlowTime"), (0, .methodref 49 65), (0, .nameAndType 66 60), (0, u "b"), (0, .methodref 49 68), (0, .nameAndType 69 60), (0, u "power"), (0, .fieldref 8 71), (0, .nameAndType 72 25), (0, u "outArcs"), (0, .methodref 74 75), (0, .class_ 25), (0, .nameAndType 76 77), (0, u "clone"), (0, u "()Ljava/lang/Object;"), (13, u "(IILjava/util/List;)V"), (6, u "(I)I"), (1, u "endOut"), (0, u "outArc")] 10

def k15c0 : Code := { maxStack := 6, maxLocals := 7, code := prog_29_method_1_code, exceptionTable := #[], attributes := #[] }
def k15m0 : Method := { name := "<init>", desc := "(IILjava/util/List;)V", sig := { parameters := [.int, .int, (.object "java/util/List")], returnType := none }, accessFlags := 0, code := some k15c0 }
def k15c1 : Code := { maxStack := 1, maxLocals := 1, code := prog_29_method_2_code, exceptionTable := #[], attributes := #[] }
def k15m1 : Method := { name := "nodeCount", desc := "()I", sig := { parameters := [], returnType := some .int }, accessFlags := 0, code := some k15c1 }
def k15c2 : Code := { maxStack := 1, maxLocals := 1, code := prog_29_method_3_code, exceptionTable := #[], attributes := #[] }
def k15m2 : Method := { name := "firstThruNode", desc := "()I", sig := { parameters := [], returnType := some .int }, accessFlags := 0, code := some k15c2 }
def k15c3 : Code := { maxStack := 2, maxLocals := 2, code := prog_29_method_6_code, exceptionTable := #[], attributes := #[] }
def k15m3 : Method := { name := "head", desc := "(I)I", sig := { parameters := [.int], returnType := some .int }, accessFlags := 0, code := some k15c3 }
def k15c4 : Code := { maxStack := 2, maxLocals := 2, code := prog_29_method_8_code, exceptionTable := #[], attributes := #[] }
def k15m4 : Method := { name := "firstOut", desc := "(I)I", sig := { parameters := [.int], returnType := some .int }, accessFlags := 0, code := some k15c4 }
def k15c5 : Code := { maxStack := 3, maxLocals := 2, code := prog_29_method_9_code, exceptionTable := #[], attributes := #[] }
def k15m5 : Method := { name := "endOut", desc := "(I)I", sig := { parameters := [.int], returnType := some .int }, accessFlags := 0, code := some k15c5 }
def k15c6 : Code := { maxStack := 2, maxLocals := 2, code := prog_29_method_10_code, exceptionTable := #[], attributes := #[] }
def k15m6 : Method := { name := "outArc", desc := "(I)I", sig := { parameters := [.int], returnType := some .int }, accessFlags := 0, code := some k15c6 }
/-- com/example/lanewright/lanewright/Network -/
def k15 : Class := { plain "com/example/lanewright/lanewright/Network" (some 0) with
  accessFlags := 48
  interfaces := #[]
  cf := some (fileOf pool15 8 #[.nestMembers #[49]] #[{ accessFlags := 0, nameIndex := 5, descriptorIndex := 91, attributes := #[] }, { accessFlags := 0, nameIndex := 11, descriptorIndex := 21, attributes := #[] }, { accessFlags := 0, nameIndex := 15, descriptorIndex := 21, attributes := #[] }, { accessFlags := 0, nameIndex := 56, descriptorIndex := 98, attributes := #[] }, { accessFlags := 0, nameIndex := 44, descriptorIndex := 98, attributes := #[] }, { accessFlags := 0, nameIndex := 100, descriptorIndex := 98, attributes := #[] }, { accessFlags := 0, nameIndex := 101, descriptorIndex := 98, attributes := #[] }] 48 2 #[] #[{ accessFlags := 18, nameIndex := 11, descriptorIndex := 12, attributes := #[] }, { accessFlags := 18, nameIndex := 15, descriptorIndex := 12, attributes := #[] }, { accessFlags := 18, nameIndex := 24, descriptorIndex := 25, attributes := #[] }, { accessFlags := 18, nameIndex := 28, descriptorIndex := 25, attributes := #[] }, { accessFlags := 18, nameIndex := 31, descriptorIndex := 32, attributes := #[] }, { accessFlags := 18, nameIndex := 35, descriptorIndex := 32, attributes := #[] }, { accessFlags := 18, nameIndex := 38, descriptorIndex := 32, attributes := #[] }, { accessFlags := 18, nameIndex := 41, descriptorIndex := 32, attributes := #[] }, { accessFlags := 18, nameIndex := 44, descriptorIndex := 25, attributes := #[] }, { accessFlags := 18, nameIndex := 72, descriptorIndex := 25, attributes := #[] }])
  fields := #[{ name := "nodeCount", type := .int, accessFlags := 18, slot := 0, constantValue := 0 }, { name := "firstThruNode", type := .int, accessFlags := 18, slot := 1, constantValue := 0 }, { name := "tails", type := (.array .int), accessFlags := 18, slot := 2, constantValue := 0 }, { name := "heads", type := (.array .int), accessFlags := 18, slot := 3, constantValue := 0 }, { name := "capacities", type := (.array .double), accessFlags := 18, slot := 4, constantValue := 0 }, { name := "freeFlowTimes", type := (.array .double), accessFlags := 18, slot := 5, constantValue := 0 }, { name := "bs", type := (.array .double), accessFlags := 18, slot := 6, constantValue := 0 }, { name := "powers", type := (.array .double), accessFlags := 18, slot := 7, constantValue := 0 }, { name := "firstOut", type := (.array .int), accessFlags := 18, slot := 8, constantValue := 0 }, { name := "outArcs", type := (.array .int), accessFlags := 18, slot := 9, constantValue := 0 }]
  methods := #[k15m0, k15m1, k15m2, k15m3, k15m4, k15m5, k15m6]
  instanceTypes := #[.int, .int, (.array .int), (.array .int), (.array .double), (.array .double), (.array .double), (.array .double), (.array .int), (.array .int)]
  staticTypes := #[]
  resolved := Array.replicate 112 none
  statics := none }

def pool16 : Array CpInfo := pool [(2, .class_ 4), (1, u "java/lang/Object"), (0, u "<init>"), (0, u "()V"), (35, .class_ 44), (1, u "java/util/Objects"), (0, u "requireNonNull"), (0, u "(Ljava/lang/Object;)Ljava/lang/Object;"), (58, .methodref 106 107), (0, .class_ 108), (0, .nameAndType 109 110), (0, u "jdk/internal/util/Preconditions"), (0, u "checkIndex"), (0, u "(IILjava/util/function/BiFunction;)I"), (60, u "(II)I")] 12

def k16m0 : Method := { name := "<init>", desc := "()V", sig := { parameters := [], returnType := none }, accessFlags := 2, code := none }
def k16c1 : Code := { maxStack := 2, maxLocals := 1, code := jdk_31_method_10_code, exceptionTable := #[], attributes := #[] }
def k16m1 : Method := { name := "requireNonNull", desc := "(Ljava/lang/Object;)Ljava/lang/Object;", sig := { parameters := [(.object "java/lang/Object")], returnType := some (.object "java/lang/Object") }, accessFlags := 9, code := some k16c1 }
def k16c2 : Code := { maxStack := 3, maxLocals := 2, code := jdk_31_method_17_code, exceptionTable := #[], attributes := #[] }
def k16m2 : Method := { name := "checkIndex", desc := "(II)I", sig := { parameters := [.int, .int], returnType := some .int }, accessFlags := 9, code := some k16c2 }
/-- java/util/Objects -/
def k16 : Class := { plain "java/util/Objects" (some 0) with
  accessFlags := 49
  interfaces := #[]
  cf := some (fileOf pool16 42 #[] #[{ accessFlags := 2, nameIndex := 5, descriptorIndex := 6, attributes := #[] }, { accessFlags := 9, nameIndex := 45, descriptorIndex := 46, attributes := #[] }, { accessFlags := 9, nameIndex := 109, descriptorIndex := 171, attributes := #[] }] 49 2 #[] #[])
  fields := #[]
  methods := #[k16m0, k16m1, k16m2]
  instanceTypes := #[]
  staticTypes := #[]
  resolved := Array.replicate 184 none
  statics := none }

def pool17 : Array CpInfo := pool [(2, .class_ 4), (1, u "java/lang/Object"), (0, u "<init>"), (0, u "()V"), (17, .class_ 26), (1, u "jdk/internal/util/Preconditions"), (6, u "checkIndex"), (21, .class_ 56), (0, u "jdk/internal/util/Preconditions$4"), (57, .class_ 115), (0, u "jdk/internal/util/Preconditions$1"), (7, u "SIOOBE_FORMATTER"), (0, u "Ljava/util/function/BiFunction;"), (0, .class_ 126), (0, u "jdk/internal/util/Preconditions$2"), (3, u "AIOOBE_FORMATTER"), (0, .class_ 132), (0, u "jdk/internal/util/Preconditions$3"), (3, u "IOOBE_FORMATTER"), (41, u "(IILjava/util/function/BiFunction;)I")] 15

def k17m0 : Method := { name := "<init>", desc := "()V", sig := { parameters := [], returnType := none }, accessFlags := 1, code := none }
def k17c1 : Code := { maxStack := 3, maxLocals := 3, code := jdk_41_method_11_code, exceptionTable := #[], attributes := #[] }
def k17m1 : Method := { name := "checkIndex", desc := "(IILjava/util/function/BiFunction;)I", sig := { parameters := [.int, .int, (.object "java/util/function/BiFunction")], returnType := some .int }, accessFlags := 9, code := some k17c1 }
/-- jdk/internal/util/Preconditions -/
def k17 : Class := { plain "jdk/internal/util/Preconditions" (some 0) with
  accessFlags := 33
  interfaces := #[]
  cf := some (fileOf pool17 24 #[.nestMembers #[55, 131, 125, 114]] #[{ accessFlags := 1, nameIndex := 5, descriptorIndex := 6, attributes := #[] }, { accessFlags := 9, nameIndex := 33, descriptorIndex := 178, attributes := #[] }] 33 2 #[] #[{ accessFlags := 25, nameIndex := 123, descriptorIndex := 124, attributes := #[] }, { accessFlags := 25, nameIndex := 130, descriptorIndex := 124, attributes := #[] }, { accessFlags := 25, nameIndex := 136, descriptorIndex := 124, attributes := #[] }])
  fields := #[{ name := "SIOOBE_FORMATTER", type := (.object "java/util/function/BiFunction"), accessFlags := 25, slot := 0, constantValue := 0 }, { name := "AIOOBE_FORMATTER", type := (.object "java/util/function/BiFunction"), accessFlags := 25, slot := 1, constantValue := 0 }, { name := "IOOBE_FORMATTER", type := (.object "java/util/function/BiFunction"), accessFlags := 25, slot := 2, constantValue := 0 }]
  methods := #[k17m0, k17m1]
  instanceTypes := #[]
  staticTypes := #[(.object "java/util/function/BiFunction"), (.object "java/util/function/BiFunction"), (.object "java/util/function/BiFunction")]
  resolved := Array.replicate 194 none
  statics := none }

def pool18 : Array CpInfo := pool [(1, .methodref 2 3), (0, .class_ 4), (0, .nameAndType 5 6), (0, u "java/lang/Record"), (0, u "<init>"), (0, u "()V"), (0, .fieldref 8 9), (0, .class_ 10), (0, .nameAndType 11 12), (0, u "com/example/lanewright/lanewright/TripTable$Pair"), (0, u "origin"), (0, u "I"), (0, .fieldref 8 14), (0, .nameAndType 15 12), (0, u "destination"), (12, u "(II)V"), (4, u "()I"), (4, .class_ 39), (0, u "com/example/lanewright/lanewright/TripTable")] 20

def k18c0 : Code := { maxStack := 2, maxLocals := 3, code := prog_73_method_1_code, exceptionTable := #[], attributes := #[] }
def k18m0 : Method := { name := "<init>", desc := "(II)V", sig := { parameters := [.int, .int], returnType := none }, accessFlags := 0, code := some k18c0 }
def k18c1 : Code := { maxStack := 1, maxLocals := 1, code := prog_73_method_5_code, exceptionTable := #[], attributes := #[] }
def k18m1 : Method := { name := "origin", desc := "()I", sig := { parameters := [], returnType := some .int }, accessFlags := 1, code := some k18c1 }
def k18c2 : Code := { maxStack := 1, maxLocals := 1, code := prog_73_method_6_code, exceptionTable := #[], attributes := #[] }
def k18m2 : Method := { name := "destination", desc := "()I", sig := { parameters := [], returnType := some .int }, accessFlags := 1, code := some k18c2 }
/-- com/example/lanewright/lanewright/TripTable$Pair -/
def k18 : Class := { plain "com/example/lanewright/lanewright/TripTable$Pair" (some 12) with
  accessFlags := 48
  interfaces := #[]
  cf := some (fileOf pool18 8 #[.nestHost 38] #[{ accessFlags := 0, nameIndex := 5, descriptorIndex := 28, attributes := #[] }, { accessFlags := 1, nameIndex := 11, descriptorIndex := 33, attributes := #[] }, { accessFlags := 1, nameIndex := 15, descriptorIndex := 33, attributes := #[] }] 48 2 #[] #[{ accessFlags := 18, nameIndex := 11, descriptorIndex := 12, attributes := #[] }, { accessFlags := 18, nameIndex := 15, descriptorIndex := 12, attributes := #[] }])
  fields := #[{ name := "origin", type := .int, accessFlags := 18, slot := 0, constantValue := 0 }, { name := "destination", type := .int, accessFlags := 18, slot := 1, constantValue := 0 }]
  methods := #[k18m0, k18m1, k18m2]
  instanceTypes := #[.int, .int]
  staticTypes := #[]
  resolved := Array.replicate 60 none
  statics := none }

def pool19 : Array CpInfo := pool [(1, .methodref 2 3), (0, .class_ 4), (0, .nameAndType 5 6), (0, u "java/lang/Object"), (0, u "<init>"), (0, u "()V"), (0, .methodref 8 9), (0, .class_ 10), (0, .nameAndType 11 12), (0, u "com/example/lanewright/lanewright/Network"), (0, u "nodeCount"), (0, u "()I"), (0, .fieldref 14 15), (0, .class_ 16), (0, .nameAndType 17 18), (0, u "com/example/lanewright/lanewright/RouteTimes"), (0, u "rows"), (0, u "[I"), (0, .methodref 20 21), (0, .class_ 22), (0, .nameAndType 23 24), (0, u "java/util/Arrays"), (0, u "fill"), (0, u "([II)V"), (0, .interfaceMethodref 26 27), (0, .class_ 28), (0, .nameAndType 29 30), (0, u "java/util/List"), (0, u "iterator"), (0, u "()Ljava/util/Iterator;"), (0, .interfaceMethodref 32 33), (0, .class_ 34), (0, .nameAndType 35 36), (0, u "java/util/Iterator"), (0, u "hasNext"), (0, u "()Z"), (0, .interfaceMethodref 32 38), (0, .nameAndType 39 40), (0, u "next"), (0, u "()Ljava/lang/Object;"), (0, .class_ 42), (0, u "com/example/lanewright/lanewright/TripTable$Pair"), (0, .methodref 41 44), (0, .nameAndType 45 12), (0, u "origin"), (0, .methodref 47 48), (0, .class_ 49), (0, .nameAndType 50 51), (0, u "java/lang/Integer"), (0, u "valueOf"), (0, u "(I)Ljava/lang/Integer;"), (0, .methodref 41 53), (0, .nameAndType 54 12), (0, u "destination"), (0, .interfaceMethodref 26 56), (0, .nameAndType 57 58), (0, u "of"), (0, u "(Ljava/lang/Object;Ljava/lang/Object;)Ljava/util/List;"), (0, .methodref 47 60), (0, .nameAndType 61 12), (0, u "intValue"), (0, .class_ 63), (0, u "[[D"), (0, .fieldref 14 65), (0, .nameAndType 66 63), (0, u "times"), (0, .class_ 68), (0, u "com/example/lanewright/lanewright/ShortestPathTree"), (0, .methodref 67 70), (0, .nameAndType 5 71), (0, u "(Lcom/example/lanewright/lanewright/Network;)V"), (0, .methodref 67 73), (0, .nameAndType 74 75), (0, u "build"), (0, u "(I[D)V"), (0, .methodref 67 77), (0, .nameAndType 78 79), (0, u "distance"), (0, u "(I)D"), (0, u "NOT_AN_END"), (0, u "I"), (2, u "(Lcom/example/lanewright/lanewright/Network;[DLjava/util/List;)V"), (8, u "time"), (0, u "(II)D")] 6

def k19c0 : Code := { maxStack := 5, maxLocals := 10, code := prog_47_method_1_code, exceptionTable := #[], attributes := #[] }
def k19m0 : Method := { name := "<init>", desc := "(Lcom/example/lanewright/lanewright/Network;[DLjava/util/List;)V", sig := { parameters := [(.object "com/example/lanewright/lanewright/Network"), (.array .double), (.object "java/util/List")], returnType := none }, accessFlags := 0, code := some k19c0 }
def k19c1 : Code := { maxStack := 3, maxLocals := 3, code := prog_47_method_2_code, exceptionTable := #[], attributes := #[] }
def k19m1 : Method := { name := "time", desc := "(II)D", sig := { parameters := [.int, .int], returnType := some .double }, accessFlags := 0, code := some k19c1 }
/-- com/example/lanewright/lanewright/RouteTimes -/
def k19 : Class := { plain "com/example/lanewright/lanewright/RouteTimes" (some 0) with
  accessFlags := 48
  interfaces := #[]
  cf := some (fileOf pool19 14 #[] #[{ accessFlags := 0, nameIndex := 5, descriptorIndex := 84, attributes := #[] }, { accessFlags := 0, nameIndex := 93, descriptorIndex := 94, attributes := #[] }] 48 2 #[] #[{ accessFlags := 26, nameIndex := 80, descriptorIndex := 81, attributes := #[] }, { accessFlags := 18, nameIndex := 17, descriptorIndex := 18, attributes := #[] }, { accessFlags := 18, nameIndex := 66, descriptorIndex := 63, attributes := #[] }])
  fields := #[{ name := "NOT_AN_END", type := .int, accessFlags := 26, slot := 0, constantValue := 0 }, { name := "rows", type := (.array .int), accessFlags := 18, slot := 0, constantValue := 0 }, { name := "times", type := (.array (.array .double)), accessFlags := 18, slot := 1, constantValue := 0 }]
  methods := #[k19m0, k19m1]
  instanceTypes := #[(.array .int), (.array (.array .double))]
  staticTypes := #[.int]
  resolved := Array.replicate 101 none
  statics := none }

def pool20 : Array CpInfo := pool [(2, .class_ 4), (1, u "java/lang/Object"), (0, u "<init>"), (0, u "()V"), (7, .class_ 16), (1, u "java/util/Arrays"), (57, .class_ 76), (1, u "java/util/Arrays$NaturalOrder"), (36, .class_ 115), (1, u "java/util/Arrays$LegacyMergeSort"), (1, u "Z"), (257, .class_ 376), (0, u "java/util/Arrays$ArrayList"), (68, u "$assertionsDisabled"), (269, u "MIN_ARRAY_SORT_GRAN"), (0, u "I"), (2, u "INSERTIONSORT_THRESHOLD"), (120, u "fill"), (4, u "([II)V"), (8, u "([DD)V"), (120, .class_ 976), (0, u "java/util/Arrays$ArrayItr")] 52

def k20m0 : Method := { name := "<init>", desc := "()V", sig := { parameters := [], returnType := none }, accessFlags := 2, code := none }
def k20c1 : Code := { maxStack := 3, maxLocals := 4, code := jdk_65_method_103_code, exceptionTable := #[], attributes := #[] }
def k20m1 : Method := { name := "fill", desc := "([II)V", sig := { parameters := [(.array .int), .int], returnType := none }, accessFlags := 9, code := some k20c1 }
def k20c2 : Code := { maxStack := 4, maxLocals := 5, code := jdk_65_method_113_code, exceptionTable := #[], attributes := #[] }
def k20m2 : Method := { name := "fill", desc := "([DD)V", sig := { parameters := [(.array .double), .double], returnType := none }, accessFlags := 9, code := some k20c2 }
/-- java/util/Arrays -/
def k20 : Class := { plain "java/util/Arrays" (some 0) with
  accessFlags := 49
  interfaces := #[]
  cf := some (fileOf pool20 14 #[.nestMembers #[975, 375, 113, 74]] #[{ accessFlags := 2, nameIndex := 5, descriptorIndex := 6, attributes := #[] }, { accessFlags := 9, nameIndex := 840, descriptorIndex := 845, attributes := #[] }, { accessFlags := 9, nameIndex := 840, descriptorIndex := 854, attributes := #[] }] 49 2 #[] #[{ accessFlags := 26, nameIndex := 715, descriptorIndex := 716, attributes := #[] }, { accessFlags := 26, nameIndex := 719, descriptorIndex := 716, attributes := #[] }, { accessFlags := 4120, nameIndex := 445, descriptorIndex := 117, attributes := #[] }])
  fields := #[{ name := "MIN_ARRAY_SORT_GRAN", type := .int, accessFlags := 26, slot := 0, constantValue := 0 }, { name := "INSERTIONSORT_THRESHOLD", type := .int, accessFlags := 26, slot := 1, constantValue := 0 }, { name := "$assertionsDisabled", type := .boolean, accessFlags := 4120, slot := 2, constantValue := 0 }]
  methods := #[k20m0, k20m1, k20m2]
  instanceTypes := #[]
  staticTypes := #[.int, .int, .boolean]
  resolved := Array.replicate 1029 none
  statics := none }

def pool21 : Array CpInfo := pool [(16, .class_ 18), (1, u "java/util/Iterator"), (0, u "hasNext"), (0, u "()Z"), (2, u "next"), (0, u "()Ljava/lang/Object;"), (6, .class_ 32), (0, u "java/lang/Object")] 20

def k21m0 : Method := { name := "hasNext", desc := "()Z", sig := { parameters := [], returnType := some .boolean }, accessFlags := 1025, code := none }
def k21m1 : Method := { name := "next", desc := "()Ljava/lang/Object;", sig := { parameters := [], returnType := some (.object "java/lang/Object") }, accessFlags := 1025, code := none }
/-- java/util/Iterator -/
def k21 : Class := { plain "java/util/Iterator" (some 0) with
  accessFlags := 1537
  interfaces := #[]
  cf := some (fileOf pool21 16 #[] #[{ accessFlags := 1025, nameIndex := 19, descriptorIndex := 20, attributes := #[] }, { accessFlags := 1025, nameIndex := 23, descriptorIndex := 24, attributes := #[] }] 1537 31 #[] #[])
  fields := #[]
  methods := #[k21m0, k21m1]
  instanceTypes := #[]
  staticTypes := #[]
  resolved := Array.replicate 53 none
  statics := none }

def pool22 : Array CpInfo := pool [(1, .fieldref 2 3), (0, .class_ 4), (0, .nameAndType 5 6), (0, u "java/util/ArrayList$Itr"), (0, u "this$0"), (0, u "Ljava/util/ArrayList;"), (0, .methodref 8 9), (0, .class_ 10), (0, .nameAndType 11 12), (0, u "java/lang/Object"), (0, u "<init>"), (0, u "()V"), (0, .fieldref 2 14), (0, .nameAndType 15 16), (0, u "lastRet"), (0, u "I"), (0, .fieldref 18 19), (0, .class_ 20), (0, .nameAndType 21 16), (0, u "java/util/ArrayList"), (0, u "modCount"), (0, .fieldref 2 23), (0, .nameAndType 24 16), (0, u "expectedModCount"), (0, .fieldref 2 26), (0, .nameAndType 27 16), (0, u "cursor"), (0, .fieldref 18 29), (0, .nameAndType 30 16), (0, u "size"), (0, .methodref 2 32), (0, .nameAndType 33 12), (0, u "checkForComodification"), (3, .fieldref 18 38), (0, .nameAndType 39 40), (0, u "elementData"), (0, u "[Ljava/lang/Object;"), (28, .class_ 70), (0, u "java/util/Iterator"), (0, u "(Ljava/util/ArrayList;)V"), (8, u "hasNext"), (0, u "()Z"), (1, u "next"), (0, u "()Ljava/lang/Object;")] 19

def k22c0 : Code := { maxStack := 2, maxLocals := 2, code := jdk_49_method_1_code, exceptionTable := #[], attributes := #[] }
def k22m0 : Method := { name := "<init>", desc := "(Ljava/util/ArrayList;)V", sig := { parameters := [(.object "java/util/ArrayList")], returnType := none }, accessFlags := 0, code := some k22c0 }
def k22c1 : Code := { maxStack := 2, maxLocals := 1, code := jdk_49_method_2_code, exceptionTable := #[], attributes := #[] }
def k22m1 : Method := { name := "hasNext", desc := "()Z", sig := { parameters := [], returnType := some .boolean }, accessFlags := 1, code := some k22c1 }
def k22c2 : Code := { maxStack := 4, maxLocals := 3, code := jdk_49_method_3_code, exceptionTable := #[], attributes := #[] }
def k22m2 : Method := { name := "next", desc := "()Ljava/lang/Object;", sig := { parameters := [], returnType := some (.object "java/lang/Object") }, accessFlags := 1, code := some k22c2 }
def k22c3 : Code := { maxStack := 2, maxLocals := 1, code := jdk_49_method_6_code, exceptionTable := #[], attributes := #[] }
def k22m3 : Method := { name := "checkForComodification", desc := "()V", sig := { parameters := [], returnType := none }, accessFlags := 16, code := some k22c3 }
/-- java/util/ArrayList$Itr -/
def k22 : Class := { plain "java/util/ArrayList$Itr" (some 0) with
  accessFlags := 32
  interfaces := #[21]
  cf := some (fileOf pool22 2 #[.nestHost 18] #[{ accessFlags := 0, nameIndex := 11, descriptorIndex := 71, attributes := #[] }, { accessFlags := 1, nameIndex := 80, descriptorIndex := 81, attributes := #[] }, { accessFlags := 1, nameIndex := 83, descriptorIndex := 84, attributes := #[] }, { accessFlags := 16, nameIndex := 33, descriptorIndex := 12, attributes := #[] }] 32 8 #[69] #[{ accessFlags := 0, nameIndex := 27, descriptorIndex := 16, attributes := #[] }, { accessFlags := 0, nameIndex := 15, descriptorIndex := 16, attributes := #[] }, { accessFlags := 0, nameIndex := 24, descriptorIndex := 16, attributes := #[] }, { accessFlags := 4112, nameIndex := 5, descriptorIndex := 6, attributes := #[] }])
  fields := #[{ name := "cursor", type := .int, accessFlags := 0, slot := 0, constantValue := 0 }, { name := "lastRet", type := .int, accessFlags := 0, slot := 1, constantValue := 0 }, { name := "expectedModCount", type := .int, accessFlags := 0, slot := 2, constantValue := 0 }, { name := "this$0", type := (.object "java/util/ArrayList"), accessFlags := 4112, slot := 3, constantValue := 0 }]
  methods := #[k22m0, k22m1, k22m2, k22m3]
  instanceTypes := #[.int, .int, .int, (.object "java/util/ArrayList")]
  staticTypes := #[]
  resolved := Array.replicate 104 none
  statics := none }

def pool23 : Array CpInfo := pool [(2, .class_ 4), (1, u "java/lang/Object"), (0, u "<init>"), (0, u "()V"), (1, .class_ 10), (1, u "java/lang/Number"), (2, .class_ 14), (0, u "java/io/Serializable"), (0, u "serialVersionUID"), (0, u "J")] 20

def k23m0 : Method := { name := "<init>", desc := "()V", sig := { parameters := [], returnType := none }, accessFlags := 1, code := none }
/-- java/lang/Number -/
def k23 : Class := { plain "java/lang/Number" (some 0) with
  accessFlags := 1057
  interfaces := #[10]
  cf := some (fileOf pool23 8 #[] #[{ accessFlags := 1, nameIndex := 5, descriptorIndex := 6, attributes := #[] }] 1057 2 #[13] #[{ accessFlags := 26, nameIndex := 15, descriptorIndex := 16, attributes := #[] }])
  fields := #[{ name := "serialVersionUID", type := .long, accessFlags := 26, slot := 0, constantValue := 0 }]
  methods := #[k23m0]
  instanceTypes := #[]
  staticTypes := #[.long]
  resolved := Array.replicate 37 none
  statics := none }

def pool24 : Array CpInfo := pool [(1, .class_ 2), (0, u "java/lang/Comparable"), (0, .class_ 4), (0, u "java/lang/Object")] 7

/-- java/lang/Comparable -/
def k24 : Class := { plain "java/lang/Comparable" (some 0) with
  accessFlags := 1537
  interfaces := #[]
  cf := some (fileOf pool24 1 #[] #[] 1537 3 #[] #[])
  fields := #[]
  methods := #[]
  instanceTypes := #[]
  staticTypes := #[]
  resolved := Array.replicate 12 none
  statics := none }

def pool25 : Array CpInfo := pool [(1, .class_ 2), (0, u "java/lang/constant/Constable"), (0, .class_ 4), (0, u "java/lang/Object")] 6

/-- java/lang/constant/Constable -/
def k25 : Class := { plain "java/lang/constant/Constable" (some 0) with
  accessFlags := 1537
  interfaces := #[]
  cf := some (fileOf pool25 1 #[] #[] 1537 3 #[] #[])
  fields := #[]
  methods := #[]
  instanceTypes := #[]
  staticTypes := #[]
  resolved := Array.replicate 11 none
  statics := none }

def pool26 : Array CpInfo := pool [(1, .class_ 2), (0, u "java/lang/constant/ConstantDesc"), (0, .class_ 4), (0, u "java/lang/Object")] 32

/-- java/lang/constant/ConstantDesc -/
def k26 : Class := { plain "java/lang/constant/ConstantDesc" (some 0) with
  accessFlags := 1537
  interfaces := #[]
  cf := some (fileOf pool26 1 #[] #[] 1537 3 #[] #[])
  fields := #[]
  methods := #[]
  instanceTypes := #[]
  staticTypes := #[]
  resolved := Array.replicate 37 none
  statics := none }

def pool27 : Array CpInfo := pool [(1, .class_ 2), (0, u "java/lang/Integer"), (16, u "digits"), (0, u "[C"), (64, u "DigitOnes"), (0, u "[B"), (2, u "DigitTens"), (31, u "()I"), (65, u "valueOf"), (0, u "(I)Ljava/lang/Integer;"), (0, .class_ 190), (0, u "java/lang/Integer$IntegerCache"), (0, .fieldref 189 192), (0, .nameAndType 193 194), (0, u "high"), (0, u "I"), (0, .fieldref 189 196), (0, .nameAndType 197 198), (0, u "cache"), (0, u "[Ljava/lang/Integer;"), (4, .class_ 204), (0, u "java/lang/Number"), (0, .fieldref 1 206), (0, .nameAndType 207 194), (0, u "value"), (5, u "intValue"), (88, u "TYPE"), (0, u "Ljava/lang/Class;"), (0, .class_ 305), (0, u "java/lang/Comparable"), (0, .class_ 307), (0, u "java/lang/constant/Constable"), (0, .class_ 309), (0, u "java/lang/constant/ConstantDesc"), (0, u "MIN_VALUE"), (1, u "MAX_VALUE"), (3, u "SIZE"), (1, u "BYTES"), (1, u "serialVersionUID"), (0, u "J")] 131

def k27c0 : Code := { maxStack := 3, maxLocals := 1, code := jdk_33_method_22_code, exceptionTable := #[], attributes := #[] }
def k27m0 : Method := { name := "valueOf", desc := "(I)Ljava/lang/Integer;", sig := { parameters := [.int], returnType := some (.object "java/lang/Integer") }, accessFlags := 9, code := some k27c0 }
def k27c1 : Code := { maxStack := 1, maxLocals := 1, code := jdk_33_method_27_code, exceptionTable := #[], attributes := #[] }
def k27m1 : Method := { name := "intValue", desc := "()I", sig := { parameters := [], returnType := some .int }, accessFlags := 1, code := some k27c1 }
/-- java/lang/Integer -/
def k27 : Class := { plain "java/lang/Integer" (some 23) with
  accessFlags := 49
  interfaces := #[24, 25, 26]
  cf := some (fileOf pool27 1 #[.nestMembers #[189]] #[{ accessFlags := 9, nameIndex := 187, descriptorIndex := 188, attributes := #[] }, { accessFlags := 1, nameIndex := 213, descriptorIndex := 121, attributes := #[] }] 49 203 #[304, 306, 308] #[{ accessFlags := 25, nameIndex := 310, descriptorIndex := 194, attributes := #[] }, { accessFlags := 25, nameIndex := 312, descriptorIndex := 194, attributes := #[] }, { accessFlags := 25, nameIndex := 302, descriptorIndex := 303, attributes := #[] }, { accessFlags := 24, nameIndex := 19, descriptorIndex := 20, attributes := #[] }, { accessFlags := 24, nameIndex := 89, descriptorIndex := 86, attributes := #[] }, { accessFlags := 24, nameIndex := 85, descriptorIndex := 86, attributes := #[] }, { accessFlags := 18, nameIndex := 207, descriptorIndex := 194, attributes := #[] }, { accessFlags := 25, nameIndex := 316, descriptorIndex := 194, attributes := #[] }, { accessFlags := 25, nameIndex := 318, descriptorIndex := 194, attributes := #[] }, { accessFlags := 26, nameIndex := 320, descriptorIndex := 321, attributes := #[] }])
  fields := #[{ name := "MIN_VALUE", type := .int, accessFlags := 25, slot := 0, constantValue := 0 }, { name := "MAX_VALUE", type := .int, accessFlags := 25, slot := 1, constantValue := 0 }, { name := "TYPE", type := (.object "java/lang/Class"), accessFlags := 25, slot := 2, constantValue := 0 }, { name := "digits", type := (.array .char), accessFlags := 24, slot := 3, constantValue := 0 }, { name := "DigitTens", type := (.array .byte), accessFlags := 24, slot := 4, constantValue := 0 }, { name := "DigitOnes", type := (.array .byte), accessFlags := 24, slot := 5, constantValue := 0 }, { name := "value", type := .int, accessFlags := 18, slot := 0, constantValue := 0 }, { name := "SIZE", type := .int, accessFlags := 25, slot := 6, constantValue := 0 }, { name := "BYTES", type := .int, accessFlags := 25, slot := 7, constantValue := 0 }, { name := "serialVersionUID", type := .long, accessFlags := 26, slot := 8, constantValue := 0 }]
  methods := #[k27m0, k27m1]
  instanceTypes := #[.int]
  staticTypes := #[.int, .int, (.object "java/lang/Class"), (.array .char), (.array .byte), (.array .byte), .int, .int, .long]
  resolved := Array.replicate 453 none
  statics := none }

def pool28 : Array CpInfo := pool [(2, .class_ 4), (1, u "java/lang/Object"), (0, u "<init>"), (0, u "()V"), (0, .class_ 8), (0, u "java/lang/Integer"), (7, .class_ 18), (1, u "java/lang/Integer$IntegerCache"), (0, u "$assertionsDisabled"), (0, u "Z"), (26, u "high"), (0, u "I"), (8, u "archivedCache"), (0, u "[Ljava/lang/Integer;"), (12, u "cache"), (0, u "low")] 27

def k28m0 : Method := { name := "<init>", desc := "()V", sig := { parameters := [], returnType := none }, accessFlags := 2, code := none }
/-- java/lang/Integer$IntegerCache -/
def k28 : Class := { plain "java/lang/Integer$IntegerCache" (some 0) with
  accessFlags := 48
  interfaces := #[]
  cf := some (fileOf pool28 16 #[.nestHost 7] #[{ accessFlags := 2, nameIndex := 5, descriptorIndex := 6, attributes := #[] }] 48 2 #[] #[{ accessFlags := 24, nameIndex := 72, descriptorIndex := 48, attributes := #[] }, { accessFlags := 24, nameIndex := 47, descriptorIndex := 48, attributes := #[] }, { accessFlags := 24, nameIndex := 71, descriptorIndex := 58, attributes := #[] }, { accessFlags := 8, nameIndex := 57, descriptorIndex := 58, attributes := #[] }, { accessFlags := 4120, nameIndex := 19, descriptorIndex := 20, attributes := #[] }])
  fields := #[{ name := "low", type := .int, accessFlags := 24, slot := 0, constantValue := 0 }, { name := "high", type := .int, accessFlags := 24, slot := 1, constantValue := 0 }, { name := "cache", type := (.array (.object "java/lang/Integer")), accessFlags := 24, slot := 2, constantValue := 0 }, { name := "archivedCache", type := (.array (.object "java/lang/Integer")), accessFlags := 8, slot := 3, constantValue := 0 }, { name := "$assertionsDisabled", type := .boolean, accessFlags := 4120, slot := 4, constantValue := 0 }]
  methods := #[k28m0]
  instanceTypes := #[]
  staticTypes := #[.int, .int, (.array (.object "java/lang/Integer")), (.array (.object "java/lang/Integer")), .boolean]
  resolved := Array.replicate 100 none
  statics := some 1 }

def pool29 : Array CpInfo := pool [(1, .methodref 2 3), (0, .class_ 4), (0, .nameAndType 5 6), (0, u "java/util/AbstractCollection"), (0, u "<init>"), (0, u "()V"), (1, .class_ 10), (1, u "java/util/ImmutableCollections"), (2, .class_ 14), (0, u "java/util/ImmutableCollections$AbstractImmutableCollection")] 41

def k29c0 : Code := { maxStack := 1, maxLocals := 1, code := jdk_47_method_1_code, exceptionTable := #[], attributes := #[] }
def k29m0 : Method := { name := "<init>", desc := "()V", sig := { parameters := [], returnType := none }, accessFlags := 0, code := some k29c0 }
/-- java/util/ImmutableCollections$AbstractImmutableCollection -/
def k29 : Class := { plain "java/util/ImmutableCollections$AbstractImmutableCollection" (some 4) with
  accessFlags := 1056
  interfaces := #[]
  cf := some (fileOf pool29 13 #[.nestHost 8] #[{ accessFlags := 0, nameIndex := 5, descriptorIndex := 6, attributes := #[] }] 1056 2 #[] #[])
  fields := #[]
  methods := #[k29m0]
  instanceTypes := #[]
  staticTypes := #[]
  resolved := Array.replicate 56 none
  statics := none }

def pool30 : Array CpInfo := pool [(1, .methodref 2 3), (0, .class_ 4), (0, .nameAndType 5 6), (0, u "java/util/ImmutableCollections$AbstractImmutableCollection"), (0, u "<init>"), (0, u "()V"), (1, .class_ 10), (1, u "java/util/ImmutableCollections"), (2, .methodref 14 15), (0, .class_ 16), (0, .nameAndType 17 18), (0, u "java/util/ImmutableCollections$AbstractImmutableList"), (0, u "size"), (0, u "()I"), (42, .class_ 62), (0, u "java/util/ImmutableCollections$ListItr"), (0, .methodref 61 64), (0, .nameAndType 5 65), (0, u "(Ljava/util/List;I)V"), (11, .class_ 78), (0, u "java/util/List"), (2, u "iterator"), (0, u "()Ljava/util/Iterator;"), (41, .class_ 125), (0, u "java/util/RandomAccess")] 70

def k30c0 : Code := { maxStack := 1, maxLocals := 1, code := jdk_46_method_1_code, exceptionTable := #[], attributes := #[] }
def k30m0 : Method := { name := "<init>", desc := "()V", sig := { parameters := [], returnType := none }, accessFlags := 0, code := some k30c0 }
def k30c1 : Code := { maxStack := 4, maxLocals := 1, code := jdk_46_method_10_code, exceptionTable := #[], attributes := #[] }
def k30m1 : Method := { name := "iterator", desc := "()Ljava/util/Iterator;", sig := { parameters := [], returnType := some (.object "java/util/Iterator") }, accessFlags := 1, code := some k30c1 }
/-- java/util/ImmutableCollections$AbstractImmutableList -/
def k30 : Class := { plain "java/util/ImmutableCollections$AbstractImmutableList" (some 29) with
  accessFlags := 1056
  interfaces := #[6, 8]
  cf := some (fileOf pool30 14 #[.nestHost 8] #[{ accessFlags := 0, nameIndex := 5, descriptorIndex := 6, attributes := #[] }, { accessFlags := 1, nameIndex := 81, descriptorIndex := 82, attributes := #[] }] 1056 2 #[77, 124] #[])
  fields := #[]
  methods := #[k30m0, k30m1]
  instanceTypes := #[]
  staticTypes := #[]
  resolved := Array.replicate 196 none
  statics := none }

def pool31 : Array CpInfo := pool [(1, .methodref 2 3), (0, .class_ 4), (0, .nameAndType 5 6), (0, u "java/util/ImmutableCollections$AbstractImmutableList"), (0, u "<init>"), (0, u "()V"), (0, .methodref 8 9), (0, .class_ 10), (0, .nameAndType 11 12), (0, u "java/util/Objects"), (0, u "requireNonNull"), (0, u "(Ljava/lang/Object;)Ljava/lang/Object;"), (0, .fieldref 14 15), (0, .class_ 16), (0, .nameAndType 17 18), (0, u "java/util/ImmutableCollections$List12"), (0, u "e0"), (0, u "Ljava/lang/Object;"), (0, .fieldref 20 21), (0, .class_ 22), (0, .nameAndType 23 18), (0, u "java/util/ImmutableCollections"), (0, u "EMPTY"), (0, .fieldref 14 25), (0, .nameAndType 26 18), (0, u "e1"), (24, u "size"), (0, u "()I"), (17, .class_ 71), (0, u "java/io/Serializable"), (13, u "(Ljava/lang/Object;Ljava/lang/Object;)V"), (4, u "get"), (0, u "(I)Ljava/lang/Object;")] 33

def k31c0 : Code := { maxStack := 2, maxLocals := 3, code := jdk_44_method_2_code, exceptionTable := #[], attributes := #[] }
def k31m0 : Method := { name := "<init>", desc := "(Ljava/lang/Object;Ljava/lang/Object;)V", sig := { parameters := [(.object "java/lang/Object"), (.object "java/lang/Object")], returnType := none }, accessFlags := 0, code := some k31c0 }
def k31c1 : Code := { maxStack := 2, maxLocals := 1, code := jdk_44_method_3_code, exceptionTable := #[], attributes := #[] }
def k31m1 : Method := { name := "size", desc := "()I", sig := { parameters := [], returnType := some .int }, accessFlags := 1, code := some k31c1 }
def k31c2 : Code := { maxStack := 2, maxLocals := 2, code := jdk_44_method_5_code, exceptionTable := #[], attributes := #[] }
def k31m2 : Method := { name := "get", desc := "(I)Ljava/lang/Object;", sig := { parameters := [.int], returnType := some (.object "java/lang/Object") }, accessFlags := 1, code := some k31c2 }
/-- java/util/ImmutableCollections$List12 -/
def k31 : Class := { plain "java/util/ImmutableCollections$List12" (some 30) with
  accessFlags := 48
  interfaces := #[10]
  cf := some (fileOf pool31 14 #[.nestHost 20] #[{ accessFlags := 0, nameIndex := 5, descriptorIndex := 85, attributes := #[] }, { accessFlags := 1, nameIndex := 51, descriptorIndex := 52, attributes := #[] }, { accessFlags := 1, nameIndex := 90, descriptorIndex := 91, attributes := #[] }] 48 2 #[70] #[{ accessFlags := 18, nameIndex := 17, descriptorIndex := 18, attributes := #[] }, { accessFlags := 18, nameIndex := 26, descriptorIndex := 18, attributes := #[] }])
  fields := #[{ name := "e0", type := (.object "java/lang/Object"), accessFlags := 18, slot := 0, constantValue := 0 }, { name := "e1", type := (.object "java/lang/Object"), accessFlags := 18, slot := 1, constantValue := 0 }]
  methods := #[k31m0, k31m1, k31m2]
  instanceTypes := #[(.object "java/lang/Object"), (.object "java/lang/Object")]
  staticTypes := #[]
  resolved := Array.replicate 125 none
  statics := none }

def pool32 : Array CpInfo := pool [(1, .class_ 2), (0, u "java/util/ListIterator"), (0, .class_ 4), (0, u "java/lang/Object"), (0, .class_ 6), (0, u "java/util/Iterator")] 20

/-- java/util/ListIterator -/
def k32 : Class := { plain "java/util/ListIterator" (some 0) with
  accessFlags := 1537
  interfaces := #[21]
  cf := some (fileOf pool32 1 #[] #[] 1537 3 #[5] #[])
  fields := #[]
  methods := #[]
  instanceTypes := #[]
  staticTypes := #[]
  resolved := Array.replicate 27 none
  statics := none }

def pool33 : Array CpInfo := pool [(1, .methodref 2 3), (0, .class_ 4), (0, .nameAndType 5 6), (0, u "java/lang/Object"), (0, u "<init>"), (0, u "()V"), (0, .fieldref 8 9), (0, .class_ 10), (0, .nameAndType 11 12), (0, u "java/util/ImmutableCollections$ListItr"), (0, u "list"), (0, u "Ljava/util/List;"), (0, .fieldref 8 14), (0, .nameAndType 15 16), (0, u "size"), (0, u "I"), (0, .fieldref 8 18), (0, .nameAndType 19 16), (0, u "cursor"), (0, .fieldref 8 21), (0, .nameAndType 22 23), (0, u "isListIterator"), (0, u "Z"), (0, .interfaceMethodref 25 26), (0, .class_ 27), (0, .nameAndType 28 29), (0, u "java/util/List"), (0, u "get"), (0, u "(I)Ljava/lang/Object;"), (6, .class_ 38), (1, u "java/util/ImmutableCollections"), (2, .class_ 42), (0, u "java/util/ListIterator"), (4, u "(Ljava/util/List;I)V"), (11, u "hasNext"), (0, u "()Z"), (1, u "next"), (0, u "()Ljava/lang/Object;")] 22

def k33c0 : Code := { maxStack := 2, maxLocals := 3, code := jdk_53_method_1_code, exceptionTable := #[], attributes := #[] }
def k33m0 : Method := { name := "<init>", desc := "(Ljava/util/List;I)V", sig := { parameters := [(.object "java/util/List"), .int], returnType := none }, accessFlags := 0, code := some k33c0 }
def k33c1 : Code := { maxStack := 2, maxLocals := 1, code := jdk_53_method_3_code, exceptionTable := #[], attributes := #[] }
def k33m1 : Method := { name := "hasNext", desc := "()Z", sig := { parameters := [], returnType := some .boolean }, accessFlags := 1, code := some k33c1 }
def k33c2 : Code := { maxStack := 3, maxLocals := 3, code := jdk_53_method_4_code, exceptionTable := #[{ startPc := 0, endPc := 24, handlerPc := 25, catchType := 30 }], attributes := #[] }
def k33m2 : Method := { name := "next", desc := "()Ljava/lang/Object;", sig := { parameters := [], returnType := some (.object "java/lang/Object") }, accessFlags := 1, code := some k33c2 }
/-- java/util/ImmutableCollections$ListItr -/
def k33 : Class := { plain "java/util/ImmutableCollections$ListItr" (some 0) with
  accessFlags := 48
  interfaces := #[32]
  cf := some (fileOf pool33 8 #[.nestHost 36] #[{ accessFlags := 0, nameIndex := 5, descriptorIndex := 47, attributes := #[] }, { accessFlags := 1, nameIndex := 59, descriptorIndex := 60, attributes := #[] }, { accessFlags := 1, nameIndex := 62, descriptorIndex := 63, attributes := #[] }] 48 2 #[41] #[{ accessFlags := 18, nameIndex := 11, descriptorIndex := 12, attributes := #[] }, { accessFlags := 18, nameIndex := 15, descriptorIndex := 16, attributes := #[] }, { accessFlags := 18, nameIndex := 22, descriptorIndex := 23, attributes := #[] }, { accessFlags := 2, nameIndex := 19, descriptorIndex := 16, attributes := #[] }])
  fields := #[{ name := "list", type := (.object "java/util/List"), accessFlags := 18, slot := 0, constantValue := 0 }, { name := "size", type := .int, accessFlags := 18, slot := 1, constantValue := 0 }, { name := "isListIterator", type := .boolean, accessFlags := 18, slot := 2, constantValue := 0 }, { name := "cursor", type := .int, accessFlags := 2, slot := 3, constantValue := 0 }]
  methods := #[k33m0, k33m1, k33m2]
  instanceTypes := #[(.object "java/util/List"), .int, .boolean, .int]
  staticTypes := #[]
  resolved := Array.replicate 86 none
  statics := none }

def pool34 : Array CpInfo := pool [(2, .class_ 4), (1, u "java/lang/Object"), (0, u "<init>"), (0, u "()V"), (3, .class_ 11), (0, u "java/util/ImmutableCollections$List12"), (0, .class_ 13), (0, u "java/util/ImmutableCollections$ListN"), (3, u "Z"), (29, .class_ 49), (1, u "java/util/ImmutableCollections"), (0, u "$assertionsDisabled"), (5, u "[Ljava/lang/Object;"), (5, u "EMPTY_LIST"), (0, u "Ljava/util/ImmutableCollections$ListN;"), (8, u "EMPTY_LIST_NULLS"), (22, u "SALT32L"), (0, u "J"), (2, u "REVERSE"), (6, u "archivedObjects"), (2, u "EMPTY"), (0, u "Ljava/lang/Object;"), (0, .class_ 112), (0, u "java/util/ImmutableCollections$SetN"), (5, u "EMPTY_SET"), (0, u "Ljava/util/ImmutableCollections$SetN;"), (0, .class_ 121), (0, u "java/util/ImmutableCollections$MapN"), (3, u "EMPTY_MAP"), (0, u "Ljava/util/ImmutableCollections$MapN;"), (4, u "EXPAND_FACTOR"), (0, u "I"), (36, .class_ 170), (0, u "java/util/ImmutableCollections$MapN$MapNIterator"), (0, .class_ 172), (0, u "java/util/ImmutableCollections$MapN$1"), (0, .class_ 174), (0, u "java/util/ImmutableCollections$Map1"), (0, .class_ 176), (0, u "java/util/ImmutableCollections$AbstractImmutableMap"), (0, .class_ 178), (0, u "java/util/ImmutableCollections$SetN$SetNIterator"), (0, .class_ 180), (0, u "java/util/ImmutableCollections$Set12"), (0, .class_ 182), (0, u "java/util/ImmutableCollections$Set12$1"), (0, .class_ 184), (0, u "java/util/ImmutableCollections$AbstractImmutableSet"), (0, .class_ 186), (0, u "java/util/ImmutableCollections$SubList"), (0, .class_ 188), (0, u "java/util/ImmutableCollections$ListItr"), (0, .class_ 190), (0, u "java/util/ImmutableCollections$AbstractImmutableList"), (0, .class_ 192), (0, u "java/util/ImmutableCollections$AbstractImmutableCollection"), (0, .class_ 194), (0, u "java/util/ImmutableCollections$Access"), (0, .class_ 196), (0, u "java/util/ImmutableCollections$Access$1")] 16

def k34m0 : Method := { name := "<init>", desc := "()V", sig := { parameters := [], returnType := none }, accessFlags := 2, code := none }
/-- java/util/ImmutableCollections -/
def k34 : Class := { plain "java/util/ImmutableCollections" (some 0) with
  accessFlags := 32
  interfaces := #[]
  cf := some (fileOf pool34 47 #[.nestMembers #[120, 169, 171, 173, 175, 111, 177, 179, 181, 183, 12, 10, 185, 187, 189, 191, 193, 195]] #[{ accessFlags := 2, nameIndex := 5, descriptorIndex := 6, attributes := #[] }] 32 2 #[] #[{ accessFlags := 26, nameIndex := 95, descriptorIndex := 96, attributes := #[] }, { accessFlags := 26, nameIndex := 99, descriptorIndex := 17, attributes := #[] }, { accessFlags := 10, nameIndex := 106, descriptorIndex := 56, attributes := #[] }, { accessFlags := 26, nameIndex := 109, descriptorIndex := 110, attributes := #[] }, { accessFlags := 24, nameIndex := 62, descriptorIndex := 63, attributes := #[] }, { accessFlags := 24, nameIndex := 72, descriptorIndex := 63, attributes := #[] }, { accessFlags := 24, nameIndex := 118, descriptorIndex := 119, attributes := #[] }, { accessFlags := 24, nameIndex := 125, descriptorIndex := 126, attributes := #[] }, { accessFlags := 24, nameIndex := 131, descriptorIndex := 132, attributes := #[] }, { accessFlags := 4120, nameIndex := 50, descriptorIndex := 17, attributes := #[] }])
  fields := #[{ name := "SALT32L", type := .long, accessFlags := 26, slot := 0, constantValue := 0 }, { name := "REVERSE", type := .boolean, accessFlags := 26, slot := 1, constantValue := 0 }, { name := "archivedObjects", type := (.array (.object "java/lang/Object")), accessFlags := 10, slot := 2, constantValue := 0 }, { name := "EMPTY", type := (.object "java/lang/Object"), accessFlags := 26, slot := 3, constantValue := 0 }, { name := "EMPTY_LIST", type := (.object "java/util/ImmutableCollections$ListN"), accessFlags := 24, slot := 4, constantValue := 0 }, { name := "EMPTY_LIST_NULLS", type := (.object "java/util/ImmutableCollections$ListN"), accessFlags := 24, slot := 5, constantValue := 0 }, { name := "EMPTY_SET", type := (.object "java/util/ImmutableCollections$SetN"), accessFlags := 24, slot := 6, constantValue := 0 }, { name := "EMPTY_MAP", type := (.object "java/util/ImmutableCollections$MapN"), accessFlags := 24, slot := 7, constantValue := 0 }, { name := "EXPAND_FACTOR", type := .int, accessFlags := 24, slot := 8, constantValue := 0 }, { name := "$assertionsDisabled", type := .boolean, accessFlags := 4120, slot := 9, constantValue := 0 }]
  methods := #[k34m0]
  instanceTypes := #[]
  staticTypes := #[.long, .boolean, (.array (.object "java/lang/Object")), (.object "java/lang/Object"), (.object "java/util/ImmutableCollections$ListN"), (.object "java/util/ImmutableCollections$ListN"), (.object "java/util/ImmutableCollections$SetN"), (.object "java/util/ImmutableCollections$MapN"), .int, .boolean]
  resolved := Array.replicate 213 none
  statics := some 2 }

def pool35 : Array CpInfo := pool [(1, .methodref 2 3), (0, .class_ 4), (0, .nameAndType 5 6), (0, u "java/lang/Object"), (0, u "<init>"), (0, u "()V"), (0, .fieldref 8 9), (0, .class_ 10), (0, .nameAndType 11 12), (0, u "com/example/lanewright/lanewright/ShortestPathTree"), (0, u "network"), (0, u "Lcom/example/lanewright/lanewright/Network;"), (0, .methodref 14 15), (0, .class_ 16), (0, .nameAndType 17 18), (0, u "com/example/lanewright/lanewright/Network"), (0, u "nodeCount"), (0, u "()I"), (0, .fieldref 8 20), (0, .nameAndType 21 22), (0, u "distance"), (0, u "[D"), (0, .fieldref 8 24), (0, .nameAndType 25 26), (0, u "predecessorArc"), (0, u "[I"), (0, .fieldref 8 28), (0, .nameAndType 29 26), (0, u "heap"), (0, .fieldref 8 31), (0, .nameAndType 32 26), (0, u "position"), (2, .double 9218868437227405312), (1, .methodref 38 39), (0, .class_ 40), (0, .nameAndType 41 42), (0, u "java/util/Arrays"), (0, u "fill"), (0, u "([DD)V"), (0, .methodref 38 44), (0, .nameAndType 41 45), (0, u "([II)V"), (0, .fieldref 8 47), (0, .nameAndType 48 49), (0, u "heapSize"), (0, u "I"), (0, .methodref 8 51), (0, .nameAndType 52 53), (0, u "push"), (0, u "(I)V"), (0, .methodref 8 55), (0, .nameAndType 56 18), (0, u "pop"), (0, .methodref 14 58), (0, .nameAndType 59 18), (0, u "firstThruNode"), (0, .methodref 14 61), (0, .nameAndType 62 63), (0, u "firstOut"), (0, u "(I)I"), (0, .methodref 14 65), (0, .nameAndType 66 63), (0, u "endOut"), (0, .methodref 14 68), (0, .nameAndType 69 63), (0, u "outArc"), (0, .methodref 14 71), (0, .nameAndType 72 63), (0, u "head"), (0, .methodref 8 74), (0, .nameAndType 75 53), (0, u "siftUp"), (3, .methodref 8 80), (0, .nameAndType 81 53), (0, u "siftDown"), (0, u "NO_ARC"), (2, u "(Lcom/example/lanewright/lanewright/Network;)V"), (2, u "build"), (0, u "(I[D)V"), (1, u "(I)D")] 7

def k35c0 : Code := { maxStack := 2, maxLocals := 3, code := prog_58_method_1_code, exceptionTable := #[], attributes := #[] }
def k35m0 : Method := { name := "<init>", desc := "(Lcom/example/lanewright/lanewright/Network;)V", sig := { parameters := [(.object "com/example/lanewright/lanewright/Network")], returnType := none }, accessFlags := 0, code := some k35c0 }
def k35c1 : Code := { maxStack := 4, maxLocals := 9, code := prog_58_method_2_code, exceptionTable := #[], attributes := #[] }
def k35m1 : Method := { name := "build", desc := "(I[D)V", sig := { parameters := [.int, (.array .double)], returnType := none }, accessFlags := 0, code := some k35c1 }
def k35c2 : Code := { maxStack := 2, maxLocals := 2, code := prog_58_method_3_code, exceptionTable := #[], attributes := #[] }
def k35m2 : Method := { name := "distance", desc := "(I)D", sig := { parameters := [.int], returnType := some .double }, accessFlags := 0, code := some k35c2 }
def k35c3 : Code := { maxStack := 3, maxLocals := 2, code := prog_58_method_6_code, exceptionTable := #[], attributes := #[] }
def k35m3 : Method := { name := "push", desc := "(I)V", sig := { parameters := [.int], returnType := none }, accessFlags := 2, code := some k35c3 }
def k35c4 : Code := { maxStack := 4, maxLocals := 2, code := prog_58_method_7_code, exceptionTable := #[], attributes := #[] }
def k35m4 : Method := { name := "pop", desc := "()I", sig := { parameters := [], returnType := some .int }, accessFlags := 2, code := some k35c4 }
def k35c5 : Code := { maxStack := 4, maxLocals := 4, code := prog_58_method_8_code, exceptionTable := #[], attributes := #[] }
def k35m5 : Method := { name := "siftUp", desc := "(I)V", sig := { parameters := [.int], returnType := none }, accessFlags := 2, code := some k35c5 }
def k35c6 : Code := { maxStack := 5, maxLocals := 4, code := prog_58_method_9_code, exceptionTable := #[], attributes := #[] }
def k35m6 : Method := { name := "siftDown", desc := "(I)V", sig := { parameters := [.int], returnType := none }, accessFlags := 2, code := some k35c6 }
/-- com/example/lanewright/lanewright/ShortestPathTree -/
def k35 : Class := { plain "com/example/lanewright/lanewright/ShortestPathTree" (some 0) with
  accessFlags := 48
  interfaces := #[]
  cf := some (fileOf pool35 8 #[] #[{ accessFlags := 0, nameIndex := 5, descriptorIndex := 85, attributes := #[] }, { accessFlags := 0, nameIndex := 88, descriptorIndex := 89, attributes := #[] }, { accessFlags := 0, nameIndex := 21, descriptorIndex := 91, attributes := #[] }, { accessFlags := 2, nameIndex := 52, descriptorIndex := 53, attributes := #[] }, { accessFlags := 2, nameIndex := 56, descriptorIndex := 18, attributes := #[] }, { accessFlags := 2, nameIndex := 75, descriptorIndex := 53, attributes := #[] }, { accessFlags := 2, nameIndex := 81, descriptorIndex := 53, attributes := #[] }] 48 2 #[] #[{ accessFlags := 26, nameIndex := 82, descriptorIndex := 49, attributes := #[] }, { accessFlags := 18, nameIndex := 11, descriptorIndex := 12, attributes := #[] }, { accessFlags := 18, nameIndex := 21, descriptorIndex := 22, attributes := #[] }, { accessFlags := 18, nameIndex := 25, descriptorIndex := 26, attributes := #[] }, { accessFlags := 18, nameIndex := 29, descriptorIndex := 26, attributes := #[] }, { accessFlags := 18, nameIndex := 32, descriptorIndex := 26, attributes := #[] }, { accessFlags := 2, nameIndex := 48, descriptorIndex := 49, attributes := #[] }])
  fields := #[{ name := "NO_ARC", type := .int, accessFlags := 26, slot := 0, constantValue := 0 }, { name := "network", type := (.object "com/example/lanewright/lanewright/Network"), accessFlags := 18, slot := 0, constantValue := 0 }, { name := "distance", type := (.array .double), accessFlags := 18, slot := 1, constantValue := 0 }, { name := "predecessorArc", type := (.array .int), accessFlags := 18, slot := 2, constantValue := 0 }, { name := "heap", type := (.array .int), accessFlags := 18, slot := 3, constantValue := 0 }, { name := "position", type := (.array .int), accessFlags := 18, slot := 4, constantValue := 0 }, { name := "heapSize", type := .int, accessFlags := 2, slot := 5, constantValue := 0 }]
  methods := #[k35m0, k35m1, k35m2, k35m3, k35m4, k35m5, k35m6]
  instanceTypes := #[(.object "com/example/lanewright/lanewright/Network"), (.array .double), (.array .int), (.array .int), (.array .int), .int]
  staticTypes := #[.int]
  resolved := Array.replicate 99 none
  statics := none }

def pool36 : Array CpInfo := pool [(2, .class_ 4), (1, u "java/util/ImmutableCollections$AbstractImmutableList"), (3, .class_ 10), (1, u "java/util/ImmutableCollections$ListN"), (0, u "elements"), (0, u "[Ljava/lang/Object;"), (2, u "allowNulls"), (0, u "Z"), (42, .class_ 60), (0, u "java/io/Serializable"), (53, .class_ 115), (0, u "java/util/ImmutableCollections")] 3

/-- java/util/ImmutableCollections$ListN -/
def k36 : Class := { plain "java/util/ImmutableCollections$ListN" (some 30) with
  accessFlags := 48
  interfaces := #[10]
  cf := some (fileOf pool36 8 #[.nestHost 114] #[] 48 2 #[59] #[{ accessFlags := 18, nameIndex := 11, descriptorIndex := 12, attributes := #[] }, { accessFlags := 18, nameIndex := 15, descriptorIndex := 16, attributes := #[] }])
  fields := #[{ name := "elements", type := (.array (.object "java/lang/Object")), accessFlags := 18, slot := 0, constantValue := 0 }, { name := "allowNulls", type := .boolean, accessFlags := 18, slot := 1, constantValue := 0 }]
  methods := #[]
  instanceTypes := #[(.array (.object "java/lang/Object")), .boolean]
  staticTypes := #[]
  resolved := Array.replicate 119 none
  statics := none }

/-- the primitive byte -/
def k37 : Class := { plain "byte" none with kind := .primitive 'B', accessFlags := 0x411 }
/-- [B -/
def k38 : Class := { plain "[B" (some 0) with kind := .array 37 .byte, interfaces := #[9, 10], accessFlags := 1041 }

/-- the primitive double -/
def k39 : Class := { plain "double" none with kind := .primitive 'D', accessFlags := 0x411 }
/-- [D -/
def k40 : Class := { plain "[D" (some 0) with kind := .array 39 .double, interfaces := #[9, 10], accessFlags := 1041 }

/-- the primitive int -/
def k41 : Class := { plain "int" none with kind := .primitive 'I', accessFlags := 0x411 }
/-- [I -/
def k42 : Class := { plain "[I" (some 0) with kind := .array 41 .int, interfaces := #[9, 10], accessFlags := 1041 }

/-- [Ljava/lang/Integer; -/
def k43 : Class := { plain "[Ljava/lang/Integer;" (some 0) with kind := .array 27 (.object "java/lang/Integer"), interfaces := #[9, 10], accessFlags := 1041 }

/-- [Ljava/lang/Object; -/
def k44 : Class := { plain "[Ljava/lang/Object;" (some 0) with kind := .array 0 (.object "java/lang/Object"), interfaces := #[9, 10], accessFlags := 1041 }

/-- [[D -/
def k45 : Class := { plain "[[D" (some 0) with kind := .array 40 (.array .double), interfaces := #[9, 10], accessFlags := 1041 }

def heap : Heap := #[{ cls := 11, slots := #[.long 0, .int 0, .ref 260, .ref 261], vm := .statics 11 },
  { cls := 28, slots := #[.int 0, .int 127, .ref 3, .null, .int 0], vm := .statics 28 },
  { cls := 34, slots := #[.long 0, .int 0, .null, .ref 262, .ref 263, .null, .null, .null, .int 0, .int 1], vm := .statics 34 },
  { cls := 43, slots := #[.ref 4, .ref 5, .ref 6, .ref 7, .ref 8, .ref 9, .ref 10, .ref 11, .ref 12, .ref 13, .ref 14, .ref 15, .ref 16, .ref 17, .ref 18, .ref 19, .ref 20, .ref 21, .ref 22, .ref 23, .ref 24, .ref 25, .ref 26, .ref 27, .ref 28, .ref 29, .ref 30, .ref 31, .ref 32, .ref 33, .ref 34, .ref 35, .ref 36, .ref 37, .ref 38, .ref 39, .ref 40, .ref 41, .ref 42, .ref 43, .ref 44, .ref 45, .ref 46, .ref 47, .ref 48, .ref 49, .ref 50, .ref 51, .ref 52, .ref 53, .ref 54, .ref 55, .ref 56, .ref 57, .ref 58, .ref 59, .ref 60, .ref 61, .ref 62, .ref 63, .ref 64, .ref 65, .ref 66, .ref 67, .ref 68, .ref 69, .ref 70, .ref 71, .ref 72, .ref 73, .ref 74, .ref 75, .ref 76, .ref 77, .ref 78, .ref 79, .ref 80, .ref 81, .ref 82, .ref 83, .ref 84, .ref 85, .ref 86, .ref 87, .ref 88, .ref 89, .ref 90, .ref 91, .ref 92, .ref 93, .ref 94, .ref 95, .ref 96, .ref 97, .ref 98, .ref 99, .ref 100, .ref 101, .ref 102, .ref 103, .ref 104, .ref 105, .ref 106, .ref 107, .ref 108, .ref 109, .ref 110, .ref 111, .ref 112, .ref 113, .ref 114, .ref 115, .ref 116, .ref 117, .ref 118, .ref 119, .ref 120, .ref 121, .ref 122, .ref 123, .ref 124, .ref 125, .ref 126, .ref 127, .ref 128, .ref 129, .ref 130, .ref 131, .ref 132, .ref 133, .ref 134, .ref 135, .ref 136, .ref 137, .ref 138, .ref 139, .ref 140, .ref 141, .ref 142, .ref 143, .ref 144, .ref 145, .ref 146, .ref 147, .ref 148, .ref 149, .ref 150, .ref 151, .ref 152, .ref 153, .ref 154, .ref 155, .ref 156, .ref 157, .ref 158, .ref 159, .ref 160, .ref 161, .ref 162, .ref 163, .ref 164, .ref 165, .ref 166, .ref 167, .ref 168, .ref 169, .ref 170, .ref 171, .ref 172, .ref 173, .ref 174, .ref 175, .ref 176, .ref 177, .ref 178, .ref 179, .ref 180, .ref 181, .ref 182, .ref 183, .ref 184, .ref 185, .ref 186, .ref 187, .ref 188, .ref 189, .ref 190, .ref 191, .ref 192, .ref 193, .ref 194, .ref 195, .ref 196, .ref 197, .ref 198, .ref 199, .ref 200, .ref 201, .ref 202, .ref 203, .ref 204, .ref 205, .ref 206, .ref 207, .ref 208, .ref 209, .ref 210, .ref 211, .ref 212, .ref 213, .ref 214, .ref 215, .ref 216, .ref 217, .ref 218, .ref 219, .ref 220, .ref 221, .ref 222, .ref 223, .ref 224, .ref 225, .ref 226, .ref 227, .ref 228, .ref 229, .ref 230, .ref 231, .ref 232, .ref 233, .ref 234, .ref 235, .ref 236, .ref 237, .ref 238, .ref 239, .ref 240, .ref 241, .ref 242, .ref 243, .ref 244, .ref 245, .ref 246, .ref 247, .ref 248, .ref 249, .ref 250, .ref 251, .ref 252, .ref 253, .ref 254, .ref 255, .ref 256, .ref 257, .ref 258, .ref 259], vm := .none },
  { cls := 27, slots := #[.int (-128)], vm := .none },
  { cls := 27, slots := #[.int (-127)], vm := .none },
  { cls := 27, slots := #[.int (-126)], vm := .none },
  { cls := 27, slots := #[.int (-125)], vm := .none },
  { cls := 27, slots := #[.int (-124)], vm := .none },
  { cls := 27, slots := #[.int (-123)], vm := .none },
  { cls := 27, slots := #[.int (-122)], vm := .none },
  { cls := 27, slots := #[.int (-121)], vm := .none },
  { cls := 27, slots := #[.int (-120)], vm := .none },
  { cls := 27, slots := #[.int (-119)], vm := .none },
  { cls := 27, slots := #[.int (-118)], vm := .none },
  { cls := 27, slots := #[.int (-117)], vm := .none },
  { cls := 27, slots := #[.int (-116)], vm := .none },
  { cls := 27, slots := #[.int (-115)], vm := .none },
  { cls := 27, slots := #[.int (-114)], vm := .none },
  { cls := 27, slots := #[.int (-113)], vm := .none },
  { cls := 27, slots := #[.int (-112)], vm := .none },
  { cls := 27, slots := #[.int (-111)], vm := .none },
  { cls := 27, slots := #[.int (-110)], vm := .none },
  { cls := 27, slots := #[.int (-109)], vm := .none },
  { cls := 27, slots := #[.int (-108)], vm := .none },
  { cls := 27, slots := #[.int (-107)], vm := .none },
  { cls := 27, slots := #[.int (-106)], vm := .none },
  { cls := 27, slots := #[.int (-105)], vm := .none },
  { cls := 27, slots := #[.int (-104)], vm := .none },
  { cls := 27, slots := #[.int (-103)], vm := .none },
  { cls := 27, slots := #[.int (-102)], vm := .none },
  { cls := 27, slots := #[.int (-101)], vm := .none },
  { cls := 27, slots := #[.int (-100)], vm := .none },
  { cls := 27, slots := #[.int (-99)], vm := .none },
  { cls := 27, slots := #[.int (-98)], vm := .none },
  { cls := 27, slots := #[.int (-97)], vm := .none },
  { cls := 27, slots := #[.int (-96)], vm := .none },
  { cls := 27, slots := #[.int (-95)], vm := .none },
  { cls := 27, slots := #[.int (-94)], vm := .none },
  { cls := 27, slots := #[.int (-93)], vm := .none },
  { cls := 27, slots := #[.int (-92)], vm := .none },
  { cls := 27, slots := #[.int (-91)], vm := .none },
  { cls := 27, slots := #[.int (-90)], vm := .none },
  { cls := 27, slots := #[.int (-89)], vm := .none },
  { cls := 27, slots := #[.int (-88)], vm := .none },
  { cls := 27, slots := #[.int (-87)], vm := .none },
  { cls := 27, slots := #[.int (-86)], vm := .none },
  { cls := 27, slots := #[.int (-85)], vm := .none },
  { cls := 27, slots := #[.int (-84)], vm := .none },
  { cls := 27, slots := #[.int (-83)], vm := .none },
  { cls := 27, slots := #[.int (-82)], vm := .none },
  { cls := 27, slots := #[.int (-81)], vm := .none },
  { cls := 27, slots := #[.int (-80)], vm := .none },
  { cls := 27, slots := #[.int (-79)], vm := .none },
  { cls := 27, slots := #[.int (-78)], vm := .none },
  { cls := 27, slots := #[.int (-77)], vm := .none },
  { cls := 27, slots := #[.int (-76)], vm := .none },
  { cls := 27, slots := #[.int (-75)], vm := .none },
  { cls := 27, slots := #[.int (-74)], vm := .none },
  { cls := 27, slots := #[.int (-73)], vm := .none },
  { cls := 27, slots := #[.int (-72)], vm := .none },
  { cls := 27, slots := #[.int (-71)], vm := .none },
  { cls := 27, slots := #[.int (-70)], vm := .none },
  { cls := 27, slots := #[.int (-69)], vm := .none },
  { cls := 27, slots := #[.int (-68)], vm := .none },
  { cls := 27, slots := #[.int (-67)], vm := .none },
  { cls := 27, slots := #[.int (-66)], vm := .none },
  { cls := 27, slots := #[.int (-65)], vm := .none },
  { cls := 27, slots := #[.int (-64)], vm := .none },
  { cls := 27, slots := #[.int (-63)], vm := .none },
  { cls := 27, slots := #[.int (-62)], vm := .none },
  { cls := 27, slots := #[.int (-61)], vm := .none },
  { cls := 27, slots := #[.int (-60)], vm := .none },
  { cls := 27, slots := #[.int (-59)], vm := .none },
  { cls := 27, slots := #[.int (-58)], vm := .none },
  { cls := 27, slots := #[.int (-57)], vm := .none },
  { cls := 27, slots := #[.int (-56)], vm := .none },
  { cls := 27, slots := #[.int (-55)], vm := .none },
  { cls := 27, slots := #[.int (-54)], vm := .none },
  { cls := 27, slots := #[.int (-53)], vm := .none },
  { cls := 27, slots := #[.int (-52)], vm := .none },
  { cls := 27, slots := #[.int (-51)], vm := .none },
  { cls := 27, slots := #[.int (-50)], vm := .none },
  { cls := 27, slots := #[.int (-49)], vm := .none },
  { cls := 27, slots := #[.int (-48)], vm := .none },
  { cls := 27, slots := #[.int (-47)], vm := .none },
  { cls := 27, slots := #[.int (-46)], vm := .none },
  { cls := 27, slots := #[.int (-45)], vm := .none },
  { cls := 27, slots := #[.int (-44)], vm := .none },
  { cls := 27, slots := #[.int (-43)], vm := .none },
  { cls := 27, slots := #[.int (-42)], vm := .none },
  { cls := 27, slots := #[.int (-41)], vm := .none },
  { cls := 27, slots := #[.int (-40)], vm := .none },
  { cls := 27, slots := #[.int (-39)], vm := .none },
  { cls := 27, slots := #[.int (-38)], vm := .none },
  { cls := 27, slots := #[.int (-37)], vm := .none },
  { cls := 27, slots := #[.int (-36)], vm := .none },
  { cls := 27, slots := #[.int (-35)], vm := .none },
  { cls := 27, slots := #[.int (-34)], vm := .none },
  { cls := 27, slots := #[.int (-33)], vm := .none },
  { cls := 27, slots := #[.int (-32)], vm := .none },
  { cls := 27, slots := #[.int (-31)], vm := .none },
  { cls := 27, slots := #[.int (-30)], vm := .none },
  { cls := 27, slots := #[.int (-29)], vm := .none },
  { cls := 27, slots := #[.int (-28)], vm := .none },
  { cls := 27, slots := #[.int (-27)], vm := .none },
  { cls := 27, slots := #[.int (-26)], vm := .none },
  { cls := 27, slots := #[.int (-25)], vm := .none },
  { cls := 27, slots := #[.int (-24)], vm := .none },
  { cls := 27, slots := #[.int (-23)], vm := .none },
  { cls := 27, slots := #[.int (-22)], vm := .none },
  { cls := 27, slots := #[.int (-21)], vm := .none },
  { cls := 27, slots := #[.int (-20)], vm := .none },
  { cls := 27, slots := #[.int (-19)], vm := .none },
  { cls := 27, slots := #[.int (-18)], vm := .none },
  { cls := 27, slots := #[.int (-17)], vm := .none },
  { cls := 27, slots := #[.int (-16)], vm := .none },
  { cls := 27, slots := #[.int (-15)], vm := .none },
  { cls := 27, slots := #[.int (-14)], vm := .none },
  { cls := 27, slots := #[.int (-13)], vm := .none },
  { cls := 27, slots := #[.int (-12)], vm := .none },
  { cls := 27, slots := #[.int (-11)], vm := .none },
  { cls := 27, slots := #[.int (-10)], vm := .none },
  { cls := 27, slots := #[.int (-9)], vm := .none },
  { cls := 27, slots := #[.int (-8)], vm := .none },
  { cls := 27, slots := #[.int (-7)], vm := .none },
  { cls := 27, slots := #[.int (-6)], vm := .none },
  { cls := 27, slots := #[.int (-5)], vm := .none },
  { cls := 27, slots := #[.int (-4)], vm := .none },
  { cls := 27, slots := #[.int (-3)], vm := .none },
  { cls := 27, slots := #[.int (-2)], vm := .none },
  { cls := 27, slots := #[.int (-1)], vm := .none },
  { cls := 27, slots := #[.int 0], vm := .none },
  { cls := 27, slots := #[.int 1], vm := .none },
  { cls := 27, slots := #[.int 2], vm := .none },
  { cls := 27, slots := #[.int 3], vm := .none },
  { cls := 27, slots := #[.int 4], vm := .none },
  { cls := 27, slots := #[.int 5], vm := .none },
  { cls := 27, slots := #[.int 6], vm := .none },
  { cls := 27, slots := #[.int 7], vm := .none },
  { cls := 27, slots := #[.int 8], vm := .none },
  { cls := 27, slots := #[.int 9], vm := .none },
  { cls := 27, slots := #[.int 10], vm := .none },
  { cls := 27, slots := #[.int 11], vm := .none },
  { cls := 27, slots := #[.int 12], vm := .none },
  { cls := 27, slots := #[.int 13], vm := .none },
  { cls := 27, slots := #[.int 14], vm := .none },
  { cls := 27, slots := #[.int 15], vm := .none },
  { cls := 27, slots := #[.int 16], vm := .none },
  { cls := 27, slots := #[.int 17], vm := .none },
  { cls := 27, slots := #[.int 18], vm := .none },
  { cls := 27, slots := #[.int 19], vm := .none },
  { cls := 27, slots := #[.int 20], vm := .none },
  { cls := 27, slots := #[.int 21], vm := .none },
  { cls := 27, slots := #[.int 22], vm := .none },
  { cls := 27, slots := #[.int 23], vm := .none },
  { cls := 27, slots := #[.int 24], vm := .none },
  { cls := 27, slots := #[.int 25], vm := .none },
  { cls := 27, slots := #[.int 26], vm := .none },
  { cls := 27, slots := #[.int 27], vm := .none },
  { cls := 27, slots := #[.int 28], vm := .none },
  { cls := 27, slots := #[.int 29], vm := .none },
  { cls := 27, slots := #[.int 30], vm := .none },
  { cls := 27, slots := #[.int 31], vm := .none },
  { cls := 27, slots := #[.int 32], vm := .none },
  { cls := 27, slots := #[.int 33], vm := .none },
  { cls := 27, slots := #[.int 34], vm := .none },
  { cls := 27, slots := #[.int 35], vm := .none },
  { cls := 27, slots := #[.int 36], vm := .none },
  { cls := 27, slots := #[.int 37], vm := .none },
  { cls := 27, slots := #[.int 38], vm := .none },
  { cls := 27, slots := #[.int 39], vm := .none },
  { cls := 27, slots := #[.int 40], vm := .none },
  { cls := 27, slots := #[.int 41], vm := .none },
  { cls := 27, slots := #[.int 42], vm := .none },
  { cls := 27, slots := #[.int 43], vm := .none },
  { cls := 27, slots := #[.int 44], vm := .none },
  { cls := 27, slots := #[.int 45], vm := .none },
  { cls := 27, slots := #[.int 46], vm := .none },
  { cls := 27, slots := #[.int 47], vm := .none },
  { cls := 27, slots := #[.int 48], vm := .none },
  { cls := 27, slots := #[.int 49], vm := .none },
  { cls := 27, slots := #[.int 50], vm := .none },
  { cls := 27, slots := #[.int 51], vm := .none },
  { cls := 27, slots := #[.int 52], vm := .none },
  { cls := 27, slots := #[.int 53], vm := .none },
  { cls := 27, slots := #[.int 54], vm := .none },
  { cls := 27, slots := #[.int 55], vm := .none },
  { cls := 27, slots := #[.int 56], vm := .none },
  { cls := 27, slots := #[.int 57], vm := .none },
  { cls := 27, slots := #[.int 58], vm := .none },
  { cls := 27, slots := #[.int 59], vm := .none },
  { cls := 27, slots := #[.int 60], vm := .none },
  { cls := 27, slots := #[.int 61], vm := .none },
  { cls := 27, slots := #[.int 62], vm := .none },
  { cls := 27, slots := #[.int 63], vm := .none },
  { cls := 27, slots := #[.int 64], vm := .none },
  { cls := 27, slots := #[.int 65], vm := .none },
  { cls := 27, slots := #[.int 66], vm := .none },
  { cls := 27, slots := #[.int 67], vm := .none },
  { cls := 27, slots := #[.int 68], vm := .none },
  { cls := 27, slots := #[.int 69], vm := .none },
  { cls := 27, slots := #[.int 70], vm := .none },
  { cls := 27, slots := #[.int 71], vm := .none },
  { cls := 27, slots := #[.int 72], vm := .none },
  { cls := 27, slots := #[.int 73], vm := .none },
  { cls := 27, slots := #[.int 74], vm := .none },
  { cls := 27, slots := #[.int 75], vm := .none },
  { cls := 27, slots := #[.int 76], vm := .none },
  { cls := 27, slots := #[.int 77], vm := .none },
  { cls := 27, slots := #[.int 78], vm := .none },
  { cls := 27, slots := #[.int 79], vm := .none },
  { cls := 27, slots := #[.int 80], vm := .none },
  { cls := 27, slots := #[.int 81], vm := .none },
  { cls := 27, slots := #[.int 82], vm := .none },
  { cls := 27, slots := #[.int 83], vm := .none },
  { cls := 27, slots := #[.int 84], vm := .none },
  { cls := 27, slots := #[.int 85], vm := .none },
  { cls := 27, slots := #[.int 86], vm := .none },
  { cls := 27, slots := #[.int 87], vm := .none },
  { cls := 27, slots := #[.int 88], vm := .none },
  { cls := 27, slots := #[.int 89], vm := .none },
  { cls := 27, slots := #[.int 90], vm := .none },
  { cls := 27, slots := #[.int 91], vm := .none },
  { cls := 27, slots := #[.int 92], vm := .none },
  { cls := 27, slots := #[.int 93], vm := .none },
  { cls := 27, slots := #[.int 94], vm := .none },
  { cls := 27, slots := #[.int 95], vm := .none },
  { cls := 27, slots := #[.int 96], vm := .none },
  { cls := 27, slots := #[.int 97], vm := .none },
  { cls := 27, slots := #[.int 98], vm := .none },
  { cls := 27, slots := #[.int 99], vm := .none },
  { cls := 27, slots := #[.int 100], vm := .none },
  { cls := 27, slots := #[.int 101], vm := .none },
  { cls := 27, slots := #[.int 102], vm := .none },
  { cls := 27, slots := #[.int 103], vm := .none },
  { cls := 27, slots := #[.int 104], vm := .none },
  { cls := 27, slots := #[.int 105], vm := .none },
  { cls := 27, slots := #[.int 106], vm := .none },
  { cls := 27, slots := #[.int 107], vm := .none },
  { cls := 27, slots := #[.int 108], vm := .none },
  { cls := 27, slots := #[.int 109], vm := .none },
  { cls := 27, slots := #[.int 110], vm := .none },
  { cls := 27, slots := #[.int 111], vm := .none },
  { cls := 27, slots := #[.int 112], vm := .none },
  { cls := 27, slots := #[.int 113], vm := .none },
  { cls := 27, slots := #[.int 114], vm := .none },
  { cls := 27, slots := #[.int 115], vm := .none },
  { cls := 27, slots := #[.int 116], vm := .none },
  { cls := 27, slots := #[.int 117], vm := .none },
  { cls := 27, slots := #[.int 118], vm := .none },
  { cls := 27, slots := #[.int 119], vm := .none },
  { cls := 27, slots := #[.int 120], vm := .none },
  { cls := 27, slots := #[.int 121], vm := .none },
  { cls := 27, slots := #[.int 122], vm := .none },
  { cls := 27, slots := #[.int 123], vm := .none },
  { cls := 27, slots := #[.int 124], vm := .none },
  { cls := 27, slots := #[.int 125], vm := .none },
  { cls := 27, slots := #[.int 126], vm := .none },
  { cls := 27, slots := #[.int 127], vm := .none },
  { cls := 44, slots := #[], vm := .none },
  { cls := 44, slots := #[], vm := .none },
  { cls := 0, slots := #[], vm := .none },
  { cls := 36, slots := #[.null, .int 0], vm := .none }]
def classes : Array Class := #[k0, k1, k2, k3, k4, k5, k6, k7, k8, k9, k10, k11, k12, k13, k14, k15, k16, k17, k18, k19, k20, k21, k22, k23, k24, k25, k26, k27, k28, k29, k30, k31, k32, k33, k34, k35, k36, k37, k38, k39, k40, k41, k42, k43, k44, k45]
def interned : List (Array UInt16 × Addr) := []
def slotsUsed : Nat := 533
def theMethod : MethodId := ⟨1, 3⟩
def args0 : Array Value := #[.int 1, .int 1, .int 1, .int 1]
def aboutOver (below : List Frame) : State where
  vm := { classes := classes, interned := interned.toArray }
  heap := heap
  slotsUsed := slotsUsed
  threads := #[{ frames := .invoking theMethod args0 :: below }]
def below0 : List Frame := [.native { method := ⟨0, 0⟩, args := #[] }]
def about1 : State := aboutOver below0
def p0 : Program := .bare "" "" ""
def e0 : Env := launch0.env 0 0 0
theorem w_frames : about1.frames = Frame.invoking theMethod args0 :: below0 := rfl
set_option maxRecDepth 65536 in
theorem w_args : argsFit about1.vm theMethod args0 = true := by decide +kernel
set_option maxRecDepth 65536 in
theorem w_heap : heapFits about1 = true := by decide +kernel
set_option maxRecDepth 65536 in
theorem w_runnable : about1.curStatus? = some .runnable := by decide +kernel
set_option maxRecDepth 65536 in
theorem w_alone : about1.alone = true := by decide +kernel
set_option maxRecDepth 65536 in
theorem w_named : about1.methodNamed? x = some theMethod := by decide +kernel
set_option maxRecDepth 65536 in
theorem w_hears : about1.hears theMethod below0 = true := by decide +kernel
set_option maxRecDepth 65536 in
theorem w_ripe : about1.ripe theMethod args0 below0 = true := by decide +kernel
theorem w_running : about1.status = .running := rfl
set_option maxRecDepth 65536 in
theorem w_room : about1.hasRoom e0.platform room_1 = true :=
  launch0.hasRoom_least _ room_1 (by decide +kernel) (by decide +kernel) (by decide +kernel) (by decide +kernel) (by decide +kernel) (by decide +kernel)
theorem allAtoms_all (ts : List Jvm.Cond) (a : Array Jvm.Value) (st : Jvm.State) : (allAtoms ts).before a st = ts.all (fun c => c.before a st) := by
  induction ts with
  | nil => rfl
  | cons c t ih =>
    show (Jvm.Cond.and c (allAtoms t)).before a st = _
    rw [Jvm.Cond.before_and, ih, List.all_cons]
def words1 : List Jvm.Cond := Jvm.Cond.code x code maxLocals ret :: tables_1
/-- a 'code' word, met by the world's own term for the bytes: nothing is compared byte by byte -/
theorem code_word {y : MethodName} {bytes : ByteArray} {mx : Nat} {rt : Option FieldType} {a : Array Value} {s : State} {m : MethodId} {meth : Method} {c : Code} (h1 : s.methodNamed? y = some m) (h2 : s.vm.method? m = some meth) (h3 : meth.code = some c) (h4 : c.code = bytes)
    (h5 : (c.maxLocals == mx && c.exceptionTable.isEmpty && decide (c.maxStack ≤ mostOperands) && decide (meth.sig.returnType = rt) && !meth.locks && decide (parseMethodDescriptor y.desc = some meth.sig)) = true) : (Jvm.Cond.code y bytes mx rt).before a s = true := by
  simp only [Bool.and_eq_true, beq_iff_eq, Bool.not_eq_true', decide_eq_true_eq] at h5
  obtain ⟨⟨⟨⟨⟨g1, g2⟩, g3⟩, g4⟩, g5⟩, g6⟩ := h5
  simp [Cond.before, Cond.holds, Cond.value, h1, h2, h3, h4, g1, g2, g3, g4, g5, g6]
def isCode : Jvm.Cond → Bool
  | .code _ _ _ _ => true
  | _ => false
theorem all_split {L : List Jvm.Cond} {P : Jvm.Cond → Bool} (h1 : L.all (fun c => isCode c || P c) = true) (h2 : ∀ c ∈ L.filter isCode, P c = true) : L.all P = true := by
  refine List.all_eq_true.mpr fun c hc => ?_
  have h := List.all_eq_true.mp h1 c hc
  rcases Bool.eq_false_or_eq_true (isCode c) with hi | hi
  · exact h2 c (List.mem_filter.mpr ⟨hc, hi⟩)
  · simpa [hi] using h
set_option maxRecDepth 65536 in
theorem w_c0 : (Jvm.Cond.code x code maxLocals ret).before args0 about1 = true := code_word (m := ⟨1, 3⟩) (meth := k1m3) (c := k1c3) (by decide +kernel) rfl rfl rfl (by decide +kernel)
set_option maxRecDepth 65536 in
theorem w_c1 : (Jvm.Cond.code ({ cls := "com/example/lanewright/lanewright/RouteTimesTimePinLaw", name := "end", desc := "(II)I" } : Jvm.MethodName) method_2_code (2 : Nat) (Option.some Jvm.ClassFile.FieldType.int)).before args0 about1 = true := code_word (m := ⟨1, 1⟩) (meth := k1m1) (c := k1c1) (by decide +kernel) rfl rfl rfl (by decide +kernel)
set_option maxRecDepth 65536 in
theorem w_c2 : (Jvm.Cond.code ({ cls := "java/util/ArrayList", name := "<init>", desc := "()V" } : Jvm.MethodName) jdk_38_method_2_code (1 : Nat) (Option.none : Option Jvm.ClassFile.FieldType)).before args0 about1 = true := code_word (m := ⟨11, 0⟩) (meth := k11m0) (c := k11c0) (by decide +kernel) rfl rfl rfl (by decide +kernel)
set_option maxRecDepth 65536 in
theorem w_c3 : (Jvm.Cond.code ({ cls := "java/util/AbstractList", name := "<init>", desc := "()V" } : Jvm.MethodName) jdk_39_method_1_code (1 : Nat) (Option.none : Option Jvm.ClassFile.FieldType)).before args0 about1 = true := code_word (m := ⟨7, 0⟩) (meth := k7m0) (c := k7c0) (by decide +kernel) rfl rfl rfl (by decide +kernel)
set_option maxRecDepth 65536 in
theorem w_c4 : (Jvm.Cond.code ({ cls := "java/util/AbstractCollection", name := "<init>", desc := "()V" } : Jvm.MethodName) jdk_22_method_1_code (1 : Nat) (Option.none : Option Jvm.ClassFile.FieldType)).before args0 about1 = true := code_word (m := ⟨4, 0⟩) (meth := k4m0) (c := k4c0) (by decide +kernel) rfl rfl rfl (by decide +kernel)
set_option maxRecDepth 65536 in
theorem w_c5 : (Jvm.Cond.code ({ cls := "java/lang/Object", name := "<init>", desc := "()V" } : Jvm.MethodName) object_method_1_code (1 : Nat) (Option.none : Option Jvm.ClassFile.FieldType)).before args0 about1 = true := code_word (m := ⟨0, 0⟩) (meth := k0m0) (c := k0c0) (by decide +kernel) rfl rfl rfl (by decide +kernel)
set_option maxRecDepth 65536 in
theorem w_c6 : (Jvm.Cond.code ({ cls := "com/example/lanewright/lanewright/Network$Arc", name := "<init>", desc := "(IIDDDD)V" } : Jvm.MethodName) prog_30_method_1_code (11 : Nat) (Option.none : Option Jvm.ClassFile.FieldType)).before args0 about1 = true := code_word (m := ⟨13, 0⟩) (meth := k13m0) (c := k13c0) (by decide +kernel) rfl rfl rfl (by decide +kernel)
set_option maxRecDepth 65536 in
theorem w_c7 : (Jvm.Cond.code ({ cls := "java/lang/Record", name := "<init>", desc := "()V" } : Jvm.MethodName) jdk_30_method_1_code (1 : Nat) (Option.none : Option Jvm.ClassFile.FieldType)).before args0 about1 = true := code_word (m := ⟨12, 0⟩) (meth := k12m0) (c := k12c0) (by decide +kernel) rfl rfl rfl (by decide +kernel)
set_option maxRecDepth 65536 in
theorem w_c8 : (Jvm.Cond.code ({ cls := "java/util/ArrayList", name := "add", desc := "(Ljava/lang/Object;)Z" } : Jvm.MethodName) jdk_38_method_25_code (2 : Nat) (Option.some Jvm.ClassFile.FieldType.boolean)).before args0 about1 = true := code_word (m := ⟨11, 7⟩) (meth := k11m7) (c := k11c7) (by decide +kernel) rfl rfl rfl (by decide +kernel)
set_option maxRecDepth 65536 in
theorem w_c9 : (Jvm.Cond.code ({ cls := "java/util/ArrayList", name := "add", desc := "(Ljava/lang/Object;[Ljava/lang/Object;I)V" } : Jvm.MethodName) jdk_38_method_24_code (4 : Nat) (Option.none : Option Jvm.ClassFile.FieldType)).before args0 about1 = true := code_word (m := ⟨11, 6⟩) (meth := k11m6) (c := k11c6) (by decide +kernel) rfl rfl rfl (by decide +kernel)
set_option maxRecDepth 65536 in
theorem w_c10 : (Jvm.Cond.code ({ cls := "java/util/ArrayList", name := "grow", desc := "()[Ljava/lang/Object;" } : Jvm.MethodName) jdk_38_method_7_code (1 : Nat) (Option.some (Jvm.ClassFile.FieldType.array (Jvm.ClassFile.FieldType.object "java/lang/Object")))).before args0 about1 = true := code_word (m := ⟨11, 2⟩) (meth := k11m2) (c := k11c2) (by decide +kernel) rfl rfl rfl (by decide +kernel)
set_option maxRecDepth 65536 in
theorem w_c11 : (Jvm.Cond.code ({ cls := "java/util/ArrayList", name := "grow", desc := "(I)[Ljava/lang/Object;" } : Jvm.MethodName) jdk_38_method_6_code (4 : Nat) (Option.some (Jvm.ClassFile.FieldType.array (Jvm.ClassFile.FieldType.object "java/lang/Object")))).before args0 about1 = true := code_word (m := ⟨11, 1⟩) (meth := k11m1) (c := k11c1) (by decide +kernel) rfl rfl rfl (by decide +kernel)
set_option maxRecDepth 65536 in
theorem w_c12 : (Jvm.Cond.code ({ cls := "java/lang/Math", name := "max", desc := "(II)I" } : Jvm.MethodName) jdk_29_method_65_code (2 : Nat) (Option.some Jvm.ClassFile.FieldType.int)).before args0 about1 = true := code_word (m := ⟨14, 1⟩) (meth := k14m1) (c := k14c1) (by decide +kernel) rfl rfl rfl (by decide +kernel)
set_option maxRecDepth 65536 in
theorem w_c13 : (Jvm.Cond.code ({ cls := "com/example/lanewright/lanewright/Network", name := "<init>", desc := "(IILjava/util/List;)V" } : Jvm.MethodName) prog_29_method_1_code (7 : Nat) (Option.none : Option Jvm.ClassFile.FieldType)).before args0 about1 = true := code_word (m := ⟨15, 0⟩) (meth := k15m0) (c := k15c0) (by decide +kernel) rfl rfl rfl (by decide +kernel)
set_option maxRecDepth 65536 in
theorem w_c14 : (Jvm.Cond.code ({ cls := "java/util/ArrayList", name := "size", desc := "()I" } : Jvm.MethodName) jdk_38_method_8_code (1 : Nat) (Option.some Jvm.ClassFile.FieldType.int)).before args0 about1 = true := code_word (m := ⟨11, 3⟩) (meth := k11m3) (c := k11c3) (by decide +kernel) rfl rfl rfl (by decide +kernel)
set_option maxRecDepth 65536 in
theorem w_c15 : (Jvm.Cond.code ({ cls := "java/util/ArrayList", name := "get", desc := "(I)Ljava/lang/Object;" } : Jvm.MethodName) jdk_38_method_20_code (2 : Nat) (Option.some (Jvm.ClassFile.FieldType.object "java/lang/Object"))).before args0 about1 = true := code_word (m := ⟨11, 5⟩) (meth := k11m5) (c := k11c5) (by decide +kernel) rfl rfl rfl (by decide +kernel)
set_option maxRecDepth 65536 in
theorem w_c16 : (Jvm.Cond.code ({ cls := "java/util/Objects", name := "checkIndex", desc := "(II)I" } : Jvm.MethodName) jdk_31_method_17_code (2 : Nat) (Option.some Jvm.ClassFile.FieldType.int)).before args0 about1 = true := code_word (m := ⟨16, 2⟩) (meth := k16m2) (c := k16c2) (by decide +kernel) rfl rfl rfl (by decide +kernel)
set_option maxRecDepth 65536 in
theorem w_c17 : (Jvm.Cond.code ({ cls := "jdk/internal/util/Preconditions", name := "checkIndex", desc := "(IILjava/util/function/BiFunction;)I" } : Jvm.MethodName) jdk_41_method_11_code (3 : Nat) (Option.some Jvm.ClassFile.FieldType.int)).before args0 about1 = true := code_word (m := ⟨17, 1⟩) (meth := k17m1) (c := k17c1) (by decide +kernel) rfl rfl rfl (by decide +kernel)
set_option maxRecDepth 65536 in
theorem w_c18 : (Jvm.Cond.code ({ cls := "java/util/ArrayList", name := "elementData", desc := "(I)Ljava/lang/Object;" } : Jvm.MethodName) jdk_38_method_18_code (2 : Nat) (Option.some (Jvm.ClassFile.FieldType.object "java/lang/Object"))).before args0 about1 = true := code_word (m := ⟨11, 4⟩) (meth := k11m4) (c := k11c4) (by decide +kernel) rfl rfl rfl (by decide +kernel)
set_option maxRecDepth 65536 in
theorem w_c19 : (Jvm.Cond.code ({ cls := "com/example/lanewright/lanewright/Network$Arc", name := "tail", desc := "()I" } : Jvm.MethodName) prog_30_method_5_code (1 : Nat) (Option.some Jvm.ClassFile.FieldType.int)).before args0 about1 = true := code_word (m := ⟨13, 1⟩) (meth := k13m1) (c := k13c1) (by decide +kernel) rfl rfl rfl (by decide +kernel)
set_option maxRecDepth 65536 in
theorem w_c20 : (Jvm.Cond.code ({ cls := "com/example/lanewright/lanewright/Network$Arc", name := "head", desc := "()I" } : Jvm.MethodName) prog_30_method_6_code (1 : Nat) (Option.some Jvm.ClassFile.FieldType.int)).before args0 about1 = true := code_word (m := ⟨13, 2⟩) (meth := k13m2) (c := k13c2) (by decide +kernel) rfl rfl rfl (by decide +kernel)
set_option maxRecDepth 65536 in
theorem w_c21 : (Jvm.Cond.code ({ cls := "com/example/lanewright/lanewright/Network$Arc", name := "capacity", desc := "()D" } : Jvm.MethodName) prog_30_method_7_code (1 : Nat) (Option.some Jvm.ClassFile.FieldType.double)).before args0 about1 = true := code_word (m := ⟨13, 3⟩) (meth := k13m3) (c := k13c3) (by decide +kernel) rfl rfl rfl (by decide +kernel)
set_option maxRecDepth 65536 in
theorem w_c22 : (Jvm.Cond.code ({ cls := "com/example/lanewright/lanewright/Network$Arc", name := "freeFlowTime", desc := "()D" } : Jvm.MethodName) prog_30_method_8_code (1 : Nat) (Option.some Jvm.ClassFile.FieldType.double)).before args0 about1 = true := code_word (m := ⟨13, 4⟩) (meth := k13m4) (c := k13c4) (by decide +kernel) rfl rfl rfl (by decide +kernel)
set_option maxRecDepth 65536 in
theorem w_c23 : (Jvm.Cond.code ({ cls := "com/example/lanewright/lanewright/Network$Arc", name := "b", desc := "()D" } : Jvm.MethodName) prog_30_method_9_code (1 : Nat) (Option.some Jvm.ClassFile.FieldType.double)).before args0 about1 = true := code_word (m := ⟨13, 5⟩) (meth := k13m5) (c := k13c5) (by decide +kernel) rfl rfl rfl (by decide +kernel)
set_option maxRecDepth 65536 in
theorem w_c24 : (Jvm.Cond.code ({ cls := "com/example/lanewright/lanewright/Network$Arc", name := "power", desc := "()D" } : Jvm.MethodName) prog_30_method_10_code (1 : Nat) (Option.some Jvm.ClassFile.FieldType.double)).before args0 about1 = true := code_word (m := ⟨13, 6⟩) (meth := k13m6) (c := k13c6) (by decide +kernel) rfl rfl rfl (by decide +kernel)
set_option maxRecDepth 65536 in
theorem w_c25 : (Jvm.Cond.code ({ cls := "com/example/lanewright/lanewright/TripTable$Pair", name := "<init>", desc := "(II)V" } : Jvm.MethodName) prog_73_method_1_code (3 : Nat) (Option.none : Option Jvm.ClassFile.FieldType)).before args0 about1 = true := code_word (m := ⟨18, 0⟩) (meth := k18m0) (c := k18c0) (by decide +kernel) rfl rfl rfl (by decide +kernel)
set_option maxRecDepth 65536 in
theorem w_c26 : (Jvm.Cond.code ({ cls := "com/example/lanewright/lanewright/RouteTimes", name := "<init>", desc := "(Lcom/example/lanewright/lanewright/Network;[DLjava/util/List;)V" } : Jvm.MethodName) prog_47_method_1_code (10 : Nat) (Option.none : Option Jvm.ClassFile.FieldType)).before args0 about1 = true := code_word (m := ⟨19, 0⟩) (meth := k19m0) (c := k19c0) (by decide +kernel) rfl rfl rfl (by decide +kernel)
set_option maxRecDepth 65536 in
theorem w_c27 : (Jvm.Cond.code ({ cls := "com/example/lanewright/lanewright/Network", name := "nodeCount", desc := "()I" } : Jvm.MethodName) prog_29_method_2_code (1 : Nat) (Option.some Jvm.ClassFile.FieldType.int)).before args0 about1 = true := code_word (m := ⟨15, 1⟩) (meth := k15m1) (c := k15c1) (by decide +kernel) rfl rfl rfl (by decide +kernel)
set_option maxRecDepth 65536 in
theorem w_c28 : (Jvm.Cond.code ({ cls := "java/util/Arrays", name := "fill", desc := "([II)V" } : Jvm.MethodName) jdk_65_method_103_code (4 : Nat) (Option.none : Option Jvm.ClassFile.FieldType)).before args0 about1 = true := code_word (m := ⟨20, 1⟩) (meth := k20m1) (c := k20c1) (by decide +kernel) rfl rfl rfl (by decide +kernel)
set_option maxRecDepth 65536 in
theorem w_c29 : (Jvm.Cond.code ({ cls := "java/util/ArrayList", name := "iterator", desc := "()Ljava/util/Iterator;" } : Jvm.MethodName) jdk_38_method_55_code (1 : Nat) (Option.some (Jvm.ClassFile.FieldType.object "java/util/Iterator"))).before args0 about1 = true := code_word (m := ⟨11, 8⟩) (meth := k11m8) (c := k11c8) (by decide +kernel) rfl rfl rfl (by decide +kernel)
set_option maxRecDepth 65536 in
theorem w_c30 : (Jvm.Cond.code ({ cls := "java/util/ArrayList$Itr", name := "<init>", desc := "(Ljava/util/ArrayList;)V" } : Jvm.MethodName) jdk_49_method_1_code (2 : Nat) (Option.none : Option Jvm.ClassFile.FieldType)).before args0 about1 = true := code_word (m := ⟨22, 0⟩) (meth := k22m0) (c := k22c0) (by decide +kernel) rfl rfl rfl (by decide +kernel)
set_option maxRecDepth 65536 in
theorem w_c31 : (Jvm.Cond.code ({ cls := "java/util/ArrayList$Itr", name := "hasNext", desc := "()Z" } : Jvm.MethodName) jdk_49_method_2_code (1 : Nat) (Option.some Jvm.ClassFile.FieldType.boolean)).before args0 about1 = true := code_word (m := ⟨22, 1⟩) (meth := k22m1) (c := k22c1) (by decide +kernel) rfl rfl rfl (by decide +kernel)
set_option maxRecDepth 65536 in
theorem w_c32 : (Jvm.Cond.code ({ cls := "java/util/ArrayList$Itr", name := "next", desc := "()Ljava/lang/Object;" } : Jvm.MethodName) jdk_49_method_3_code (3 : Nat) (Option.some (Jvm.ClassFile.FieldType.object "java/lang/Object"))).before args0 about1 = true := code_word (m := ⟨22, 2⟩) (meth := k22m2) (c := k22c2) (by decide +kernel) rfl rfl rfl (by decide +kernel)
set_option maxRecDepth 65536 in
theorem w_c33 : (Jvm.Cond.code ({ cls := "java/util/ArrayList$Itr", name := "checkForComodification", desc := "()V" } : Jvm.MethodName) jdk_49_method_6_code (1 : Nat) (Option.none : Option Jvm.ClassFile.FieldType)).before args0 about1 = true := code_word (m := ⟨22, 3⟩) (meth := k22m3) (c := k22c3) (by decide +kernel) rfl rfl rfl (by decide +kernel)
set_option maxRecDepth 65536 in
theorem w_c34 : (Jvm.Cond.code ({ cls := "com/example/lanewright/lanewright/TripTable$Pair", name := "origin", desc := "()I" } : Jvm.MethodName) prog_73_method_5_code (1 : Nat) (Option.some Jvm.ClassFile.FieldType.int)).before args0 about1 = true := code_word (m := ⟨18, 1⟩) (meth := k18m1) (c := k18c1) (by decide +kernel) rfl rfl rfl (by decide +kernel)
set_option maxRecDepth 65536 in
theorem w_c35 : (Jvm.Cond.code ({ cls := "java/lang/Integer", name := "valueOf", desc := "(I)Ljava/lang/Integer;" } : Jvm.MethodName) jdk_33_method_22_code (1 : Nat) (Option.some (Jvm.ClassFile.FieldType.object "java/lang/Integer"))).before args0 about1 = true := code_word (m := ⟨27, 0⟩) (meth := k27m0) (c := k27c0) (by decide +kernel) rfl rfl rfl (by decide +kernel)
set_option maxRecDepth 65536 in
theorem w_c36 : (Jvm.Cond.code ({ cls := "com/example/lanewright/lanewright/TripTable$Pair", name := "destination", desc := "()I" } : Jvm.MethodName) prog_73_method_6_code (1 : Nat) (Option.some Jvm.ClassFile.FieldType.int)).before args0 about1 = true := code_word (m := ⟨18, 2⟩) (meth := k18m2) (c := k18c2) (by decide +kernel) rfl rfl rfl (by decide +kernel)
set_option maxRecDepth 65536 in
theorem w_c37 : (Jvm.Cond.code ({ cls := "java/util/List", name := "of", desc := "(Ljava/lang/Object;Ljava/lang/Object;)Ljava/util/List;" } : Jvm.MethodName) jdk_40_method_38_code (2 : Nat) (Option.some (Jvm.ClassFile.FieldType.object "java/util/List"))).before args0 about1 = true := code_word (m := ⟨6, 4⟩) (meth := k6m4) (c := k6c4) (by decide +kernel) rfl rfl rfl (by decide +kernel)
set_option maxRecDepth 65536 in
theorem w_c38 : (Jvm.Cond.code ({ cls := "java/util/ImmutableCollections$List12", name := "<init>", desc := "(Ljava/lang/Object;Ljava/lang/Object;)V" } : Jvm.MethodName) jdk_44_method_2_code (3 : Nat) (Option.none : Option Jvm.ClassFile.FieldType)).before args0 about1 = true := code_word (m := ⟨31, 0⟩) (meth := k31m0) (c := k31c0) (by decide +kernel) rfl rfl rfl (by decide +kernel)
set_option maxRecDepth 65536 in
theorem w_c39 : (Jvm.Cond.code ({ cls := "java/util/ImmutableCollections$AbstractImmutableList", name := "<init>", desc := "()V" } : Jvm.MethodName) jdk_46_method_1_code (1 : Nat) (Option.none : Option Jvm.ClassFile.FieldType)).before args0 about1 = true := code_word (m := ⟨30, 0⟩) (meth := k30m0) (c := k30c0) (by decide +kernel) rfl rfl rfl (by decide +kernel)
set_option maxRecDepth 65536 in
theorem w_c40 : (Jvm.Cond.code ({ cls := "java/util/ImmutableCollections$AbstractImmutableCollection", name := "<init>", desc := "()V" } : Jvm.MethodName) jdk_47_method_1_code (1 : Nat) (Option.none : Option Jvm.ClassFile.FieldType)).before args0 about1 = true := code_word (m := ⟨29, 0⟩) (meth := k29m0) (c := k29c0) (by decide +kernel) rfl rfl rfl (by decide +kernel)
set_option maxRecDepth 65536 in
theorem w_c41 : (Jvm.Cond.code ({ cls := "java/util/Objects", name := "requireNonNull", desc := "(Ljava/lang/Object;)Ljava/lang/Object;" } : Jvm.MethodName) jdk_31_method_10_code (1 : Nat) (Option.some (Jvm.ClassFile.FieldType.object "java/lang/Object"))).before args0 about1 = true := code_word (m := ⟨16, 1⟩) (meth := k16m1) (c := k16c1) (by decide +kernel) rfl rfl rfl (by decide +kernel)
set_option maxRecDepth 65536 in
theorem w_c42 : (Jvm.Cond.code ({ cls := "java/util/ImmutableCollections$AbstractImmutableList", name := "iterator", desc := "()Ljava/util/Iterator;" } : Jvm.MethodName) jdk_46_method_10_code (1 : Nat) (Option.some (Jvm.ClassFile.FieldType.object "java/util/Iterator"))).before args0 about1 = true := code_word (m := ⟨30, 1⟩) (meth := k30m1) (c := k30c1) (by decide +kernel) rfl rfl rfl (by decide +kernel)
set_option maxRecDepth 65536 in
theorem w_c43 : (Jvm.Cond.code ({ cls := "java/util/ImmutableCollections$List12", name := "size", desc := "()I" } : Jvm.MethodName) jdk_44_method_3_code (1 : Nat) (Option.some Jvm.ClassFile.FieldType.int)).before args0 about1 = true := code_word (m := ⟨31, 1⟩) (meth := k31m1) (c := k31c1) (by decide +kernel) rfl rfl rfl (by decide +kernel)
set_option maxRecDepth 65536 in
theorem w_c44 : (Jvm.Cond.code ({ cls := "java/util/ImmutableCollections$ListItr", name := "<init>", desc := "(Ljava/util/List;I)V" } : Jvm.MethodName) jdk_53_method_1_code (3 : Nat) (Option.none : Option Jvm.ClassFile.FieldType)).before args0 about1 = true := code_word (m := ⟨33, 0⟩) (meth := k33m0) (c := k33c0) (by decide +kernel) rfl rfl rfl (by decide +kernel)
set_option maxRecDepth 65536 in
theorem w_c45 : (Jvm.Cond.code ({ cls := "java/util/ImmutableCollections$ListItr", name := "hasNext", desc := "()Z" } : Jvm.MethodName) jdk_53_method_3_code (1 : Nat) (Option.some Jvm.ClassFile.FieldType.boolean)).before args0 about1 = true := code_word (m := ⟨33, 1⟩) (meth := k33m1) (c := k33c1) (by decide +kernel) rfl rfl rfl (by decide +kernel)
set_option maxRecDepth 65536 in
theorem w_c46 : (Jvm.Cond.code ({ cls := "java/util/ImmutableCollections$List12", name := "get", desc := "(I)Ljava/lang/Object;" } : Jvm.MethodName) jdk_44_method_5_code (2 : Nat) (Option.some (Jvm.ClassFile.FieldType.object "java/lang/Object"))).before args0 about1 = true := code_word (m := ⟨31, 2⟩) (meth := k31m2) (c := k31c2) (by decide +kernel) rfl rfl rfl (by decide +kernel)
set_option maxRecDepth 65536 in
theorem w_c47 : (Jvm.Cond.code ({ cls := "java/lang/Integer", name := "intValue", desc := "()I" } : Jvm.MethodName) jdk_33_method_27_code (1 : Nat) (Option.some Jvm.ClassFile.FieldType.int)).before args0 about1 = true := code_word (m := ⟨27, 1⟩) (meth := k27m1) (c := k27c1) (by decide +kernel) rfl rfl rfl (by decide +kernel)
set_option maxRecDepth 65536 in
theorem w_c48 : (Jvm.Cond.code ({ cls := "com/example/lanewright/lanewright/ShortestPathTree", name := "<init>", desc := "(Lcom/example/lanewright/lanewright/Network;)V" } : Jvm.MethodName) prog_58_method_1_code (3 : Nat) (Option.none : Option Jvm.ClassFile.FieldType)).before args0 about1 = true := code_word (m := ⟨35, 0⟩) (meth := k35m0) (c := k35c0) (by decide +kernel) rfl rfl rfl (by decide +kernel)
set_option maxRecDepth 65536 in
theorem w_c49 : (Jvm.Cond.code ({ cls := "com/example/lanewright/lanewright/ShortestPathTree", name := "build", desc := "(I[D)V" } : Jvm.MethodName) prog_58_method_2_code (9 : Nat) (Option.none : Option Jvm.ClassFile.FieldType)).before args0 about1 = true := code_word (m := ⟨35, 1⟩) (meth := k35m1) (c := k35c1) (by decide +kernel) rfl rfl rfl (by decide +kernel)
set_option maxRecDepth 65536 in
theorem w_c50 : (Jvm.Cond.code ({ cls := "java/util/Arrays", name := "fill", desc := "([DD)V" } : Jvm.MethodName) jdk_65_method_113_code (5 : Nat) (Option.none : Option Jvm.ClassFile.FieldType)).before args0 about1 = true := code_word (m := ⟨20, 2⟩) (meth := k20m2) (c := k20c2) (by decide +kernel) rfl rfl rfl (by decide +kernel)
set_option maxRecDepth 65536 in
theorem w_c51 : (Jvm.Cond.code ({ cls := "com/example/lanewright/lanewright/ShortestPathTree", name := "push", desc := "(I)V" } : Jvm.MethodName) prog_58_method_6_code (2 : Nat) (Option.none : Option Jvm.ClassFile.FieldType)).before args0 about1 = true := code_word (m := ⟨35, 3⟩) (meth := k35m3) (c := k35c3) (by decide +kernel) rfl rfl rfl (by decide +kernel)
set_option maxRecDepth 65536 in
theorem w_c52 : (Jvm.Cond.code ({ cls := "com/example/lanewright/lanewright/ShortestPathTree", name := "siftUp", desc := "(I)V" } : Jvm.MethodName) prog_58_method_8_code (4 : Nat) (Option.none : Option Jvm.ClassFile.FieldType)).before args0 about1 = true := code_word (m := ⟨35, 5⟩) (meth := k35m5) (c := k35c5) (by decide +kernel) rfl rfl rfl (by decide +kernel)
set_option maxRecDepth 65536 in
theorem w_c53 : (Jvm.Cond.code ({ cls := "com/example/lanewright/lanewright/ShortestPathTree", name := "pop", desc := "()I" } : Jvm.MethodName) prog_58_method_7_code (2 : Nat) (Option.some Jvm.ClassFile.FieldType.int)).before args0 about1 = true := code_word (m := ⟨35, 4⟩) (meth := k35m4) (c := k35c4) (by decide +kernel) rfl rfl rfl (by decide +kernel)
set_option maxRecDepth 65536 in
theorem w_c54 : (Jvm.Cond.code ({ cls := "com/example/lanewright/lanewright/Network", name := "firstOut", desc := "(I)I" } : Jvm.MethodName) prog_29_method_8_code (2 : Nat) (Option.some Jvm.ClassFile.FieldType.int)).before args0 about1 = true := code_word (m := ⟨15, 4⟩) (meth := k15m4) (c := k15c4) (by decide +kernel) rfl rfl rfl (by decide +kernel)
set_option maxRecDepth 65536 in
theorem w_c55 : (Jvm.Cond.code ({ cls := "com/example/lanewright/lanewright/Network", name := "endOut", desc := "(I)I" } : Jvm.MethodName) prog_29_method_9_code (2 : Nat) (Option.some Jvm.ClassFile.FieldType.int)).before args0 about1 = true := code_word (m := ⟨15, 5⟩) (meth := k15m5) (c := k15c5) (by decide +kernel) rfl rfl rfl (by decide +kernel)
set_option maxRecDepth 65536 in
theorem w_c56 : (Jvm.Cond.code ({ cls := "com/example/lanewright/lanewright/ShortestPathTree", name := "distance", desc := "(I)D" } : Jvm.MethodName) prog_58_method_3_code (2 : Nat) (Option.some Jvm.ClassFile.FieldType.double)).before args0 about1 = true := code_word (m := ⟨35, 2⟩) (meth := k35m2) (c := k35c2) (by decide +kernel) rfl rfl rfl (by decide +kernel)
set_option maxRecDepth 65536 in
theorem w_c57 : (Jvm.Cond.code ({ cls := "com/example/lanewright/lanewright/Network", name := "outArc", desc := "(I)I" } : Jvm.MethodName) prog_29_method_10_code (2 : Nat) (Option.some Jvm.ClassFile.FieldType.int)).before args0 about1 = true := code_word (m := ⟨15, 6⟩) (meth := k15m6) (c := k15c6) (by decide +kernel) rfl rfl rfl (by decide +kernel)
set_option maxRecDepth 65536 in
theorem w_c58 : (Jvm.Cond.code ({ cls := "com/example/lanewright/lanewright/Network", name := "head", desc := "(I)I" } : Jvm.MethodName) prog_29_method_6_code (2 : Nat) (Option.some Jvm.ClassFile.FieldType.int)).before args0 about1 = true := code_word (m := ⟨15, 3⟩) (meth := k15m3) (c := k15c3) (by decide +kernel) rfl rfl rfl (by decide +kernel)
set_option maxRecDepth 65536 in
theorem w_c59 : (Jvm.Cond.code ({ cls := "com/example/lanewright/lanewright/RouteTimes", name := "time", desc := "(II)D" } : Jvm.MethodName) prog_47_method_2_code (3 : Nat) (Option.some Jvm.ClassFile.FieldType.double)).before args0 about1 = true := code_word (m := ⟨19, 1⟩) (meth := k19m1) (c := k19c1) (by decide +kernel) rfl rfl rfl (by decide +kernel)
set_option maxRecDepth 65536 in
theorem w_c60 : (Jvm.Cond.code ({ cls := "com/example/lanewright/lanewright/RouteTimesTimePinLaw", name := "direct", desc := "(II[I[I[I)I" } : Jvm.MethodName) method_3_code (6 : Nat) (Option.some Jvm.ClassFile.FieldType.int)).before args0 about1 = true := code_word (m := ⟨1, 2⟩) (meth := k1m2) (c := k1c2) (by decide +kernel) rfl rfl rfl (by decide +kernel)
set_option maxRecDepth 65536 in
theorem w_c61 : (Jvm.Cond.code ({ cls := "java/lang/Math", name := "min", desc := "(II)I" } : Jvm.MethodName) jdk_29_method_69_code (2 : Nat) (Option.some Jvm.ClassFile.FieldType.int)).before args0 about1 = true := code_word (m := ⟨14, 2⟩) (meth := k14m2) (c := k14c2) (by decide +kernel) rfl rfl rfl (by decide +kernel)
set_option maxRecDepth 65536 in
theorem w_c62 : (Jvm.Cond.code ({ cls := "com/example/lanewright/lanewright/Network", name := "firstThruNode", desc := "()I" } : Jvm.MethodName) prog_29_method_3_code (1 : Nat) (Option.some Jvm.ClassFile.FieldType.int)).before args0 about1 = true := code_word (m := ⟨15, 2⟩) (meth := k15m2) (c := k15c2) (by decide +kernel) rfl rfl rfl (by decide +kernel)
set_option maxRecDepth 65536 in
theorem w_c63 : (Jvm.Cond.code ({ cls := "com/example/lanewright/lanewright/ShortestPathTree", name := "siftDown", desc := "(I)V" } : Jvm.MethodName) prog_58_method_9_code (4 : Nat) (Option.none : Option Jvm.ClassFile.FieldType)).before args0 about1 = true := code_word (m := ⟨35, 6⟩) (meth := k35m6) (c := k35c6) (by decide +kernel) rfl rfl rfl (by decide +kernel)
def codes1 : List Jvm.Cond := [Jvm.Cond.code x code maxLocals ret, Jvm.Cond.code ({ cls := "com/example/lanewright/lanewright/RouteTimesTimePinLaw", name := "end", desc := "(II)I" } : Jvm.MethodName) method_2_code (2 : Nat) (Option.some Jvm.ClassFile.FieldType.int), Jvm.Cond.code ({ cls := "java/util/ArrayList", name := "<init>", desc := "()V" } : Jvm.MethodName) jdk_38_method_2_code (1 : Nat) (Option.none : Option Jvm.ClassFile.FieldType), Jvm.Cond.code ({ cls := "java/util/AbstractList", name := "<init>", desc := "()V" } : Jvm.MethodName) jdk_39_method_1_code (1 : Nat) (Option.none : Option Jvm.ClassFile.FieldType), Jvm.Cond.code ({ cls := "java/util/AbstractCollection", name := "<init>", desc := "()V" } : Jvm.MethodName) jdk_22_method_1_code (1 : Nat) (Option.none : Option Jvm.ClassFile.FieldType), Jvm.Cond.code ({ cls := "java/lang/Object", name := "<init>", desc := "()V" } : Jvm.MethodName) object_method_1_code (1 : Nat) (Option.none : Option Jvm.ClassFile.FieldType), Jvm.Cond.code ({ cls := "com/example/lanewright/lanewright/Network$Arc", name := "<init>", desc := "(IIDDDD)V" } : Jvm.MethodName) prog_30_method_1_code (11 : Nat) (Option.none : Option Jvm.ClassFile.FieldType), Jvm.Cond.code ({ cls := "java/lang/Record", name := "<init>", desc := "()V" } : Jvm.MethodName) jdk_30_method_1_code (1 : Nat) (Option.none : Option Jvm.ClassFile.FieldType), Jvm.Cond.code ({ cls := "java/util/ArrayList", name := "add", desc := "(Ljava/lang/Object;)Z" } : Jvm.MethodName) jdk_38_method_25_code (2 : Nat) (Option.some Jvm.ClassFile.FieldType.boolean), Jvm.Cond.code ({ cls := "java/util/ArrayList", name := "add", desc := "(Ljava/lang/Object;[Ljava/lang/Object;I)V" } : Jvm.MethodName) jdk_38_method_24_code (4 : Nat) (Option.none : Option Jvm.ClassFile.FieldType), Jvm.Cond.code ({ cls := "java/util/ArrayList", name := "grow", desc := "()[Ljava/lang/Object;" } : Jvm.MethodName) jdk_38_method_7_code (1 : Nat) (Option.some (Jvm.ClassFile.FieldType.array (Jvm.ClassFile.FieldType.object "java/lang/Object"))), Jvm.Cond.code ({ cls := "java/util/ArrayList", name := "grow", desc := "(I)[Ljava/lang/Object;" } : Jvm.MethodName) jdk_38_method_6_code (4 : Nat) (Option.some (Jvm.ClassFile.FieldType.array (Jvm.ClassFile.FieldType.object "java/lang/Object"))), Jvm.Cond.code ({ cls := "java/lang/Math", name := "max", desc := "(II)I" } : Jvm.MethodName) jdk_29_method_65_code (2 : Nat) (Option.some Jvm.ClassFile.FieldType.int), Jvm.Cond.code ({ cls := "com/example/lanewright/lanewright/Network", name := "<init>", desc := "(IILjava/util/List;)V" } : Jvm.MethodName) prog_29_method_1_code (7 : Nat) (Option.none : Option Jvm.ClassFile.FieldType), Jvm.Cond.code ({ cls := "java/util/ArrayList", name := "size", desc := "()I" } : Jvm.MethodName) jdk_38_method_8_code (1 : Nat) (Option.some Jvm.ClassFile.FieldType.int), Jvm.Cond.code ({ cls := "java/util/ArrayList", name := "get", desc := "(I)Ljava/lang/Object;" } : Jvm.MethodName) jdk_38_method_20_code (2 : Nat) (Option.some (Jvm.ClassFile.FieldType.object "java/lang/Object")), Jvm.Cond.code ({ cls := "java/util/Objects", name := "checkIndex", desc := "(II)I" } : Jvm.MethodName) jdk_31_method_17_code (2 : Nat) (Option.some Jvm.ClassFile.FieldType.int), Jvm.Cond.code ({ cls := "jdk/internal/util/Preconditions", name := "checkIndex", desc := "(IILjava/util/function/BiFunction;)I" } : Jvm.MethodName) jdk_41_method_11_code (3 : Nat) (Option.some Jvm.ClassFile.FieldType.int), Jvm.Cond.code ({ cls := "java/util/ArrayList", name := "elementData", desc := "(I)Ljava/lang/Object;" } : Jvm.MethodName) jdk_38_method_18_code (2 : Nat) (Option.some (Jvm.ClassFile.FieldType.object "java/lang/Object")), Jvm.Cond.code ({ cls := "com/example/lanewright/lanewright/Network$Arc", name := "tail", desc := "()I" } : Jvm.MethodName) prog_30_method_5_code (1 : Nat) (Option.some Jvm.ClassFile.FieldType.int), Jvm.Cond.code ({ cls := "com/example/lanewright/lanewright/Network$Arc", name := "head", desc := "()I" } : Jvm.MethodName) prog_30_method_6_code (1 : Nat) (Option.some Jvm.ClassFile.FieldType.int), Jvm.Cond.code ({ cls := "com/example/lanewright/lanewright/Network$Arc", name := "capacity", desc := "()D" } : Jvm.MethodName) prog_30_method_7_code (1 : Nat) (Option.some Jvm.ClassFile.FieldType.double), Jvm.Cond.code ({ cls := "com/example/lanewright/lanewright/Network$Arc", name := "freeFlowTime", desc := "()D" } : Jvm.MethodName) prog_30_method_8_code (1 : Nat) (Option.some Jvm.ClassFile.FieldType.double), Jvm.Cond.code ({ cls := "com/example/lanewright/lanewright/Network$Arc", name := "b", desc := "()D" } : Jvm.MethodName) prog_30_method_9_code (1 : Nat) (Option.some Jvm.ClassFile.FieldType.double), Jvm.Cond.code ({ cls := "com/example/lanewright/lanewright/Network$Arc", name := "power", desc := "()D" } : Jvm.MethodName) prog_30_method_10_code (1 : Nat) (Option.some Jvm.ClassFile.FieldType.double), Jvm.Cond.code ({ cls := "com/example/lanewright/lanewright/TripTable$Pair", name := "<init>", desc := "(II)V" } : Jvm.MethodName) prog_73_method_1_code (3 : Nat) (Option.none : Option Jvm.ClassFile.FieldType), Jvm.Cond.code ({ cls := "com/example/lanewright/lanewright/RouteTimes", name := "<init>", desc := "(Lcom/example/lanewright/lanewright/Network;[DLjava/util/List;)V" } : Jvm.MethodName) prog_47_method_1_code (10 : Nat) (Option.none : Option Jvm.ClassFile.FieldType), Jvm.Cond.code ({ cls := "com/example/lanewright/lanewright/Network", name := "nodeCount", desc := "()I" } : Jvm.MethodName) prog_29_method_2_code (1 : Nat) (Option.some Jvm.ClassFile.FieldType.int), Jvm.Cond.code ({ cls := "java/util/Arrays", name := "fill", desc := "([II)V" } : Jvm.MethodName) jdk_65_method_103_code (4 : Nat) (Option.none : Option Jvm.ClassFile.FieldType), Jvm.Cond.code ({ cls := "java/util/ArrayList", name := "iterator", desc := "()Ljava/util/Iterator;" } : Jvm.MethodName) jdk_38_method_55_code (1 : Nat) (Option.some (Jvm.ClassFile.FieldType.object "java/util/Iterator")), Jvm.Cond.code ({ cls := "java/util/ArrayList$Itr", name := "<init>", desc := "(Ljava/util/ArrayList;)V" } : Jvm.MethodName) jdk_49_method_1_code (2 : Nat) (Option.none : Option Jvm.ClassFile.FieldType), Jvm.Cond.code ({ cls := "java/util/ArrayList$Itr", name := "hasNext", desc := "()Z" } : Jvm.MethodName) jdk_49_method_2_code (1 : Nat) (Option.some Jvm.ClassFile.FieldType.boolean), Jvm.Cond.code ({ cls := "java/util/ArrayList$Itr", name := "next", desc := "()Ljava/lang/Object;" } : Jvm.MethodName) jdk_49_method_3_code (3 : Nat) (Option.some (Jvm.ClassFile.FieldType.object "java/lang/Object")), Jvm.Cond.code ({ cls := "java/util/ArrayList$Itr", name := "checkForComodification", desc := "()V" } : Jvm.MethodName) jdk_49_method_6_code (1 : Nat) (Option.none : Option Jvm.ClassFile.FieldType), Jvm.Cond.code ({ cls := "com/example/lanewright/lanewright/TripTable$Pair", name := "origin", desc := "()I" } : Jvm.MethodName) prog_73_method_5_code (1 : Nat) (Option.some Jvm.ClassFile.FieldType.int), Jvm.Cond.code ({ cls := "java/lang/Integer", name := "valueOf", desc := "(I)Ljava/lang/Integer;" } : Jvm.MethodName) jdk_33_method_22_code (1 : Nat) (Option.some (Jvm.ClassFile.FieldType.object "java/lang/Integer")), Jvm.Cond.code ({ cls := "com/example/lanewright/lanewright/TripTable$Pair", name := "destination", desc := "()I" } : Jvm.MethodName) prog_73_method_6_code (1 : Nat) (Option.some Jvm.ClassFile.FieldType.int), Jvm.Cond.code ({ cls := "java/util/List", name := "of", desc := "(Ljava/lang/Object;Ljava/lang/Object;)Ljava/util/List;" } : Jvm.MethodName) jdk_40_method_38_code (2 : Nat) (Option.some (Jvm.ClassFile.FieldType.object "java/util/List")), Jvm.Cond.code ({ cls := "java/util/ImmutableCollections$List12", name := "<init>", desc := "(Ljava/lang/Object;Ljava/lang/Object;)V" } : Jvm.MethodName) jdk_44_method_2_code (3 : Nat) (Option.none : Option Jvm.ClassFile.FieldType), Jvm.Cond.code ({ cls := "java/util/ImmutableCollections$AbstractImmutableList", name := "<init>", desc := "()V" } : Jvm.MethodName) jdk_46_method_1_code (1 : Nat) (Option.none : Option Jvm.ClassFile.FieldType), Jvm.Cond.code ({ cls := "java/util/ImmutableCollections$AbstractImmutableCollection", name := "<init>", desc := "()V" } : Jvm.MethodName) jdk_47_method_1_code (1 : Nat) (Option.none : Option Jvm.ClassFile.FieldType), Jvm.Cond.code ({ cls := "java/util/Objects", name := "requireNonNull", desc := "(Ljava/lang/Object;)Ljava/lang/Object;" } : Jvm.MethodName) jdk_31_method_10_code (1 : Nat) (Option.some (Jvm.ClassFile.FieldType.object "java/lang/Object")), Jvm.Cond.code ({ cls := "java/util/ImmutableCollections$AbstractImmutableList", name := "iterator", desc := "()Ljava/util/Iterator;" } : Jvm.MethodName) jdk_46_method_10_code (1 : Nat) (Option.some (Jvm.ClassFile.FieldType.object "java/util/Iterator")), Jvm.Cond.code ({ cls := "java/util/ImmutableCollections$List12", name := "size", desc := "()I" } : Jvm.MethodName) jdk_44_method_3_code (1 : Nat) (Option.some Jvm.ClassFile.FieldType.int), Jvm.Cond.code ({ cls := "java/util/ImmutableCollections$ListItr", name := "<init>", desc := "(Ljava/util/List;I)V" } : Jvm.MethodName) jdk_53_method_1_code (3 : Nat) (Option.none : Option Jvm.ClassFile.FieldType), Jvm.Cond.code ({ cls := "java/util/ImmutableCollections$ListItr", name := "hasNext", desc := "()Z" } : Jvm.MethodName) jdk_53_method_3_code (1 : Nat) (Option.some Jvm.ClassFile.FieldType.boolean), Jvm.Cond.code ({ cls := "java/util/ImmutableCollections$List12", name := "get", desc := "(I)Ljava/lang/Object;" } : Jvm.MethodName) jdk_44_method_5_code (2 : Nat) (Option.some (Jvm.ClassFile.FieldType.object "java/lang/Object")), Jvm.Cond.code ({ cls := "java/lang/Integer", name := "intValue", desc := "()I" } : Jvm.MethodName) jdk_33_method_27_code (1 : Nat) (Option.some Jvm.ClassFile.FieldType.int), Jvm.Cond.code ({ cls := "com/example/lanewright/lanewright/ShortestPathTree", name := "<init>", desc := "(Lcom/example/lanewright/lanewright/Network;)V" } : Jvm.MethodName) prog_58_method_1_code (3 : Nat) (Option.none : Option Jvm.ClassFile.FieldType), Jvm.Cond.code ({ cls := "com/example/lanewright/lanewright/ShortestPathTree", name := "build", desc := "(I[D)V" } : Jvm.MethodName) prog_58_method_2_code (9 : Nat) (Option.none : Option Jvm.ClassFile.FieldType), Jvm.Cond.code ({ cls := "java/util/Arrays", name := "fill", desc := "([DD)V" } : Jvm.MethodName) jdk_65_method_113_code (5 : Nat) (Option.none : Option Jvm.ClassFile.FieldType), Jvm.Cond.code ({ cls := "com/example/lanewright/lanewright/ShortestPathTree", name := "push", desc := "(I)V" } : Jvm.MethodName) prog_58_method_6_code (2 : Nat) (Option.none : Option Jvm.ClassFile.FieldType), Jvm.Cond.code ({ cls := "com/example/lanewright/lanewright/ShortestPathTree", name := "siftUp", desc := "(I)V" } : Jvm.MethodName) prog_58_method_8_code (4 : Nat) (Option.none : Option Jvm.ClassFile.FieldType), Jvm.Cond.code ({ cls := "com/example/lanewright/lanewright/ShortestPathTree", name := "pop", desc := "()I" } : Jvm.MethodName) prog_58_method_7_code (2 : Nat) (Option.some Jvm.ClassFile.FieldType.int), Jvm.Cond.code ({ cls := "com/example/lanewright/lanewright/Network", name := "firstOut", desc := "(I)I" } : Jvm.MethodName) prog_29_method_8_code (2 : Nat) (Option.some Jvm.ClassFile.FieldType.int), Jvm.Cond.code ({ cls := "com/example/lanewright/lanewright/Network", name := "endOut", desc := "(I)I" } : Jvm.MethodName) prog_29_method_9_code (2 : Nat) (Option.some Jvm.ClassFile.FieldType.int), Jvm.Cond.code ({ cls := "com/example/lanewright/lanewright/ShortestPathTree", name := "distance", desc := "(I)D" } : Jvm.MethodName) prog_58_method_3_code (2 : Nat) (Option.some Jvm.ClassFile.FieldType.double), Jvm.Cond.code ({ cls := "com/example/lanewright/lanewright/Network", name := "outArc", desc := "(I)I" } : Jvm.MethodName) prog_29_method_10_code (2 : Nat) (Option.some Jvm.ClassFile.FieldType.int), Jvm.Cond.code ({ cls := "com/example/lanewright/lanewright/Network", name := "head", desc := "(I)I" } : Jvm.MethodName) prog_29_method_6_code (2 : Nat) (Option.some Jvm.ClassFile.FieldType.int), Jvm.Cond.code ({ cls := "com/example/lanewright/lanewright/RouteTimes", name := "time", desc := "(II)D" } : Jvm.MethodName) prog_47_method_2_code (3 : Nat) (Option.some Jvm.ClassFile.FieldType.double), Jvm.Cond.code ({ cls := "com/example/lanewright/lanewright/RouteTimesTimePinLaw", name := "direct", desc := "(II[I[I[I)I" } : Jvm.MethodName) method_3_code (6 : Nat) (Option.some Jvm.ClassFile.FieldType.int), Jvm.Cond.code ({ cls := "java/lang/Math", name := "min", desc := "(II)I" } : Jvm.MethodName) jdk_29_method_69_code (2 : Nat) (Option.some Jvm.ClassFile.FieldType.int), Jvm.Cond.code ({ cls := "com/example/lanewright/lanewright/Network", name := "firstThruNode", desc := "()I" } : Jvm.MethodName) prog_29_method_3_code (1 : Nat) (Option.some Jvm.ClassFile.FieldType.int), Jvm.Cond.code ({ cls := "com/example/lanewright/lanewright/ShortestPathTree", name := "siftDown", desc := "(I)V" } : Jvm.MethodName) prog_58_method_9_code (4 : Nat) (Option.none : Option Jvm.ClassFile.FieldType)]
set_option maxRecDepth 65536 in
theorem codes_eq : words1.filter isCode = codes1 := rfl
theorem w_codes : ∀ c ∈ words1.filter isCode, c.before args0 about1 = true := by
  rw [codes_eq]
  intro c hc
  simp only [codes1, List.mem_cons, List.not_mem_nil, or_false] at hc
  rcases hc with rfl | rfl | rfl | rfl | rfl | rfl | rfl | rfl | rfl | rfl | rfl | rfl | rfl | rfl | rfl | rfl | rfl | rfl | rfl | rfl | rfl | rfl | rfl | rfl | rfl | rfl | rfl | rfl | rfl | rfl | rfl | rfl | rfl | rfl | rfl | rfl | rfl | rfl | rfl | rfl | rfl | rfl | rfl | rfl | rfl | rfl | rfl | rfl | rfl | rfl | rfl | rfl | rfl | rfl | rfl | rfl | rfl | rfl | rfl | rfl | rfl | rfl | rfl | rfl
  · exact w_c0
  · exact w_c1
  · exact w_c2
  · exact w_c3
  · exact w_c4
  · exact w_c5
  · exact w_c6
  · exact w_c7
  · exact w_c8
  · exact w_c9
  · exact w_c10
  · exact w_c11
  · exact w_c12
  · exact w_c13
  · exact w_c14
  · exact w_c15
  · exact w_c16
  · exact w_c17
  · exact w_c18
  · exact w_c19
  · exact w_c20
  · exact w_c21
  · exact w_c22
  · exact w_c23
  · exact w_c24
  · exact w_c25
  · exact w_c26
  · exact w_c27
  · exact w_c28
  · exact w_c29
  · exact w_c30
  · exact w_c31
  · exact w_c32
  · exact w_c33
  · exact w_c34
  · exact w_c35
  · exact w_c36
  · exact w_c37
  · exact w_c38
  · exact w_c39
  · exact w_c40
  · exact w_c41
  · exact w_c42
  · exact w_c43
  · exact w_c44
  · exact w_c45
  · exact w_c46
  · exact w_c47
  · exact w_c48
  · exact w_c49
  · exact w_c50
  · exact w_c51
  · exact w_c52
  · exact w_c53
  · exact w_c54
  · exact w_c55
  · exact w_c56
  · exact w_c57
  · exact w_c58
  · exact w_c59
  · exact w_c60
  · exact w_c61
  · exact w_c62
  · exact w_c63
set_option maxRecDepth 65536 in
theorem w_t1 : (words1.take 24).all (fun c => isCode c || c.before args0 about1) = true := by decide +kernel
set_option maxRecDepth 65536 in
theorem w_t2 : ((words1.drop 24).take 24).all (fun c => isCode c || c.before args0 about1) = true := by decide +kernel
set_option maxRecDepth 65536 in
theorem w_t3 : (((words1.drop 24).drop 24).take 24).all (fun c => isCode c || c.before args0 about1) = true := by decide +kernel
set_option maxRecDepth 65536 in
theorem w_t4 : ((((words1.drop 24).drop 24).drop 24).take 24).all (fun c => isCode c || c.before args0 about1) = true := by decide +kernel
set_option maxRecDepth 65536 in
theorem w_t5 : (((((words1.drop 24).drop 24).drop 24).drop 24).take 24).all (fun c => isCode c || c.before args0 about1) = true := by decide +kernel
set_option maxRecDepth 65536 in
theorem w_t6 : ((((((words1.drop 24).drop 24).drop 24).drop 24).drop 24).take 24).all (fun c => isCode c || c.before args0 about1) = true := by decide +kernel
set_option maxRecDepth 65536 in
theorem w_t7 : (((((((words1.drop 24).drop 24).drop 24).drop 24).drop 24).drop 24).take 24).all (fun c => isCode c || c.before args0 about1) = true := by decide +kernel
set_option maxRecDepth 65536 in
theorem w_t8 : ((((((((words1.drop 24).drop 24).drop 24).drop 24).drop 24).drop 24).drop 24).take 24).all (fun c => isCode c || c.before args0 about1) = true := by decide +kernel
set_option maxRecDepth 65536 in
theorem w_t9 : (((((((((words1.drop 24).drop 24).drop 24).drop 24).drop 24).drop 24).drop 24).drop 24).take 24).all (fun c => isCode c || c.before args0 about1) = true := by decide +kernel
set_option maxRecDepth 65536 in
theorem w_t10 : ((((((((((words1.drop 24).drop 24).drop 24).drop 24).drop 24).drop 24).drop 24).drop 24).drop 24).take 24).all (fun c => isCode c || c.before args0 about1) = true := by decide +kernel
set_option maxRecDepth 65536 in
theorem w_t11 : (((((((((((words1.drop 24).drop 24).drop 24).drop 24).drop 24).drop 24).drop 24).drop 24).drop 24).drop 24).take 24).all (fun c => isCode c || c.before args0 about1) = true := by decide +kernel
set_option maxRecDepth 65536 in
theorem w_t12 : ((((((((((((words1.drop 24).drop 24).drop 24).drop 24).drop 24).drop 24).drop 24).drop 24).drop 24).drop 24).drop 24).take 24).all (fun c => isCode c || c.before args0 about1) = true := by decide +kernel
set_option maxRecDepth 65536 in
theorem w_t13 : (((((((((((((words1.drop 24).drop 24).drop 24).drop 24).drop 24).drop 24).drop 24).drop 24).drop 24).drop 24).drop 24).drop 24).take 24).all (fun c => isCode c || c.before args0 about1) = true := by decide +kernel
set_option maxRecDepth 65536 in
theorem w_t14 : ((((((((((((((words1.drop 24).drop 24).drop 24).drop 24).drop 24).drop 24).drop 24).drop 24).drop 24).drop 24).drop 24).drop 24).drop 24).take 24).all (fun c => isCode c || c.before args0 about1) = true := by decide +kernel
set_option maxRecDepth 65536 in
theorem w_t15 : (((((((((((((((words1.drop 24).drop 24).drop 24).drop 24).drop 24).drop 24).drop 24).drop 24).drop 24).drop 24).drop 24).drop 24).drop 24).drop 24).take 24).all (fun c => isCode c || c.before args0 about1) = true := by decide +kernel
set_option maxRecDepth 65536 in
theorem w_t16 : ((((((((((((((((words1.drop 24).drop 24).drop 24).drop 24).drop 24).drop 24).drop 24).drop 24).drop 24).drop 24).drop 24).drop 24).drop 24).drop 24).drop 24).take 24).all (fun c => isCode c || c.before args0 about1) = true := by decide +kernel
set_option maxRecDepth 65536 in
theorem w_t17 : (((((((((((((((((words1.drop 24).drop 24).drop 24).drop 24).drop 24).drop 24).drop 24).drop 24).drop 24).drop 24).drop 24).drop 24).drop 24).drop 24).drop 24).drop 24).take 24).all (fun c => isCode c || c.before args0 about1) = true := by decide +kernel
set_option maxRecDepth 65536 in
theorem w_t18 : ((((((((((((((((((words1.drop 24).drop 24).drop 24).drop 24).drop 24).drop 24).drop 24).drop 24).drop 24).drop 24).drop 24).drop 24).drop 24).drop 24).drop 24).drop 24).drop 24).take 24).all (fun c => isCode c || c.before args0 about1) = true := by decide +kernel
set_option maxRecDepth 65536 in
theorem w_t19 : (((((((((((((((((((words1.drop 24).drop 24).drop 24).drop 24).drop 24).drop 24).drop 24).drop 24).drop 24).drop 24).drop 24).drop 24).drop 24).drop 24).drop 24).drop 24).drop 24).drop 24).take 24).all (fun c => isCode c || c.before args0 about1) = true := by decide +kernel
set_option maxRecDepth 65536 in
theorem w_t20 : (((((((((((((((((((words1.drop 24).drop 24).drop 24).drop 24).drop 24).drop 24).drop 24).drop 24).drop 24).drop 24).drop 24).drop 24).drop 24).drop 24).drop 24).drop 24).drop 24).drop 24).drop 24).all (fun c => isCode c || c.before args0 about1) = true := by decide +kernel
theorem w_tables : (allAtoms (Jvm.Cond.code x code maxLocals ret :: tables_1)).before args0 about1 = true := by
  rw [allAtoms_all]
  show words1.all (fun c => c.before args0 about1) = true
  refine all_split ?_ w_codes
  rw [← List.take_append_drop 24 words1, List.all_append, w_t1, ← List.take_append_drop 24 (words1.drop 24), List.all_append, w_t2, ← List.take_append_drop 24 ((words1.drop 24).drop 24), List.all_append, w_t3, ← List.take_append_drop 24 (((words1.drop 24).drop 24).drop 24), List.all_append, w_t4, ← List.take_append_drop 24 ((((words1.drop 24).drop 24).drop 24).drop 24), List.all_append, w_t5, ← List.take_append_drop 24 (((((words1.drop 24).drop 24).drop 24).drop 24).drop 24), List.all_append, w_t6, ← List.take_append_drop 24 ((((((words1.drop 24).drop 24).drop 24).drop 24).drop 24).drop 24), List.all_append, w_t7, ← List.take_append_drop 24 (((((((words1.drop 24).drop 24).drop 24).drop 24).drop 24).drop 24).drop 24), List.all_append, w_t8, ← List.take_append_drop 24 ((((((((words1.drop 24).drop 24).drop 24).drop 24).drop 24).drop 24).drop 24).drop 24), List.all_append, w_t9, ← List.take_append_drop 24 (((((((((words1.drop 24).drop 24).drop 24).drop 24).drop 24).drop 24).drop 24).drop 24).drop 24), List.all_append, w_t10, ← List.take_append_drop 24 ((((((((((words1.drop 24).drop 24).drop 24).drop 24).drop 24).drop 24).drop 24).drop 24).drop 24).drop 24), List.all_append, w_t11, ← List.take_append_drop 24 (((((((((((words1.drop 24).drop 24).drop 24).drop 24).drop 24).drop 24).drop 24).drop 24).drop 24).drop 24).drop 24), List.all_append, w_t12, ← List.take_append_drop 24 ((((((((((((words1.drop 24).drop 24).drop 24).drop 24).drop 24).drop 24).drop 24).drop 24).drop 24).drop 24).drop 24).drop 24), List.all_append, w_t13, ← List.take_append_drop 24 (((((((((((((words1.drop 24).drop 24).drop 24).drop 24).drop 24).drop 24).drop 24).drop 24).drop 24).drop 24).drop 24).drop 24).drop 24), List.all_append, w_t14, ← List.take_append_drop 24 ((((((((((((((words1.drop 24).drop 24).drop 24).drop 24).drop 24).drop 24).drop 24).drop 24).drop 24).drop 24).drop 24).drop 24).drop 24).drop 24), List.all_append, w_t15, ← List.take_append_drop 24 (((((((((((((((words1.drop 24).drop 24).drop 24).drop 24).drop 24).drop 24).drop 24).drop 24).drop 24).drop 24).drop 24).drop 24).drop 24).drop 24).drop 24), List.all_append, w_t16, ← List.take_append_drop 24 ((((((((((((((((words1.drop 24).drop 24).drop 24).drop 24).drop 24).drop 24).drop 24).drop 24).drop 24).drop 24).drop 24).drop 24).drop 24).drop 24).drop 24).drop 24), List.all_append, w_t17, ← List.take_append_drop 24 (((((((((((((((((words1.drop 24).drop 24).drop 24).drop 24).drop 24).drop 24).drop 24).drop 24).drop 24).drop 24).drop 24).drop 24).drop 24).drop 24).drop 24).drop 24).drop 24), List.all_append, w_t18, ← List.take_append_drop 24 ((((((((((((((((((words1.drop 24).drop 24).drop 24).drop 24).drop 24).drop 24).drop 24).drop 24).drop 24).drop 24).drop 24).drop 24).drop 24).drop 24).drop 24).drop 24).drop 24).drop 24), List.all_append, w_t19, w_t20]
  rfl
set_option maxRecDepth 65536 in
theorem w_rest : rest_1_c.before args0 about1 = true := by decide +kernel
set_option maxRecDepth 65536 in
theorem w_case : (Jvm.Cond.and given_1 narrow_1).before args0 about1 = true := by decide +kernel
theorem w_applies : (headSpec (Jvm.Cond.code x code maxLocals ret :: tables_1) room_1).applies x e0.platform about1 = true :=
  (Spec.applies_iff w_frames).mpr ⟨w_running, w_runnable, w_alone, w_named, w_hears, w_ripe, w_room, w_tables⟩
theorem atStart : AtStart classFile x code maxLocals ret World_1 tables_1 room_1 Calls_1 rest_1 Pre_1 launch0 p0 e0 about1 theMethod args0 below0 :=
  ⟨lists_1, trivial, launch0.admits_env _ _ _, launch0.least_env, fairChoices_fair.cas, fairChoices_fair.clock, w_frames, w_args, w_heap, w_applies, trivial, w_rest, w_case⟩
end start1
theorem witness_1 : WitnessClaimed_1 := ⟨start1.p0, start1.e0, start1.about1, start1.theMethod, start1.args0, start1.below0, start1.atStart⟩
end Jvm.Pilot.@@N@@
