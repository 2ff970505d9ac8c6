import JvmDerived
import JvmDerived.Pilot.@@N@@Statement
import JvmDerived.Pilot.@@N@@Code
set_option linter.unusedVariables false
set_option linter.unusedSimpArgs false

namespace Jvm.OwnKit
open Sem ClassFile Op Lib Jvm.Stand Jvm.Free Jvm.LawKit Jvm.RoadKit Jvm.Free.Fl
/-- what is left to show of a run: from U it ends and returns, with E of the value, the end and the places written -/
def Goes (p : Program) (e : Env) (below : List Frame) (E : Option Value → State → List Loc → Prop) (U : State) : Prop :=
  ∃ s₂ v L, Steps p.tables e below U s₂ ∧ s₂.status = .running ∧ Ended s₂ below (.returned v) ∧ E v s₂ L
/-- the common end: nothing below n0 is written, Q holds of the value and the heap, the frame is k cells and j slots -/
def En (s : State) (n0 k j : Nat) (Q : Option Value → Heap → Prop) (v : Option Value) (s₂ : State) (L : List Loc) : Prop := (Fr n0 L ∧ Q v s₂.heap) ∧ FrameEnd s (.returned v) s₂ L k j
/-- where a walk of the body y stands -/
def Wk (Z : State) (y : MethodName) (bytes : ByteArray) (ml : Nat) (ret : Option FieldType) (n0 : Nat) (p : Program) (l : Launch) (e : Env) (R : Room) (s : State) (m : MethodId) (args : Array Value) (below : List Frame) (meth : Method) (c : Code) (T : State) (kc ks : Nat) : Prop :=
  (p.tables.exec = Jvm.exec ∧ Z.Warmed39 s.vm ∧ s.vm.findClass y.cls = some m.cls ∧ c.code = bytes ∧ c.maxLocals = ml ∧ meth.sig.returnType = ret ∧ meth.locks = false ∧ meth.name = y.name) ∧ ∃ locs, Stand p l e R s m args below meth c T locs kc ks ∧ Fr n0 locs
/-- a body's contract: called with the values as over the heap h0 it returns with Post -/
def Con (l : Launch) (Z : State) (n0 : Nat) (y : MethodName) (ws : List Cond) (bytes : ByteArray) (ml : Nat) (ret : Option FieldType) (rm : Room) (as : Array Value) (h0 : Heap) (Post : Option Value → Heap → Prop) : Prop :=
  MetFree l y (head1 (Cond.code y bytes ml ret :: ws) rm) (fun a U => a = as ∧ Z.Warmed39 U.vm ∧ U.heap = h0) (fun _ _ _ _ _ => True) (fun _ U o U' => ∃ v L, o = .returned v ∧ (Fr n0 L ∧ Post v U'.heap) ∧ FrameEnd U o U' L rm.cells rm.slots)
section Laws
variable {Z : State} {y : MethodName} {bytes : ByteArray} {ml : Nat} {ret : Option FieldType} {n0 : Nat} {p : Program} {l : Launch} {e : Env} {R : Room} {s : State} {m : MethodId} {args : Array Value} {below : List Frame} {meth : Method} {c : Code} {T : State} {kc ks k j : Nat} {Q : Option Value → Heap → Prop} {E : Option Value → State → List Loc → Prop} {pc pc' : Nat} {ls : Array Slot} {st : List Value} {a0 : Array Value}
theorem Goes.back {U U' : State} (g : Goes p e below E U') (h : ∀ t, Steps p.tables e below U' t → Steps p.tables e below U t) : Goes p e below E U := by
  obtain ⟨s₂, v, L, h1, h2⟩ := g; exact ⟨s₂, v, L, h _ h1, h2⟩
theorem Goes.mono {U : State} {E' : Option Value → State → List Loc → Prop} (g : Goes p e below E U) (h : ∀ v t L, E v t L → E' v t L) : Goes p e below E' U := by
  obtain ⟨s₂, v, L, h1, h2, h3, h4⟩ := g; exact ⟨s₂, v, L, h1, h2, h3, h _ _ _ h4⟩
theorem Con.mono {ws : List Cond} {rm : Room} {as : Array Value} {h0 : Heap} {Post Post' : Option Value → Heap → Prop} (C : Con l Z n0 y ws bytes ml ret rm as h0 Post) (h : ∀ v h, Post v h → Post' v h) : Con l Z n0 y ws bytes ml ret rm as h0 Post' := by
  intro p e ha hc hk s m args below hf happ hP hK
  obtain ⟨a, b, h1, h2, h3, v, L, h4, ⟨h5, h6⟩, h7⟩ := C p e ha hc hk s m args below hf happ hP hK
  exact ⟨a, b, h1, h2, h3, v, L, h4, ⟨h5, h _ _ h6⟩, h7⟩

theorem Wk.hx (W : Wk Z y bytes ml ret n0 p l e R s m args below meth c T kc ks) : p.tables.exec = Jvm.exec := W.1.1
theorem Wk.hZ (W : Wk Z y bytes ml ret n0 p l e R s m args below meth c T kc ks) : Z.Warmed39 s.vm := W.1.2.1
theorem Wk.hown (W : Wk Z y bytes ml ret n0 p l e R s m args below meth c T kc ks) : s.vm.findClass y.cls = some m.cls := W.1.2.2.1
theorem Wk.hby (W : Wk Z y bytes ml ret n0 p l e R s m args below meth c T kc ks) : c.code = bytes := W.1.2.2.2.1
theorem Wk.hml (W : Wk Z y bytes ml ret n0 p l e R s m args below meth c T kc ks) : c.maxLocals = ml := W.1.2.2.2.2.1
theorem Wk.hret (W : Wk Z y bytes ml ret n0 p l e R s m args below meth c T kc ks) : meth.sig.returnType = ret := W.1.2.2.2.2.2.1
theorem Wk.hlk (W : Wk Z y bytes ml ret n0 p l e R s m args below meth c T kc ks) : meth.locks = false := W.1.2.2.2.2.2.2.1
theorem Wk.hnm (W : Wk Z y bytes ml ret n0 p l e R s m args below meth c T kc ks) : meth.name = y.name := W.1.2.2.2.2.2.2.2
theorem Wk.here (W : Wk Z y bytes ml ret n0 p l e R s m args below meth c T kc ks) : At T m c below := by obtain ⟨_, _, X, _⟩ := W; exact X.here
theorem g_iloadN (W : Wk Z y bytes ml ret n0 p l e R s m args below meth c T kc ks) {i : Fin 4} {v : Int32} (hd : decode bytes pc = .ok (.iload_n i, 1)) (hpc : pc + 1 = pc') (hl : ls[i.val]? = some (.val (.int v))) (K : Goes p e below E (T.setTop (mkF m pc' ls (.int v :: st)))) : Goes p e below E (T.setTop (mkF m pc ls st)) := by
  subst hpc; exact K.back fun _ r => XS.iloadN W.here W.hx rfl (hb W.hby hd) hl r
theorem g_iload (W : Wk Z y bytes ml ret n0 p l e R s m args below meth c T kc ks) {i : Nat} {v : Int32} (hd : decode bytes pc = .ok (.iload i, 2)) (hpc : pc + 2 = pc') (hl : ls[i]? = some (.val (.int v))) (K : Goes p e below E (T.setTop (mkF m pc' ls (.int v :: st)))) : Goes p e below E (T.setTop (mkF m pc ls st)) := by
  subst hpc; exact K.back fun _ r => XS.iload W.here W.hx rfl (hb W.hby hd) hl r
theorem g_dloadN (W : Wk Z y bytes ml ret n0 p l e R s m args below meth c T kc ks) {i : Fin 4} {v : UInt64} (hd : decode bytes pc = .ok (.dload_n i, 1)) (hpc : pc + 1 = pc') (hl : ls[i.val]? = some (.val (.double v))) (K : Goes p e below E (T.setTop (mkF m pc' ls (.double v :: st)))) : Goes p e below E (T.setTop (mkF m pc ls st)) := by
  subst hpc; exact K.back fun _ r => XS.dloadN W.here W.hx rfl (hb W.hby hd) hl r
theorem g_dload (W : Wk Z y bytes ml ret n0 p l e R s m args below meth c T kc ks) {i : Nat} {v : UInt64} (hd : decode bytes pc = .ok (.dload i, 2)) (hpc : pc + 2 = pc') (hl : ls[i]? = some (.val (.double v))) (K : Goes p e below E (T.setTop (mkF m pc' ls (.double v :: st)))) : Goes p e below E (T.setTop (mkF m pc ls st)) := by
  subst hpc; exact K.back fun _ r => XS.dload W.here W.hx rfl (hb W.hby hd) hl r
theorem g_aloadN (W : Wk Z y bytes ml ret n0 p l e R s m args below meth c T kc ks) {i : Fin 4} {v : Value} (hd : decode bytes pc = .ok (.aload_n i, 1)) (hpc : pc + 1 = pc') (hl : ls[i.val]? = some (.val v)) (hv : v.isRef = true) (K : Goes p e below E (T.setTop (mkF m pc' ls (v :: st)))) : Goes p e below E (T.setTop (mkF m pc ls st)) := by
  subst hpc; exact K.back fun _ r => XS.aloadN W.here W.hx rfl (hb W.hby hd) hl hv r
theorem g_aload (W : Wk Z y bytes ml ret n0 p l e R s m args below meth c T kc ks) {i : Nat} {v : Value} (hd : decode bytes pc = .ok (.aload i, 2)) (hpc : pc + 2 = pc') (hl : ls[i]? = some (.val v)) (hv : v.isRef = true) (K : Goes p e below E (T.setTop (mkF m pc' ls (v :: st)))) : Goes p e below E (T.setTop (mkF m pc ls st)) := by
  subst hpc; exact K.back fun _ r => XS.aload W.here W.hx rfl (hb W.hby hd) hl hv r
theorem g_istoreN (W : Wk Z y bytes ml ret n0 p l e R s m args below meth c T kc ks) {i : Fin 4} {v : Int32} {ls' : Array Slot} (hd : decode bytes pc = .ok (.istore_n i, 1)) (hpc : pc + 1 = pc') (hl : storeLocals ls i.val (.int v) = some ls') (K : Goes p e below E (T.setTop (mkF m pc' ls' st))) : Goes p e below E (T.setTop (mkF m pc ls (.int v :: st))) := by
  subst hpc; exact K.back fun _ r => XS.istoreN W.here W.hx rfl (hb W.hby hd) rfl hl r
theorem g_istore (W : Wk Z y bytes ml ret n0 p l e R s m args below meth c T kc ks) {i : Nat} {v : Int32} {ls' : Array Slot} (hd : decode bytes pc = .ok (.istore i, 2)) (hpc : pc + 2 = pc') (hl : storeLocals ls i (.int v) = some ls') (K : Goes p e below E (T.setTop (mkF m pc' ls' st))) : Goes p e below E (T.setTop (mkF m pc ls (.int v :: st))) := by
  subst hpc; exact K.back fun _ r => XS.istore W.here W.hx rfl (hb W.hby hd) rfl hl r
theorem g_dstore (W : Wk Z y bytes ml ret n0 p l e R s m args below meth c T kc ks) {i : Nat} {v : UInt64} {ls' : Array Slot} (hd : decode bytes pc = .ok (.dstore i, 2)) (hpc : pc + 2 = pc') (hl : storeLocals ls i (.double v) = some ls') (K : Goes p e below E (T.setTop (mkF m pc' ls' st))) : Goes p e below E (T.setTop (mkF m pc ls (.double v :: st))) := by
  subst hpc; exact K.back fun _ r => XS.dstore W.here W.hx rfl (hb W.hby hd) rfl hl r
theorem g_astoreN (W : Wk Z y bytes ml ret n0 p l e R s m args below meth c T kc ks) {i : Fin 4} {v : Value} {ls' : Array Slot} (hd : decode bytes pc = .ok (.astore_n i, 1)) (hpc : pc + 1 = pc') (hv : v.isRef = true) (hl : storeLocals ls i.val v = some ls') (K : Goes p e below E (T.setTop (mkF m pc' ls' st))) : Goes p e below E (T.setTop (mkF m pc ls (v :: st))) := by
  subst hpc; exact K.back fun _ r => XS.astoreN W.here W.hx rfl (hb W.hby hd) rfl hv hl r
theorem g_astore (W : Wk Z y bytes ml ret n0 p l e R s m args below meth c T kc ks) {i : Nat} {v : Value} {ls' : Array Slot} (hd : decode bytes pc = .ok (.astore i, 2)) (hpc : pc + 2 = pc') (hv : v.isRef = true) (hl : storeLocals ls i v = some ls') (K : Goes p e below E (T.setTop (mkF m pc' ls' st))) : Goes p e below E (T.setTop (mkF m pc ls (v :: st))) := by
  subst hpc; exact K.back fun _ r => XS.astore W.here W.hx rfl (hb W.hby hd) rfl hv hl r
theorem g_iconst (W : Wk Z y bytes ml ret n0 p l e R s m args below meth c T kc ks) {i : Int} {v : Int32} (hd : decode bytes pc = .ok (.iconst i, 1)) (hpc : pc + 1 = pc') (hv : Int32.ofInt i = v) (K : Goes p e below E (T.setTop (mkF m pc' ls (.int v :: st)))) : Goes p e below E (T.setTop (mkF m pc ls st)) := by
  subst hpc; exact K.back fun _ r => XS.iconst W.here W.hx rfl (hb W.hby hd) (by rw [hv]; exact r)
theorem g_bipush (W : Wk Z y bytes ml ret n0 p l e R s m args below meth c T kc ks) {i : Int} {v : Int32} (hd : decode bytes pc = .ok (.bipush i, 2)) (hpc : pc + 2 = pc') (hv : (Int8.ofInt i).toInt32 = v) (K : Goes p e below E (T.setTop (mkF m pc' ls (.int v :: st)))) : Goes p e below E (T.setTop (mkF m pc ls st)) := by
  subst hpc; exact K.back fun _ r => XS.bipush W.here W.hx rfl (hb W.hby hd) (by rw [hv]; exact r)
theorem g_dconst0 (W : Wk Z y bytes ml ret n0 p l e R s m args below meth c T kc ks)  (hd : decode bytes pc = .ok (.dconst 0, 1)) (hpc : pc + 1 = pc')  (K : Goes p e below E (T.setTop (mkF m pc' ls (.double 0 :: st)))) : Goes p e below E (T.setTop (mkF m pc ls st)) := by
  subst hpc; exact K.back fun _ r => XS.dconst0 W.here W.hx rfl (hb W.hby hd) rfl r
theorem g_dconst1 (W : Wk Z y bytes ml ret n0 p l e R s m args below meth c T kc ks)  (hd : decode bytes pc = .ok (.dconst 1, 1)) (hpc : pc + 1 = pc')  (K : Goes p e below E (T.setTop (mkF m pc' ls (.double 4607182418800017408 :: st)))) : Goes p e below E (T.setTop (mkF m pc ls st)) := by
  subst hpc; exact K.back fun _ r => XS.dconst1 W.here W.hx rfl (hb W.hby hd) rfl r
theorem g_aconst_null (W : Wk Z y bytes ml ret n0 p l e R s m args below meth c T kc ks)  (hd : decode bytes pc = .ok (.aconst_null, 1)) (hpc : pc + 1 = pc')  (K : Goes p e below E (T.setTop (mkF m pc' ls (.null :: st)))) : Goes p e below E (T.setTop (mkF m pc ls st)) := by
  subst hpc; exact K.back fun _ r => XS.aconstNull W.here W.hx rfl (hb W.hby hd) r
theorem g_iadd (W : Wk Z y bytes ml ret n0 p l e R s m args below meth c T kc ks) {x y0 v : Int32} (hd : decode bytes pc = .ok (.iadd, 1)) (hpc : pc + 1 = pc') (hv : x + y0 = v) (K : Goes p e below E (T.setTop (mkF m pc' ls (.int v :: st)))) : Goes p e below E (T.setTop (mkF m pc ls (.int y0 :: .int x :: st))) := by
  subst hpc; exact K.back fun _ r => XS.iadd W.here W.hx rfl (hb W.hby hd) rfl (by rw [hv]; exact r)
theorem g_isub (W : Wk Z y bytes ml ret n0 p l e R s m args below meth c T kc ks) {x y0 v : Int32} (hd : decode bytes pc = .ok (.isub, 1)) (hpc : pc + 1 = pc') (hv : x - y0 = v) (K : Goes p e below E (T.setTop (mkF m pc' ls (.int v :: st)))) : Goes p e below E (T.setTop (mkF m pc ls (.int y0 :: .int x :: st))) := by
  subst hpc; exact K.back fun _ r => XS.isub W.here W.hx rfl (hb W.hby hd) rfl (by rw [hv]; exact r)
theorem g_iand (W : Wk Z y bytes ml ret n0 p l e R s m args below meth c T kc ks) {x y0 v : Int32} (hd : decode bytes pc = .ok (.iand, 1)) (hpc : pc + 1 = pc') (hv : x &&& y0 = v) (K : Goes p e below E (T.setTop (mkF m pc' ls (.int v :: st)))) : Goes p e below E (T.setTop (mkF m pc ls (.int y0 :: .int x :: st))) := by
  subst hpc; exact K.back fun _ r => XS.iand W.here W.hx rfl (hb W.hby hd) rfl (by rw [hv]; exact r)
theorem g_imul (W : Wk Z y bytes ml ret n0 p l e R s m args below meth c T kc ks) {x y0 v : Int32} (hd : decode bytes pc = .ok (.imul, 1)) (hpc : pc + 1 = pc') (hv : x * y0 = v) (K : Goes p e below E (T.setTop (mkF m pc' ls (.int v :: st)))) : Goes p e below E (T.setTop (mkF m pc ls (.int y0 :: .int x :: st))) := by
  subst hpc; exact K.back fun _ r => XS.imul W.here W.hx rfl (hb W.hby hd) rfl (by rw [hv]; exact r)
theorem g_iushr (W : Wk Z y bytes ml ret n0 p l e R s m args below meth c T kc ks) {x y0 v : Int32} (hd : decode bytes pc = .ok (.iushr, 1)) (hpc : pc + 1 = pc') (hv : XT.ushr x y0 = v) (K : Goes p e below E (T.setTop (mkF m pc' ls (.int v :: st)))) : Goes p e below E (T.setTop (mkF m pc ls (.int y0 :: .int x :: st))) := by
  subst hpc; exact K.back fun _ r => XT.iushr W.here W.hx rfl (hb W.hby hd) rfl (by rw [hv]; exact r)
theorem g_i2d (W : Wk Z y bytes ml ret n0 p l e R s m args below meth c T kc ks) {x : Int32} {v : UInt64} (hd : decode bytes pc = .ok (.i2d, 1)) (hpc : pc + 1 = pc') (hv : FP.i2d x = v) (K : Goes p e below E (T.setTop (mkF m pc' ls (.double v :: st)))) : Goes p e below E (T.setTop (mkF m pc ls (.int x :: st))) := by
  subst hpc; exact K.back fun _ r => XS.i2dS W.here W.hx rfl (hb W.hby hd) rfl hv r
theorem g_dcmp (W : Wk Z y bytes ml ret n0 p l e R s m args below meth c T kc ks) {o : CmpOp} {x y0 : UInt64} {v : Int32} (hd : decode bytes pc = .ok (.dcmp o, 1)) (hpc : pc + 1 = pc') (hv : cmpValue (FP.dcmp x y0) o = v) (K : Goes p e below E (T.setTop (mkF m pc' ls (.int v :: st)))) : Goes p e below E (T.setTop (mkF m pc ls (.double y0 :: .double x :: st))) := by
  subst hpc; exact K.back fun _ r => XS.dcmpS W.here W.hx rfl (hb W.hby hd) rfl hv r
theorem g_dadd (W : Wk Z y bytes ml ret n0 p l e R s m args below meth c T kc ks) {x y0 v : UInt64} (hd : decode bytes pc = .ok (.dadd, 1)) (hpc : pc + 1 = pc') (hv : FP.dadd x y0 = v) (hn : NoNaN64 v) (K : Goes p e below E (T.setTop (mkF m pc' ls (.double v :: st)))) : Goes p e below E (T.setTop (mkF m pc ls (.double y0 :: .double x :: st))) := by
  subst hpc; exact K.back fun _ r => XS.daddS W.here W.hx rfl (hb W.hby hd) rfl (by rw [hv]; exact hn) hv r
theorem g_dup (W : Wk Z y bytes ml ret n0 p l e R s m args below meth c T kc ks) {v : Value} (hd : decode bytes pc = .ok (.dup, 1)) (hpc : pc + 1 = pc') (hc : v.category = 1) (K : Goes p e below E (T.setTop (mkF m pc' ls (v :: v :: st)))) : Goes p e below E (T.setTop (mkF m pc ls (v :: st))) := by
  subst hpc; exact K.back fun _ r => XS.dup W.here W.hx rfl (hb W.hby hd) rfl hc r
theorem g_pop (W : Wk Z y bytes ml ret n0 p l e R s m args below meth c T kc ks) {v : Value} (hd : decode bytes pc = .ok (.pop, 1)) (hpc : pc + 1 = pc') (hc : v.category = 1) (K : Goes p e below E (T.setTop (mkF m pc' ls st))) : Goes p e below E (T.setTop (mkF m pc ls (v :: st))) := by
  subst hpc; exact K.back fun _ r => XT.pop W.here W.hx rfl (hb W.hby hd) rfl hc r
theorem g_dup_x1 (W : Wk Z y bytes ml ret n0 p l e R s m args below meth c T kc ks) {v w : Value} (hd : decode bytes pc = .ok (.dup_x1, 1)) (hpc : pc + 1 = pc') (hc : v.category = 1) (hc2 : w.category = 1) (K : Goes p e below E (T.setTop (mkF m pc' ls (v :: w :: v :: st)))) : Goes p e below E (T.setTop (mkF m pc ls (v :: w :: st))) := by
  subst hpc; exact K.back fun _ r => XT.dupX1 W.here W.hx rfl (hb W.hby hd) rfl hc hc2 r
theorem g_dup2 (W : Wk Z y bytes ml ret n0 p l e R s m args below meth c T kc ks) {v w : Value} (hd : decode bytes pc = .ok (.dup2, 1)) (hpc : pc + 1 = pc') (hc : v.category = 1) (hc2 : w.category = 1) (K : Goes p e below E (T.setTop (mkF m pc' ls (v :: w :: v :: w :: st)))) : Goes p e below E (T.setTop (mkF m pc ls (v :: w :: st))) := by
  subst hpc; exact K.back fun _ r => XT.dup2 W.here W.hx rfl (hb W.hby hd) rfl hc hc2 r
theorem g_iinc (W : Wk Z y bytes ml ret n0 p l e R s m args below meth c T kc ks) {i : Nat} {d : Int} {x v : Int32} {ls' : Array Slot} (hd : decode bytes pc = .ok (.iinc i d, 3)) (hpc : pc + 3 = pc') (h1 : ls[i]? = some (.val (.int x))) (hv : x + Int32.ofInt d = v) (hl : storeLocals ls i (.int v) = some ls') (K : Goes p e below E (T.setTop (mkF m pc' ls' st))) : Goes p e below E (T.setTop (mkF m pc ls st)) := by
  subst hpc; exact K.back fun _ r => XS.iinc W.here W.hx rfl (hb W.hby hd) h1 (by rw [hv]; exact hl) r
theorem g_idiv (W : Wk Z y bytes ml ret n0 p l e R s m args below meth c T kc ks) {x y0 v : Int32} (hd : decode bytes pc = .ok (.idiv, 1)) (hpc : pc + 1 = pc') (h0 : y0 ≠ 0) (hv : x / y0 = v) (K : Goes p e below E (T.setTop (mkF m pc' ls (.int v :: st)))) : Goes p e below E (T.setTop (mkF m pc ls (.int y0 :: .int x :: st))) := by
  subst hpc; exact K.back fun _ r => XS.idiv W.here W.hx rfl (hb W.hby hd) rfl h0 (by rw [hv]; exact r)
theorem g_irem (W : Wk Z y bytes ml ret n0 p l e R s m args below meth c T kc ks) {x y0 v : Int32} (hd : decode bytes pc = .ok (.irem, 1)) (hpc : pc + 1 = pc') (h0 : y0 ≠ 0) (hv : x - (x / y0) * y0 = v) (K : Goes p e below E (T.setTop (mkF m pc' ls (.int v :: st)))) : Goes p e below E (T.setTop (mkF m pc ls (.int y0 :: .int x :: st))) := by
  subst hpc; exact K.back fun _ r => XS.irem W.here W.hx rfl (hb W.hby hd) rfl h0 (by rw [hv]; exact r)
def cP : ClassFile.Cond → Int32 → Int32 → Prop
  | .eq, x, y => x = y
  | .ne, x, y => ¬ x = y
  | .lt, x, y => x < y
  | .ge, x, y => ¬ x < y
  | .gt, x, y => y < x
  | .le, x, y => ¬ y < x
theorem cP_yes {cd : ClassFile.Cond} {x y : Int32} (h : cP cd x y) : if_icmp.holds cd x y = true := by
  cases cd
  · exact (teq h).1
  · exact (feq h).2
  · exact (tlt h).1
  · exact (flt h).2.1
  · exact (tlt h).2.2.1
  · exact (flt h).2.2.2
theorem cP_no {cd : ClassFile.Cond} {x y : Int32} (h : ¬ cP cd x y) : if_icmp.holds cd x y = false := by
  cases cd
  · exact (feq h).1
  · exact (teq (Classical.not_not.mp h)).2
  · exact (flt h).1
  · exact (tlt (Classical.not_not.mp h)).2.1
  · exact (flt h).2.2.1
  · exact (tlt (Classical.not_not.mp h)).2.2.2
theorem g_goto (W : Wk Z y bytes ml ret n0 p l e R s m args below meth c T kc ks) {o : Int} (hd : decode bytes pc = .ok (.goto o, 3)) (hpc : (pc : Int) + o = (pc' : Nat)) (K : Goes p e below E (T.setTop (mkF m pc' ls st))) : Goes p e below E (T.setTop (mkF m pc ls st)) :=
  K.back fun _ r => XS.goto W.here W.hx rfl (pc0 := pc) (pc' := pc') rfl (hb W.hby hd) (by omega) (by omega) r
theorem g_if (W : Wk Z y bytes ml ret n0 p l e R s m args below meth c T kc ks) {cd : ClassFile.Cond} {x : Int32} {o : Int} {pcy : Nat} (hd : decode bytes pc = .ok (.ifCond cd o, 3)) (hy : (pc : Int) + o = (pcy : Nat)) (hpc : pc + 3 = pc') (KY : cP cd x 0 → Goes p e below E (T.setTop (mkF m pcy ls st))) (KN : ¬ cP cd x 0 → Goes p e below E (T.setTop (mkF m pc' ls st))) : Goes p e below E (T.setTop (mkF m pc ls (.int x :: st))) := by
  subst hpc
  by_cases q : cP cd x 0
  · exact (KY q).back fun _ r => XS.ifYes W.here W.hx rfl (pc0 := pc) (pc' := pcy) rfl (hb W.hby hd) rfl ((if0 _ _).trans (cP_yes q)) (by omega) (by omega) r
  · exact (KN q).back fun _ r => XS.ifNo W.here W.hx rfl (hb W.hby hd) rfl ((if0 _ _).trans (cP_no q)) r
theorem g_icmp (W : Wk Z y bytes ml ret n0 p l e R s m args below meth c T kc ks) {cd : ClassFile.Cond} {x y0 : Int32} {o : Int} {pcy : Nat} (hd : decode bytes pc = .ok (.if_icmp cd o, 3)) (hy : (pc : Int) + o = (pcy : Nat)) (hpc : pc + 3 = pc') (KY : cP cd x y0 → Goes p e below E (T.setTop (mkF m pcy ls st))) (KN : ¬ cP cd x y0 → Goes p e below E (T.setTop (mkF m pc' ls st))) : Goes p e below E (T.setTop (mkF m pc ls (.int y0 :: .int x :: st))) := by
  subst hpc
  by_cases q : cP cd x y0
  · exact (KY q).back fun _ r => XS.icmpYes W.here W.hx rfl (pc0 := pc) (pc' := pcy) rfl (hb W.hby hd) rfl (cP_yes q) (by omega) (by omega) r
  · exact (KN q).back fun _ r => XS.icmpNo W.here W.hx rfl (hb W.hby hd) rfl (cP_no q) r

/-! ### the ends -/
theorem g_leave (W : Wk Z y bytes ml ret n0 p l e R s m args below meth c T kc ks) {v : Option Value} {U : State} (hv : ret = none → v = none) (hQ : Q v T.heap) (hk : kc ≤ k) (hj : ks ≤ j)
    (st : ∀ fs, (∀ (f : JFrame) (acts : List Action), f.method = m → f.locked = none → f.entered = [] → (doReturn e (T.setTop f) acts v).1 = T.setFrames fs) → Steps p.tables e below U (T.setFrames fs)) : Goes p e below (En s n0 k j Q) U := by
  have hlk := W.hlk
  have hret := W.hret
  obtain ⟨_, locs, X, N⟩ := W
  obtain ⟨fs, hr, hrun, hended, hW, hsame⟩ := X.leave (v := v) (fun q => hv (hret ▸ q)) hlk
  exact ⟨_, v, locs, st fs hr, hrun, hended, ⟨N, hQ⟩, ⟨_, rfl⟩, hW, hsame.mono hk hj⟩
theorem g_return (W : Wk Z y bytes ml none n0 p l e R s m args below meth c T kc ks) (hd : decode bytes pc = .ok (.return_, 1)) (hQ : Q none T.heap) (hk : kc ≤ k) (hj : ks ≤ j) : Goes p e below (En s n0 k j Q) (T.setTop (mkF m pc ls [])) :=
  g_leave W (fun _ => rfl) hQ hk hj fun fs hr => by
    have hret := W.hret
    have hx := W.hx
    have hby := W.hby
    obtain ⟨_, locs, X, N⟩ := W
    exact X.returnOut hx hret (hb hby hd) hr
theorem g_ret {t : FieldType} (W : Wk Z y bytes ml (some t) n0 p l e R s m args below meth c T kc ks) {w : Value} {i : Instr} (hn : narrow t w = w)
    (hi : (i = .ireturn ∧ (t = .int ∨ t = .boolean ∨ t = .byte ∨ t = .char ∨ t = .short) ∧ ∃ z, w = .int z) ∨ (i = .lreturn ∧ t = .long ∧ ∃ z, w = .long z) ∨ (i = .dreturn ∧ t = .double ∧ ∃ z, w = .double z) ∨ (i = .freturn ∧ t = .float ∧ ∃ z, w = .float z) ∨ (i = .areturn ∧ t.isReference = true ∧ w.isRef = true))
    (hd : decode bytes pc = .ok (i, 1)) (hQ : Q (some w) T.heap) (hk : kc ≤ k) (hj : ks ≤ j) : Goes p e below (En s n0 k j Q) (T.setTop (mkF m pc ls (w :: st))) :=
  g_leave W (fun q => nomatch q) hQ hk hj fun fs hr => by
    have hret := W.hret
    have hx := W.hx
    have hby := W.hby
    obtain ⟨_, locs, X, N⟩ := W
    exact retOut X hx hret hn hi (hb hby hd) hr
theorem g_ireturn (W : Wk Z y bytes ml (some .int) n0 p l e R s m args below meth c T kc ks) {x : Int32} (hd : decode bytes pc = .ok (.ireturn, 1)) (hQ : Q (some (.int x)) T.heap) (hk : kc ≤ k) (hj : ks ≤ j) : Goes p e below (En s n0 k j Q) (T.setTop (mkF m pc ls (.int x :: st))) :=
  g_ret W rfl (Or.inl ⟨rfl, Or.inl rfl, _, rfl⟩) hd hQ hk hj
theorem g_zreturn (W : Wk Z y bytes ml (some .boolean) n0 p l e R s m args below meth c T kc ks) {x : Int32} (h01 : x &&& 1 = x) (hd : decode bytes pc = .ok (.ireturn, 1)) (hQ : Q (some (.int x)) T.heap) (hk : kc ≤ k) (hj : ks ≤ j) : Goes p e below (En s n0 k j Q) (T.setTop (mkF m pc ls (.int x :: st))) :=
  g_ret W (by show Value.int (x &&& 1) = _; rw [h01]) (Or.inl ⟨rfl, Or.inr (Or.inl rfl), _, rfl⟩) hd hQ hk hj
theorem g_areturn {t : FieldType} (W : Wk Z y bytes ml (some t) n0 p l e R s m args below meth c T kc ks) {v : Value} (ht : t.isReference = true) (hr : v.isRef = true) (hd : decode bytes pc = .ok (.areturn, 1)) (hQ : Q (some v) T.heap) (hk : kc ≤ k) (hj : ks ≤ j) : Goes p e below (En s n0 k j Q) (T.setTop (mkF m pc ls (v :: st))) :=
  g_ret W (by cases t <;> first | (cases ht; done) | rfl) (Or.inr (Or.inr (Or.inr (Or.inr ⟨rfl, ht, hr⟩)))) hd hQ hk hj
theorem g_dreturn (W : Wk Z y bytes ml (some .double) n0 p l e R s m args below meth c T kc ks) {x : UInt64} (hd : decode bytes pc = .ok (.dreturn, 1)) (hQ : Q (some (.double x)) T.heap) (hk : kc ≤ k) (hj : ks ≤ j) : Goes p e below (En s n0 k j Q) (T.setTop (mkF m pc ls (.double x :: st))) :=
  g_ret W rfl (Or.inr (Or.inr (Or.inl ⟨rfl, rfl, _, rfl⟩))) hd hQ hk hj
/-! ### the head of a body -/
theorem con_of {ws : List Cond} {rm : Room} {as : Array Value} {h0 : Heap} {Post : Option Value → Heap → Prop} (hpn : plainFor y = true)
    (body : ∀ (p : Program) (e : Env) (s : State) (m : MethodId) (below : List Frame) (meth : Method) (c : Code) (T : State), Wk Z y bytes ml ret n0 p l e rm s m as below meth c T 0 0 → T.heap = h0 → Goes p e below (En s n0 rm.cells rm.slots Post) (T.setTop (entryFrame m as ml))) :
    Con l Z n0 y ws bytes ml ret rm as h0 Post := by
  refine MetFree.of_bodySF hpn hisR ?_
  intro p e s m args below meth c s₁ Bd hml0 hP hK
  obtain ⟨rfl, hZ, hh⟩ := hP
  obtain ⟨s₂, v, L, g1, g2, g3, g4, g5⟩ := body p e s m below meth c s₁ ⟨⟨Bd.exec, hZ, findClass_of_methodNamed Bd.named, Bd.bytes, hml0, Bd.returns, Bd.notSynchronized, (name_of_methodNamed Bd.named Bd.method).1⟩, [], Stand.of_body Bd, Fr.nil n0⟩ (by rw [← hh, Bd.state]; rfl)
  exact ⟨s₂, _, g1, g2, g3, v, L, rfl, g4, g5⟩
theorem g_cast {g g' : JFrame} (q : g = g') (K : Goes p e below E (T.setTop g')) : Goes p e below E (T.setTop g) := q ▸ K
/-! ### constants of the pool -/
theorem g_ldcInt (W : Wk Z y bytes ml ret n0 p l e R s m args below meth c T kc ks) {ix : Nat} {v : Int32} (w : (Cond.constant y.cls ix v).before a0 Z = true) (hd : decode bytes pc = .ok (.ldc ix, 2)) (hpc : pc + 2 = pc') (K : Goes p e below E (T.setTop (mkF m pc' ls (.int v :: st)))) : Goes p e below E (T.setTop (mkF m pc ls st)) := by
  subst hpc
  have hx := W.hx; have hby := W.hby; have hown := W.hown; have hZ := W.hZ
  obtain ⟨_, locs, X, N⟩ := W
  exact K.back fun _ r => X.ldcInt hx hown (mvT hZ w) (g := mkF m pc ls st) rfl (hb hby hd) _ r
theorem g_ldc2Double (W : Wk Z y bytes ml ret n0 p l e R s m args below meth c T kc ks) {ix : Nat} {v : UInt64} (w : (Cond.constantDouble y.cls ix v).before a0 Z = true) (hd : decode bytes pc = .ok (.ldc2_w ix, 3)) (hpc : pc + 3 = pc') (K : Goes p e below E (T.setTop (mkF m pc' ls (.double v :: st)))) : Goes p e below E (T.setTop (mkF m pc ls st)) := by
  subst hpc
  have hx := W.hx; have hby := W.hby; have hown := W.hown; have hZ := W.hZ
  obtain ⟨_, locs, X, N⟩ := W
  exact K.back fun _ r => X.ldc2DoubleC hx hown (mvT hZ w) (g := mkF m pc ls st) rfl (hb hby hd) _ r
/-! ### the heap: a list of places, each with what its cell is -/
abbrev HRow := Addr × (Cell → Prop)
/-- what was there at the start Z is as it was -/
def Bs (Z : State) (n0 : Nat) (h : Heap) : Prop := n0 ≤ h.size ∧ Z.heap.size ≤ n0 ∧ Ext Z.heap h
def Hp (Z : State) (n0 : Nat) (h : Heap) (L : List HRow) : Prop := Bs Z n0 h ∧ (L.map (·.1)).Nodup ∧ ∀ r ∈ L, n0 ≤ r.1 ∧ ∃ c : Cell, h[r.1]? = some c ∧ r.2 c
abbrev FR := String × String × String × Value
def FldC (Z : State) (f : FR) (c : Cell) : Prop := ∃ (cf : ClassId) (k : Class) (i : Nat) (fd : Field), Z.fieldFound? f.1 f.2.1 f.2.2.1 = some (cf, k, i, fd) ∧ fd.isStatic = false ∧ Z.vm.assignable c.cls cf = true ∧ c.slots[fd.slot]? = some f.2.2.2
def ObC (Z : State) (C : String) (fs : List FR) (c : Cell) : Prop :=
  (∃ k : Class, Z.vm.findClass C = some c.cls ∧ Z.vm.classes[c.cls]? = some k ∧ (k.kind = .ordinary → c.slots.size = k.instanceTypes.size)) ∧ c.vm ≠ .unknown ∧ c.vm.isStatics = false ∧ (∀ f ∈ fs, FldC Z f c) ∧ (fs.map fun f => RoadKit.slotOf Z f.1 f.2.1 f.2.2.1).Nodup
def ArC (Z : State) (ty : FieldType) (vs : List Value) (c : Cell) : Prop := Z.isArrayOf c ty ∧ c.vm ≠ .unknown ∧ c.slots = vs.toArray ∧ vs.length < 2 ^ 31
section Heap
variable {h h' : Heap} {L : List HRow} {a : Addr} {P P' : Cell → Prop} {cell : Cell} {i jx : Nat} {C O n d R0 : String} {fs : List FR} {v w : Value} {vs : List Value} {ty : FieldType}
theorem Bs.start : Bs Z Z.heap.size Z.heap := ⟨Nat.le_refl _, Nat.le_refl _, Nat.le_refl _, fun _ _ q => q⟩
theorem Bs.ext (q : Bs Z n0 h) (E : Ext h h') : Bs Z n0 h' := ⟨Nat.le_trans q.1 E.1, q.2.1, Nat.le_trans q.2.2.1 E.1, fun a c r => E.2 a c (q.2.2.2 a c r)⟩
theorem Bs.put (q : Bs Z n0 h) (ha : n0 ≤ a) (c' : Cell) : Bs Z n0 (h.setIfInBounds a c') := by
  refine ⟨by simpa using q.1, q.2.1, by simpa using q.2.2.1, fun x c r => ?_⟩
  have hx := (Array.getElem?_eq_some_iff.mp r).1
  have := q.2.1
  rw [Array.getElem?_setIfInBounds_ne (by omega)]; exact q.2.2.2 x c r
theorem Hp.nil (q : Bs Z n0 h) : Hp Z n0 h [] := ⟨q, List.nodup_nil, fun _ r => nomatch r⟩
theorem Hp.get (H : Hp Z n0 h L) (hi : L[i]? = some (a, P)) : n0 ≤ a ∧ ∃ c : Cell, h[a]? = some c ∧ P c := H.2.2 (a, P) (List.mem_of_getElem? hi)
theorem map_set_same {α β : Type} (f : α → β) : ∀ (L : List α) (i : Nat) (x x' : α), L[i]? = some x → f x' = f x → (L.set i x').map f = L.map f
  | [], _, _, _, h, _ => by simp at h
  | z :: L, 0, x, x', h, e => by simp at h; subst h; simp [e]
  | z :: L, i + 1, x, x', h, e => by simp at h; simp [map_set_same f L i x x' h e]
theorem nodup_inj {α : Type} {l : List α} (h : l.Nodup) {i j : Nat} {x : α} (hi : l[i]? = some x) (hj : l[j]? = some x) : i = j := (List.getElem?_inj (List.getElem?_eq_some_iff.mp hi).1 h).mp (hi.trans hj.symm)
theorem erase_perm {α : Type} : ∀ (L : List α) (i : Nat) (x : α), L[i]? = some x → L.Perm (x :: L.eraseIdx i)
  | [], _, _, h => by simp at h
  | z :: L, 0, x, h => by simp at h; subst h; exact List.Perm.refl _
  | z :: L, i + 1, x, h => by
    simp at h
    exact ((erase_perm L i x h).cons z).trans (List.Perm.swap x z _)
theorem Hp.put (H : Hp Z n0 h L) (hi : L[i]? = some (a, P)) {c' : Cell} (hP : P' c') : Hp Z n0 (h.setIfInBounds a c') (L.set i (a, P')) := by
  obtain ⟨h1, h2, h3⟩ := H
  obtain ⟨q1, c0, q2, -⟩ := Hp.get ⟨h1, h2, h3⟩ hi
  have hlt := (Array.getElem?_eq_some_iff.mp q2).1
  refine ⟨h1.put q1 c', by rw [map_set_same (·.1) L i (a, P) (a, P') hi rfl]; exact h2, fun r hr => ?_⟩
  obtain ⟨jj, hj, hjr⟩ := List.mem_iff_getElem.mp hr
  have hjL : jj < L.length := by simpa using hj
  by_cases e : jj = i
  · subst e
    rw [List.getElem_set_self] at hjr
    subst hjr
    exact ⟨q1, c', by simp [hlt], hP⟩
  · rw [List.getElem_set_ne (Ne.symm e)] at hjr
    have hm : r ∈ L := hjr ▸ List.getElem_mem hjL
    obtain ⟨g1, c1, g2, g3⟩ := h3 r hm
    refine ⟨g1, c1, ?_, g3⟩
    have hne : a ≠ r.1 := fun q => by
      have e1 : (L.map (·.1))[i]? = some a := by rw [List.getElem?_map, hi]; rfl
      have e2 : (L.map (·.1))[jj]? = some a := by rw [List.getElem?_map, List.getElem?_eq_getElem hjL, hjr, q]; rfl
      exact e (nodup_inj h2 e2 e1)
    rw [Array.getElem?_setIfInBounds_ne hne]; exact g2
theorem Hp.push (H : Hp Z n0 h L) (E : Ext h h') {c : Cell} (hc : h'[h.size]? = some c) (hP : P c) : Hp Z n0 h' ((h.size, P) :: L) := by
  refine ⟨H.1.ext E, ?_, fun r hr => ?_⟩
  · rw [List.map_cons, List.nodup_cons]
    refine ⟨fun q => ?_, H.2.1⟩
    obtain ⟨r, hr, e⟩ := List.mem_map.mp q
    obtain ⟨-, c1, g2, -⟩ := H.2.2 r hr
    have := (Array.getElem?_eq_some_iff.mp g2).1
    have e' : r.1 = h.size := e
    rw [e'] at this; exact Nat.lt_irrefl _ this
  · rcases List.mem_cons.mp hr with rfl | hr
    · exact ⟨H.1.1, c, hc, hP⟩
    · obtain ⟨g1, c1, g2, g3⟩ := H.2.2 r hr
      exact ⟨g1, c1, E.2 _ _ g2, g3⟩
theorem Hp.perm {L' : List HRow} (H : Hp Z n0 h L) (q : L.Perm L') : Hp Z n0 h L' := ⟨H.1, (q.map _).nodup_iff.mp H.2.1, fun r hr => H.2.2 r (q.mem_iff.mpr hr)⟩
theorem Hp.front {r : HRow} (H : Hp Z n0 h L) (hi : L[i]? = some r) {L' : List HRow} (hL : r :: L.eraseIdx i = L') : Hp Z n0 h L' := by
  subst hL
  exact H.perm (erase_perm L i r hi)
theorem Hp.imp (H : Hp Z n0 h L) (hi : L[i]? = some (a, P)) (q : ∀ c, P c → P' c) : Hp Z n0 h (L.set i (a, P')) := by
  obtain ⟨q1, c0, q2, q3⟩ := H.get hi
  have := H.put hi (q c0 q3)
  have e : h.setIfInBounds a c0 = h := by
    apply Array.ext_getElem?; intro x
    by_cases z : a = x
    · subst z; simp [(Array.getElem?_eq_some_iff.mp q2).1, ← q2]
    · rw [Array.getElem?_setIfInBounds_ne z]
  rw [e] at this; exact this
theorem Hp.tail {r : HRow} (H : Hp Z n0 h (r :: L)) : Hp Z n0 h L := ⟨H.1, (List.nodup_cons.mp H.2.1).2, fun x hx => H.2.2 x (List.mem_cons_of_mem _ hx)⟩
theorem Hp.ne (H : Hp Z n0 h L) {b : Addr} (hi : L[i]? = some (a, P)) (hj : L[jx]? = some (b, P')) (hne : i ≠ jx) : a ≠ b := fun q => by
  have e1 : (L.map (·.1))[i]? = some a := by rw [List.getElem?_map, hi]; rfl
  have e2 : (L.map (·.1))[jx]? = some a := by rw [List.getElem?_map, hj, q]; rfl
  exact hne (nodup_inj H.2.1 e1 e2)
theorem FldC.fld {f : FR} (F : FldC Z f cell) (hc : h[a]? = some cell) (hu : cell.vm ≠ .unknown) (hst : cell.vm.isStatics = false) : Fld Z h a f.1 f.2.1 f.2.2.1 f.2.2.2 := by
  obtain ⟨cf, k, i, fd, h1, h2, h3, h4⟩ := F
  exact ⟨cell, cf, k, i, fd, hc, h1, h2, hu, hst, h3, h4⟩
theorem ObC.exa (F : ObC Z C fs cell) (hc : h[a]? = some cell) : Exa Z h a C := by
  obtain ⟨⟨k, h1, h2, h3⟩, h4, h5, -⟩ := F
  exact ⟨cell, k, hc, h1, h2, h5, h3⟩
theorem ObC.put (F : ObC Z C fs cell) (hj : fs[jx]? = some (O, n, d, v)) : ObC Z C (fs.set jx (O, n, d, w)) (cell.setSlot (RoadKit.slotOf Z O n d) w) := by
  obtain ⟨⟨k, h1, h2, h3⟩, h4, h5, h6, h7⟩ := F
  refine ⟨⟨k, h1, h2, fun q => by rw [sz_set]; exact h3 q⟩, h4, h5, fun f hf => ?_, by rw [map_set_same (fun f : FR => RoadKit.slotOf Z f.1 f.2.1 f.2.2.1) fs jx (O, n, d, v) (O, n, d, w) hj rfl]; exact h7⟩
  obtain ⟨hjL, hjE⟩ := List.getElem?_eq_some_iff.mp hj
  obtain ⟨ii, hi, hie⟩ := List.mem_iff_getElem.mp hf
  have hiL : ii < fs.length := by simpa using hi
  by_cases e : ii = jx
  · subst e
    rw [List.getElem_set_self] at hie
    subst hie
    obtain ⟨cf, kf, i, fd, g1, g2, g3, g4⟩ := h6 _ (hjE ▸ List.getElem_mem hjL)
    refine ⟨cf, kf, i, fd, g1, g2, g3, ?_⟩
    have es : RoadKit.slotOf Z O n d = fd.slot := by simp only [RoadKit.slotOf]; rw [show Z.fieldFound? O n d = _ from g1]; rfl
    have hlt := (Array.getElem?_eq_some_iff.mp g4).1
    simp [Cell.setSlot, es, hlt]
  · rw [List.getElem_set_ne (Ne.symm e)] at hie
    have hm : f ∈ fs := hie ▸ List.getElem_mem hiL
    obtain ⟨cf, kf, i, fd, g1, g2, g3, g4⟩ := h6 f hm
    refine ⟨cf, kf, i, fd, g1, g2, g3, ?_⟩
    have es : RoadKit.slotOf Z f.1 f.2.1 f.2.2.1 = fd.slot := by simp only [RoadKit.slotOf]; rw [g1]; rfl
    have hne : RoadKit.slotOf Z O n d ≠ fd.slot := fun q => by
      have e1 : (fs.map fun f => RoadKit.slotOf Z f.1 f.2.1 f.2.2.1)[jx]? = some fd.slot := by rw [List.getElem?_map, hj, ← q]; rfl
      have e2 : (fs.map fun f => RoadKit.slotOf Z f.1 f.2.1 f.2.2.1)[ii]? = some fd.slot := by rw [List.getElem?_map, List.getElem?_eq_getElem hiL, hie, ← es]; rfl
      exact e (nodup_inj h7 e2 e1)
    show (cell.slots.setIfInBounds _ w)[fd.slot]? = _
    rw [Array.getElem?_setIfInBounds_ne hne]; exact g4
/-- what a class's layout words give: each field laid, its first value, the names apart -/
def LaidAll (Z : State) (a0 : Array Value) (C : String) (fs : List FR) : Prop := ∀ f ∈ fs, Laid Z a0 C f.1 f.2.1 f.2.2.1 ∧ ∃ t, parseFieldDescriptor f.2.2.1 = some t ∧ f.2.2.2 = defaultValue t
theorem LaidAll.nil : LaidAll Z a0 C [] := fun _ q => nomatch q
theorem LaidAll.cons {t : FieldType} (q : Laid Z a0 C O n d) (ht : parseFieldDescriptor d = some t) (hv : v = defaultValue t) (r : LaidAll Z a0 C fs) : LaidAll Z a0 C ((O, n, d, v) :: fs) := fun f hf => by
  rcases List.mem_cons.mp hf with rfl | hf
  · exact ⟨q, t, ht, hv⟩
  · exact r f hf
theorem LaidAll.slots (H : LaidAll Z a0 C fs) (q : (fs.map (·.2.1)).Nodup) : (fs.map fun f => RoadKit.slotOf Z f.1 f.2.1 f.2.2.1).Nodup := by
  induction fs with
  | nil => exact List.nodup_nil
  | cons f fs ih =>
    rw [List.map_cons, List.nodup_cons] at q ⊢
    refine ⟨fun z => ?_, ih (fun x hx => H x (List.mem_cons_of_mem _ hx)) q.2⟩
    obtain ⟨g, hg, e⟩ := List.mem_map.mp z
    obtain ⟨L1, t1, p1, -⟩ := H f (List.mem_cons_self ..)
    obtain ⟨L2, t2, p2, -⟩ := H g (List.mem_cons_of_mem _ hg)
    exact slot_ne L2 L1 (fun u => q.1 (List.mem_map.mpr ⟨g, hg, u⟩)) p2 p1 e
/-! ### the steps that read or write it -/
theorem g_getf (W : Wk Z y bytes ml ret n0 p l e R s m args below meth c T kc ks) {ix : Nat} (w : (Cond.fieldLink y.cls ix R0 n d).before a0 Z = true) (via : Via Z R0 O n d) (H : Hp Z n0 T.heap L) (hi : L[i]? = some (a, ObC Z C fs)) (hj : fs[jx]? = some (O, n, d, v)) (hd : decode bytes pc = .ok (.getfield ix, 3)) (hpc : pc + 3 = pc')
    (K : ∀ T', Wk Z y bytes ml ret n0 p l e R s m args below meth c T' kc ks → Hp Z n0 T'.heap L → Goes p e below E (T'.setTop (mkF m pc' ls (v :: st)))) : Goes p e below E (T.setTop (mkF m pc ls (.ref a :: st))) := by
  subst hpc
  have hx := W.hx; have hby := W.hby; have hown := W.hown; have hZ := W.hZ
  obtain ⟨A, locs, X, N⟩ := W
  obtain ⟨-, cl, q1, q2⟩ := H.get hi
  have F := (q2.2.2.2.1 _ (List.mem_of_getElem? hj)).fld q1 q2.2.1 q2.2.2.1
  obtain ⟨T', X', e', st'⟩ := getF X hx hZ hown (host := "") (Or.inl w) via rfl F (g := mkF m pc ls (.ref a :: st)) rfl rfl (hb hby hd)
  exact (K T' ⟨A, locs, X', N⟩ (e' ▸ H)).back st'
theorem g_putf (W : Wk Z y bytes ml ret n0 p l e R s m args below meth c T kc ks) {ix kk : Nat} (wd : (Cond.fieldLink y.cls ix R0 n d).before a0 Z = true) (via : Via Z R0 O n d) (wl : (Cond.lays C O n d).before a0 Z = true ∨ ((Cond.laysFinal C O n d).before a0 Z = true ∧ y.cls = O ∧ y.name = "<init>")) (wi : (Cond.instantiable C kk).before a0 Z = true) (hty : parseFieldDescriptor d = some ty) (hn : narrow ty w = w) (hf : fits ty w = true)
    (H : Hp Z n0 T.heap L) (hi : L[i]? = some (a, ObC Z C fs)) (hj : fs[jx]? = some (O, n, d, v)) (hd : decode bytes pc = .ok (.putfield ix, 3)) (hpc : pc + 3 = pc') {L' : List HRow} (hL : L.set i (a, ObC Z C (fs.set jx (O, n, d, w))) = L')
    (K : ∀ T', Wk Z y bytes ml ret n0 p l e R s m args below meth c T' kc ks → Hp Z n0 T'.heap L' → Goes p e below E (T'.setTop (mkF m pc' ls st))) : Goes p e below E (T.setTop (mkF m pc ls (w :: .ref a :: st))) := by
  subst hpc hL
  have hx := W.hx; have hby := W.hby; have hown := W.hown; have hZ := W.hZ; have hnm := W.hnm
  obtain ⟨A, locs, X, N⟩ := W
  obtain ⟨hn0, cl, q1, q2⟩ := H.get hi
  have F := (q2.2.2.2.1 _ (List.mem_of_getElem? hj)).fld q1 q2.2.1 q2.2.2.1
  obtain ⟨T', h', X', e', Wr', st'⟩ := putF X hx hZ hown (host := "") (Or.inl wd) via rfl F (q2.exa q1) (wl.imp id fun q => ⟨q.1, q.2.1, hnm.trans q.2.2⟩) wi hty hn hf (g := mkF m pc ls (w :: .ref a :: st)) rfl rfl (hb hby hd)
  obtain ⟨cl', g1, -, -, rfl⟩ := Wr'
  cases q1.symm.trans g1
  exact (K T' ⟨A, _, X', Fr.snoc X' N hn0⟩ (by rw [e']; exact H.put hi (q2.put hj))).back st'
theorem g_new (W : Wk Z y bytes ml ret n0 p l e R s m args below meth c T kc ks) {ix nn : Nat} (w : (Cond.classLink y.cls ix C).before a0 Z = true) (wi : (Cond.instantiable C nn).before a0 Z = true) (wz : (Cond.initialized C).before a0 Z = true) (la : LaidAll Z a0 C fs) (nd : (fs.map (·.2.1)).Nodup) (H : Hp Z n0 T.heap L) (hd : decode bytes pc = .ok (.new ix, 3)) (hpc : pc + 3 = pc')
    {kc' ks' : Nat} (hkc : kc + 1 = kc') (hks : ks + nn = ks') (hc : kc' ≤ R.cells) (hl : ks' ≤ R.slots)
    (K : ∀ T' a, Wk Z y bytes ml ret n0 p l e R s m args below meth c T' kc' ks' → Hp Z n0 T'.heap ((a, ObC Z C fs) :: L) → Goes p e below E (T'.setTop (mkF m pc' ls (.ref a :: st)))) : Goes p e below E (T.setTop (mkF m pc ls st)) := by
  subst hpc hkc hks
  have hx := W.hx; have hby := W.hby; have hown := W.hown; have hZ := W.hZ
  obtain ⟨A, locs, X, N⟩ := W
  obtain ⟨T', h', X', e', E', X1, D, ⟨cell, hcell, hvm, -⟩, st'⟩ := newO X hx hZ hown w wi wz rfl (g := mkF m pc ls st) rfl (hb hby hd) hc hl
  have hob : ObC Z C fs cell := by
    obtain ⟨cell', k', g1, g2, g3, g4, g5⟩ := X1
    cases hcell.symm.trans g1
    refine ⟨⟨k', g2, g3, g5⟩, by rw [hvm]; simp, g4, fun f hf => ?_, la.slots nd⟩
    obtain ⟨Lf, t, ht, hv⟩ := la f hf
    obtain ⟨c2, cf, kf, ii, fd, r1, r2, r3, -, -, r6, r7⟩ := D Lf ht
    cases hcell.symm.trans r1
    exact ⟨cf, kf, ii, fd, r2, r3, r6, by rw [hv]; exact r7⟩
  exact (K T' T.heap.size ⟨A, locs, X', N⟩ (by rw [e']; exact H.push E' hcell hob)).back st'
theorem g_initO (W : Wk Z y bytes ml ret n0 p l e R s m args below meth c T kc ks) {ix : Nat} (w1 : (Cond.methodLink y.cls ix Lib.objectInit).before a0 Z = true) (w2 : (Cond.instanceMethod Lib.objectInit).before a0 Z = true) (w3 : (Cond.code Lib.objectInit ⟨#[0xb1]⟩ 1 none).before a0 Z = true) (H : Hp Z n0 T.heap L) (hls : ls.size = ml) (hd : decode bytes pc = .ok (.invokespecial ix, 3)) (hpc : pc + 3 = pc')
    (hf : 1 ≤ R.frames) {Wn : Nat} (hW : (st.map fun v => v.category).sum ≤ Wn) (hl : Wn + 12 ≤ R.locals)
    (K : ∀ T', Wk Z y bytes ml ret n0 p l e R s m args below meth c T' kc ks → Hp Z n0 T'.heap L → Goes p e below E (T'.setTop (mkF m pc' ls st))) : Goes p e below E (T.setTop (mkF m pc ls (.ref a :: st))) := by
  subst hpc
  have hx := W.hx; have hby := W.hby; have hown := W.hown; have hZ := W.hZ; have hml := W.hml
  obtain ⟨A, locs, X, N⟩ := W
  obtain ⟨T', X', e', st'⟩ := initO X hx hZ hown w1 w2 w3 rfl (g := mkF m pc ls (.ref a :: st)) rfl (by rw [hml]; exact hls) rfl (hb hby hd) hf (W := Wn) (by show 2 * 0 + _ ≤ _; omega) hl
  exact (K T' ⟨A, locs, X', N⟩ (e' ▸ H)).back st'
/-! ### arrays -/
theorem ArC.arr (F : ArC Z ty vs cell) (hc : h[a]? = some cell) : Arr Z h a cell ty := ⟨hc, F.1, F.2.1⟩
theorem idx_ok {x : Int32} (hx : x.toInt = (jx : Int)) (F : ArC Z ty vs cell) (hj : jx < vs.length) : ¬ (x < 0 ∨ cell.slots.size ≤ x.toNatClampNeg) := by
  rw [F.2.2.1]
  have e0 : (0 : Int32).toInt = 0 := rfl
  simp only [Int32.lt_iff_toInt_lt, Int32.toNatClampNeg, List.size_toArray, e0, hx]; omega
theorem idx_nat {x : Int32} (hx : x.toInt = (jx : Int)) : x.toNatClampNeg = jx := by simp only [Int32.toNatClampNeg, hx]; omega
theorem g_newarr (W : Wk Z y bytes ml ret n0 p l e R s m args below meth c T kc ks) {aty : ArrayType} (w : (Cond.arrayClass (newarray.typeOf aty)).before a0 Z = true) (H : Hp Z n0 T.heap L) {x : Int32} (hx0 : ¬ x < 0) (hvs : List.replicate x.toNatClampNeg (defaultValue (newarray.typeOf aty)) = vs) {cap : Nat} (hcap : vs.length ≤ cap) (hcb : cap * 8 ≤ 536870912) (hd : decode bytes pc = .ok (.newarray aty, 2)) (hpc : pc + 2 = pc')
    {kc' ks' : Nat} (hkc : kc + 1 = kc') (hks : ks + cap = ks') (hc : kc' ≤ R.cells) (hl : ks' ≤ R.slots)
    (K : ∀ T' a, Wk Z y bytes ml ret n0 p l e R s m args below meth c T' kc' ks' → Hp Z n0 T'.heap ((a, ArC Z (newarray.typeOf aty) vs) :: L) → Goes p e below E (T'.setTop (mkF m pc' ls (.ref a :: st)))) : Goes p e below E (T.setTop (mkF m pc ls (.int x :: st))) := by
  subst hpc hkc hks hvs
  have hx := W.hx; have hby := W.hby; have hZ := W.hZ
  obtain ⟨A, locs, X, N⟩ := W
  rw [List.length_replicate] at hcap
  obtain ⟨T', h', cA, X', e', E', A1, st'⟩ := newP X hx hZ w rfl (g := mkF m pc ls (.int x :: st)) rfl (hb hby hd) rfl hx0 hcap hcb hc hl
  have hl31 : (List.replicate x.toNatClampNeg (defaultValue (newarray.typeOf aty))).length < 2 ^ 31 := by rw [List.length_replicate]; omega
  exact (K T' T.heap.size ⟨A, locs, X', N⟩ (by rw [e']; exact H.push E' A1.1 ⟨A1.2.1, A1.2.2, by simp [newA], hl31⟩)).back st'
theorem g_arrlen (W : Wk Z y bytes ml ret n0 p l e R s m args below meth c T kc ks) (H : Hp Z n0 T.heap L) (hi : L[i]? = some (a, ArC Z ty vs)) {x : Int32} (hx : vs.length.toInt32 = x) (hd : decode bytes pc = .ok (.arraylength, 1)) (hpc : pc + 1 = pc') (K : Goes p e below E (T.setTop (mkF m pc' ls (.int x :: st)))) : Goes p e below E (T.setTop (mkF m pc ls (.ref a :: st))) := by
  subst hpc hx
  have hx := W.hx; have hby := W.hby; have hZ := W.hZ
  obtain ⟨A, locs, X, N⟩ := W
  obtain ⟨-, cl, q1, q2⟩ := H.get hi
  refine K.back fun t r => X.arraylength hx q1 (State.isArrayOf_alike hZ.alike q2.1) (g := mkF m pc ls (.ref a :: st)) rfl rfl (hb hby hd) t ?_
  have e : cl.slots.size = vs.length := by rw [q2.2.2.1]; simp
  rw [e]; exact r
theorem g_daload (W : Wk Z y bytes ml ret n0 p l e R s m args below meth c T kc ks) (H : Hp Z n0 T.heap L) (hi : L[i]? = some (a, ArC Z .double vs)) {x : Int32} (hx : x.toInt = (jx : Int)) (hv : vs[jx]? = some v) (hd : decode bytes pc = .ok (.daload, 1)) (hpc : pc + 1 = pc') (K : Goes p e below E (T.setTop (mkF m pc' ls (v :: st)))) : Goes p e below E (T.setTop (mkF m pc ls (.int x :: .ref a :: st))) := by
  subst hpc
  have hxx := W.hx; have hby := W.hby; have hZ := W.hZ
  obtain ⟨A, locs, X, N⟩ := W
  obtain ⟨-, cl, q1, q2⟩ := H.get hi
  exact K.back fun t r => X.daload hxx q1 (State.isArrayOf_alike hZ.alike q2.1) q2.2.1 (idx_ok hx q2 (List.getElem?_eq_some_iff.mp hv).1) (by rw [idx_nat hx, q2.2.2.1]; simpa using hv) (g := mkF m pc ls (.int x :: .ref a :: st)) rfl rfl (hb hby hd) t r
theorem g_dastore (W : Wk Z y bytes ml ret n0 p l e R s m args below meth c T kc ks) (H : Hp Z n0 T.heap L) (hi : L[i]? = some (a, ArC Z .double vs)) {x : Int32} {u : UInt64} (hx : x.toInt = (jx : Int)) (hj : jx < vs.length) (hd : decode bytes pc = .ok (.dastore, 1)) (hpc : pc + 1 = pc') {L' : List HRow} (hL : L.set i (a, ArC Z .double (vs.set jx (.double u))) = L')
    (K : ∀ T', Wk Z y bytes ml ret n0 p l e R s m args below meth c T' kc ks → Hp Z n0 T'.heap L' → Goes p e below E (T'.setTop (mkF m pc' ls st))) : Goes p e below E (T.setTop (mkF m pc ls (.double u :: .int x :: .ref a :: st))) := by
  subst hpc hL
  have hxx := W.hx; have hby := W.hby; have hZ := W.hZ
  obtain ⟨A, locs, X, N⟩ := W
  obtain ⟨hn0, cl, q1, q2⟩ := H.get hi
  obtain ⟨T', h', X', e', Wr', st'⟩ := stD X hxx hZ rfl (q2.arr q1) (idx_ok hx q2 hj) (g := mkF m pc ls (.double u :: .int x :: .ref a :: st)) rfl rfl (hb hby hd)
  obtain ⟨cl', g1, -, -, rfl⟩ := Wr'
  cases q1.symm.trans g1
  have hsl : (cl.setSlot x.toNatClampNeg (.double u)).slots = (vs.set jx (.double u)).toArray := by rw [idx_nat hx]; show cl.slots.setIfInBounds jx _ = _; rw [q2.2.2.1]; simp
  exact (K T' ⟨A, _, X', Fr.snoc X' N hn0⟩ (by rw [e']; exact H.put hi ⟨q2.1, q2.2.1, hsl, by rw [List.length_set]; exact q2.2.2.2⟩)).back st'
end Heap
/-! ### calls by contract -/
section Calls
variable {y' : MethodName} {bytes' : ByteArray} {ml' : Nat} {ret' : Option FieldType} {rm : Room} {Post : Option Value → Heap → Prop} {argsL stk : List Value} {ix : Nat} {Wn kc' ks' : Nat} {ps : List FieldType} {rt : Option FieldType}
theorem g_callS (W : Wk Z y bytes ml ret n0 p l e R s m args below meth c T kc ks) (w1 : (Cond.methodLink y.cls ix y').before a0 Z = true) (w2 : (Cond.static y').before a0 Z = true) (w3 : (Cond.initialized y'.cls).before a0 Z = true) (w4 : (Cond.code y' bytes' ml' ret').before a0 Z = true) (hy : y'.cls ≠ "java/lang/invoke/MethodHandle" ∧ y'.cls ≠ "java/lang/invoke/VarHandle")
    (con : Con l Z n0 y' [] bytes' ml' ret' rm argsL.toArray T.heap Post) (hpd : parseMethodDescriptor y'.desc = some ⟨ps, rt⟩) (hlen : argsL.length = ps.length) (hstk : stk = argsL.reverse ++ st) (hls : ls.size = ml) (hd : decode bytes pc = .ok (.invokestatic ix, 3)) (hpc : pc + 3 = pc')
    (hf : rm.frames + 1 ≤ R.frames) (hW : (st.map fun v => v.category).sum ≤ Wn) (hl : Wn + (ml' + 11) + rm.locals ≤ R.locals) (hkc : kc + rm.cells = kc') (hks : ks + rm.slots = ks') (hc : kc' ≤ R.cells) (hs : ks' ≤ R.slots)
    (K : ∀ T' v, Wk Z y bytes ml ret n0 p l e R s m args below meth c T' kc' ks' → Post v T'.heap → Goes p e below E (T'.setTop (mkF m pc' ls (v.toList ++ st)))) : Goes p e below E (T.setTop (mkF m pc ls stk)) := by
  subst hpc hkc hks hstk
  have hx := W.hx; have hby := W.hby; have hown := W.hown; have hZ := W.hZ; have hml := W.hml
  obtain ⟨A, locs, X, N⟩ := W
  obtain ⟨v, vm1, ⟨T', L', kk, jj⟩, -, X', ⟨Lc, ⟨hN, hQ⟩, l1, l2, l3⟩, st'⟩ := Jvm.LawKit.callS X hx hown (mvT hZ w1) (mvT hZ w2) (mvT hZ w3) (mvT hZ w4) hy (backOf (Q := fun v h L => Fr n0 L ∧ Post v h) (W := Wn) con hZ w4 w3 hf hl) (g := mkF m pc ls (argsL.reverse ++ st)) rfl (by rw [hml]; exact hls) (argsL := argsL) (rest := st) (lenOf hpd hlen) rfl (by show 2 * 0 + _ ≤ _; omega) (hb hby hd) (fun _ _ => ⟨rfl, rfl, hc, hs⟩)
  dsimp only [Pt.U, Pt.locs, Pt.cells, Pt.slots] at X' l1 l2 l3 hQ st'
  subst l1 l2 l3
  exact (K T' v ⟨A, _, X', N.app hN⟩ hQ).back st'
theorem g_callI (W : Wk Z y bytes ml ret n0 p l e R s m args below meth c T kc ks) (hin : y'.name = "<init>") (w1 : (Cond.methodLink y.cls ix y').before a0 Z = true) (w2 : (Cond.instanceMethod y').before a0 Z = true) (w3 : (Cond.initialized y'.cls).before a0 Z = true) (w4 : (Cond.code y' bytes' ml' none).before a0 Z = true) (hy : y'.cls ≠ "java/lang/invoke/MethodHandle" ∧ y'.cls ≠ "java/lang/invoke/VarHandle")
    {a : Addr} (con : Con l Z n0 y' [] bytes' ml' none rm (.ref a :: argsL).toArray T.heap Post) (hpd : parseMethodDescriptor y'.desc = some ⟨ps, rt⟩) (hlen : argsL.length = ps.length) (hstk : stk = argsL.reverse ++ .ref a :: st) (hls : ls.size = ml) (hd : decode bytes pc = .ok (.invokespecial ix, 3)) (hpc : pc + 3 = pc')
    (hf : rm.frames + 1 ≤ R.frames) (hW : (st.map fun v => v.category).sum ≤ Wn) (hl : Wn + (ml' + 11) + rm.locals ≤ R.locals) (hkc : kc + rm.cells = kc') (hks : ks + rm.slots = ks') (hc : kc' ≤ R.cells) (hs : ks' ≤ R.slots)
    (K : ∀ T' v, Wk Z y bytes ml ret n0 p l e R s m args below meth c T' kc' ks' → Post v T'.heap → Goes p e below E (T'.setTop (mkF m pc' ls (v.toList ++ st)))) : Goes p e below E (T.setTop (mkF m pc ls stk)) := by
  subst hpc hkc hks hstk
  have hx := W.hx; have hby := W.hby; have hown := W.hown; have hZ := W.hZ; have hml := W.hml
  obtain ⟨A, locs, X, N⟩ := W
  obtain ⟨v, vm1, ⟨T', L', kk, jj⟩, -, X', ⟨Lc, ⟨hN, hQ⟩, l1, l2, l3⟩, st'⟩ := X.specialBack hx (y := y') hin hown (mvT hZ w1) (mvT hZ w2) (mvT hZ w4) hy (backOf (Q := fun v h L => Fr n0 L ∧ Post v h) (W := Wn) con hZ w4 w3 hf hl) (g := mkF m pc ls (argsL.reverse ++ .ref a :: st)) rfl (by rw [hml]; exact hls) (Steps.refl _) (a := a) (argsL := argsL) (rest := st) (lenOf hpd hlen) rfl (by show 2 * 0 + _ ≤ _; omega) (hb hby hd) (fun _ _ => ⟨rfl, rfl, hc, hs⟩)
  dsimp only [Pt.U, Pt.locs, Pt.cells, Pt.slots] at X' l1 l2 l3 hQ st'
  subst l1 l2 l3
  exact (K T' v ⟨A, _, X', N.app hN⟩ hQ).back fun t r => st'.trans r
theorem g_callV (W : Wk Z y bytes ml ret n0 p l e R s m args below meth c T kc ks) {C : String} {fs : List FR} {L : List HRow} {i : Nat} (w1 : (Cond.methodLink y.cls ix y').before a0 Z = true) (w2 : (Cond.declares y').before a0 Z = true) (w3 : (Cond.selects C y' y').before a0 Z = true) (w4 : (Cond.instanceMethod y').before a0 Z = true) (w5 : (Cond.initialized y'.cls).before a0 Z = true) (w6 : (Cond.code y' bytes' ml' ret').before a0 Z = true) (hy : y'.cls ≠ "java/lang/invoke/MethodHandle" ∧ y'.cls ≠ "java/lang/invoke/VarHandle")
    {a : Addr} (H : Hp Z n0 T.heap L) (hi : L[i]? = some (a, ObC Z C fs)) (con : Con l Z n0 y' [] bytes' ml' ret' rm (.ref a :: argsL).toArray T.heap Post) (hpd : parseMethodDescriptor y'.desc = some ⟨ps, rt⟩) (hlen : argsL.length = ps.length) (hstk : stk = argsL.reverse ++ .ref a :: st) (hls : ls.size = ml) (hd : decode bytes pc = .ok (.invokevirtual ix, 3)) (hpc : pc + 3 = pc')
    (hf : rm.frames + 1 ≤ R.frames) (hW : (st.map fun v => v.category).sum ≤ Wn) (hl : Wn + (ml' + 11) + rm.locals ≤ R.locals) (hkc : kc + rm.cells = kc') (hks : ks + rm.slots = ks') (hc : kc' ≤ R.cells) (hs : ks' ≤ R.slots)
    (K : ∀ T' v, Wk Z y bytes ml ret n0 p l e R s m args below meth c T' kc' ks' → Post v T'.heap → Goes p e below E (T'.setTop (mkF m pc' ls (v.toList ++ st)))) : Goes p e below E (T.setTop (mkF m pc ls stk)) := by
  subst hpc hkc hks hstk
  have hx := W.hx; have hby := W.hby; have hown := W.hown; have hZ := W.hZ; have hml := W.hml
  obtain ⟨A, locs, X, N⟩ := W
  obtain ⟨-, cl, q1, q2⟩ := H.get hi
  obtain ⟨cB, kB, b1, b2, b3⟩ := isOf hZ rfl (q2.exa q1)
  obtain ⟨v, vm1, ⟨T', L', kk, jj⟩, -, X', ⟨Lc, ⟨hN, hQ⟩, l1, l2, l3⟩, st'⟩ := X.virtualBack hx (y := y') hown (mvT hZ w1) (mvT hZ w2) (notFace_of_selects (args := #[]) (mvT hZ w3)) (mvT hZ w3) (mvT hZ w4) hy (backOf (Q := fun v h L => Fr n0 L ∧ Post v h) (W := Wn) con hZ w6 w5 hf hl) b1 b3 (g := mkF m pc ls (argsL.reverse ++ .ref a :: st)) rfl (by rw [hml]; exact hls) (Steps.refl _) (argsL := argsL) (rest := st) (lenOf hpd hlen) rfl (by show 2 * 0 + _ ≤ _; omega) (hb hby hd) (fun _ _ => ⟨rfl, rfl, hc, hs⟩)
  dsimp only [Pt.U, Pt.locs, Pt.cells, Pt.slots] at X' l1 l2 l3 hQ st'
  subst l1 l2 l3
  exact (K T' v ⟨A, _, X', N.app hN⟩ hQ).back fun t r => st'.trans r
theorem g_callP (W : Wk Z y bytes ml ret n0 p l e R s m args below meth c T kc ks) {C : String} {fs : List FR} {L : List HRow} {i nn : Nat} (w1 : (Cond.methodLink y.cls ix y').before a0 Z = true) (w2 : (Cond.instanceMethod y').before a0 Z = true) (w3 : (Cond.privateMethod y').before a0 Z = true) (w4 : (Cond.instantiable y'.cls nn).before a0 Z = true) (w5 : (Cond.initialized y'.cls).before a0 Z = true) (w6 : (Cond.code y' bytes' ml' ret').before a0 Z = true) (hy : y'.cls ≠ "java/lang/invoke/MethodHandle" ∧ y'.cls ≠ "java/lang/invoke/VarHandle")
    {a : Addr} (H : Hp Z n0 T.heap L) (hi : L[i]? = some (a, ObC Z C fs)) (con : Con l Z n0 y' [] bytes' ml' ret' rm (.ref a :: argsL).toArray T.heap Post) (hpd : parseMethodDescriptor y'.desc = some ⟨ps, rt⟩) (hlen : argsL.length = ps.length) (hstk : stk = argsL.reverse ++ .ref a :: st) (hls : ls.size = ml) (hd : decode bytes pc = .ok (.invokevirtual ix, 3)) (hpc : pc + 3 = pc')
    (hf : rm.frames + 1 ≤ R.frames) (hW : (st.map fun v => v.category).sum ≤ Wn) (hl : Wn + (ml' + 11) + rm.locals ≤ R.locals) (hkc : kc + rm.cells = kc') (hks : ks + rm.slots = ks') (hc : kc' ≤ R.cells) (hs : ks' ≤ R.slots)
    (K : ∀ T' v, Wk Z y bytes ml ret n0 p l e R s m args below meth c T' kc' ks' → Post v T'.heap → Goes p e below E (T'.setTop (mkF m pc' ls (v.toList ++ st)))) : Goes p e below E (T.setTop (mkF m pc ls stk)) := by
  subst hpc hkc hks hstk
  have hx := W.hx; have hby := W.hby; have hown := W.hown; have hZ := W.hZ; have hml := W.hml
  obtain ⟨A, locs, X, N⟩ := W
  obtain ⟨-, cl, q1, q2⟩ := H.get hi
  have hst : ∀ q, cl.vm ≠ .statics q := fun q hq => by have := q2.2.2.1; rw [hq] at this; cases this
  obtain ⟨mk, methM, hnamed, hmethM, hstM, habM⟩ := Cond.instanceMethod_spec (args := #[]) (mvT hZ w2)
  obtain ⟨methM', cM, hmethM', -, -, -, -, -, -, hsigM⟩ := Cond.code_spec (args := #[]) hnamed (mvT hZ w6)
  cases hmethM.symm.trans hmethM'
  obtain ⟨cP0, kP, hf1, hkP, -, hkPi, -⟩ := Cond.instantiable_spec (mvT hZ w4 (args := #[]))
  cases (findClass_of_methodNamed hnamed).symm.trans hf1
  have hkPi' : kP.isInterface = false := (Bool.or_eq_false_iff.mp hkPi).1
  have hselP : selectMethod e.platform s.vm cl.cls mk = .method mk := selectMethod_private hmethM (Cond.privateMethod_at (mvP hZ w3 (args := #[])) mk methM hnamed hmethM)
  obtain ⟨vm1, X1, hstep1⟩ := X.invokevirtual hx hown (mvT hZ w1) hnamed hmethM hstM hkP hkPi' hy (a := a) (cell := cl) q1 hst hselP hmethM habM hkP hkPi' (g := mkF m pc ls (argsL.reverse ++ .ref a :: st)) rfl (argsL := argsL) (rest := st) (lenOf hpd hlen _ hsigM) rfl (hb hby hd)
  obtain ⟨v, ⟨T', L', kk, jj⟩, X', ⟨Lc, ⟨hN, hQ⟩, l1, l2, l3⟩, st'⟩ := (backOf (Q := fun v h L => Fr n0 L ∧ Post v h) (W := Wn) (len := 3) (p := p) (e := e) (below := below) (args := args) con hZ w6 w5 hf hl) m meth c ⟨T.setVm vm1, locs, kc, ks⟩ (mkF m pc ls st) (.invokevirtual ix) mk (.ref a :: argsL).toArray X1 rfl (by rw [hml]; exact hls) (hb hby hd) (by show 2 * 0 + (st.map fun v => v.category).sum ≤ Wn; omega) (X1.named hnamed) ⟨rfl, rfl, hc, hs⟩
  dsimp only [Pt.U, Pt.locs, Pt.cells, Pt.slots] at X' l1 l2 l3 hQ st'
  subst l1 l2 l3
  exact (K T' v ⟨A, _, X', N.app hN⟩ hQ).back fun t r => ((hstep1 _ fun acts => by rw [doInvoke_state]; exact Steps.refl _).trans st').trans r
end Calls
end Laws
end Jvm.OwnKit


@@BLOCK:NumsL.lean.txt@@
namespace Jvm.OwnKit
open Jvm.Free
/-! ### ints -/
theorem i32_lit {x y : Int32} {k : Int} (h : x.toInt = k) (hy : y.toInt = k) : x = y := Int32.toInt_inj.mp (h.trans hy.symm)
theorem and3 (x : Int32) : x &&& 3 = 0 ∨ x &&& 3 = 1 ∨ x &&& 3 = 2 ∨ x &&& 3 = 3 := by
  have h := Kit.i32_mask x 3 (k := 2) (by decide) (by decide)
  have q : (x &&& 3).toInt = 0 ∨ (x &&& 3).toInt = 1 ∨ (x &&& 3).toInt = 2 ∨ (x &&& 3).toInt = 3 := by omega
  rcases q with q | q | q | q
  · exact Or.inl (i32_lit q (by decide))
  · exact Or.inr (Or.inl (i32_lit q (by decide)))
  · exact Or.inr (Or.inr (Or.inl (i32_lit q (by decide))))
  · exact Or.inr (Or.inr (Or.inr (i32_lit q (by decide))))
theorem i32_remW (x y : Int32) : (x - (x / y) * y).toInt = x.toInt.tmod y.toInt := by
  have a := (x % y).toInt_lt; have b := (x % y).le_toInt
  rw [Int32.toInt_mod] at a b
  rw [Int32.toInt_sub, Int32.toInt_mul, Int32.toInt_div, Int.bmod_mul_bmod, Int.sub_bmod_bmod, Int.mul_comm, ← Int.tmod_def]
  exact Kit.bmod32 b a
theorem i32_remN {x y : Int32} (hx : 0 ≤ x.toInt) : (x - (x / y) * y).toInt = x.toInt % y.toInt := by rw [i32_remW, Int.tmod_eq_emod_of_nonneg hx]
end Jvm.OwnKit

namespace Jvm.OwnKit
open Jvm.FP.Core Jvm.Free.Fl Jvm.Op Jvm.ClassFile
/-! ### exact doubles: a is n * 2^e -/
def Dy (n e : Int) (a : UInt64) : Prop := DFin a ∧ zval b64 (val64 a) = n * ((2 ^ (e + 1074).toNat : Nat) : Int)
theorem pw3 {A B X1 Y1 X Y : Nat} (h : A * 2 ^ X1 = B * 2 ^ Y1) (hd : X + Y1 = X1 + Y) : A * 2 ^ X = B * 2 ^ Y := by
  apply Nat.eq_of_mul_eq_mul_right (Nat.two_pow_pos X1)
  calc A * 2 ^ X * 2 ^ X1 = A * 2 ^ X1 * 2 ^ X := by rw [Nat.mul_right_comm]
    _ = B * 2 ^ Y1 * 2 ^ X := by rw [h]
    _ = B * 2 ^ Y * 2 ^ X1 := by rw [Nat.mul_assoc, Nat.mul_assoc, ← Nat.pow_add, ← Nat.pow_add, show Y1 + X = Y + X1 by omega]
theorem rr_exact {s : Bool} {A B n : Nat} {e q : Int} (hB : 0 < B) (hn : n < 2 ^ 53) (h1 : -1074 ≤ q) (h2 : q ≤ 971) (h : A * 2 ^ (e - q).toNat = n * B * 2 ^ (q - e).toNat) :
    ∃ c' q', roundRatio b64 s A B e = .fin s c' q' ∧ inUnits c' q' b64.qmin = n * 2 ^ (q + 1074).toNat := by
  have hc : roundRatio b64 s A B e = roundRatio b64 s n 1 q := roundRatio_congr hB (by decide) (by rw [Nat.mul_one]; exact h)
  obtain ⟨c', q', g1, g2⟩ := round_exact good_b64 s (c := n) (q := q) (show n < 2 ^ 53 from hn) (by rw [qmin_b64]; exact h1) (by rw [show b64.qmax = 971 by decide]; exact h2)
  refine ⟨c', q', hc.trans g1, g2.trans ?_⟩
  unfold inUnits; rw [qmin_b64, show (q - -1074).toNat = (q + 1074).toNat by omega]
theorem dy_rr {a : UInt64} {s : Bool} {A B n : Nat} {e q : Int} (ha : val64 a = roundRatio b64 s A B e) (hB : 0 < B) (hn : n < 2 ^ 53) (h1 : -1074 ≤ q) (h2 : q ≤ 971) (h : A * 2 ^ (e - q).toNat = n * B * 2 ^ (q - e).toNat) : Dy (signed s n) q a := by
  obtain ⟨c', q', g1, g2⟩ := rr_exact (s := s) hB hn h1 h2 h
  rw [g1] at ha
  refine ⟨⟨s, c', q', ha⟩, ?_⟩
  rw [ha]; show signed s (inUnits c' q' b64.qmin) = _; rw [g2, signed_mul]
theorem signed_back {s : Bool} {X P : Nat} {n : Int} (hP : 0 < P) (h : signed s X = n * (P : Int)) : signed s n.natAbs = n := by
  have hP' : (0 : Int) < P := Int.natCast_pos.mpr hP
  cases s
  · have h' : (X : Int) = n * P := h
    have : 0 ≤ n := Int.not_lt.mp fun q => by have := Int.mul_neg_of_neg_of_pos q hP'; omega
    show (n.natAbs : Int) = n; omega
  · have h' : -(X : Int) = n * P := h
    have : n ≤ 0 := Int.not_lt.mp fun q => by have := Int.mul_pos q hP'; omega
    show -(n.natAbs : Int) = n; omega
theorem dy_open {n e : Int} {a : UInt64} (ha : Dy n e a) : ∃ s c q, val64 a = .fin s c q ∧ -1074 ≤ q ∧ Jvm.FP.Core.fits b64 (.fin s c q) ∧ c * 2 ^ (q + 1074).toNat = n.natAbs * 2 ^ (e + 1074).toNat ∧ signed s n.natAbs = n := by
  obtain ⟨⟨s, c, q, hv⟩, hz⟩ := ha
  have hfit := val64_fits a
  rw [hv] at hfit hz
  have hq : -1074 ≤ q := by have := hfit.2.1; rwa [qmin_b64] at this
  have hz1 : signed s (inUnits c q b64.qmin) = n * ((2 ^ (e + 1074).toNat : Nat) : Int) := hz
  have hz2 := congrArg Int.natAbs hz1
  rw [natAbs_signed, Int.natAbs_mul, Int.natAbs_natCast] at hz2
  refine ⟨s, c, q, hv, hq, hfit, ?_, signed_back (Nat.two_pow_pos _) hz1⟩
  rw [← hz2]; unfold inUnits; rw [qmin_b64, show (q - -1074).toNat = (q + 1074).toNat by omega]
theorem quo_fin {s t : Bool} {c d : Nat} {q r : Int} (hd : d ≠ 0) : quotient b64 (.fin s c q) (.fin t d r) = roundRatio b64 (s != t) c d (q - r) := if_neg hd
theorem dy_div {n e k : Int} {a b : UInt64} (ha : Dy n e a) (he : -1074 ≤ e) (hb : val64 b = .fin false (2 ^ 52) (k - 52)) (hn : n.natAbs < 2 ^ 53) (h1 : -1074 ≤ e - k) (h2 : e - k ≤ 971) : Dy n (e - k) (FP.ddiv a b) := by
  obtain ⟨s, c, q, hv, hq, hfit, hz, hs⟩ := dy_open ha
  have hd : val64 (FP.ddiv a b) = roundRatio b64 s c (2 ^ 52) (q - (k - 52)) := by
    rw [show val64 (FP.ddiv a b) = _ from val64_ddiv a b, hv, hb]
    rw [quo_fin (by decide), show (s != false) = s by cases s <;> rfl]
  have := dy_rr hd (n := n.natAbs) (q := e - k) (by decide) hn h1 h2 (by
    rw [Nat.mul_assoc, ← Nat.pow_add]
    exact pw3 hz (by omega))
  rwa [hs] at this
theorem dy_addG {n e m k : Int} {t : Nat} {a b : UInt64} (ha : Dy n e a) (hb : Dy m e b) (hnm : n + m = k * ((2 ^ t : Nat) : Int)) (hk : k.natAbs < 2 ^ 53) (h1 : -1074 ≤ e) (h2 : e + t ≤ 971) : Dy k (e + t) (FP.dadd a b) := by
  obtain ⟨⟨s, c, q, hv⟩, hz⟩ := ha
  obtain ⟨⟨s2, d, r, hw⟩, hz2⟩ := hb
  have f1 := val64_fits a
  have f2 := val64_fits b
  rw [hv] at f1 hz
  rw [hw] at f2 hz2
  obtain ⟨sg, N, E, g1, g2, g3⟩ := sum_units f1 f2
  rw [qmin_b64] at g2
  rw [hz, hz2, ← Int.add_mul, hnm, Int.mul_assoc, ← Int.natCast_mul, ← Nat.pow_add] at g3
  have hd : val64 (FP.dadd a b) = roundRatio b64 sg N 1 E := by
    rw [show val64 (FP.dadd a b) = _ from val64_dadd a b, hv, hw, g1]; rfl
  have g4 := congrArg Int.natAbs g3
  rw [natAbs_signed, Int.natAbs_mul, Int.natAbs_natCast] at g4
  unfold inUnits at g4
  rw [qmin_b64] at g4
  have := dy_rr hd (n := k.natAbs) (q := e + t) (by decide) hk (by omega) h2 (by
    rw [Nat.mul_one]
    exact pw3 g4 (by omega))
  rwa [signed_back (Nat.two_pow_pos _) g3] at this
theorem dy_add {n e m : Int} {a b : UInt64} (ha : Dy n e a) (hb : Dy m e b) (hn : (n + m).natAbs < 2 ^ 53) (h1 : -1074 ≤ e) (h2 : e ≤ 971) : Dy (n + m) e (FP.dadd a b) := by
  have := dy_addG (t := 0) ha hb (by rw [show ((2 ^ 0 : Nat) : Int) = 1 from rfl, Int.mul_one]) hn h1 (by omega)
  rwa [show e + ((0 : Nat) : Int) = e by omega] at this
theorem dy_i2d (x : Int32) : Dy x.toInt 0 (FP.i2d x) := ⟨Jvm.FP.Core.i2d_fin x, DInt_zval (i2d_int x)⟩
theorem dy_l2d {x : Int64} (h : x.toInt.natAbs ≤ 2 ^ 53) : Dy x.toInt 0 (FP.l2d x) := ⟨Jvm.FP.Core.l2d_fin x, DInt_zval (l2d_int h)⟩
theorem dy_zero : Dy 0 0 0 := ⟨⟨false, 0, b64.qmin, val64_zero⟩, by rw [zval64_zero, Int.zero_mul]⟩
theorem Dy.fin {n e : Int} {a : UInt64} (h : Dy n e a) : Fin64 a := fin64_core.mpr h.1
theorem Dy.nn {n e : Int} {a : UInt64} (h : Dy n e a) : NoNaN64 a := h.fin.noNaN
theorem dy_cmp {n m e : Int} {a b : UInt64} (ha : Dy n e a) (hb : Dy m e b) : FP.dcmp a b = some (compare n m) := by
  have := dcmp_zval (DFin.ne_nan ha.1) (DFin.ne_nan hb.1)
  rw [ha.2, hb.2, compare_mul_pos _ _ _ (Int.natCast_pos.mpr (Nat.two_pow_pos _))] at this
  exact this
theorem cv_lt {n m : Int} (h : n < m) (o : CmpOp) : cmpValue (some (compare n m)) o = -1 := by rw [(compare_lt_iff n m).mpr h]; rfl
theorem cv_eq {n m : Int} (h : n = m) (o : CmpOp) : cmpValue (some (compare n m)) o = 0 := by rw [(compare_eq_iff n m).mpr h]; rfl
theorem cv_gt {n m : Int} (h : m < n) (o : CmpOp) : cmpValue (some (compare n m)) o = 1 := by rw [(compare_gt_iff n m).mpr h]; rfl
theorem cv3 (n m : Int) (o : CmpOp) : (n < m ∧ cmpValue (some (compare n m)) o = -1) ∨ (n = m ∧ cmpValue (some (compare n m)) o = 0) ∨ (m < n ∧ cmpValue (some (compare n m)) o = 1) := by
  rcases Int.lt_trichotomy n m with h | h | h
  · exact Or.inl ⟨h, cv_lt h o⟩
  · exact Or.inr (Or.inl ⟨h, cv_eq h o⟩)
  · exact Or.inr (Or.inr ⟨h, cv_gt h o⟩)
end Jvm.OwnKit

namespace Jvm.OwnKit
open Jvm.FP.Core Jvm.Free.Fl Jvm.Op Jvm.ClassFile
end Jvm.OwnKit

namespace Jvm.OwnKit
open Sem ClassFile Op Lib Jvm.Stand Jvm.Free Jvm.LawKit Jvm.RoadKit Jvm.Free.Fl
section Refs
variable {Z : State} {y : MethodName} {bytes : ByteArray} {ml : Nat} {ret : Option FieldType} {n0 : Nat} {p : Program} {l : Launch} {e : Env} {R : Room} {s : State} {m : MethodId} {args : Array Value} {below : List Frame} {meth : Method} {c : Code} {T : State} {kc ks k j : Nat} {Q : Option Value → Heap → Prop} {E : Option Value → State → List Loc → Prop} {pc pc' : Nat} {ls : Array Slot} {st : List Value} {a0 : Array Value}
variable {h h' : Heap} {L : List HRow} {a : Addr} {P P' : Cell → Prop} {cell : Cell} {i jx : Nat} {C O n d R0 K0 : String} {fs : List FR} {v w : Value} {vs : List Value} {ty : FieldType}
/-- an array of references to C -/
def RaC (Z : State) (C : String) (vs : List Value) (c : Cell) : Prop := ArC Z (.object C) vs c ∧ Ovr Z c.cls C
theorem Hp.old (H : Hp Z n0 h L) : Ext Z.heap h := H.1.2.2
theorem Hp.exa (H : Hp Z n0 h L) (hi : L[i]? = some (a, ObC Z C fs)) : Exa Z h a C := by
  obtain ⟨-, cl, q1, q2⟩ := H.get hi
  exact q2.exa q1
theorem Hp.fld (H : Hp Z n0 h L) (hi : L[i]? = some (a, ObC Z C fs)) (hj : fs[jx]? = some (O, n, d, v)) : Fld Z h a O n d v := by
  obtain ⟨-, cl, q1, q2⟩ := H.get hi
  exact (q2.2.2.2.1 _ (List.mem_of_getElem? hj)).fld q1 q2.2.1 q2.2.2.1
theorem Hp.exam (H : Hp Z n0 h L) (hi : (a, ObC Z C fs) ∈ L) : Exa Z h a C := by
  obtain ⟨-, cl, q1, q2⟩ := H.2.2 _ hi
  exact q2.exa q1
theorem Hp.fldm (H : Hp Z n0 h L) (hi : (a, ObC Z C fs) ∈ L) (hj : fs[jx]? = some (O, n, d, v)) : Fld Z h a O n d v := by
  obtain ⟨-, cl, q1, q2⟩ := H.2.2 _ hi
  exact (q2.2.2.2.1 _ (List.mem_of_getElem? hj)).fld q1 q2.2.1 q2.2.2.1
/-- an Integer of the value x: an old one, or one of the rows F -/
def IntF (Z : State) (n0 : Nat) (F : List HRow) (a : Addr) (x : Int32) : Prop := ∀ (h : Heap) (L : List HRow), Hp Z n0 h L → (∀ r ∈ F, r ∈ L) → Exa Z h a "java/lang/Integer" ∧ Fld Z h a "java/lang/Integer" "value" "I" (.int x)
theorem IntF.mono {F F' : List HRow} {x : Int32} (q : IntF Z n0 F a x) (s : ∀ r ∈ F, r ∈ F') : IntF Z n0 F' a x := fun h L H z => q h L H fun r hr => z r (s r hr)
/-! ### branches on references -/
theorem g_acmpY (W : Wk Z y bytes ml ret n0 p l e R s m args below meth c T kc ks) {cd : ClassFile.ACond} {o : Int} {pcy : Nat} (hv : v.isRef = true) (hw : w.isRef = true) (hc : XT.acmp cd v w = true) (hd : decode bytes pc = .ok (.if_acmp cd o, 3)) (hy : (pc : Int) + o = (pcy : Nat)) (K : Goes p e below E (T.setTop (mkF m pcy ls st))) : Goes p e below E (T.setTop (mkF m pc ls (w :: v :: st))) :=
  K.back fun _ r => XT.acmpYes W.here W.hx rfl (pc0 := pc) (pc' := pcy) rfl (hb W.hby hd) rfl hv hw hc (by omega) (by omega) r
theorem acmp_same (a : Addr) : XT.acmp .eq (.ref a) (.ref a) = true := by simp [XT.acmp]
/-! ### casts, statics -/
theorem g_cast1 (W : Wk Z y bytes ml ret n0 p l e R s m args below meth c T kc ks) {ix : Nat} (w : (Cond.classLink y.cls ix K0).before a0 Z = true) (F : Ins Z T.heap a K0 true) (H : Hp Z n0 T.heap L) (hd : decode bytes pc = .ok (.checkcast ix, 3)) (hpc : pc + 3 = pc')
    (K : ∀ T', Wk Z y bytes ml ret n0 p l e R s m args below meth c T' kc ks → T'.heap = T.heap → Hp Z n0 T'.heap L → Goes p e below E (T'.setTop (mkF m pc' ls (.ref a :: st)))) : Goes p e below E (T.setTop (mkF m pc ls (.ref a :: st))) := by
  subst hpc
  have hx := W.hx; have hby := W.hby; have hown := W.hown; have hZ := W.hZ
  obtain ⟨A, locs, X, N⟩ := W
  obtain ⟨T', X', e', st'⟩ := castY X hx hZ hown w rfl F (g := mkF m pc ls (.ref a :: st)) rfl rfl (hb hby hd)
  exact (K T' ⟨A, locs, X', N⟩ e' (e' ▸ H)).back st'
theorem g_getS (W : Wk Z y bytes ml ret n0 p l e R s m args below meth c T kc ks) {ix : Nat} (w : (Cond.fieldLink y.cls ix R0 n d).before a0 Z = true) (via : Via Z R0 O n d) (F : Sta Z Z.heap O n d v) (H : Hp Z n0 T.heap L) (hd : decode bytes pc = .ok (.getstatic ix, 3)) (hpc : pc + 3 = pc')
    (K : ∀ T', Wk Z y bytes ml ret n0 p l e R s m args below meth c T' kc ks → T'.heap = T.heap → Hp Z n0 T'.heap L → Goes p e below E (T'.setTop (mkF m pc' ls (v :: st)))) : Goes p e below E (T.setTop (mkF m pc ls st)) := by
  subst hpc
  have hx := W.hx; have hby := W.hby; have hown := W.hown; have hZ := W.hZ
  obtain ⟨A, locs, X, N⟩ := W
  obtain ⟨T', X', e', st'⟩ := getS X hx hZ hown (host := "") w via rfl (F.ext H.old) (g := mkF m pc ls st) rfl (hb hby hd)
  exact (K T' ⟨A, locs, X', N⟩ e' (e' ▸ H)).back st'
/-- a field read by the fact alone (an object that stands in no row) -/
theorem g_getfF (W : Wk Z y bytes ml ret n0 p l e R s m args below meth c T kc ks) {ix : Nat} (w : (Cond.fieldLink y.cls ix R0 n d).before a0 Z = true) (via : Via Z R0 O n d) (H : Hp Z n0 T.heap L) (F : Fld Z T.heap a O n d v) (hd : decode bytes pc = .ok (.getfield ix, 3)) (hpc : pc + 3 = pc')
    (K : ∀ T', Wk Z y bytes ml ret n0 p l e R s m args below meth c T' kc ks → T'.heap = T.heap → Hp Z n0 T'.heap L → Goes p e below E (T'.setTop (mkF m pc' ls (v :: st)))) : Goes p e below E (T.setTop (mkF m pc ls (.ref a :: st))) := by
  subst hpc
  have hx := W.hx; have hby := W.hby; have hown := W.hown; have hZ := W.hZ
  obtain ⟨A, locs, X, N⟩ := W
  obtain ⟨T', X', e', st'⟩ := getF X hx hZ hown (host := "") (Or.inl w) via rfl F (g := mkF m pc ls (.ref a :: st)) rfl rfl (hb hby hd)
  exact (K T' ⟨A, locs, X', N⟩ e' (e' ▸ H)).back st'
/-! ### arrays of references, bytes -/
theorem g_anewarr (W : Wk Z y bytes ml ret n0 p l e R s m args below meth c T kc ks) {ix : Nat} (w1 : (Cond.classLink y.cls ix C).before a0 Z = true) (w2 : (Cond.arrayOver (.object C)).before a0 Z = true) (H : Hp Z n0 T.heap L) {x : Int32} (hx0 : ¬ x < 0) (hvs : List.replicate x.toNatClampNeg .null = vs) {cap : Nat} (hcap : vs.length ≤ cap) (hcb : cap * 8 ≤ 536870912) (hd : decode bytes pc = .ok (.anewarray ix, 3)) (hpc : pc + 3 = pc')
    {kc' ks' : Nat} (hkc : kc + 1 = kc') (hks : ks + cap = ks') (hc : kc' ≤ R.cells) (hl : ks' ≤ R.slots)
    (K : ∀ T' a, Wk Z y bytes ml ret n0 p l e R s m args below meth c T' kc' ks' → Hp Z n0 T'.heap ((a, RaC Z C vs) :: L) → Goes p e below E (T'.setTop (mkF m pc' ls (.ref a :: st)))) : Goes p e below E (T.setTop (mkF m pc ls (.int x :: st))) := by
  subst hpc hkc hks hvs
  have hx := W.hx; have hby := W.hby; have hZ := W.hZ; have hown := W.hown
  obtain ⟨A, locs, X, N⟩ := W
  rw [List.length_replicate] at hcap
  obtain ⟨T', h', cA, X', e', E', A1, O1, st'⟩ := newR X hx hZ hown w1 w2 rfl (g := mkF m pc ls (.int x :: st)) rfl (hb hby hd) rfl hx0 hcap hcb hc hl
  have hl31 : (List.replicate x.toNatClampNeg Value.null).length < 2 ^ 31 := by rw [List.length_replicate]; omega
  exact (K T' T.heap.size ⟨A, locs, X', N⟩ (by rw [e']; exact H.push E' A1.1 ⟨⟨A1.2.1, A1.2.2, by simp [newA, defaultValue], hl31⟩, O1⟩)).back st'
theorem g_arrlenR (W : Wk Z y bytes ml ret n0 p l e R s m args below meth c T kc ks) (H : Hp Z n0 T.heap L) (hi : L[i]? = some (a, RaC Z C vs)) {x : Int32} (hx : vs.length.toInt32 = x) (hd : decode bytes pc = .ok (.arraylength, 1)) (hpc : pc + 1 = pc') (K : Goes p e below E (T.setTop (mkF m pc' ls (.int x :: st)))) : Goes p e below E (T.setTop (mkF m pc ls (.ref a :: st))) := by
  subst hpc hx
  have hx := W.hx; have hby := W.hby; have hZ := W.hZ
  obtain ⟨A, locs, X, N⟩ := W
  obtain ⟨-, cl, q1, q2, -⟩ := H.get hi
  refine K.back fun t r => X.arraylength hx q1 (State.isArrayOf_alike hZ.alike q2.1) (g := mkF m pc ls (.ref a :: st)) rfl rfl (hb hby hd) t ?_
  have e : cl.slots.size = vs.length := by rw [q2.2.2.1]; simp
  rw [e]; exact r
/-- the length of an array by the fact alone -/
theorem g_arrlenF (W : Wk Z y bytes ml ret n0 p l e R s m args below meth c T kc ks) {cl : Cell} (F : Arr Z T.heap a cl ty) {x : Int32} (hx : cl.slots.size.toInt32 = x) (hd : decode bytes pc = .ok (.arraylength, 1)) (hpc : pc + 1 = pc') (K : Goes p e below E (T.setTop (mkF m pc' ls (.int x :: st)))) : Goes p e below E (T.setTop (mkF m pc ls (.ref a :: st))) := by
  subst hpc hx
  have hx := W.hx; have hby := W.hby; have hZ := W.hZ
  obtain ⟨A, locs, X, N⟩ := W
  exact K.back fun t r => X.arraylength hx F.1 (State.isArrayOf_alike hZ.alike F.2.1) (g := mkF m pc ls (.ref a :: st)) rfl rfl (hb hby hd) t r
theorem g_aaload (W : Wk Z y bytes ml ret n0 p l e R s m args below meth c T kc ks) (H : Hp Z n0 T.heap L) (hi : L[i]? = some (a, RaC Z C vs)) {x : Int32} (hx : x.toInt = (jx : Int)) (hv : vs[jx]? = some v) (hd : decode bytes pc = .ok (.aaload, 1)) (hpc : pc + 1 = pc') (K : Goes p e below E (T.setTop (mkF m pc' ls (v :: st)))) : Goes p e below E (T.setTop (mkF m pc ls (.int x :: .ref a :: st))) := by
  subst hpc
  have hxx := W.hx; have hby := W.hby; have hZ := W.hZ
  obtain ⟨A, locs, X, N⟩ := W
  obtain ⟨-, cl, q1, q2, -⟩ := H.get hi
  exact K.back fun t r => X.aaload hxx q1 (State.isArrayOf_alike hZ.alike q2.1) rfl q2.2.1 (idx_ok hx q2 (List.getElem?_eq_some_iff.mp hv).1) (by rw [idx_nat hx, q2.2.2.1]; simpa using hv) (g := mkF m pc ls (.int x :: .ref a :: st)) rfl rfl (hb hby hd) t r
theorem g_aastore (W : Wk Z y bytes ml ret n0 p l e R s m args below meth c T kc ks) (H : Hp Z n0 T.heap L) (hi : L[i]? = some (a, RaC Z C vs)) {x : Int32} {b : Addr} (F : Ins Z T.heap b C true) (hx : x.toInt = (jx : Int)) (hj : jx < vs.length) (hd : decode bytes pc = .ok (.aastore, 1)) (hpc : pc + 1 = pc') {L' : List HRow} (hL : L.set i (a, RaC Z C (vs.set jx (.ref b))) = L')
    (K : ∀ T', Wk Z y bytes ml ret n0 p l e R s m args below meth c T' kc ks → Hp Z n0 T'.heap L' → Goes p e below E (T'.setTop (mkF m pc' ls st))) : Goes p e below E (T.setTop (mkF m pc ls (.ref b :: .int x :: .ref a :: st))) := by
  subst hpc hL
  have hxx := W.hx; have hby := W.hby; have hZ := W.hZ
  obtain ⟨A, locs, X, N⟩ := W
  obtain ⟨hn0, cl, q1, q2, q3⟩ := H.get hi
  obtain ⟨T', h', X', e', Wr', st'⟩ := stR X hxx hZ rfl (q2.arr q1) (idx_ok hx q2 hj) rfl (Sto.of (q2.arr q1) q3 F) (g := mkF m pc ls (.ref b :: .int x :: .ref a :: st)) rfl rfl (hb hby hd)
  obtain ⟨cl', g1, -, -, rfl⟩ := Wr'
  cases q1.symm.trans g1
  have hsl : (cl.setSlot x.toNatClampNeg (.ref b)).slots = (vs.set jx (.ref b)).toArray := by rw [idx_nat hx]; show cl.slots.setIfInBounds jx _ = _; rw [q2.2.2.1]; simp
  exact (K T' ⟨A, _, X', Fr.snoc X' N hn0⟩ (by rw [e']; exact H.put hi ⟨⟨q2.1, q2.2.1, hsl, by rw [List.length_set]; exact q2.2.2.2⟩, q3⟩)).back st'
end Refs
/-! ### interface calls by contract -/
section Calls2
variable {Z : State} {y : MethodName} {bytes : ByteArray} {ml : Nat} {ret : Option FieldType} {n0 : Nat} {p : Program} {l : Launch} {e : Env} {R : Room} {s : State} {m : MethodId} {args : Array Value} {below : List Frame} {meth : Method} {c : Code} {T : State} {kc ks k j : Nat} {Q : Option Value → Heap → Prop} {E : Option Value → State → List Loc → Prop} {pc pc' : Nat} {ls : Array Slot} {st : List Value} {a0 : Array Value}
variable {y' : MethodName} {bytes' : ByteArray} {ml' : Nat} {ret' : Option FieldType} {rm : Room} {Post : Option Value → Heap → Prop} {argsL stk : List Value} {ix cnt : Nat} {Wn kc' ks' : Nat} {ps : List FieldType} {rt : Option FieldType}
theorem g_callF (W : Wk Z y bytes ml ret n0 p l e R s m args below meth c T kc ks) {C : String} {z : MethodName} (w1 : (Cond.methodLink y.cls ix y').before a0 Z = true) (w2 : (Cond.declares y').before a0 Z = true) (w3 : ∀ (args : Array Value) (s : State), Z.Warmed39 s.vm → (Cond.interfaceMethod y'.cls y'.cls y'.name y'.desc).before args s = true) (w4 : (Cond.selects C y' z).before a0 Z = true) (w5 : (Cond.instanceMethod z).before a0 Z = true) (w6 : (Cond.publicMethod z).before a0 Z = true) (w7 : (Cond.unhidden C y'.name y'.desc).before a0 Z = true) (w8 : (Cond.castable C y'.cls).before a0 Z = true) (w9 : (Cond.initialized z.cls).before a0 Z = true) (w10 : (Cond.code z bytes' ml' ret').before a0 Z = true) (hy : y'.cls ≠ "java/lang/invoke/MethodHandle" ∧ y'.cls ≠ "java/lang/invoke/VarHandle")
    {a : Addr} (Ex : Exa Z T.heap a C) (con : Con l Z n0 z [] bytes' ml' ret' rm (.ref a :: argsL).toArray T.heap Post) (hpd : parseMethodDescriptor y'.desc = some ⟨ps, rt⟩) (hlen : argsL.length = ps.length) (hstk : stk = argsL.reverse ++ .ref a :: st) (hls : ls.size = ml) (hd : decode bytes pc = .ok (.invokeinterface ix cnt, 5)) (hpc : pc + 5 = pc')
    (hf : rm.frames + 1 ≤ R.frames) (hW : (st.map fun v => v.category).sum ≤ Wn) (hl : Wn + (ml' + 11) + rm.locals ≤ R.locals) (hkc : kc + rm.cells = kc') (hks : ks + rm.slots = ks') (hc : kc' ≤ R.cells) (hs : ks' ≤ R.slots)
    (K : ∀ T' v, Wk Z y bytes ml ret n0 p l e R s m args below meth c T' kc' ks' → Post v T'.heap → Goes p e below E (T'.setTop (mkF m pc' ls (v.toList ++ st)))) : Goes p e below E (T.setTop (mkF m pc ls stk)) := by
  subst hpc hkc hks hstk
  have hx := W.hx; have hby := W.hby; have hown := W.hown; have hZ := W.hZ; have hml := W.hml
  obtain ⟨A, locs, X, N⟩ := W
  obtain ⟨cB, kB, b1, b2, b3⟩ := isOf hZ rfl Ex
  obtain ⟨v, vm1, ⟨T', L', kk, jj⟩, -, X', ⟨Lc, ⟨hN, hQ⟩, l1, l2, l3⟩, st'⟩ := X.interfaceBack hx (xi := y') (y := z) hown (mvT hZ w1) (mvT hZ w2) (w3 _ _ hZ) (mvT hZ w4) (mvT hZ w5) (mvT hZ w6) (mvT hZ w7) (mvT hZ w8) hy (backOf (Q := fun v h L => Fr n0 L ∧ Post v h) (W := Wn) con hZ w10 w9 hf hl) b1 b2 b3 (g := mkF m pc ls (argsL.reverse ++ .ref a :: st)) rfl (by rw [hml]; exact hls) (Steps.refl _) (argsL := argsL) (rest := st) (lenOf hpd hlen) rfl (by show 2 * 0 + _ ≤ _; omega) (hb hby hd) (fun _ _ => ⟨rfl, rfl, hc, hs⟩)
  dsimp only [Pt.U, Pt.locs, Pt.cells, Pt.slots] at X' l1 l2 l3 hQ st'
  subst l1 l2 l3
  exact (K T' v ⟨A, _, X', N.app hN⟩ hQ).back fun t r => st'.trans r
theorem g_callVE (W : Wk Z y bytes ml ret n0 p l e R s m args below meth c T kc ks) {C : String} {z : MethodName} (w1 : (Cond.methodLink y.cls ix y').before a0 Z = true) (w2 : (Cond.declares y').before a0 Z = true) (w3 : (Cond.selects C y' z).before a0 Z = true) (w4 : (Cond.instanceMethod z).before a0 Z = true) (w5 : (Cond.initialized z.cls).before a0 Z = true) (w6 : (Cond.code z bytes' ml' ret').before a0 Z = true) (nf : ∀ (s : State), Z.Warmed39 s.vm → NotFace s y') (hy : y'.cls ≠ "java/lang/invoke/MethodHandle" ∧ y'.cls ≠ "java/lang/invoke/VarHandle")
    {a : Addr} (Ex : Exa Z T.heap a C) (con : Con l Z n0 z [] bytes' ml' ret' rm (.ref a :: argsL).toArray T.heap Post) (hpd : parseMethodDescriptor y'.desc = some ⟨ps, rt⟩) (hlen : argsL.length = ps.length) (hstk : stk = argsL.reverse ++ .ref a :: st) (hls : ls.size = ml) (hd : decode bytes pc = .ok (.invokevirtual ix, 3)) (hpc : pc + 3 = pc')
    (hf : rm.frames + 1 ≤ R.frames) (hW : (st.map fun v => v.category).sum ≤ Wn) (hl : Wn + (ml' + 11) + rm.locals ≤ R.locals) (hkc : kc + rm.cells = kc') (hks : ks + rm.slots = ks') (hc : kc' ≤ R.cells) (hs : ks' ≤ R.slots)
    (K : ∀ T' v, Wk Z y bytes ml ret n0 p l e R s m args below meth c T' kc' ks' → Post v T'.heap → Goes p e below E (T'.setTop (mkF m pc' ls (v.toList ++ st)))) : Goes p e below E (T.setTop (mkF m pc ls stk)) := by
  subst hpc hkc hks hstk
  have hx := W.hx; have hby := W.hby; have hown := W.hown; have hZ := W.hZ; have hml := W.hml
  obtain ⟨A, locs, X, N⟩ := W
  obtain ⟨cB, kB, b1, b2, b3⟩ := isOf hZ rfl Ex
  obtain ⟨v, vm1, ⟨T', L', kk, jj⟩, -, X', ⟨Lc, ⟨hN, hQ⟩, l1, l2, l3⟩, st'⟩ := X.virtualBack hx (y := y') (z := z) hown (mvT hZ w1) (mvT hZ w2) (nf _ hZ) (mvT hZ w3) (mvT hZ w4) hy (backOf (Q := fun v h L => Fr n0 L ∧ Post v h) (W := Wn) con hZ w6 w5 hf hl) b1 b3 (g := mkF m pc ls (argsL.reverse ++ .ref a :: st)) rfl (by rw [hml]; exact hls) (Steps.refl _) (argsL := argsL) (rest := st) (lenOf hpd hlen) rfl (by show 2 * 0 + _ ≤ _; omega) (hb hby hd) (fun _ _ => ⟨rfl, rfl, hc, hs⟩)
  dsimp only [Pt.U, Pt.locs, Pt.cells, Pt.slots] at X' l1 l2 l3 hQ st'
  subst l1 l2 l3
  exact (K T' v ⟨A, _, X', N.app hN⟩ hQ).back fun t r => st'.trans r
end Calls2
end Jvm.OwnKit
namespace Jvm.OwnKit
open Sem ClassFile Op Lib Jvm.Stand Jvm.Free Jvm.LawKit Jvm.RoadKit Jvm.Free.Fl
section IArr
variable {Z : State} {y : MethodName} {bytes : ByteArray} {ml : Nat} {ret : Option FieldType} {n0 : Nat} {p : Program} {l : Launch} {e : Env} {R : Room} {s : State} {m : MethodId} {args : Array Value} {below : List Frame} {meth : Method} {c : Code} {T : State} {kc ks k j : Nat} {Q : Option Value → Heap → Prop} {E : Option Value → State → List Loc → Prop} {pc pc' : Nat} {ls : Array Slot} {st : List Value} {a0 : Array Value}
variable {h h' : Heap} {L : List HRow} {a b : Addr} {cell : Cell} {i jx : Nat} {xs : List Int32}
/-- an int[], its class known by its name -/
def IaC (Z : State) (xs : List Int32) (c : Cell) : Prop := ArC Z .int (xs.map Value.int) c ∧ Z.vm.findClass "[I" = some c.cls
theorem IaC.exa (F : IaC Z xs cell) (hc : h[a]? = some cell) : Exa Z h a "[I" := by
  obtain ⟨⟨⟨o, k, hk, comp, hkind⟩, -⟩, hf⟩ := F
  refine ⟨cell, k, hc, hf, hk, ?_, fun q => by rw [hkind] at q; cases q⟩
  cases q : cell.vm <;> first | rfl | exact absurd q (o _)
theorem IaC.fit (F : IaC Z xs cell) : FitC Z cell := fun i v hv => by
  obtain ⟨⟨⟨o, k, hk, comp, hkind⟩, -, hs, -⟩, -⟩ := F
  rw [hs] at hv
  have hm : v ∈ xs.map Value.int := List.mem_of_getElem? (by simpa using hv)
  obtain ⟨x, -, rfl⟩ := List.mem_map.mp hm
  simp [State.fitsSlot, State.slotType?, hk, hkind, fits]
theorem g_newarrI (W : Wk Z y bytes ml ret n0 p l e R s m args below meth c T kc ks) (w : (Cond.arrayClass .int).before a0 Z = true) (H : Hp Z n0 T.heap L) {x : Int32} (hx0 : ¬ x < 0) {n cap : Nat} (hn : x.toNatClampNeg = n) (hcap : n ≤ cap) (hcb : cap * 8 ≤ 536870912) (hd : decode bytes pc = .ok (.newarray .int, 2)) (hpc : pc + 2 = pc')
    {kc' ks' : Nat} (hkc : kc + 1 = kc') (hks : ks + cap = ks') (hc : kc' ≤ R.cells) (hl : ks' ≤ R.slots)
    (K : ∀ T' a, Wk Z y bytes ml ret n0 p l e R s m args below meth c T' kc' ks' → Hp Z n0 T'.heap ((a, IaC Z (List.replicate n 0)) :: L) → Goes p e below E (T'.setTop (mkF m pc' ls (.ref a :: st)))) : Goes p e below E (T.setTop (mkF m pc ls (.int x :: st))) := by
  subst hpc hkc hks hn
  have hx := W.hx; have hby := W.hby; have hZ := W.hZ
  obtain ⟨A, locs, X, N⟩ := W
  obtain ⟨T', h', cA, X', e', E', A1, ⟨c2, k2, q1, q2, -⟩, st'⟩ := newPE X hx hZ (aty := .int) w rfl (g := mkF m pc ls (.int x :: st)) rfl (hb hby hd) rfl hx0 hcap hcb hc hl (ad := "[I") rfl
  cases A1.1.symm.trans q1
  have h1 : (newA cA (newarray.typeOf .int) x).slots = ((List.replicate x.toNatClampNeg (0 : Int32)).map Value.int).toArray := by
    show (Array.replicate x.toNatClampNeg (Value.int 0)) = _
    simp
  have h2 : ((List.replicate x.toNatClampNeg (0 : Int32)).map Value.int).length < 2 ^ 31 := by simp; omega
  exact (K T' T.heap.size ⟨A, locs, X', N⟩ (by rw [e']; exact H.push E' A1.1 ⟨⟨A1.2.1, A1.2.2, h1, h2⟩, q2⟩)).back st'
theorem g_arrlenI (W : Wk Z y bytes ml ret n0 p l e R s m args below meth c T kc ks) (H : Hp Z n0 T.heap L) (hi : L[i]? = some (a, IaC Z xs)) {x : Int32} (hx : xs.length.toInt32 = x) (hd : decode bytes pc = .ok (.arraylength, 1)) (hpc : pc + 1 = pc') (K : Goes p e below E (T.setTop (mkF m pc' ls (.int x :: st)))) : Goes p e below E (T.setTop (mkF m pc ls (.ref a :: st))) := by
  subst hpc hx
  have hx := W.hx; have hby := W.hby; have hZ := W.hZ
  obtain ⟨A, locs, X, N⟩ := W
  obtain ⟨-, cl, q1, q2, -⟩ := H.get hi
  refine K.back fun t r => X.arraylength hx q1 (State.isArrayOf_alike hZ.alike q2.1) (g := mkF m pc ls (.ref a :: st)) rfl rfl (hb hby hd) t ?_
  have e : cl.slots.size = xs.length := by rw [q2.2.2.1]; simp
  rw [e]; exact r
theorem g_ialoadI (W : Wk Z y bytes ml ret n0 p l e R s m args below meth c T kc ks) (H : Hp Z n0 T.heap L) (hi : L[i]? = some (a, IaC Z xs)) {x u : Int32} (hx : x.toInt = (jx : Int)) (hv : xs[jx]? = some u) (hd : decode bytes pc = .ok (.iaload, 1)) (hpc : pc + 1 = pc') (K : Goes p e below E (T.setTop (mkF m pc' ls (.int u :: st)))) : Goes p e below E (T.setTop (mkF m pc ls (.int x :: .ref a :: st))) := by
  subst hpc
  have hxx := W.hx; have hby := W.hby; have hZ := W.hZ
  obtain ⟨A, locs, X, N⟩ := W
  obtain ⟨-, cl, q1, q2, -⟩ := H.get hi
  have hv' : (xs.map Value.int)[jx]? = some (.int u) := by rw [List.getElem?_map, hv]; rfl
  exact K.back fun t r => X.iaload hxx q1 (State.isArrayOf_alike hZ.alike q2.1) q2.2.1 (idx_ok hx q2 (List.getElem?_eq_some_iff.mp hv').1) (by rw [idx_nat hx, q2.2.2.1]; simpa using hv) (g := mkF m pc ls (.int x :: .ref a :: st)) rfl rfl (hb hby hd) t r
theorem g_iastoreI (W : Wk Z y bytes ml ret n0 p l e R s m args below meth c T kc ks) (H : Hp Z n0 T.heap L) (hi : L[i]? = some (a, IaC Z xs)) {x : Int32} {u : Int32} (hx : x.toInt = (jx : Int)) (hj : jx < xs.length) (hd : decode bytes pc = .ok (.iastore, 1)) (hpc : pc + 1 = pc') {L' : List HRow} (hL : L.set i (a, IaC Z (xs.set jx u)) = L')
    (K : ∀ T', Wk Z y bytes ml ret n0 p l e R s m args below meth c T' kc ks → Hp Z n0 T'.heap L' → Goes p e below E (T'.setTop (mkF m pc' ls st))) : Goes p e below E (T.setTop (mkF m pc ls (.int u :: .int x :: .ref a :: st))) := by
  subst hpc hL
  have hxx := W.hx; have hby := W.hby; have hZ := W.hZ
  obtain ⟨A, locs, X, N⟩ := W
  obtain ⟨hn0, cl, q1, q2, q3⟩ := H.get hi
  obtain ⟨T', h', X', e', Wr', st'⟩ := stI X hxx hZ rfl (q2.arr q1) (idx_ok hx q2 (by simpa using hj)) (g := mkF m pc ls (.int u :: .int x :: .ref a :: st)) rfl rfl (hb hby hd)
  obtain ⟨cl', g1, -, -, rfl⟩ := Wr'
  cases q1.symm.trans g1
  have hsl : (cl.setSlot x.toNatClampNeg (.int u)).slots = ((xs.set jx u).map Value.int).toArray := by rw [idx_nat hx]; show cl.slots.setIfInBounds jx _ = _; rw [q2.2.2.1]; simp [List.map_set]
  exact (K T' ⟨A, _, X', Fr.snoc X' N hn0⟩ (by rw [e']; exact H.put hi ⟨⟨q2.1, q2.2.1, hsl, by have := q2.2.2.2; simpa using this⟩, q3⟩)).back st'
theorem g_cloneI (W : Wk Z y bytes ml ret n0 p l e R s m args below meth c T kc ks) {ix : Nat} (w1 : (Cond.methodLink y.cls ix ⟨"[I", "clone", "()Ljava/lang/Object;"⟩).before a0 Z = true) (w2 : (Cond.sameMethod "[I" "java/lang/Object" "clone" "()Ljava/lang/Object;").before a0 Z = true) (w3 : (Cond.native ⟨"java/lang/Object", "clone", "()Ljava/lang/Object;"⟩).before a0 Z = true)
    (w4 : (Cond.instanceMethod ⟨"java/lang/Object", "clone", "()Ljava/lang/Object;"⟩).before a0 Z = true) (w5 : (Cond.selects "[I" ⟨"[I", "clone", "()Ljava/lang/Object;"⟩ ⟨"java/lang/Object", "clone", "()Ljava/lang/Object;"⟩).before a0 Z = true) (w6 : (Cond.castable "[I" "java/lang/Cloneable").before a0 Z = true)
    (H : Hp Z n0 T.heap L) (hi : L[i]? = some (a, IaC Z xs)) (hls : ls.size = ml) (hd : decode bytes pc = .ok (.invokevirtual ix, 3)) (hpc : pc + 3 = pc') (hf : 1 ≤ R.frames) {Wn cap : Nat} (hW : (st.map fun v => v.category).sum ≤ Wn) (hl : Wn + 14 ≤ R.locals) (hcap : xs.length ≤ cap)
    {kc' ks' : Nat} (hkc : kc + 1 = kc') (hks : ks + cap = ks') (hc : kc' ≤ R.cells) (hsl : ks' ≤ R.slots)
    (K : ∀ T' b, Wk Z y bytes ml ret n0 p l e R s m args below meth c T' kc' ks' → Hp Z n0 T'.heap ((b, IaC Z xs) :: L) → Goes p e below E (T'.setTop (mkF m pc' ls (.ref b :: st)))) : Goes p e below E (T.setTop (mkF m pc ls (.ref a :: st))) := by
  subst hpc hkc hks
  have hx := W.hx; have hby := W.hby; have hZ := W.hZ; have hown := W.hown; have hml := W.hml
  obtain ⟨A, locs, X, N⟩ := W
  obtain ⟨-, cl, q1, q2⟩ := H.get hi
  have sz : cl.slots.size = xs.length := by rw [q2.1.2.2.1]; simp
  obtain ⟨T', h', X', e', E', A1, ⟨c2, k2, z1, z2, -⟩, st'⟩ := cloneA X hx hZ hown w1 w2 w3 w4 w5 w6 rfl (q2.1.arr q1) (q2.exa q1) q2.fit (g := mkF m pc ls (.ref a :: st)) rfl (by rw [hml]; exact hls) rfl (hb hby hd) hf (W := Wn) (by show 2 * 0 + _ ≤ _; omega) hl (cap := cap) (by omega) hc hsl
  cases A1.1.symm.trans z1
  exact (K T' T.heap.size ⟨A, locs, X', N⟩ (by rw [e']; exact H.push E' A1.1 ⟨⟨A1.2.1, A1.2.2, q2.1.2.2.1, q2.1.2.2.2⟩, z2⟩)).back st'
end IArr
end Jvm.OwnKit

namespace Jvm.OwnKit
open Sem ClassFile Op Lib Jvm.Stand Jvm.Free Jvm.LawKit Jvm.RoadKit Jvm.Free.Fl
section DArr
variable {Z : State} {y : MethodName} {bytes : ByteArray} {ml : Nat} {ret : Option FieldType} {n0 : Nat} {p : Program} {l : Launch} {e : Env} {R : Room} {s : State} {m : MethodId} {args : Array Value} {below : List Frame} {meth : Method} {c : Code} {T : State} {kc ks k j : Nat} {Q : Option Value → Heap → Prop} {E : Option Value → State → List Loc → Prop} {pc pc' : Nat} {ls : Array Slot} {st : List Value} {a0 : Array Value}
variable {h h' : Heap} {L : List HRow} {a b : Addr} {cell : Cell} {i jx : Nat} {xs : List Int32}
/-- a double[] -/
def DaC (Z : State) (zs : List UInt64) (c : Cell) : Prop := ArC Z .double (zs.map Value.double) c
theorem g_arrlenD {zs : List UInt64} (W : Wk Z y bytes ml ret n0 p l e R s m args below meth c T kc ks) (H : Hp Z n0 T.heap L) (hi : L[i]? = some (a, DaC Z zs)) {x : Int32} (hx : zs.length.toInt32 = x) (hd : decode bytes pc = .ok (.arraylength, 1)) (hpc : pc + 1 = pc') (K : Goes p e below E (T.setTop (mkF m pc' ls (.int x :: st)))) : Goes p e below E (T.setTop (mkF m pc ls (.ref a :: st))) :=
  g_arrlen W H (vs := zs.map Value.double) hi (by rw [List.length_map]; exact hx) hd hpc K
theorem g_daloadD {zs : List UInt64} (W : Wk Z y bytes ml ret n0 p l e R s m args below meth c T kc ks) (H : Hp Z n0 T.heap L) (hi : L[i]? = some (a, DaC Z zs)) {x : Int32} {u : UInt64} (hx : x.toInt = (jx : Int)) (hv : zs[jx]? = some u) (hd : decode bytes pc = .ok (.daload, 1)) (hpc : pc + 1 = pc') (K : Goes p e below E (T.setTop (mkF m pc' ls (.double u :: st)))) : Goes p e below E (T.setTop (mkF m pc ls (.int x :: .ref a :: st))) :=
  g_daload W H (vs := zs.map Value.double) hi hx (v := .double u) (by rw [List.getElem?_map, hv]; rfl) hd hpc K
theorem g_dastoreD {zs : List UInt64} (W : Wk Z y bytes ml ret n0 p l e R s m args below meth c T kc ks) (H : Hp Z n0 T.heap L) (hi : L[i]? = some (a, DaC Z zs)) {x : Int32} {u : UInt64} (hx : x.toInt = (jx : Int)) (hj : jx < zs.length) (hd : decode bytes pc = .ok (.dastore, 1)) (hpc : pc + 1 = pc') {L' : List HRow} (hL : L.set i (a, DaC Z (zs.set jx u)) = L')
    (K : ∀ T', Wk Z y bytes ml ret n0 p l e R s m args below meth c T' kc ks → Hp Z n0 T'.heap L' → Goes p e below E (T'.setTop (mkF m pc' ls st))) : Goes p e below E (T.setTop (mkF m pc ls (.double u :: .int x :: .ref a :: st))) :=
  g_dastore W H (vs := zs.map Value.double) hi hx (by rw [List.length_map]; exact hj) hd hpc (L' := L') (by rw [← hL]; unfold DaC; rw [List.map_set]) K
theorem t_dup_x2 {tb : Tables} [Ours tb] {e : Env} {below : List Frame} {T target : State} {m : MethodId} {c : Code} {g : JFrame} (h : At T m c below) (hx : tb.exec = Jvm.exec) (hg : g.method = m) {x x1 x2 : Value} {rest : List Value} (hd : decode c.code g.pc = .ok (.dup_x2, 1)) (hs : g.stack = x :: x1 :: x2 :: rest) (hc : x.category = 1) (hc1 : x1.category = 1) (hc2 : x2.category = 1)
    (hr : Steps tb e below (T.setTop { g with pc := g.pc + 1, stack := x :: x1 :: x2 :: x :: rest }) target) : Steps tb e below (T.setTop g) target := by
  subst hg
  jvm_step h [h.top, hx, hd, hs, hc, hc1, hc2]
  exact hr
theorem g_dup_x2 (W : Wk Z y bytes ml ret n0 p l e R s m args below meth c T kc ks) {x x1 x2 : Value} (hd : decode bytes pc = .ok (.dup_x2, 1)) (hpc : pc + 1 = pc') (hc : x.category = 1) (hc1 : x1.category = 1) (hc2 : x2.category = 1) (K : Goes p e below E (T.setTop (mkF m pc' ls (x :: x1 :: x2 :: x :: st)))) : Goes p e below E (T.setTop (mkF m pc ls (x :: x1 :: x2 :: st))) := by
  subst hpc
  exact K.back fun t r => t_dup_x2 W.here W.hx (g := mkF m pc ls (x :: x1 :: x2 :: st)) rfl (hb W.hby hd) rfl hc hc1 hc2 r
end DArr
end Jvm.OwnKit

namespace Jvm.OwnKit
open Sem ClassFile Op Lib Jvm.Stand Jvm.Free Jvm.LawKit Jvm.RoadKit Jvm.Free.Fl Jvm.Free.Fl.Abs
section Nat
variable {Z : State} {y : MethodName} {bytes : ByteArray} {ml : Nat} {ret : Option FieldType} {n0 : Nat} {p : Program} {l : Launch} {e : Env} {R : Room} {s : State} {m : MethodId} {args : Array Value} {below : List Frame} {meth : Method} {c : Code} {T : State} {kc ks k j : Nat} {Q : Option Value → Heap → Prop} {E : Option Value → State → List Loc → Prop} {pc pc' : Nat} {ls : Array Slot} {st : List Value} {a0 : Array Value}
variable {h h' : Heap} {L : List HRow} {a : Addr} {P P' : Cell → Prop} {cell : Cell} {i jx : Nat} {C O n d R0 K0 : String} {fs : List FR} {v w : Value} {vs : List Value} {ty : FieldType}
/-! ### native calls on doubles, boolean arrays, pop2 -/
end Nat
end Jvm.OwnKit

namespace Jvm.OwnKit
open Jvm.FP.Core Jvm.Free.Fl Jvm.Op Jvm.ClassFile
/-! ### doubles between two marks of the grid 2^-30 -/
def GU : Int := ((2 ^ 1044 : Nat) : Int)
theorem GU_pos : 0 < GU := Int.natCast_pos.mpr (Nat.two_pow_pos _)
abbrev zv (a : UInt64) : Int := zval b64 (val64 a)
def Iv (L U : Nat) (a : UInt64) : Prop := DFin a ∧ (L : Int) * GU ≤ zv a ∧ zv a ≤ (U : Int) * GU
theorem dy30 {n : Int} {a : UInt64} (h : Dy n (-30) a) : zv a = n * GU := by
  have := h.2
  rwa [show ((-30 : Int) + 1074).toNat = 1044 by decide] at this
theorem grid (n : Nat) (h : n < 2 ^ 53) : ∃ w : UInt64, DFin w ∧ zv w = (n : Int) * GU := by
  have hl : (Int64.ofNat n).toInt = (n : Int) := Int64.toInt_ofNat_of_lt (by omega)
  have h1 := dy_l2d (x := Int64.ofNat n) (by rw [hl]; omega)
  rw [hl] at h1
  have h2 := dy_div (k := 30) (b := 4742290407621132288) h1 (by decide) (by decide +kernel) (by omega) (by decide) (by decide)
  exact ⟨_, h2.1, dy30 h2⟩
theorem Iv.mono {L U L' U' : Nat} {a : UInt64} (h : Iv L U a) (h1 : L' ≤ L) (h2 : U ≤ U') : Iv L' U' a :=
  ⟨h.1, Int.le_trans (Int.mul_le_mul_of_nonneg_right (by omega) (Int.le_of_lt GU_pos)) h.2.1, Int.le_trans h.2.2 (Int.mul_le_mul_of_nonneg_right (by omega) (Int.le_of_lt GU_pos))⟩
theorem apart {p t p' t' d d' N : Nat} (hN : 801 * (1024 * 1024) ≤ N) (e1 : d * t ≤ p * N) (e3 : p' * N < (d' + 1) * t') (hlt : p * t' < p' * t) (ht0 : 1 ≤ t) (ht : t ≤ 1024) (ht' : t' ≤ 1024) : d + 400 < d' - 400 := by
  refine Nat.lt_of_not_le fun q => ?_
  have q1 : d' ≤ d + 800 := by omega
  have a1 : p' * N * t < (d' + 1) * t' * t := Nat.mul_lt_mul_of_pos_right e3 (by omega)
  have a2 : d * t * t' ≤ p * N * t' := Nat.mul_le_mul_right _ e1
  have a3 : (p * t' + 1) * N ≤ p' * t * N := Nat.mul_le_mul_right _ hlt
  have a4 : (d' + 1) * t' * t ≤ (d + 801) * t' * t := Nat.mul_le_mul_right _ (Nat.mul_le_mul_right _ (by omega))
  have a5 : 801 * (t' * t) ≤ 801 * (1024 * 1024) := Nat.mul_le_mul_left _ (Nat.mul_le_mul ht' ht)
  rw [Nat.mul_right_comm p' N t] at a1
  rw [Nat.mul_right_comm p N t', Nat.mul_assoc d t t', Nat.mul_comm t t'] at a2
  rw [Nat.mul_assoc (d + 801), Nat.add_mul d 801] at a4
  rw [Nat.add_mul] at a3
  clear e1 e3 hlt
  generalize p' * t * N = A at a1 a3
  generalize p * t' * N = B at a2 a3
  generalize (d' + 1) * t' * t = C at a1 a4
  generalize d * (t' * t) = D at a2 a4
  generalize 801 * (t' * t) = F at a4 a5
  omega
end Jvm.OwnKit

namespace Jvm.OwnKit
section Rows
variable {Z : State} {n0 : Nat} {h : Heap}
theorem Hp.dig {R G D : List HRow} {x : HRow} (H : Hp Z n0 h (R ++ (G ++ (x :: D)))) : Hp Z n0 h (x :: (R ++ (G ++ D))) := H.perm (by rw [← List.append_assoc, ← List.append_assoc]; exact List.perm_middle)
theorem Hp.fr1 {r0 x : HRow} {L : List HRow} (H : Hp Z n0 h (r0 :: x :: L)) : Hp Z n0 h (x :: r0 :: L) := H.front (i := 1) rfl rfl
theorem Hp.fr2 {r0 r1 x : HRow} {L : List HRow} (H : Hp Z n0 h (r0 :: r1 :: x :: L)) : Hp Z n0 h (x :: r0 :: r1 :: L) := H.front (i := 2) rfl rfl
theorem mc2 {x r0 r1 : HRow} {L : List HRow} (hx : x ∈ L) : x ∈ r0 :: r1 :: L := (List.mem_cons_of_mem _ (List.mem_cons_of_mem _ hx))
theorem Hp.fr3 {r0 r1 r2 x : HRow} {L : List HRow} (H : Hp Z n0 h (r0 :: r1 :: r2 :: x :: L)) : Hp Z n0 h (x :: r0 :: r1 :: r2 :: L) := H.front (i := 3) rfl rfl
theorem mc3 {x r0 r1 r2 : HRow} {L : List HRow} (hx : x ∈ L) : x ∈ r0 :: r1 :: r2 :: L := (List.mem_cons_of_mem _ (List.mem_cons_of_mem _ (List.mem_cons_of_mem _ hx)))
theorem Hp.fr4 {r0 r1 r2 r3 x : HRow} {L : List HRow} (H : Hp Z n0 h (r0 :: r1 :: r2 :: r3 :: x :: L)) : Hp Z n0 h (x :: r0 :: r1 :: r2 :: r3 :: L) := H.front (i := 4) rfl rfl
theorem mc4 {x r0 r1 r2 r3 : HRow} {L : List HRow} (hx : x ∈ L) : x ∈ r0 :: r1 :: r2 :: r3 :: L := (List.mem_cons_of_mem _ (List.mem_cons_of_mem _ (List.mem_cons_of_mem _ (List.mem_cons_of_mem _ hx))))
theorem Hp.fr5 {r0 r1 r2 r3 r4 x : HRow} {L : List HRow} (H : Hp Z n0 h (r0 :: r1 :: r2 :: r3 :: r4 :: x :: L)) : Hp Z n0 h (x :: r0 :: r1 :: r2 :: r3 :: r4 :: L) := H.front (i := 5) rfl rfl
theorem Hp.dg5 {r0 r1 r2 r3 r4 x : HRow} {G D : List HRow} (H : Hp Z n0 h (r0 :: r1 :: r2 :: r3 :: r4 :: (G ++ (x :: D)))) : Hp Z n0 h (x :: r0 :: r1 :: r2 :: r3 :: r4 :: (G ++ D)) := Hp.dig (R := [r0, r1, r2, r3, r4]) H
theorem mc5 {x r0 r1 r2 r3 r4 : HRow} {L : List HRow} (hx : x ∈ L) : x ∈ r0 :: r1 :: r2 :: r3 :: r4 :: L := (List.mem_cons_of_mem _ (List.mem_cons_of_mem _ (List.mem_cons_of_mem _ (List.mem_cons_of_mem _ (List.mem_cons_of_mem _ hx)))))
theorem Hp.fr6 {r0 r1 r2 r3 r4 r5 x : HRow} {L : List HRow} (H : Hp Z n0 h (r0 :: r1 :: r2 :: r3 :: r4 :: r5 :: x :: L)) : Hp Z n0 h (x :: r0 :: r1 :: r2 :: r3 :: r4 :: r5 :: L) := H.front (i := 6) rfl rfl
theorem Hp.dg6 {r0 r1 r2 r3 r4 r5 x : HRow} {G D : List HRow} (H : Hp Z n0 h (r0 :: r1 :: r2 :: r3 :: r4 :: r5 :: (G ++ (x :: D)))) : Hp Z n0 h (x :: r0 :: r1 :: r2 :: r3 :: r4 :: r5 :: (G ++ D)) := Hp.dig (R := [r0, r1, r2, r3, r4, r5]) H
theorem mc6 {x r0 r1 r2 r3 r4 r5 : HRow} {L : List HRow} (hx : x ∈ L) : x ∈ r0 :: r1 :: r2 :: r3 :: r4 :: r5 :: L := (List.mem_cons_of_mem _ (List.mem_cons_of_mem _ (List.mem_cons_of_mem _ (List.mem_cons_of_mem _ (List.mem_cons_of_mem _ (List.mem_cons_of_mem _ hx))))))
theorem Hp.fr7 {r0 r1 r2 r3 r4 r5 r6 x : HRow} {L : List HRow} (H : Hp Z n0 h (r0 :: r1 :: r2 :: r3 :: r4 :: r5 :: r6 :: x :: L)) : Hp Z n0 h (x :: r0 :: r1 :: r2 :: r3 :: r4 :: r5 :: r6 :: L) := H.front (i := 7) rfl rfl
theorem Hp.dg7 {r0 r1 r2 r3 r4 r5 r6 x : HRow} {G D : List HRow} (H : Hp Z n0 h (r0 :: r1 :: r2 :: r3 :: r4 :: r5 :: r6 :: (G ++ (x :: D)))) : Hp Z n0 h (x :: r0 :: r1 :: r2 :: r3 :: r4 :: r5 :: r6 :: (G ++ D)) := Hp.dig (R := [r0, r1, r2, r3, r4, r5, r6]) H
theorem Hp.fr8 {r0 r1 r2 r3 r4 r5 r6 r7 x : HRow} {L : List HRow} (H : Hp Z n0 h (r0 :: r1 :: r2 :: r3 :: r4 :: r5 :: r6 :: r7 :: x :: L)) : Hp Z n0 h (x :: r0 :: r1 :: r2 :: r3 :: r4 :: r5 :: r6 :: r7 :: L) := H.front (i := 8) rfl rfl
theorem Hp.fr9 {r0 r1 r2 r3 r4 r5 r6 r7 r8 x : HRow} {L : List HRow} (H : Hp Z n0 h (r0 :: r1 :: r2 :: r3 :: r4 :: r5 :: r6 :: r7 :: r8 :: x :: L)) : Hp Z n0 h (x :: r0 :: r1 :: r2 :: r3 :: r4 :: r5 :: r6 :: r7 :: r8 :: L) := H.front (i := 9) rfl rfl
theorem Hp.fr10 {r0 r1 r2 r3 r4 r5 r6 r7 r8 r9 x : HRow} {L : List HRow} (H : Hp Z n0 h (r0 :: r1 :: r2 :: r3 :: r4 :: r5 :: r6 :: r7 :: r8 :: r9 :: x :: L)) : Hp Z n0 h (x :: r0 :: r1 :: r2 :: r3 :: r4 :: r5 :: r6 :: r7 :: r8 :: r9 :: L) := H.front (i := 10) rfl rfl
theorem mc10 {x r0 r1 r2 r3 r4 r5 r6 r7 r8 r9 : HRow} {L : List HRow} (hx : x ∈ L) : x ∈ r0 :: r1 :: r2 :: r3 :: r4 :: r5 :: r6 :: r7 :: r8 :: r9 :: L := (List.mem_cons_of_mem _ (List.mem_cons_of_mem _ (List.mem_cons_of_mem _ (List.mem_cons_of_mem _ (List.mem_cons_of_mem _ (List.mem_cons_of_mem _ (List.mem_cons_of_mem _ (List.mem_cons_of_mem _ (List.mem_cons_of_mem _ (List.mem_cons_of_mem _ hx))))))))))
theorem Hp.fr11 {r0 r1 r2 r3 r4 r5 r6 r7 r8 r9 r10 x : HRow} {L : List HRow} (H : Hp Z n0 h (r0 :: r1 :: r2 :: r3 :: r4 :: r5 :: r6 :: r7 :: r8 :: r9 :: r10 :: x :: L)) : Hp Z n0 h (x :: r0 :: r1 :: r2 :: r3 :: r4 :: r5 :: r6 :: r7 :: r8 :: r9 :: r10 :: L) := H.front (i := 11) rfl rfl
theorem Hp.fr12 {r0 r1 r2 r3 r4 r5 r6 r7 r8 r9 r10 r11 x : HRow} {L : List HRow} (H : Hp Z n0 h (r0 :: r1 :: r2 :: r3 :: r4 :: r5 :: r6 :: r7 :: r8 :: r9 :: r10 :: r11 :: x :: L)) : Hp Z n0 h (x :: r0 :: r1 :: r2 :: r3 :: r4 :: r5 :: r6 :: r7 :: r8 :: r9 :: r10 :: r11 :: L) := H.front (i := 12) rfl rfl
end Rows
end Jvm.OwnKit

namespace Jvm.Pilot.@@N@@
open Jvm Jvm.ClassFile Sem Op Lib Jvm.Free Jvm.Stand Jvm.LawKit Jvm.RoadKit Jvm.OwnKit Jvm.Free.Fl Bundle Jvm.Pilot.@@N@@.Jvm.D
abbrev HW (Z : State) (a0 : Array Value) : Prop := ∀ d ∈ tables_1, d.before a0 Z = true
theorem wk_ {Z : State} {a0 : Array Value} (hw : HW Z a0) (i : Nat) {d : Jvm.Cond} (e : tables_1[i]? = some d) : d.before a0 Z = true := hw d (List.mem_of_getElem? e)
abbrev M0 : MethodName := ⟨"com/example/lanewright/lanewright/ShortestPathTreeRoutePinLaw", "tailOf", "(II)I"⟩
abbrev M1 : MethodName := ⟨"com/example/lanewright/lanewright/ShortestPathTreeRoutePinLaw", "headOf", "(II)I"⟩
abbrev M2 : MethodName := ⟨"java/util/ArrayList", "<init>", "()V"⟩
abbrev M3 : MethodName := ⟨"java/util/AbstractList", "<init>", "()V"⟩
abbrev M4 : MethodName := ⟨"java/util/AbstractCollection", "<init>", "()V"⟩
abbrev M5 : MethodName := ⟨"java/lang/Object", "<init>", "()V"⟩
abbrev M6 : MethodName := ⟨"com/example/lanewright/lanewright/Network$Arc", "<init>", "(IIDDDD)V"⟩
abbrev M7 : MethodName := ⟨"java/lang/Record", "<init>", "()V"⟩
abbrev M8 : MethodName := ⟨"java/util/ArrayList", "add", "(Ljava/lang/Object;)Z"⟩
abbrev M9 : MethodName := ⟨"java/util/ArrayList", "add", "(Ljava/lang/Object;[Ljava/lang/Object;I)V"⟩
abbrev M10 : MethodName := ⟨"java/util/ArrayList", "grow", "()[Ljava/lang/Object;"⟩
abbrev M11 : MethodName := ⟨"java/util/ArrayList", "grow", "(I)[Ljava/lang/Object;"⟩
abbrev M12 : MethodName := ⟨"java/lang/Math", "max", "(II)I"⟩
abbrev M13 : MethodName := ⟨"com/example/lanewright/lanewright/Network", "<init>", "(IILjava/util/List;)V"⟩
abbrev M14 : MethodName := ⟨"java/util/List", "size", "()I"⟩
abbrev M15 : MethodName := ⟨"java/util/ArrayList", "size", "()I"⟩
abbrev M16 : MethodName := ⟨"java/util/List", "get", "(I)Ljava/lang/Object;"⟩
abbrev M17 : MethodName := ⟨"java/util/ArrayList", "get", "(I)Ljava/lang/Object;"⟩
abbrev M18 : MethodName := ⟨"java/util/Objects", "checkIndex", "(II)I"⟩
abbrev M19 : MethodName := ⟨"jdk/internal/util/Preconditions", "checkIndex", "(IILjava/util/function/BiFunction;)I"⟩
abbrev M20 : MethodName := ⟨"java/util/ArrayList", "elementData", "(I)Ljava/lang/Object;"⟩
abbrev M21 : MethodName := ⟨"com/example/lanewright/lanewright/Network$Arc", "tail", "()I"⟩
abbrev M22 : MethodName := ⟨"com/example/lanewright/lanewright/Network$Arc", "head", "()I"⟩
abbrev M23 : MethodName := ⟨"com/example/lanewright/lanewright/Network$Arc", "capacity", "()D"⟩
abbrev M24 : MethodName := ⟨"com/example/lanewright/lanewright/Network$Arc", "freeFlowTime", "()D"⟩
abbrev M25 : MethodName := ⟨"com/example/lanewright/lanewright/Network$Arc", "b", "()D"⟩
abbrev M26 : MethodName := ⟨"com/example/lanewright/lanewright/Network$Arc", "power", "()D"⟩
abbrev M27 : MethodName := ⟨"[I", "clone", "()Ljava/lang/Object;"⟩
abbrev M28 : MethodName := ⟨"java/lang/Object", "clone", "()Ljava/lang/Object;"⟩
abbrev M29 : MethodName := ⟨"com/example/lanewright/lanewright/ShortestPathTree", "<init>", "(Lcom/example/lanewright/lanewright/Network;)V"⟩
abbrev M30 : MethodName := ⟨"com/example/lanewright/lanewright/Network", "nodeCount", "()I"⟩
abbrev M31 : MethodName := ⟨"com/example/lanewright/lanewright/ShortestPathTree", "build", "(I[D)V"⟩
abbrev M32 : MethodName := ⟨"java/util/Arrays", "fill", "([DD)V"⟩
abbrev M33 : MethodName := ⟨"java/util/Arrays", "fill", "([II)V"⟩
abbrev M34 : MethodName := ⟨"com/example/lanewright/lanewright/ShortestPathTree", "push", "(I)V"⟩
abbrev M35 : MethodName := ⟨"com/example/lanewright/lanewright/ShortestPathTree", "siftUp", "(I)V"⟩
abbrev M36 : MethodName := ⟨"com/example/lanewright/lanewright/ShortestPathTree", "pop", "()I"⟩
abbrev M37 : MethodName := ⟨"com/example/lanewright/lanewright/Network", "firstOut", "(I)I"⟩
abbrev M38 : MethodName := ⟨"com/example/lanewright/lanewright/Network", "endOut", "(I)I"⟩
abbrev M39 : MethodName := ⟨"com/example/lanewright/lanewright/ShortestPathTree", "distance", "(I)D"⟩
abbrev M40 : MethodName := ⟨"com/example/lanewright/lanewright/Network", "outArc", "(I)I"⟩
abbrev M41 : MethodName := ⟨"com/example/lanewright/lanewright/Network", "head", "(I)I"⟩
abbrev M42 : MethodName := ⟨"com/example/lanewright/lanewright/Network", "firstThruNode", "()I"⟩
abbrev M43 : MethodName := ⟨"com/example/lanewright/lanewright/ShortestPathTree", "route", "(I)[I"⟩
abbrev M44 : MethodName := ⟨"com/example/lanewright/lanewright/ShortestPathTree", "isRoute", "(I[I)Z"⟩
abbrev M45 : MethodName := ⟨"com/example/lanewright/lanewright/ShortestPathTree", "siftDown", "(I)V"⟩
abbrev M46 : MethodName := ⟨"com/example/lanewright/lanewright/Network", "tail", "(I)I"⟩
abbrev M47 : MethodName := ⟨"com/example/lanewright/lanewright/ShortestPathTreeRoutePinLaw", "validArc", "(I)Z"⟩
theorem wd_0 {Z a0} (hw : HW Z a0) : (Cond.constant "com/example/lanewright/lanewright/ShortestPathTreeRoutePinLaw" 7 (2147483647 : Int32)).before a0 Z = true := wk_ hw 0 rfl
theorem wd_1 {Z a0} (hw : HW Z a0) : (Cond.arrayClass FieldType.int).before a0 Z = true := wk_ hw 1 rfl
theorem wd_2 {Z a0} (hw : HW Z a0) : (Cond.arrayClass FieldType.double).before a0 Z = true := wk_ hw 2 rfl
theorem wd_3 {Z a0} (hw : HW Z a0) : (Cond.methodLink "com/example/lanewright/lanewright/ShortestPathTreeRoutePinLaw" 8 M0).before a0 Z = true := wk_ hw 3 rfl
theorem wd_4 {Z a0} (hw : HW Z a0) : (Cond.static M0).before a0 Z = true := wk_ hw 4 rfl
theorem wd_5 {Z a0} (hw : HW Z a0) : (Cond.initialized "com/example/lanewright/lanewright/ShortestPathTreeRoutePinLaw").before a0 Z = true := wk_ hw 5 rfl
theorem wd_6 {Z a0} (hw : HW Z a0) : (Cond.code M0 method_2_code 2 (some FieldType.int)).before a0 Z = true := wk_ hw 6 rfl
theorem wd_7 {Z a0} (hw : HW Z a0) : (Cond.methodLink "com/example/lanewright/lanewright/ShortestPathTreeRoutePinLaw" 14 M1).before a0 Z = true := wk_ hw 7 rfl
theorem wd_8 {Z a0} (hw : HW Z a0) : (Cond.static M1).before a0 Z = true := wk_ hw 8 rfl
theorem wd_9 {Z a0} (hw : HW Z a0) : (Cond.code M1 method_3_code 2 (some FieldType.int)).before a0 Z = true := wk_ hw 9 rfl
theorem wd_10 {Z a0} (hw : HW Z a0) : (Cond.classLink "com/example/lanewright/lanewright/ShortestPathTreeRoutePinLaw" 17 "java/util/ArrayList").before a0 Z = true := wk_ hw 10 rfl
theorem wd_11 {Z a0} (hw : HW Z a0) : (Cond.instantiable "java/util/ArrayList" 3).before a0 Z = true := wk_ hw 11 rfl
theorem wd_12 {Z a0} (hw : HW Z a0) : (Cond.initialized "java/util/ArrayList").before a0 Z = true := wk_ hw 12 rfl
theorem wd_13 {Z a0} (hw : HW Z a0) : (Cond.methodLink "com/example/lanewright/lanewright/ShortestPathTreeRoutePinLaw" 19 M2).before a0 Z = true := wk_ hw 13 rfl
theorem wd_14 {Z a0} (hw : HW Z a0) : (Cond.instanceMethod M2).before a0 Z = true := wk_ hw 14 rfl
theorem wd_15 {Z a0} (hw : HW Z a0) : (Cond.code M2 jdk_38_method_2_code 1 (Option.none : Option Jvm.ClassFile.FieldType)).before a0 Z = true := wk_ hw 15 rfl
theorem wd_16 {Z a0} (hw : HW Z a0) : (Cond.methodLink "java/util/ArrayList" 1 M3).before a0 Z = true := wk_ hw 16 rfl
theorem wd_17 {Z a0} (hw : HW Z a0) : (Cond.instanceMethod M3).before a0 Z = true := wk_ hw 17 rfl
theorem wd_20 {Z a0} (hw : HW Z a0) : (Cond.initialized "java/util/AbstractList").before a0 Z = true := wk_ hw 20 rfl
theorem wd_21 {Z a0} (hw : HW Z a0) : (Cond.code M3 jdk_39_method_1_code 1 (Option.none : Option Jvm.ClassFile.FieldType)).before a0 Z = true := wk_ hw 21 rfl
theorem wd_22 {Z a0} (hw : HW Z a0) : (Cond.methodLink "java/util/AbstractList" 1 M4).before a0 Z = true := wk_ hw 22 rfl
theorem wd_23 {Z a0} (hw : HW Z a0) : (Cond.instanceMethod M4).before a0 Z = true := wk_ hw 23 rfl
theorem wd_26 {Z a0} (hw : HW Z a0) : (Cond.initialized "java/util/AbstractCollection").before a0 Z = true := wk_ hw 26 rfl
theorem wd_27 {Z a0} (hw : HW Z a0) : (Cond.code M4 jdk_22_method_1_code 1 (Option.none : Option Jvm.ClassFile.FieldType)).before a0 Z = true := wk_ hw 27 rfl
theorem wd_28 {Z a0} (hw : HW Z a0) : (Cond.methodLink "java/util/AbstractCollection" 1 M5).before a0 Z = true := wk_ hw 28 rfl
theorem wd_29 {Z a0} (hw : HW Z a0) : (Cond.instanceMethod M5).before a0 Z = true := wk_ hw 29 rfl
theorem wd_30 {Z a0} (hw : HW Z a0) : (Cond.code M5 object_method_1_code 1 (Option.none : Option Jvm.ClassFile.FieldType)).before a0 Z = true := wk_ hw 30 rfl
theorem wd_31 {Z a0} (hw : HW Z a0) : (Cond.fieldLink "java/util/AbstractList" 7 "java/util/AbstractList" "modCount" "I").before a0 Z = true := wk_ hw 31 rfl
theorem wd_32 {Z a0} (hw : HW Z a0) : (Cond.lays "java/util/ArrayList" "java/util/AbstractList" "modCount" "I").before a0 Z = true := wk_ hw 32 rfl
theorem wd_33 {Z a0} (hw : HW Z a0) : (Cond.fieldLink "java/util/ArrayList" 39 "java/util/ArrayList" "DEFAULTCAPACITY_EMPTY_ELEMENTDATA" "[Ljava/lang/Object;").before a0 Z = true := wk_ hw 33 rfl
theorem wd_34 {Z a0} (hw : HW Z a0) : (Cond.fieldLink "java/util/ArrayList" 9 "java/util/ArrayList" "elementData" "[Ljava/lang/Object;").before a0 Z = true := wk_ hw 34 rfl
theorem wd_35 {Z a0} (hw : HW Z a0) : (Cond.lays "java/util/ArrayList" "java/util/ArrayList" "elementData" "[Ljava/lang/Object;").before a0 Z = true := wk_ hw 35 rfl
theorem wd_36 {Z a0} (hw : HW Z a0) : (Cond.classLink "com/example/lanewright/lanewright/ShortestPathTreeRoutePinLaw" 20 "com/example/lanewright/lanewright/Network$Arc").before a0 Z = true := wk_ hw 36 rfl
theorem wd_37 {Z a0} (hw : HW Z a0) : (Cond.instantiable "com/example/lanewright/lanewright/Network$Arc" 6).before a0 Z = true := wk_ hw 37 rfl
theorem wd_38 {Z a0} (hw : HW Z a0) : (Cond.initialized "com/example/lanewright/lanewright/Network$Arc").before a0 Z = true := wk_ hw 38 rfl
theorem wd_39 {Z a0} (hw : HW Z a0) : (Cond.methodLink "com/example/lanewright/lanewright/ShortestPathTreeRoutePinLaw" 22 M6).before a0 Z = true := wk_ hw 39 rfl
theorem wd_40 {Z a0} (hw : HW Z a0) : (Cond.instanceMethod M6).before a0 Z = true := wk_ hw 40 rfl
theorem wd_41 {Z a0} (hw : HW Z a0) : (Cond.code M6 prog_30_method_1_code 11 (Option.none : Option Jvm.ClassFile.FieldType)).before a0 Z = true := wk_ hw 41 rfl
theorem wd_42 {Z a0} (hw : HW Z a0) : (Cond.methodLink "com/example/lanewright/lanewright/Network$Arc" 1 M7).before a0 Z = true := wk_ hw 42 rfl
theorem wd_43 {Z a0} (hw : HW Z a0) : (Cond.instanceMethod M7).before a0 Z = true := wk_ hw 43 rfl
theorem wd_45 {Z a0} (hw : HW Z a0) : (Cond.initialized "java/lang/Record").before a0 Z = true := wk_ hw 45 rfl
theorem wd_46 {Z a0} (hw : HW Z a0) : (Cond.code M7 jdk_30_method_1_code 1 (Option.none : Option Jvm.ClassFile.FieldType)).before a0 Z = true := wk_ hw 46 rfl
theorem wd_47 {Z a0} (hw : HW Z a0) : (Cond.methodLink "java/lang/Record" 1 M5).before a0 Z = true := wk_ hw 47 rfl
theorem wd_48 {Z a0} (hw : HW Z a0) : (Cond.fieldLink "com/example/lanewright/lanewright/Network$Arc" 7 "com/example/lanewright/lanewright/Network$Arc" "tail" "I").before a0 Z = true := wk_ hw 48 rfl
theorem wd_49 {Z a0} (hw : HW Z a0) : (Cond.laysFinal "com/example/lanewright/lanewright/Network$Arc" "com/example/lanewright/lanewright/Network$Arc" "tail" "I").before a0 Z = true := wk_ hw 49 rfl
theorem wd_50 {Z a0} (hw : HW Z a0) : (Cond.fieldLink "com/example/lanewright/lanewright/Network$Arc" 13 "com/example/lanewright/lanewright/Network$Arc" "head" "I").before a0 Z = true := wk_ hw 50 rfl
theorem wd_51 {Z a0} (hw : HW Z a0) : (Cond.laysFinal "com/example/lanewright/lanewright/Network$Arc" "com/example/lanewright/lanewright/Network$Arc" "head" "I").before a0 Z = true := wk_ hw 51 rfl
theorem wd_52 {Z a0} (hw : HW Z a0) : (Cond.fieldLink "com/example/lanewright/lanewright/Network$Arc" 16 "com/example/lanewright/lanewright/Network$Arc" "capacity" "D").before a0 Z = true := wk_ hw 52 rfl
theorem wd_53 {Z a0} (hw : HW Z a0) : (Cond.laysFinal "com/example/lanewright/lanewright/Network$Arc" "com/example/lanewright/lanewright/Network$Arc" "capacity" "D").before a0 Z = true := wk_ hw 53 rfl
theorem wd_54 {Z a0} (hw : HW Z a0) : (Cond.fieldLink "com/example/lanewright/lanewright/Network$Arc" 20 "com/example/lanewright/lanewright/Network$Arc" "freeFlowTime" "D").before a0 Z = true := wk_ hw 54 rfl
theorem wd_55 {Z a0} (hw : HW Z a0) : (Cond.laysFinal "com/example/lanewright/lanewright/Network$Arc" "com/example/lanewright/lanewright/Network$Arc" "freeFlowTime" "D").before a0 Z = true := wk_ hw 55 rfl
theorem wd_56 {Z a0} (hw : HW Z a0) : (Cond.fieldLink "com/example/lanewright/lanewright/Network$Arc" 23 "com/example/lanewright/lanewright/Network$Arc" "b" "D").before a0 Z = true := wk_ hw 56 rfl
theorem wd_57 {Z a0} (hw : HW Z a0) : (Cond.laysFinal "com/example/lanewright/lanewright/Network$Arc" "com/example/lanewright/lanewright/Network$Arc" "b" "D").before a0 Z = true := wk_ hw 57 rfl
theorem wd_58 {Z a0} (hw : HW Z a0) : (Cond.fieldLink "com/example/lanewright/lanewright/Network$Arc" 26 "com/example/lanewright/lanewright/Network$Arc" "power" "D").before a0 Z = true := wk_ hw 58 rfl
theorem wd_59 {Z a0} (hw : HW Z a0) : (Cond.laysFinal "com/example/lanewright/lanewright/Network$Arc" "com/example/lanewright/lanewright/Network$Arc" "power" "D").before a0 Z = true := wk_ hw 59 rfl
theorem wd_60 {Z a0} (hw : HW Z a0) : (Cond.methodLink "com/example/lanewright/lanewright/ShortestPathTreeRoutePinLaw" 25 M8).before a0 Z = true := wk_ hw 60 rfl
theorem wd_61 {Z a0} (hw : HW Z a0) : (Cond.declares M8).before a0 Z = true := wk_ hw 61 rfl
theorem wd_62 {Z a0} (hw : HW Z a0) : (Cond.instanceMethod M8).before a0 Z = true := wk_ hw 62 rfl
theorem wd_63 {Z a0} (hw : HW Z a0) : (Cond.selects "java/util/ArrayList" M8 M8).before a0 Z = true := wk_ hw 63 rfl
theorem wd_64 {Z a0} (hw : HW Z a0) : (Cond.code M8 jdk_38_method_25_code 2 (some FieldType.boolean)).before a0 Z = true := wk_ hw 64 rfl
theorem wd_65 {Z a0} (hw : HW Z a0) : (Cond.fieldLink "java/util/ArrayList" 63 "java/util/ArrayList" "modCount" "I").before a0 Z = true := wk_ hw 65 rfl
theorem wd_66 {Z a0} (hw : HW Z a0) : (Cond.sameField "java/util/ArrayList" "java/util/AbstractList" "modCount" "I").before a0 Z = true := wk_ hw 66 rfl
theorem wd_67 {Z a0} (hw : HW Z a0) : (Cond.fieldLink "java/util/ArrayList" 48 "java/util/ArrayList" "size" "I").before a0 Z = true := wk_ hw 67 rfl
theorem wd_68 {Z a0} (hw : HW Z a0) : (Cond.lays "java/util/ArrayList" "java/util/ArrayList" "size" "I").before a0 Z = true := wk_ hw 68 rfl
theorem wd_69 {Z a0} (hw : HW Z a0) : (Cond.methodLink "java/util/ArrayList" 131 M9).before a0 Z = true := wk_ hw 69 rfl
theorem wd_70 {Z a0} (hw : HW Z a0) : (Cond.instanceMethod M9).before a0 Z = true := wk_ hw 70 rfl
theorem wd_71 {Z a0} (hw : HW Z a0) : (Cond.privateMethod M9).before a0 Z = true := wk_ hw 71 rfl
theorem wd_73 {Z a0} (hw : HW Z a0) : (Cond.code M9 jdk_38_method_24_code 4 (Option.none : Option Jvm.ClassFile.FieldType)).before a0 Z = true := wk_ hw 73 rfl
theorem wd_74 {Z a0} (hw : HW Z a0) : (Cond.methodLink "java/util/ArrayList" 129 M10).before a0 Z = true := wk_ hw 74 rfl
theorem wd_75 {Z a0} (hw : HW Z a0) : (Cond.instanceMethod M10).before a0 Z = true := wk_ hw 75 rfl
theorem wd_76 {Z a0} (hw : HW Z a0) : (Cond.privateMethod M10).before a0 Z = true := wk_ hw 76 rfl
theorem wd_78 {Z a0} (hw : HW Z a0) : (Cond.code M10 jdk_38_method_7_code 1 (some (FieldType.array (FieldType.object "java/lang/Object")))).before a0 Z = true := wk_ hw 78 rfl
theorem wd_79 {Z a0} (hw : HW Z a0) : (Cond.methodLink "java/util/ArrayList" 69 M11).before a0 Z = true := wk_ hw 79 rfl
theorem wd_80 {Z a0} (hw : HW Z a0) : (Cond.instanceMethod M11).before a0 Z = true := wk_ hw 80 rfl
theorem wd_81 {Z a0} (hw : HW Z a0) : (Cond.privateMethod M11).before a0 Z = true := wk_ hw 81 rfl
theorem wd_83 {Z a0} (hw : HW Z a0) : (Cond.code M11 jdk_38_method_6_code 4 (some (FieldType.array (FieldType.object "java/lang/Object")))).before a0 Z = true := wk_ hw 83 rfl
theorem wd_84 {Z a0} (hw : HW Z a0) : (Cond.methodLink "java/util/ArrayList" 79 M12).before a0 Z = true := wk_ hw 84 rfl
theorem wd_85 {Z a0} (hw : HW Z a0) : (Cond.static M12).before a0 Z = true := wk_ hw 85 rfl
theorem wd_86 {Z a0} (hw : HW Z a0) : (Cond.initialized "java/lang/Math").before a0 Z = true := wk_ hw 86 rfl
theorem wd_87 {Z a0} (hw : HW Z a0) : (Cond.code M12 jdk_29_method_65_code 2 (some FieldType.int)).before a0 Z = true := wk_ hw 87 rfl
theorem wd_88 {Z a0} (hw : HW Z a0) : (Cond.classLink "java/util/ArrayList" 7 "java/lang/Object").before a0 Z = true := wk_ hw 88 rfl
theorem wd_89 {Z a0} (hw : HW Z a0) : (Cond.arrayOver (FieldType.object "java/lang/Object")).before a0 Z = true := wk_ hw 89 rfl
theorem wd_90 {Z a0} (hw : HW Z a0) : (Cond.castable "com/example/lanewright/lanewright/Network$Arc" "java/lang/Object").before a0 Z = true := wk_ hw 90 rfl
theorem wd_91 {Z a0} (hw : HW Z a0) : (Cond.classLink "com/example/lanewright/lanewright/ShortestPathTreeRoutePinLaw" 29 "com/example/lanewright/lanewright/Network").before a0 Z = true := wk_ hw 91 rfl
theorem wd_92 {Z a0} (hw : HW Z a0) : (Cond.instantiable "com/example/lanewright/lanewright/Network" 10).before a0 Z = true := wk_ hw 92 rfl
theorem wd_93 {Z a0} (hw : HW Z a0) : (Cond.initialized "com/example/lanewright/lanewright/Network").before a0 Z = true := wk_ hw 93 rfl
theorem wd_94 {Z a0} (hw : HW Z a0) : (Cond.methodLink "com/example/lanewright/lanewright/ShortestPathTreeRoutePinLaw" 31 M13).before a0 Z = true := wk_ hw 94 rfl
theorem wd_95 {Z a0} (hw : HW Z a0) : (Cond.instanceMethod M13).before a0 Z = true := wk_ hw 95 rfl
theorem wd_96 {Z a0} (hw : HW Z a0) : (Cond.code M13 prog_29_method_1_code 7 (Option.none : Option Jvm.ClassFile.FieldType)).before a0 Z = true := wk_ hw 96 rfl
theorem wd_97 {Z a0} (hw : HW Z a0) : (Cond.methodLink "com/example/lanewright/lanewright/Network" 1 M5).before a0 Z = true := wk_ hw 97 rfl
theorem wd_98 {Z a0} (hw : HW Z a0) : (Cond.fieldLink "com/example/lanewright/lanewright/Network" 7 "com/example/lanewright/lanewright/Network" "nodeCount" "I").before a0 Z = true := wk_ hw 98 rfl
theorem wd_99 {Z a0} (hw : HW Z a0) : (Cond.laysFinal "com/example/lanewright/lanewright/Network" "com/example/lanewright/lanewright/Network" "nodeCount" "I").before a0 Z = true := wk_ hw 99 rfl
theorem wd_100 {Z a0} (hw : HW Z a0) : (Cond.fieldLink "com/example/lanewright/lanewright/Network" 13 "com/example/lanewright/lanewright/Network" "firstThruNode" "I").before a0 Z = true := wk_ hw 100 rfl
theorem wd_101 {Z a0} (hw : HW Z a0) : (Cond.laysFinal "com/example/lanewright/lanewright/Network" "com/example/lanewright/lanewright/Network" "firstThruNode" "I").before a0 Z = true := wk_ hw 101 rfl
theorem wd_102 {Z a0} (hw : HW Z a0) : (Cond.methodLink "com/example/lanewright/lanewright/Network" 16 M14).before a0 Z = true := wk_ hw 102 rfl
theorem wd_103 {Z a0} (hw : HW Z a0) : (Cond.declares M14).before a0 Z = true := wk_ hw 103 rfl
theorem wd_104 {Z a0} (hw : HW Z a0) : (Cond.interfaceMethod "java/util/List" "java/util/List" "size" "()I").before a0 Z = true := wk_ hw 104 rfl
theorem wd_105 {Z a0} (hw : HW Z a0) : (Cond.selects "java/util/ArrayList" M14 M15).before a0 Z = true := wk_ hw 105 rfl
theorem wd_106 {Z a0} (hw : HW Z a0) : (Cond.instanceMethod M15).before a0 Z = true := wk_ hw 106 rfl
theorem wd_107 {Z a0} (hw : HW Z a0) : (Cond.publicMethod M15).before a0 Z = true := wk_ hw 107 rfl
theorem wd_108 {Z a0} (hw : HW Z a0) : (Cond.unhidden "java/util/ArrayList" "size" "()I").before a0 Z = true := wk_ hw 108 rfl
theorem wd_109 {Z a0} (hw : HW Z a0) : (Cond.castable "java/util/ArrayList" "java/util/List").before a0 Z = true := wk_ hw 109 rfl
theorem wd_110 {Z a0} (hw : HW Z a0) : (Cond.code M15 jdk_38_method_8_code 1 (some FieldType.int)).before a0 Z = true := wk_ hw 110 rfl
theorem wd_111 {Z a0} (hw : HW Z a0) : (Cond.fieldLink "com/example/lanewright/lanewright/Network" 22 "com/example/lanewright/lanewright/Network" "tails" "[I").before a0 Z = true := wk_ hw 111 rfl
theorem wd_112 {Z a0} (hw : HW Z a0) : (Cond.laysFinal "com/example/lanewright/lanewright/Network" "com/example/lanewright/lanewright/Network" "tails" "[I").before a0 Z = true := wk_ hw 112 rfl
theorem wd_113 {Z a0} (hw : HW Z a0) : (Cond.fieldLink "com/example/lanewright/lanewright/Network" 26 "com/example/lanewright/lanewright/Network" "heads" "[I").before a0 Z = true := wk_ hw 113 rfl
theorem wd_114 {Z a0} (hw : HW Z a0) : (Cond.laysFinal "com/example/lanewright/lanewright/Network" "com/example/lanewright/lanewright/Network" "heads" "[I").before a0 Z = true := wk_ hw 114 rfl
theorem wd_115 {Z a0} (hw : HW Z a0) : (Cond.fieldLink "com/example/lanewright/lanewright/Network" 29 "com/example/lanewright/lanewright/Network" "capacities" "[D").before a0 Z = true := wk_ hw 115 rfl
theorem wd_116 {Z a0} (hw : HW Z a0) : (Cond.laysFinal "com/example/lanewright/lanewright/Network" "com/example/lanewright/lanewright/Network" "capacities" "[D").before a0 Z = true := wk_ hw 116 rfl
theorem wd_117 {Z a0} (hw : HW Z a0) : (Cond.fieldLink "com/example/lanewright/lanewright/Network" 33 "com/example/lanewright/lanewright/Network" "freeFlowTimes" "[D").before a0 Z = true := wk_ hw 117 rfl
theorem wd_118 {Z a0} (hw : HW Z a0) : (Cond.laysFinal "com/example/lanewright/lanewright/Network" "com/example/lanewright/lanewright/Network" "freeFlowTimes" "[D").before a0 Z = true := wk_ hw 118 rfl
theorem wd_119 {Z a0} (hw : HW Z a0) : (Cond.fieldLink "com/example/lanewright/lanewright/Network" 36 "com/example/lanewright/lanewright/Network" "bs" "[D").before a0 Z = true := wk_ hw 119 rfl
theorem wd_120 {Z a0} (hw : HW Z a0) : (Cond.laysFinal "com/example/lanewright/lanewright/Network" "com/example/lanewright/lanewright/Network" "bs" "[D").before a0 Z = true := wk_ hw 120 rfl
theorem wd_121 {Z a0} (hw : HW Z a0) : (Cond.fieldLink "com/example/lanewright/lanewright/Network" 39 "com/example/lanewright/lanewright/Network" "powers" "[D").before a0 Z = true := wk_ hw 121 rfl
theorem wd_122 {Z a0} (hw : HW Z a0) : (Cond.laysFinal "com/example/lanewright/lanewright/Network" "com/example/lanewright/lanewright/Network" "powers" "[D").before a0 Z = true := wk_ hw 122 rfl
theorem wd_123 {Z a0} (hw : HW Z a0) : (Cond.fieldLink "com/example/lanewright/lanewright/Network" 42 "com/example/lanewright/lanewright/Network" "firstOut" "[I").before a0 Z = true := wk_ hw 123 rfl
theorem wd_124 {Z a0} (hw : HW Z a0) : (Cond.laysFinal "com/example/lanewright/lanewright/Network" "com/example/lanewright/lanewright/Network" "firstOut" "[I").before a0 Z = true := wk_ hw 124 rfl
theorem wd_125 {Z a0} (hw : HW Z a0) : (Cond.methodLink "com/example/lanewright/lanewright/Network" 45 M16).before a0 Z = true := wk_ hw 125 rfl
theorem wd_126 {Z a0} (hw : HW Z a0) : (Cond.declares M16).before a0 Z = true := wk_ hw 126 rfl
theorem wd_127 {Z a0} (hw : HW Z a0) : (Cond.interfaceMethod "java/util/List" "java/util/List" "get" "(I)Ljava/lang/Object;").before a0 Z = true := wk_ hw 127 rfl
theorem wd_128 {Z a0} (hw : HW Z a0) : (Cond.selects "java/util/ArrayList" M16 M17).before a0 Z = true := wk_ hw 128 rfl
theorem wd_129 {Z a0} (hw : HW Z a0) : (Cond.instanceMethod M17).before a0 Z = true := wk_ hw 129 rfl
theorem wd_130 {Z a0} (hw : HW Z a0) : (Cond.publicMethod M17).before a0 Z = true := wk_ hw 130 rfl
theorem wd_131 {Z a0} (hw : HW Z a0) : (Cond.unhidden "java/util/ArrayList" "get" "(I)Ljava/lang/Object;").before a0 Z = true := wk_ hw 131 rfl
theorem wd_132 {Z a0} (hw : HW Z a0) : (Cond.code M17 jdk_38_method_20_code 2 (some (FieldType.object "java/lang/Object"))).before a0 Z = true := wk_ hw 132 rfl
theorem wd_133 {Z a0} (hw : HW Z a0) : (Cond.methodLink "java/util/ArrayList" 118 M18).before a0 Z = true := wk_ hw 133 rfl
theorem wd_134 {Z a0} (hw : HW Z a0) : (Cond.static M18).before a0 Z = true := wk_ hw 134 rfl
theorem wd_135 {Z a0} (hw : HW Z a0) : (Cond.initialized "java/util/Objects").before a0 Z = true := wk_ hw 135 rfl
theorem wd_136 {Z a0} (hw : HW Z a0) : (Cond.code M18 jdk_31_method_17_code 2 (some FieldType.int)).before a0 Z = true := wk_ hw 136 rfl
theorem wd_137 {Z a0} (hw : HW Z a0) : (Cond.methodLink "java/util/Objects" 105 M19).before a0 Z = true := wk_ hw 137 rfl
theorem wd_138 {Z a0} (hw : HW Z a0) : (Cond.static M19).before a0 Z = true := wk_ hw 138 rfl
theorem wd_139 {Z a0} (hw : HW Z a0) : (Cond.initialized "jdk/internal/util/Preconditions").before a0 Z = true := wk_ hw 139 rfl
theorem wd_140 {Z a0} (hw : HW Z a0) : (Cond.code M19 jdk_41_method_11_code 3 (some FieldType.int)).before a0 Z = true := wk_ hw 140 rfl
theorem wd_141 {Z a0} (hw : HW Z a0) : (Cond.methodLink "java/util/ArrayList" 123 M20).before a0 Z = true := wk_ hw 141 rfl
theorem wd_142 {Z a0} (hw : HW Z a0) : (Cond.declares M20).before a0 Z = true := wk_ hw 142 rfl
theorem wd_143 {Z a0} (hw : HW Z a0) : (Cond.instanceMethod M20).before a0 Z = true := wk_ hw 143 rfl
theorem wd_144 {Z a0} (hw : HW Z a0) : (Cond.selects "java/util/ArrayList" M20 M20).before a0 Z = true := wk_ hw 144 rfl
theorem wd_145 {Z a0} (hw : HW Z a0) : (Cond.code M20 jdk_38_method_18_code 2 (some (FieldType.object "java/lang/Object"))).before a0 Z = true := wk_ hw 145 rfl
theorem wd_146 {Z a0} (hw : HW Z a0) : (Cond.classLink "com/example/lanewright/lanewright/Network" 49 "com/example/lanewright/lanewright/Network$Arc").before a0 Z = true := wk_ hw 146 rfl
theorem wd_148 {Z a0} (hw : HW Z a0) : (Cond.methodLink "com/example/lanewright/lanewright/Network" 51 M21).before a0 Z = true := wk_ hw 148 rfl
theorem wd_149 {Z a0} (hw : HW Z a0) : (Cond.declares M21).before a0 Z = true := wk_ hw 149 rfl
theorem wd_150 {Z a0} (hw : HW Z a0) : (Cond.instanceMethod M21).before a0 Z = true := wk_ hw 150 rfl
theorem wd_151 {Z a0} (hw : HW Z a0) : (Cond.selects "com/example/lanewright/lanewright/Network$Arc" M21 M21).before a0 Z = true := wk_ hw 151 rfl
theorem wd_152 {Z a0} (hw : HW Z a0) : (Cond.code M21 prog_30_method_5_code 1 (some FieldType.int)).before a0 Z = true := wk_ hw 152 rfl
theorem wd_153 {Z a0} (hw : HW Z a0) : (Cond.methodLink "com/example/lanewright/lanewright/Network" 54 M22).before a0 Z = true := wk_ hw 153 rfl
theorem wd_154 {Z a0} (hw : HW Z a0) : (Cond.declares M22).before a0 Z = true := wk_ hw 154 rfl
theorem wd_155 {Z a0} (hw : HW Z a0) : (Cond.instanceMethod M22).before a0 Z = true := wk_ hw 155 rfl
theorem wd_156 {Z a0} (hw : HW Z a0) : (Cond.selects "com/example/lanewright/lanewright/Network$Arc" M22 M22).before a0 Z = true := wk_ hw 156 rfl
theorem wd_157 {Z a0} (hw : HW Z a0) : (Cond.code M22 prog_30_method_6_code 1 (some FieldType.int)).before a0 Z = true := wk_ hw 157 rfl
theorem wd_158 {Z a0} (hw : HW Z a0) : (Cond.methodLink "com/example/lanewright/lanewright/Network" 57 M23).before a0 Z = true := wk_ hw 158 rfl
theorem wd_159 {Z a0} (hw : HW Z a0) : (Cond.declares M23).before a0 Z = true := wk_ hw 159 rfl
theorem wd_160 {Z a0} (hw : HW Z a0) : (Cond.instanceMethod M23).before a0 Z = true := wk_ hw 160 rfl
theorem wd_161 {Z a0} (hw : HW Z a0) : (Cond.selects "com/example/lanewright/lanewright/Network$Arc" M23 M23).before a0 Z = true := wk_ hw 161 rfl
theorem wd_162 {Z a0} (hw : HW Z a0) : (Cond.code M23 prog_30_method_7_code 1 (some FieldType.double)).before a0 Z = true := wk_ hw 162 rfl
theorem wd_163 {Z a0} (hw : HW Z a0) : (Cond.methodLink "com/example/lanewright/lanewright/Network" 61 M24).before a0 Z = true := wk_ hw 163 rfl
theorem wd_164 {Z a0} (hw : HW Z a0) : (Cond.declares M24).before a0 Z = true := wk_ hw 164 rfl
theorem wd_165 {Z a0} (hw : HW Z a0) : (Cond.instanceMethod M24).before a0 Z = true := wk_ hw 165 rfl
theorem wd_166 {Z a0} (hw : HW Z a0) : (Cond.selects "com/example/lanewright/lanewright/Network$Arc" M24 M24).before a0 Z = true := wk_ hw 166 rfl
theorem wd_167 {Z a0} (hw : HW Z a0) : (Cond.code M24 prog_30_method_8_code 1 (some FieldType.double)).before a0 Z = true := wk_ hw 167 rfl
theorem wd_168 {Z a0} (hw : HW Z a0) : (Cond.methodLink "com/example/lanewright/lanewright/Network" 64 M25).before a0 Z = true := wk_ hw 168 rfl
theorem wd_169 {Z a0} (hw : HW Z a0) : (Cond.declares M25).before a0 Z = true := wk_ hw 169 rfl
theorem wd_170 {Z a0} (hw : HW Z a0) : (Cond.instanceMethod M25).before a0 Z = true := wk_ hw 170 rfl
theorem wd_171 {Z a0} (hw : HW Z a0) : (Cond.selects "com/example/lanewright/lanewright/Network$Arc" M25 M25).before a0 Z = true := wk_ hw 171 rfl
theorem wd_172 {Z a0} (hw : HW Z a0) : (Cond.code M25 prog_30_method_9_code 1 (some FieldType.double)).before a0 Z = true := wk_ hw 172 rfl
theorem wd_173 {Z a0} (hw : HW Z a0) : (Cond.methodLink "com/example/lanewright/lanewright/Network" 67 M26).before a0 Z = true := wk_ hw 173 rfl
theorem wd_174 {Z a0} (hw : HW Z a0) : (Cond.declares M26).before a0 Z = true := wk_ hw 174 rfl
theorem wd_175 {Z a0} (hw : HW Z a0) : (Cond.instanceMethod M26).before a0 Z = true := wk_ hw 175 rfl
theorem wd_176 {Z a0} (hw : HW Z a0) : (Cond.selects "com/example/lanewright/lanewright/Network$Arc" M26 M26).before a0 Z = true := wk_ hw 176 rfl
theorem wd_177 {Z a0} (hw : HW Z a0) : (Cond.code M26 prog_30_method_10_code 1 (some FieldType.double)).before a0 Z = true := wk_ hw 177 rfl
theorem wd_178 {Z a0} (hw : HW Z a0) : (Cond.fieldLink "com/example/lanewright/lanewright/Network" 70 "com/example/lanewright/lanewright/Network" "outArcs" "[I").before a0 Z = true := wk_ hw 178 rfl
theorem wd_179 {Z a0} (hw : HW Z a0) : (Cond.laysFinal "com/example/lanewright/lanewright/Network" "com/example/lanewright/lanewright/Network" "outArcs" "[I").before a0 Z = true := wk_ hw 179 rfl
theorem wd_180 {Z a0} (hw : HW Z a0) : (Cond.methodLink "com/example/lanewright/lanewright/Network" 73 M27).before a0 Z = true := wk_ hw 180 rfl
theorem wd_181 {Z a0} (hw : HW Z a0) : (Cond.sameMethod "[I" "java/lang/Object" "clone" "()Ljava/lang/Object;").before a0 Z = true := wk_ hw 181 rfl
theorem wd_183 {Z a0} (hw : HW Z a0) : (Cond.instanceMethod M28).before a0 Z = true := wk_ hw 183 rfl
theorem wd_184 {Z a0} (hw : HW Z a0) : (Cond.selects "[I" M27 M28).before a0 Z = true := wk_ hw 184 rfl
theorem wd_185 {Z a0} (hw : HW Z a0) : (Cond.native M28).before a0 Z = true := wk_ hw 185 rfl
theorem wd_186 {Z a0} (hw : HW Z a0) : (Cond.castable "[I" "java/lang/Cloneable").before a0 Z = true := wk_ hw 186 rfl
theorem wd_187 {Z a0} (hw : HW Z a0) : (Cond.classLink "com/example/lanewright/lanewright/Network" 74 "[I").before a0 Z = true := wk_ hw 187 rfl
theorem wd_189 {Z a0} (hw : HW Z a0) : (Cond.classLink "com/example/lanewright/lanewright/ShortestPathTreeRoutePinLaw" 34 "com/example/lanewright/lanewright/ShortestPathTree").before a0 Z = true := wk_ hw 189 rfl
theorem wd_190 {Z a0} (hw : HW Z a0) : (Cond.instantiable "com/example/lanewright/lanewright/ShortestPathTree" 6).before a0 Z = true := wk_ hw 190 rfl
theorem wd_191 {Z a0} (hw : HW Z a0) : (Cond.initialized "com/example/lanewright/lanewright/ShortestPathTree").before a0 Z = true := wk_ hw 191 rfl
theorem wd_192 {Z a0} (hw : HW Z a0) : (Cond.methodLink "com/example/lanewright/lanewright/ShortestPathTreeRoutePinLaw" 36 M29).before a0 Z = true := wk_ hw 192 rfl
theorem wd_193 {Z a0} (hw : HW Z a0) : (Cond.instanceMethod M29).before a0 Z = true := wk_ hw 193 rfl
theorem wd_194 {Z a0} (hw : HW Z a0) : (Cond.code M29 prog_57_method_1_code 3 (Option.none : Option Jvm.ClassFile.FieldType)).before a0 Z = true := wk_ hw 194 rfl
theorem wd_195 {Z a0} (hw : HW Z a0) : (Cond.methodLink "com/example/lanewright/lanewright/ShortestPathTree" 1 M5).before a0 Z = true := wk_ hw 195 rfl
theorem wd_196 {Z a0} (hw : HW Z a0) : (Cond.fieldLink "com/example/lanewright/lanewright/ShortestPathTree" 7 "com/example/lanewright/lanewright/ShortestPathTree" "network" "Lcom/example/lanewright/lanewright/Network;").before a0 Z = true := wk_ hw 196 rfl
theorem wd_197 {Z a0} (hw : HW Z a0) : (Cond.laysFinal "com/example/lanewright/lanewright/ShortestPathTree" "com/example/lanewright/lanewright/ShortestPathTree" "network" "Lcom/example/lanewright/lanewright/Network;").before a0 Z = true := wk_ hw 197 rfl
theorem wd_198 {Z a0} (hw : HW Z a0) : (Cond.methodLink "com/example/lanewright/lanewright/ShortestPathTree" 13 M30).before a0 Z = true := wk_ hw 198 rfl
theorem wd_199 {Z a0} (hw : HW Z a0) : (Cond.declares M30).before a0 Z = true := wk_ hw 199 rfl
theorem wd_200 {Z a0} (hw : HW Z a0) : (Cond.instanceMethod M30).before a0 Z = true := wk_ hw 200 rfl
theorem wd_201 {Z a0} (hw : HW Z a0) : (Cond.selects "com/example/lanewright/lanewright/Network" M30 M30).before a0 Z = true := wk_ hw 201 rfl
theorem wd_202 {Z a0} (hw : HW Z a0) : (Cond.code M30 prog_29_method_2_code 1 (some FieldType.int)).before a0 Z = true := wk_ hw 202 rfl
theorem wd_203 {Z a0} (hw : HW Z a0) : (Cond.fieldLink "com/example/lanewright/lanewright/ShortestPathTree" 19 "com/example/lanewright/lanewright/ShortestPathTree" "distance" "[D").before a0 Z = true := wk_ hw 203 rfl
theorem wd_204 {Z a0} (hw : HW Z a0) : (Cond.laysFinal "com/example/lanewright/lanewright/ShortestPathTree" "com/example/lanewright/lanewright/ShortestPathTree" "distance" "[D").before a0 Z = true := wk_ hw 204 rfl
theorem wd_205 {Z a0} (hw : HW Z a0) : (Cond.fieldLink "com/example/lanewright/lanewright/ShortestPathTree" 23 "com/example/lanewright/lanewright/ShortestPathTree" "predecessorArc" "[I").before a0 Z = true := wk_ hw 205 rfl
theorem wd_206 {Z a0} (hw : HW Z a0) : (Cond.laysFinal "com/example/lanewright/lanewright/ShortestPathTree" "com/example/lanewright/lanewright/ShortestPathTree" "predecessorArc" "[I").before a0 Z = true := wk_ hw 206 rfl
theorem wd_207 {Z a0} (hw : HW Z a0) : (Cond.fieldLink "com/example/lanewright/lanewright/ShortestPathTree" 27 "com/example/lanewright/lanewright/ShortestPathTree" "heap" "[I").before a0 Z = true := wk_ hw 207 rfl
theorem wd_208 {Z a0} (hw : HW Z a0) : (Cond.laysFinal "com/example/lanewright/lanewright/ShortestPathTree" "com/example/lanewright/lanewright/ShortestPathTree" "heap" "[I").before a0 Z = true := wk_ hw 208 rfl
theorem wd_209 {Z a0} (hw : HW Z a0) : (Cond.fieldLink "com/example/lanewright/lanewright/ShortestPathTree" 30 "com/example/lanewright/lanewright/ShortestPathTree" "position" "[I").before a0 Z = true := wk_ hw 209 rfl
theorem wd_210 {Z a0} (hw : HW Z a0) : (Cond.laysFinal "com/example/lanewright/lanewright/ShortestPathTree" "com/example/lanewright/lanewright/ShortestPathTree" "position" "[I").before a0 Z = true := wk_ hw 210 rfl
theorem wd_211 {Z a0} (hw : HW Z a0) : (Cond.methodLink "com/example/lanewright/lanewright/ShortestPathTreeRoutePinLaw" 39 M31).before a0 Z = true := wk_ hw 211 rfl
theorem wd_212 {Z a0} (hw : HW Z a0) : (Cond.declares M31).before a0 Z = true := wk_ hw 212 rfl
theorem wd_213 {Z a0} (hw : HW Z a0) : (Cond.instanceMethod M31).before a0 Z = true := wk_ hw 213 rfl
theorem wd_214 {Z a0} (hw : HW Z a0) : (Cond.selects "com/example/lanewright/lanewright/ShortestPathTree" M31 M31).before a0 Z = true := wk_ hw 214 rfl
theorem wd_215 {Z a0} (hw : HW Z a0) : (Cond.code M31 prog_57_method_2_code 9 (Option.none : Option Jvm.ClassFile.FieldType)).before a0 Z = true := wk_ hw 215 rfl
theorem wd_216 {Z a0} (hw : HW Z a0) : (Cond.constantDouble "com/example/lanewright/lanewright/ShortestPathTree" 35 (9218868437227405312 : UInt64)).before a0 Z = true := wk_ hw 216 rfl
theorem wd_217 {Z a0} (hw : HW Z a0) : (Cond.methodLink "com/example/lanewright/lanewright/ShortestPathTree" 37 M32).before a0 Z = true := wk_ hw 217 rfl
theorem wd_218 {Z a0} (hw : HW Z a0) : (Cond.static M32).before a0 Z = true := wk_ hw 218 rfl
theorem wd_219 {Z a0} (hw : HW Z a0) : (Cond.initialized "java/util/Arrays").before a0 Z = true := wk_ hw 219 rfl
theorem wd_220 {Z a0} (hw : HW Z a0) : (Cond.code M32 jdk_65_method_113_code 5 (Option.none : Option Jvm.ClassFile.FieldType)).before a0 Z = true := wk_ hw 220 rfl
theorem wd_221 {Z a0} (hw : HW Z a0) : (Cond.methodLink "com/example/lanewright/lanewright/ShortestPathTree" 43 M33).before a0 Z = true := wk_ hw 221 rfl
theorem wd_222 {Z a0} (hw : HW Z a0) : (Cond.static M33).before a0 Z = true := wk_ hw 222 rfl
theorem wd_223 {Z a0} (hw : HW Z a0) : (Cond.code M33 jdk_65_method_103_code 4 (Option.none : Option Jvm.ClassFile.FieldType)).before a0 Z = true := wk_ hw 223 rfl
theorem wd_224 {Z a0} (hw : HW Z a0) : (Cond.fieldLink "com/example/lanewright/lanewright/ShortestPathTree" 46 "com/example/lanewright/lanewright/ShortestPathTree" "heapSize" "I").before a0 Z = true := wk_ hw 224 rfl
theorem wd_225 {Z a0} (hw : HW Z a0) : (Cond.lays "com/example/lanewright/lanewright/ShortestPathTree" "com/example/lanewright/lanewright/ShortestPathTree" "heapSize" "I").before a0 Z = true := wk_ hw 225 rfl
theorem wd_226 {Z a0} (hw : HW Z a0) : (Cond.methodLink "com/example/lanewright/lanewright/ShortestPathTree" 50 M34).before a0 Z = true := wk_ hw 226 rfl
theorem wd_227 {Z a0} (hw : HW Z a0) : (Cond.instanceMethod M34).before a0 Z = true := wk_ hw 227 rfl
theorem wd_228 {Z a0} (hw : HW Z a0) : (Cond.privateMethod M34).before a0 Z = true := wk_ hw 228 rfl
theorem wd_229 {Z a0} (hw : HW Z a0) : (Cond.code M34 prog_57_method_6_code 2 (Option.none : Option Jvm.ClassFile.FieldType)).before a0 Z = true := wk_ hw 229 rfl
theorem wd_230 {Z a0} (hw : HW Z a0) : (Cond.methodLink "com/example/lanewright/lanewright/ShortestPathTree" 73 M35).before a0 Z = true := wk_ hw 230 rfl
theorem wd_231 {Z a0} (hw : HW Z a0) : (Cond.instanceMethod M35).before a0 Z = true := wk_ hw 231 rfl
theorem wd_232 {Z a0} (hw : HW Z a0) : (Cond.privateMethod M35).before a0 Z = true := wk_ hw 232 rfl
theorem wd_233 {Z a0} (hw : HW Z a0) : (Cond.code M35 prog_57_method_8_code 4 (Option.none : Option Jvm.ClassFile.FieldType)).before a0 Z = true := wk_ hw 233 rfl
theorem wd_234 {Z a0} (hw : HW Z a0) : (Cond.methodLink "com/example/lanewright/lanewright/ShortestPathTree" 54 M36).before a0 Z = true := wk_ hw 234 rfl
theorem wd_235 {Z a0} (hw : HW Z a0) : (Cond.instanceMethod M36).before a0 Z = true := wk_ hw 235 rfl
theorem wd_236 {Z a0} (hw : HW Z a0) : (Cond.privateMethod M36).before a0 Z = true := wk_ hw 236 rfl
theorem wd_237 {Z a0} (hw : HW Z a0) : (Cond.code M36 prog_57_method_7_code 2 (some FieldType.int)).before a0 Z = true := wk_ hw 237 rfl
theorem wd_238 {Z a0} (hw : HW Z a0) : (Cond.methodLink "com/example/lanewright/lanewright/ShortestPathTree" 60 M37).before a0 Z = true := wk_ hw 238 rfl
theorem wd_239 {Z a0} (hw : HW Z a0) : (Cond.declares M37).before a0 Z = true := wk_ hw 239 rfl
theorem wd_240 {Z a0} (hw : HW Z a0) : (Cond.instanceMethod M37).before a0 Z = true := wk_ hw 240 rfl
theorem wd_241 {Z a0} (hw : HW Z a0) : (Cond.selects "com/example/lanewright/lanewright/Network" M37 M37).before a0 Z = true := wk_ hw 241 rfl
theorem wd_242 {Z a0} (hw : HW Z a0) : (Cond.code M37 prog_29_method_8_code 2 (some FieldType.int)).before a0 Z = true := wk_ hw 242 rfl
theorem wd_243 {Z a0} (hw : HW Z a0) : (Cond.methodLink "com/example/lanewright/lanewright/ShortestPathTree" 64 M38).before a0 Z = true := wk_ hw 243 rfl
theorem wd_244 {Z a0} (hw : HW Z a0) : (Cond.declares M38).before a0 Z = true := wk_ hw 244 rfl
theorem wd_245 {Z a0} (hw : HW Z a0) : (Cond.instanceMethod M38).before a0 Z = true := wk_ hw 245 rfl
theorem wd_246 {Z a0} (hw : HW Z a0) : (Cond.selects "com/example/lanewright/lanewright/Network" M38 M38).before a0 Z = true := wk_ hw 246 rfl
theorem wd_247 {Z a0} (hw : HW Z a0) : (Cond.code M38 prog_29_method_9_code 2 (some FieldType.int)).before a0 Z = true := wk_ hw 247 rfl
theorem wd_248 {Z a0} (hw : HW Z a0) : (Cond.methodLink "com/example/lanewright/lanewright/ShortestPathTreeRoutePinLaw" 43 M39).before a0 Z = true := wk_ hw 248 rfl
theorem wd_249 {Z a0} (hw : HW Z a0) : (Cond.declares M39).before a0 Z = true := wk_ hw 249 rfl
theorem wd_250 {Z a0} (hw : HW Z a0) : (Cond.instanceMethod M39).before a0 Z = true := wk_ hw 250 rfl
theorem wd_251 {Z a0} (hw : HW Z a0) : (Cond.selects "com/example/lanewright/lanewright/ShortestPathTree" M39 M39).before a0 Z = true := wk_ hw 251 rfl
theorem wd_252 {Z a0} (hw : HW Z a0) : (Cond.code M39 prog_57_method_3_code 2 (some FieldType.double)).before a0 Z = true := wk_ hw 252 rfl
theorem wd_253 {Z a0} (hw : HW Z a0) : (Cond.constantDouble "com/example/lanewright/lanewright/ShortestPathTreeRoutePinLaw" 47 (4636737291354636288 : UInt64)).before a0 Z = true := wk_ hw 253 rfl
theorem wd_254 {Z a0} (hw : HW Z a0) : (Cond.methodLink "com/example/lanewright/lanewright/ShortestPathTree" 67 M40).before a0 Z = true := wk_ hw 254 rfl
theorem wd_255 {Z a0} (hw : HW Z a0) : (Cond.declares M40).before a0 Z = true := wk_ hw 255 rfl
theorem wd_256 {Z a0} (hw : HW Z a0) : (Cond.instanceMethod M40).before a0 Z = true := wk_ hw 256 rfl
theorem wd_257 {Z a0} (hw : HW Z a0) : (Cond.selects "com/example/lanewright/lanewright/Network" M40 M40).before a0 Z = true := wk_ hw 257 rfl
theorem wd_258 {Z a0} (hw : HW Z a0) : (Cond.code M40 prog_29_method_10_code 2 (some FieldType.int)).before a0 Z = true := wk_ hw 258 rfl
theorem wd_259 {Z a0} (hw : HW Z a0) : (Cond.methodLink "com/example/lanewright/lanewright/ShortestPathTree" 70 M41).before a0 Z = true := wk_ hw 259 rfl
theorem wd_260 {Z a0} (hw : HW Z a0) : (Cond.declares M41).before a0 Z = true := wk_ hw 260 rfl
theorem wd_261 {Z a0} (hw : HW Z a0) : (Cond.instanceMethod M41).before a0 Z = true := wk_ hw 261 rfl
theorem wd_262 {Z a0} (hw : HW Z a0) : (Cond.selects "com/example/lanewright/lanewright/Network" M41 M41).before a0 Z = true := wk_ hw 262 rfl
theorem wd_263 {Z a0} (hw : HW Z a0) : (Cond.code M41 prog_29_method_6_code 2 (some FieldType.int)).before a0 Z = true := wk_ hw 263 rfl
theorem wd_264 {Z a0} (hw : HW Z a0) : (Cond.methodLink "com/example/lanewright/lanewright/ShortestPathTree" 57 M42).before a0 Z = true := wk_ hw 264 rfl
theorem wd_265 {Z a0} (hw : HW Z a0) : (Cond.declares M42).before a0 Z = true := wk_ hw 265 rfl
theorem wd_266 {Z a0} (hw : HW Z a0) : (Cond.instanceMethod M42).before a0 Z = true := wk_ hw 266 rfl
theorem wd_267 {Z a0} (hw : HW Z a0) : (Cond.selects "com/example/lanewright/lanewright/Network" M42 M42).before a0 Z = true := wk_ hw 267 rfl
theorem wd_268 {Z a0} (hw : HW Z a0) : (Cond.code M42 prog_29_method_3_code 1 (some FieldType.int)).before a0 Z = true := wk_ hw 268 rfl
theorem wd_269 {Z a0} (hw : HW Z a0) : (Cond.methodLink "com/example/lanewright/lanewright/ShortestPathTreeRoutePinLaw" 49 M43).before a0 Z = true := wk_ hw 269 rfl
theorem wd_270 {Z a0} (hw : HW Z a0) : (Cond.declares M43).before a0 Z = true := wk_ hw 270 rfl
theorem wd_271 {Z a0} (hw : HW Z a0) : (Cond.instanceMethod M43).before a0 Z = true := wk_ hw 271 rfl
theorem wd_272 {Z a0} (hw : HW Z a0) : (Cond.selects "com/example/lanewright/lanewright/ShortestPathTree" M43 M43).before a0 Z = true := wk_ hw 272 rfl
theorem wd_273 {Z a0} (hw : HW Z a0) : (Cond.code M43 prog_57_method_4_code 6 (some (FieldType.array FieldType.int))).before a0 Z = true := wk_ hw 273 rfl
theorem wd_274 {Z a0} (hw : HW Z a0) : (Cond.methodLink "com/example/lanewright/lanewright/ShortestPathTreeRoutePinLaw" 53 M44).before a0 Z = true := wk_ hw 274 rfl
theorem wd_275 {Z a0} (hw : HW Z a0) : (Cond.declares M44).before a0 Z = true := wk_ hw 275 rfl
theorem wd_276 {Z a0} (hw : HW Z a0) : (Cond.instanceMethod M44).before a0 Z = true := wk_ hw 276 rfl
theorem wd_277 {Z a0} (hw : HW Z a0) : (Cond.selects "com/example/lanewright/lanewright/ShortestPathTree" M44 M44).before a0 Z = true := wk_ hw 277 rfl
theorem wd_278 {Z a0} (hw : HW Z a0) : (Cond.code M44 prog_57_method_5_code 5 (some FieldType.boolean)).before a0 Z = true := wk_ hw 278 rfl
theorem wd_279 {Z a0} (hw : HW Z a0) : (Cond.methodLink "com/example/lanewright/lanewright/ShortestPathTree" 79 M45).before a0 Z = true := wk_ hw 279 rfl
theorem wd_280 {Z a0} (hw : HW Z a0) : (Cond.instanceMethod M45).before a0 Z = true := wk_ hw 280 rfl
theorem wd_281 {Z a0} (hw : HW Z a0) : (Cond.privateMethod M45).before a0 Z = true := wk_ hw 281 rfl
theorem wd_282 {Z a0} (hw : HW Z a0) : (Cond.code M45 prog_57_method_9_code 4 (Option.none : Option Jvm.ClassFile.FieldType)).before a0 Z = true := wk_ hw 282 rfl
theorem wd_283 {Z a0} (hw : HW Z a0) : (Cond.methodLink "com/example/lanewright/lanewright/ShortestPathTree" 76 M46).before a0 Z = true := wk_ hw 283 rfl
theorem wd_284 {Z a0} (hw : HW Z a0) : (Cond.declares M46).before a0 Z = true := wk_ hw 284 rfl
theorem wd_285 {Z a0} (hw : HW Z a0) : (Cond.instanceMethod M46).before a0 Z = true := wk_ hw 285 rfl
theorem wd_286 {Z a0} (hw : HW Z a0) : (Cond.selects "com/example/lanewright/lanewright/Network" M46 M46).before a0 Z = true := wk_ hw 286 rfl
theorem wd_287 {Z a0} (hw : HW Z a0) : (Cond.code M46 prog_29_method_5_code 2 (some FieldType.int)).before a0 Z = true := wk_ hw 287 rfl
theorem wd_288 {Z a0} (hw : HW Z a0) : (Cond.methodLink "com/example/lanewright/lanewright/ShortestPathTreeRoutePinLaw" 57 M47).before a0 Z = true := wk_ hw 288 rfl
theorem wd_289 {Z a0} (hw : HW Z a0) : (Cond.static M47).before a0 Z = true := wk_ hw 289 rfl
theorem wd_290 {Z a0} (hw : HW Z a0) : (Cond.code M47 method_4_code 1 (some FieldType.boolean)).before a0 Z = true := wk_ hw 290 rfl
set_option maxRecDepth 65536
set_option maxHeartbeats 40000000
theorem ef_r1 (m : MethodId) (x0 : Addr) : entryFrame m #[.ref x0] 1 = mkF m 0 #[.val (.ref x0)] [] := by first | (simp [entryFrame, mkF, argsToLocals, Value.category, maxLocals]; done) | rfl
abbrev K5 : ByteArray := jdk_22_method_1_code
theorem d5_0 : decode K5 0 = .ok (.aload_n 0, 1) := by decide +kernel
theorem d5_1 : decode K5 1 = .ok (.invokespecial 1, 3) := by decide +kernel
theorem d5_4 : decode K5 4 = .ok (.return_, 1) := by decide +kernel
theorem pf_5 : plainFor ⟨"java/util/AbstractCollection", "<init>", "()V"⟩ = true := by first | exact plainFor_of_name (by first | (simp [plainName, overriddenIn]; done) | decide +kernel) | decide +kernel
theorem la_ArrayList {Z : State} {a0 : Array Value} (hw : ∀ d ∈ tables_1, d.before a0 Z = true) : LaidAll Z a0 "java/util/ArrayList" [("java/util/AbstractList", "modCount", "I", .int 0), ("java/util/ArrayList", "elementData", "[Ljava/lang/Object;", .null), ("java/util/ArrayList", "size", "I", .int 0)] := LaidAll.cons (Or.inl (wd_32 hw)) (t := .int) (by decide) rfl (LaidAll.cons (Or.inl (wd_35 hw)) (t := (.array (.object "java/lang/Object"))) (by decide) rfl (LaidAll.cons (Or.inl (wd_68 hw)) (t := .int) (by decide) rfl (LaidAll.nil)))
abbrev fs_ArrayList (v0 v1 v2 : Value) : List FR := [("java/util/AbstractList", "modCount", "I", v0), ("java/util/ArrayList", "elementData", "[Ljava/lang/Object;", v1), ("java/util/ArrayList", "size", "I", v2)]
abbrev K4 : ByteArray := jdk_39_method_1_code
theorem d4_0 : decode K4 0 = .ok (.aload_n 0, 1) := by decide +kernel
theorem d4_1 : decode K4 1 = .ok (.invokespecial 1, 3) := by decide +kernel
theorem pd_0 : parseMethodDescriptor "()V" = some ⟨[], none⟩ := by decide +kernel
theorem d4_4 : decode K4 4 = .ok (.aload_n 0, 1) := by decide +kernel
theorem d4_5 : decode K4 5 = .ok (.iconst 0, 1) := by decide +kernel
theorem d4_6 : decode K4 6 = .ok (.putfield 7, 3) := by decide +kernel
theorem d4_9 : decode K4 9 = .ok (.return_, 1) := by decide +kernel
theorem pf_4 : plainFor ⟨"java/util/AbstractList", "<init>", "()V"⟩ = true := by first | exact plainFor_of_name (by first | (simp [plainName, overriddenIn]; done) | decide +kernel) | decide +kernel
abbrev K3 : ByteArray := jdk_38_method_2_code
theorem d3_0 : decode K3 0 = .ok (.aload_n 0, 1) := by decide +kernel
theorem d3_1 : decode K3 1 = .ok (.invokespecial 1, 3) := by decide +kernel
theorem d3_4 : decode K3 4 = .ok (.aload_n 0, 1) := by decide +kernel
theorem d3_5 : decode K3 5 = .ok (.getstatic 39, 3) := by decide +kernel
theorem d3_8 : decode K3 8 = .ok (.putfield 9, 3) := by decide +kernel
theorem d3_11 : decode K3 11 = .ok (.return_, 1) := by decide +kernel
theorem pf_3 : plainFor ⟨"java/util/ArrayList", "<init>", "()V"⟩ = true := by first | exact plainFor_of_name (by first | (simp [plainName, overriddenIn]; done) | decide +kernel) | decide +kernel
theorem ef_ii2 (m : MethodId) (x0 : Int32) (x1 : Int32) : entryFrame m #[.int x0, .int x1] 2 = mkF m 0 #[.val (.int x0), .val (.int x1)] [] := by first | (simp [entryFrame, mkF, argsToLocals, Value.category, maxLocals]; done) | rfl
abbrev K13 : ByteArray := jdk_29_method_65_code
theorem d13_0 : decode K13 0 = .ok (.iload_n 0, 1) := by decide +kernel
theorem d13_1 : decode K13 1 = .ok (.iload_n 1, 1) := by decide +kernel
theorem d13_2 : decode K13 2 = .ok (.if_icmp .lt 7, 3) := by decide +kernel
theorem d13_5 : decode K13 5 = .ok (.iload_n 0, 1) := by decide +kernel
theorem d13_6 : decode K13 6 = .ok (.goto 4, 3) := by decide +kernel
theorem d13_10 : decode K13 10 = .ok (.ireturn, 1) := by decide +kernel
theorem pf_13 : plainFor ⟨"java/lang/Math", "max", "(II)I"⟩ = true := by first | exact plainFor_of_name (by first | (simp [plainName, overriddenIn]; done) | decide +kernel) | decide +kernel
theorem ef_ri4 (m : MethodId) (x0 : Addr) (x1 : Int32) : entryFrame m #[.ref x0, .int x1] 4 = mkF m 0 #[.val (.ref x0), .val (.int x1), .unset, .unset] [] := by first | (simp [entryFrame, mkF, argsToLocals, Value.category, maxLocals]; done) | rfl
abbrev K12 : ByteArray := jdk_38_method_6_code
theorem d12_0 : decode K12 0 = .ok (.aload_n 0, 1) := by decide +kernel
theorem d12_1 : decode K12 1 = .ok (.getfield 9, 3) := by decide +kernel
theorem d12_4 : decode K12 4 = .ok (.arraylength, 1) := by decide +kernel
theorem d12_5 : decode K12 5 = .ok (.istore_n 2, 1) := by decide +kernel
theorem d12_6 : decode K12 6 = .ok (.iload_n 2, 1) := by decide +kernel
theorem d12_7 : decode K12 7 = .ok (.ifCond .gt 13, 3) := by decide +kernel
theorem d12_10 : decode K12 10 = .ok (.aload_n 0, 1) := by decide +kernel
theorem d12_11 : decode K12 11 = .ok (.getfield 9, 3) := by decide +kernel
theorem d12_14 : decode K12 14 = .ok (.getstatic 39, 3) := by decide +kernel
theorem d12_17 : decode K12 17 = .ok (.if_acmp .eq 28, 3) := by decide +kernel
theorem d12_45 : decode K12 45 = .ok (.aload_n 0, 1) := by decide +kernel
theorem d12_46 : decode K12 46 = .ok (.bipush 10, 2) := by decide +kernel
theorem d12_48 : decode K12 48 = .ok (.iload_n 1, 1) := by decide +kernel
theorem d12_49 : decode K12 49 = .ok (.invokestatic 79, 3) := by decide +kernel
theorem pd_1 : parseMethodDescriptor "(II)I" = some ⟨[.int, .int], some .int⟩ := by decide +kernel
theorem d12_52 : decode K12 52 = .ok (.anewarray 7, 3) := by decide +kernel
theorem d12_55 : decode K12 55 = .ok (.dup_x1, 1) := by decide +kernel
theorem d12_56 : decode K12 56 = .ok (.putfield 9, 3) := by decide +kernel
theorem d12_59 : decode K12 59 = .ok (.areturn, 1) := by decide +kernel
theorem pf_12 : plainFor ⟨"java/util/ArrayList", "grow", "(I)[Ljava/lang/Object;"⟩ = true := by first | exact plainFor_of_name (by first | (simp [plainName, overriddenIn]; done) | decide +kernel) | decide +kernel
abbrev K11 : ByteArray := jdk_38_method_7_code
theorem d11_0 : decode K11 0 = .ok (.aload_n 0, 1) := by decide +kernel
theorem d11_1 : decode K11 1 = .ok (.aload_n 0, 1) := by decide +kernel
theorem d11_2 : decode K11 2 = .ok (.getfield 48, 3) := by decide +kernel
theorem d11_5 : decode K11 5 = .ok (.iconst 1, 1) := by decide +kernel
theorem d11_6 : decode K11 6 = .ok (.iadd, 1) := by decide +kernel
theorem d11_7 : decode K11 7 = .ok (.invokevirtual 69, 3) := by decide +kernel
theorem pd_2 : parseMethodDescriptor "(I)[Ljava/lang/Object;" = some ⟨[.int], some (.array (.object "java/lang/Object"))⟩ := by decide +kernel
theorem d11_10 : decode K11 10 = .ok (.areturn, 1) := by decide +kernel
theorem pf_11 : plainFor ⟨"java/util/ArrayList", "grow", "()[Ljava/lang/Object;"⟩ = true := by first | exact plainFor_of_name (by first | (simp [plainName, overriddenIn]; done) | decide +kernel) | decide +kernel
theorem ef_rrri4 (m : MethodId) (x0 : Addr) (x1 : Addr) (x2 : Addr) (x3 : Int32) : entryFrame m #[.ref x0, .ref x1, .ref x2, .int x3] 4 = mkF m 0 #[.val (.ref x0), .val (.ref x1), .val (.ref x2), .val (.int x3)] [] := by first | (simp [entryFrame, mkF, argsToLocals, Value.category, maxLocals]; done) | rfl
abbrev K10 : ByteArray := jdk_38_method_24_code
theorem d10_0 : decode K10 0 = .ok (.iload_n 3, 1) := by decide +kernel
theorem d10_1 : decode K10 1 = .ok (.aload_n 2, 1) := by decide +kernel
theorem d10_2 : decode K10 2 = .ok (.arraylength, 1) := by decide +kernel
theorem d10_3 : decode K10 3 = .ok (.if_icmp .ne 8, 3) := by decide +kernel
theorem d10_6 : decode K10 6 = .ok (.aload_n 0, 1) := by decide +kernel
theorem d10_7 : decode K10 7 = .ok (.invokevirtual 129, 3) := by decide +kernel
theorem pd_3 : parseMethodDescriptor "()[Ljava/lang/Object;" = some ⟨[], some (.array (.object "java/lang/Object"))⟩ := by decide +kernel
theorem d10_10 : decode K10 10 = .ok (.astore_n 2, 1) := by decide +kernel
theorem d10_11 : decode K10 11 = .ok (.aload_n 2, 1) := by decide +kernel
theorem d10_12 : decode K10 12 = .ok (.iload_n 3, 1) := by decide +kernel
theorem d10_13 : decode K10 13 = .ok (.aload_n 1, 1) := by decide +kernel
theorem d10_14 : decode K10 14 = .ok (.aastore, 1) := by decide +kernel
theorem d10_15 : decode K10 15 = .ok (.aload_n 0, 1) := by decide +kernel
theorem d10_16 : decode K10 16 = .ok (.iload_n 3, 1) := by decide +kernel
theorem d10_17 : decode K10 17 = .ok (.iconst 1, 1) := by decide +kernel
theorem d10_18 : decode K10 18 = .ok (.iadd, 1) := by decide +kernel
theorem d10_19 : decode K10 19 = .ok (.putfield 48, 3) := by decide +kernel
theorem d10_22 : decode K10 22 = .ok (.return_, 1) := by decide +kernel
theorem pf_10 : plainFor ⟨"java/util/ArrayList", "add", "(Ljava/lang/Object;[Ljava/lang/Object;I)V"⟩ = true := by first | exact plainFor_of_name (by first | (simp [plainName, overriddenIn]; done) | decide +kernel) | decide +kernel
theorem ef_rr2 (m : MethodId) (x0 : Addr) (x1 : Addr) : entryFrame m #[.ref x0, .ref x1] 2 = mkF m 0 #[.val (.ref x0), .val (.ref x1)] [] := by first | (simp [entryFrame, mkF, argsToLocals, Value.category, maxLocals]; done) | rfl
abbrev K9 : ByteArray := jdk_38_method_25_code
theorem d9_0 : decode K9 0 = .ok (.aload_n 0, 1) := by decide +kernel
theorem d9_1 : decode K9 1 = .ok (.dup, 1) := by decide +kernel
theorem d9_2 : decode K9 2 = .ok (.getfield 63, 3) := by decide +kernel
theorem d9_5 : decode K9 5 = .ok (.iconst 1, 1) := by decide +kernel
theorem d9_6 : decode K9 6 = .ok (.iadd, 1) := by decide +kernel
theorem d9_7 : decode K9 7 = .ok (.putfield 63, 3) := by decide +kernel
theorem d9_10 : decode K9 10 = .ok (.aload_n 0, 1) := by decide +kernel
theorem d9_11 : decode K9 11 = .ok (.aload_n 1, 1) := by decide +kernel
theorem d9_12 : decode K9 12 = .ok (.aload_n 0, 1) := by decide +kernel
theorem d9_13 : decode K9 13 = .ok (.getfield 9, 3) := by decide +kernel
theorem d9_16 : decode K9 16 = .ok (.aload_n 0, 1) := by decide +kernel
theorem d9_17 : decode K9 17 = .ok (.getfield 48, 3) := by decide +kernel
theorem d9_20 : decode K9 20 = .ok (.invokevirtual 131, 3) := by decide +kernel
theorem pd_4 : parseMethodDescriptor "(Ljava/lang/Object;[Ljava/lang/Object;I)V" = some ⟨[(.object "java/lang/Object"), (.array (.object "java/lang/Object")), .int], none⟩ := by decide +kernel
theorem d9_23 : decode K9 23 = .ok (.iconst 1, 1) := by decide +kernel
theorem d9_24 : decode K9 24 = .ok (.ireturn, 1) := by decide +kernel
theorem pf_9 : plainFor ⟨"java/util/ArrayList", "add", "(Ljava/lang/Object;)Z"⟩ = true := by first | exact plainFor_of_name (by first | (simp [plainName, overriddenIn]; done) | decide +kernel) | decide +kernel
abbrev K15 : ByteArray := jdk_38_method_8_code
theorem d15_0 : decode K15 0 = .ok (.aload_n 0, 1) := by decide +kernel
theorem d15_1 : decode K15 1 = .ok (.getfield 48, 3) := by decide +kernel
theorem d15_4 : decode K15 4 = .ok (.ireturn, 1) := by decide +kernel
theorem pf_15 : plainFor ⟨"java/util/ArrayList", "size", "()I"⟩ = true := by first | exact plainFor_of_name (by first | (simp [plainName, overriddenIn]; done) | decide +kernel) | decide +kernel
theorem ef_iin3 (m : MethodId) (x0 : Int32) (x1 : Int32) : entryFrame m #[.int x0, .int x1, .null] 3 = mkF m 0 #[.val (.int x0), .val (.int x1), .val (.null)] [] := by first | (simp [entryFrame, mkF, argsToLocals, Value.category, maxLocals]; done) | rfl
abbrev K18 : ByteArray := jdk_41_method_11_code
theorem d18_0 : decode K18 0 = .ok (.iload_n 0, 1) := by decide +kernel
theorem d18_1 : decode K18 1 = .ok (.ifCond .lt 8, 3) := by decide +kernel
theorem d18_4 : decode K18 4 = .ok (.iload_n 0, 1) := by decide +kernel
theorem d18_5 : decode K18 5 = .ok (.iload_n 1, 1) := by decide +kernel
theorem d18_6 : decode K18 6 = .ok (.if_icmp .lt 10, 3) := by decide +kernel
theorem d18_16 : decode K18 16 = .ok (.iload_n 0, 1) := by decide +kernel
theorem d18_17 : decode K18 17 = .ok (.ireturn, 1) := by decide +kernel
theorem pn_Preconditions : plainName "jdk/internal/util/Preconditions" = true := by first | (simp [plainName, overriddenIn]; done) | decide +kernel
abbrev K17 : ByteArray := jdk_31_method_17_code
theorem d17_0 : decode K17 0 = .ok (.iload_n 0, 1) := by decide +kernel
theorem d17_1 : decode K17 1 = .ok (.iload_n 1, 1) := by decide +kernel
theorem d17_2 : decode K17 2 = .ok (.aconst_null, 1) := by decide +kernel
theorem d17_3 : decode K17 3 = .ok (.invokestatic 105, 3) := by decide +kernel
theorem pd_5 : parseMethodDescriptor "(IILjava/util/function/BiFunction;)I" = some ⟨[.int, .int, (.object "java/util/function/BiFunction")], some .int⟩ := by decide +kernel
theorem d17_6 : decode K17 6 = .ok (.ireturn, 1) := by decide +kernel
theorem pf_17 : plainFor ⟨"java/util/Objects", "checkIndex", "(II)I"⟩ = true := by first | exact plainFor_of_name (by first | (simp [plainName, overriddenIn]; done) | decide +kernel) | decide +kernel
theorem ef_ri2 (m : MethodId) (x0 : Addr) (x1 : Int32) : entryFrame m #[.ref x0, .int x1] 2 = mkF m 0 #[.val (.ref x0), .val (.int x1)] [] := by first | (simp [entryFrame, mkF, argsToLocals, Value.category, maxLocals]; done) | rfl
abbrev K19 : ByteArray := jdk_38_method_18_code
theorem d19_0 : decode K19 0 = .ok (.aload_n 0, 1) := by decide +kernel
theorem d19_1 : decode K19 1 = .ok (.getfield 9, 3) := by decide +kernel
theorem d19_4 : decode K19 4 = .ok (.iload_n 1, 1) := by decide +kernel
theorem d19_5 : decode K19 5 = .ok (.aaload, 1) := by decide +kernel
theorem d19_6 : decode K19 6 = .ok (.areturn, 1) := by decide +kernel
theorem pf_19 : plainFor ⟨"java/util/ArrayList", "elementData", "(I)Ljava/lang/Object;"⟩ = true := by first | exact plainFor_of_name (by first | (simp [plainName, overriddenIn]; done) | decide +kernel) | decide +kernel
abbrev K16 : ByteArray := jdk_38_method_20_code
theorem d16_0 : decode K16 0 = .ok (.iload_n 1, 1) := by decide +kernel
theorem d16_1 : decode K16 1 = .ok (.aload_n 0, 1) := by decide +kernel
theorem d16_2 : decode K16 2 = .ok (.getfield 48, 3) := by decide +kernel
theorem d16_5 : decode K16 5 = .ok (.invokestatic 118, 3) := by decide +kernel
theorem d16_8 : decode K16 8 = .ok (.pop, 1) := by decide +kernel
theorem d16_9 : decode K16 9 = .ok (.aload_n 0, 1) := by decide +kernel
theorem d16_10 : decode K16 10 = .ok (.iload_n 1, 1) := by decide +kernel
theorem d16_11 : decode K16 11 = .ok (.invokevirtual 123, 3) := by decide +kernel
theorem pd_6 : parseMethodDescriptor "(I)Ljava/lang/Object;" = some ⟨[.int], some (.object "java/lang/Object")⟩ := by decide +kernel
theorem d16_14 : decode K16 14 = .ok (.areturn, 1) := by decide +kernel
theorem pf_16 : plainFor ⟨"java/util/ArrayList", "get", "(I)Ljava/lang/Object;"⟩ = true := by first | exact plainFor_of_name (by first | (simp [plainName, overriddenIn]; done) | decide +kernel) | decide +kernel
abbrev K8 : ByteArray := jdk_30_method_1_code
theorem d8_0 : decode K8 0 = .ok (.aload_n 0, 1) := by decide +kernel
theorem d8_1 : decode K8 1 = .ok (.invokespecial 1, 3) := by decide +kernel
theorem d8_4 : decode K8 4 = .ok (.return_, 1) := by decide +kernel
theorem pf_8 : plainFor ⟨"java/lang/Record", "<init>", "()V"⟩ = true := by first | exact plainFor_of_name (by first | (simp [plainName, overriddenIn]; done) | decide +kernel) | decide +kernel
theorem la_Network_Arc {Z : State} {a0 : Array Value} (hw : ∀ d ∈ tables_1, d.before a0 Z = true) : LaidAll Z a0 "com/example/lanewright/lanewright/Network$Arc" [("com/example/lanewright/lanewright/Network$Arc", "tail", "I", .int 0), ("com/example/lanewright/lanewright/Network$Arc", "head", "I", .int 0), ("com/example/lanewright/lanewright/Network$Arc", "capacity", "D", .double 0), ("com/example/lanewright/lanewright/Network$Arc", "freeFlowTime", "D", .double 0), ("com/example/lanewright/lanewright/Network$Arc", "b", "D", .double 0), ("com/example/lanewright/lanewright/Network$Arc", "power", "D", .double 0)] := LaidAll.cons (Or.inr (wd_49 hw)) (t := .int) (by decide) rfl (LaidAll.cons (Or.inr (wd_51 hw)) (t := .int) (by decide) rfl (LaidAll.cons (Or.inr (wd_53 hw)) (t := .double) (by decide) rfl (LaidAll.cons (Or.inr (wd_55 hw)) (t := .double) (by decide) rfl (LaidAll.cons (Or.inr (wd_57 hw)) (t := .double) (by decide) rfl (LaidAll.cons (Or.inr (wd_59 hw)) (t := .double) (by decide) rfl (LaidAll.nil))))))
abbrev fs_Network_Arc (v0 v1 v2 v3 v4 v5 : Value) : List FR := [("com/example/lanewright/lanewright/Network$Arc", "tail", "I", v0), ("com/example/lanewright/lanewright/Network$Arc", "head", "I", v1), ("com/example/lanewright/lanewright/Network$Arc", "capacity", "D", v2), ("com/example/lanewright/lanewright/Network$Arc", "freeFlowTime", "D", v3), ("com/example/lanewright/lanewright/Network$Arc", "b", "D", v4), ("com/example/lanewright/lanewright/Network$Arc", "power", "D", v5)]
theorem ef_riidddd11 (m : MethodId) (x0 : Addr) (x1 : Int32) (x2 : Int32) (x3 : UInt64) (x4 : UInt64) (x5 : UInt64) (x6 : UInt64) : entryFrame m #[.ref x0, .int x1, .int x2, .double x3, .double x4, .double x5, .double x6] 11 = mkF m 0 #[.val (.ref x0), .val (.int x1), .val (.int x2), .val (.double x3), .second, .val (.double x4), .second, .val (.double x5), .second, .val (.double x6), .second] [] := by first | (simp [entryFrame, mkF, argsToLocals, Value.category, maxLocals]; done) | rfl
abbrev K7 : ByteArray := prog_30_method_1_code
theorem d7_0 : decode K7 0 = .ok (.aload_n 0, 1) := by decide +kernel
theorem d7_1 : decode K7 1 = .ok (.invokespecial 1, 3) := by decide +kernel
theorem d7_4 : decode K7 4 = .ok (.aload_n 0, 1) := by decide +kernel
theorem d7_5 : decode K7 5 = .ok (.iload_n 1, 1) := by decide +kernel
theorem d7_6 : decode K7 6 = .ok (.putfield 7, 3) := by decide +kernel
theorem d7_9 : decode K7 9 = .ok (.aload_n 0, 1) := by decide +kernel
theorem d7_10 : decode K7 10 = .ok (.iload_n 2, 1) := by decide +kernel
theorem d7_11 : decode K7 11 = .ok (.putfield 13, 3) := by decide +kernel
theorem d7_14 : decode K7 14 = .ok (.aload_n 0, 1) := by decide +kernel
theorem d7_15 : decode K7 15 = .ok (.dload_n 3, 1) := by decide +kernel
theorem d7_16 : decode K7 16 = .ok (.putfield 16, 3) := by decide +kernel
theorem d7_19 : decode K7 19 = .ok (.aload_n 0, 1) := by decide +kernel
theorem d7_20 : decode K7 20 = .ok (.dload 5, 2) := by decide +kernel
theorem d7_22 : decode K7 22 = .ok (.putfield 20, 3) := by decide +kernel
theorem d7_25 : decode K7 25 = .ok (.aload_n 0, 1) := by decide +kernel
theorem d7_26 : decode K7 26 = .ok (.dload 7, 2) := by decide +kernel
theorem d7_28 : decode K7 28 = .ok (.putfield 23, 3) := by decide +kernel
theorem d7_31 : decode K7 31 = .ok (.aload_n 0, 1) := by decide +kernel
theorem d7_32 : decode K7 32 = .ok (.dload 9, 2) := by decide +kernel
theorem d7_34 : decode K7 34 = .ok (.putfield 26, 3) := by decide +kernel
theorem d7_37 : decode K7 37 = .ok (.return_, 1) := by decide +kernel
theorem pn_Network_Arc : plainName "com/example/lanewright/lanewright/Network$Arc" = true := by first | (simp [plainName, overriddenIn]; done) | decide +kernel
abbrev K20 : ByteArray := prog_30_method_5_code
theorem d20_0 : decode K20 0 = .ok (.aload_n 0, 1) := by decide +kernel
theorem d20_1 : decode K20 1 = .ok (.getfield 7, 3) := by decide +kernel
theorem d20_4 : decode K20 4 = .ok (.ireturn, 1) := by decide +kernel
abbrev K21 : ByteArray := prog_30_method_6_code
theorem d21_0 : decode K21 0 = .ok (.aload_n 0, 1) := by decide +kernel
theorem d21_1 : decode K21 1 = .ok (.getfield 13, 3) := by decide +kernel
theorem d21_4 : decode K21 4 = .ok (.ireturn, 1) := by decide +kernel
abbrev K22 : ByteArray := prog_30_method_7_code
theorem d22_0 : decode K22 0 = .ok (.aload_n 0, 1) := by decide +kernel
theorem d22_1 : decode K22 1 = .ok (.getfield 16, 3) := by decide +kernel
theorem d22_4 : decode K22 4 = .ok (.dreturn, 1) := by decide +kernel
abbrev K23 : ByteArray := prog_30_method_8_code
theorem d23_0 : decode K23 0 = .ok (.aload_n 0, 1) := by decide +kernel
theorem d23_1 : decode K23 1 = .ok (.getfield 20, 3) := by decide +kernel
theorem d23_4 : decode K23 4 = .ok (.dreturn, 1) := by decide +kernel
abbrev K24 : ByteArray := prog_30_method_9_code
theorem d24_0 : decode K24 0 = .ok (.aload_n 0, 1) := by decide +kernel
theorem d24_1 : decode K24 1 = .ok (.getfield 23, 3) := by decide +kernel
theorem d24_4 : decode K24 4 = .ok (.dreturn, 1) := by decide +kernel
abbrev K25 : ByteArray := prog_30_method_10_code
theorem d25_0 : decode K25 0 = .ok (.aload_n 0, 1) := by decide +kernel
theorem d25_1 : decode K25 1 = .ok (.getfield 26, 3) := by decide +kernel
theorem d25_4 : decode K25 4 = .ok (.dreturn, 1) := by decide +kernel
theorem la_Network {Z : State} {a0 : Array Value} (hw : ∀ d ∈ tables_1, d.before a0 Z = true) : LaidAll Z a0 "com/example/lanewright/lanewright/Network" [("com/example/lanewright/lanewright/Network", "nodeCount", "I", .int 0), ("com/example/lanewright/lanewright/Network", "firstThruNode", "I", .int 0), ("com/example/lanewright/lanewright/Network", "tails", "[I", .null), ("com/example/lanewright/lanewright/Network", "heads", "[I", .null), ("com/example/lanewright/lanewright/Network", "capacities", "[D", .null), ("com/example/lanewright/lanewright/Network", "freeFlowTimes", "[D", .null), ("com/example/lanewright/lanewright/Network", "bs", "[D", .null), ("com/example/lanewright/lanewright/Network", "powers", "[D", .null), ("com/example/lanewright/lanewright/Network", "firstOut", "[I", .null), ("com/example/lanewright/lanewright/Network", "outArcs", "[I", .null)] := LaidAll.cons (Or.inr (wd_99 hw)) (t := .int) (by decide) rfl (LaidAll.cons (Or.inr (wd_101 hw)) (t := .int) (by decide) rfl (LaidAll.cons (Or.inr (wd_112 hw)) (t := (.array .int)) (by decide) rfl (LaidAll.cons (Or.inr (wd_114 hw)) (t := (.array .int)) (by decide) rfl (LaidAll.cons (Or.inr (wd_116 hw)) (t := (.array .double)) (by decide) rfl (LaidAll.cons (Or.inr (wd_118 hw)) (t := (.array .double)) (by decide) rfl (LaidAll.cons (Or.inr (wd_120 hw)) (t := (.array .double)) (by decide) rfl (LaidAll.cons (Or.inr (wd_122 hw)) (t := (.array .double)) (by decide) rfl (LaidAll.cons (Or.inr (wd_124 hw)) (t := (.array .int)) (by decide) rfl (LaidAll.cons (Or.inr (wd_179 hw)) (t := (.array .int)) (by decide) rfl (LaidAll.nil))))))))))
abbrev fs_Network (v0 v1 v2 v3 v4 v5 v6 v7 v8 v9 : Value) : List FR := [("com/example/lanewright/lanewright/Network", "nodeCount", "I", v0), ("com/example/lanewright/lanewright/Network", "firstThruNode", "I", v1), ("com/example/lanewright/lanewright/Network", "tails", "[I", v2), ("com/example/lanewright/lanewright/Network", "heads", "[I", v3), ("com/example/lanewright/lanewright/Network", "capacities", "[D", v4), ("com/example/lanewright/lanewright/Network", "freeFlowTimes", "[D", v5), ("com/example/lanewright/lanewright/Network", "bs", "[D", v6), ("com/example/lanewright/lanewright/Network", "powers", "[D", v7), ("com/example/lanewright/lanewright/Network", "firstOut", "[I", v8), ("com/example/lanewright/lanewright/Network", "outArcs", "[I", v9)]
theorem ef_riir7 (m : MethodId) (x0 : Addr) (x1 : Int32) (x2 : Int32) (x3 : Addr) : entryFrame m #[.ref x0, .int x1, .int x2, .ref x3] 7 = mkF m 0 #[.val (.ref x0), .val (.int x1), .val (.int x2), .val (.ref x3), .unset, .unset, .unset] [] := by first | (simp [entryFrame, mkF, argsToLocals, Value.category, maxLocals]; done) | rfl
abbrev K14 : ByteArray := prog_29_method_1_code
theorem d14_0 : decode K14 0 = .ok (.aload_n 0, 1) := by decide +kernel
theorem d14_1 : decode K14 1 = .ok (.invokespecial 1, 3) := by decide +kernel
theorem d14_4 : decode K14 4 = .ok (.aload_n 0, 1) := by decide +kernel
theorem d14_5 : decode K14 5 = .ok (.iload_n 1, 1) := by decide +kernel
theorem d14_6 : decode K14 6 = .ok (.putfield 7, 3) := by decide +kernel
theorem d14_9 : decode K14 9 = .ok (.aload_n 0, 1) := by decide +kernel
theorem d14_10 : decode K14 10 = .ok (.iload_n 2, 1) := by decide +kernel
theorem d14_11 : decode K14 11 = .ok (.putfield 13, 3) := by decide +kernel
theorem d14_14 : decode K14 14 = .ok (.aload_n 3, 1) := by decide +kernel
theorem d14_15 : decode K14 15 = .ok (.invokeinterface 16 1, 5) := by decide +kernel
theorem pd_7 : parseMethodDescriptor "()I" = some ⟨[], some .int⟩ := by decide +kernel
theorem d14_20 : decode K14 20 = .ok (.istore 4, 2) := by decide +kernel
theorem d14_22 : decode K14 22 = .ok (.aload_n 0, 1) := by decide +kernel
theorem d14_23 : decode K14 23 = .ok (.iload 4, 2) := by decide +kernel
theorem d14_25 : decode K14 25 = .ok (.newarray .int, 2) := by decide +kernel
theorem d14_27 : decode K14 27 = .ok (.putfield 22, 3) := by decide +kernel
theorem d14_30 : decode K14 30 = .ok (.aload_n 0, 1) := by decide +kernel
theorem d14_31 : decode K14 31 = .ok (.iload 4, 2) := by decide +kernel
theorem d14_33 : decode K14 33 = .ok (.newarray .int, 2) := by decide +kernel
theorem d14_35 : decode K14 35 = .ok (.putfield 26, 3) := by decide +kernel
theorem d14_38 : decode K14 38 = .ok (.aload_n 0, 1) := by decide +kernel
theorem d14_39 : decode K14 39 = .ok (.iload 4, 2) := by decide +kernel
theorem d14_41 : decode K14 41 = .ok (.newarray .double, 2) := by decide +kernel
theorem d14_43 : decode K14 43 = .ok (.putfield 29, 3) := by decide +kernel
theorem d14_46 : decode K14 46 = .ok (.aload_n 0, 1) := by decide +kernel
theorem d14_47 : decode K14 47 = .ok (.iload 4, 2) := by decide +kernel
theorem d14_49 : decode K14 49 = .ok (.newarray .double, 2) := by decide +kernel
theorem d14_51 : decode K14 51 = .ok (.putfield 33, 3) := by decide +kernel
theorem d14_54 : decode K14 54 = .ok (.aload_n 0, 1) := by decide +kernel
theorem d14_55 : decode K14 55 = .ok (.iload 4, 2) := by decide +kernel
theorem d14_57 : decode K14 57 = .ok (.newarray .double, 2) := by decide +kernel
theorem d14_59 : decode K14 59 = .ok (.putfield 36, 3) := by decide +kernel
theorem d14_62 : decode K14 62 = .ok (.aload_n 0, 1) := by decide +kernel
theorem d14_63 : decode K14 63 = .ok (.iload 4, 2) := by decide +kernel
theorem d14_65 : decode K14 65 = .ok (.newarray .double, 2) := by decide +kernel
theorem d14_67 : decode K14 67 = .ok (.putfield 39, 3) := by decide +kernel
theorem d14_70 : decode K14 70 = .ok (.aload_n 0, 1) := by decide +kernel
theorem d14_71 : decode K14 71 = .ok (.iload_n 1, 1) := by decide +kernel
theorem d14_72 : decode K14 72 = .ok (.iconst 2, 1) := by decide +kernel
theorem d14_73 : decode K14 73 = .ok (.iadd, 1) := by decide +kernel
theorem d14_74 : decode K14 74 = .ok (.newarray .int, 2) := by decide +kernel
theorem d14_76 : decode K14 76 = .ok (.putfield 42, 3) := by decide +kernel
theorem d14_79 : decode K14 79 = .ok (.iconst 0, 1) := by decide +kernel
theorem d14_80 : decode K14 80 = .ok (.istore 5, 2) := by decide +kernel
theorem d14_82 : decode K14 82 = .ok (.iload 5, 2) := by decide +kernel
theorem d14_84 : decode K14 84 = .ok (.iload 4, 2) := by decide +kernel
theorem d14_86 : decode K14 86 = .ok (.if_icmp .ge 110, 3) := by decide +kernel
theorem d14_89 : decode K14 89 = .ok (.aload_n 3, 1) := by decide +kernel
theorem d14_90 : decode K14 90 = .ok (.iload 5, 2) := by decide +kernel
theorem d14_92 : decode K14 92 = .ok (.invokeinterface 45 2, 5) := by decide +kernel
theorem d14_97 : decode K14 97 = .ok (.checkcast 49, 3) := by decide +kernel
theorem d14_100 : decode K14 100 = .ok (.astore 6, 2) := by decide +kernel
theorem d14_102 : decode K14 102 = .ok (.aload_n 0, 1) := by decide +kernel
theorem d14_103 : decode K14 103 = .ok (.getfield 22, 3) := by decide +kernel
theorem d14_106 : decode K14 106 = .ok (.iload 5, 2) := by decide +kernel
theorem d14_108 : decode K14 108 = .ok (.aload 6, 2) := by decide +kernel
theorem d14_110 : decode K14 110 = .ok (.invokevirtual 51, 3) := by decide +kernel
theorem d14_113 : decode K14 113 = .ok (.iastore, 1) := by decide +kernel
theorem d14_114 : decode K14 114 = .ok (.aload_n 0, 1) := by decide +kernel
theorem d14_115 : decode K14 115 = .ok (.getfield 26, 3) := by decide +kernel
theorem d14_118 : decode K14 118 = .ok (.iload 5, 2) := by decide +kernel
theorem d14_120 : decode K14 120 = .ok (.aload 6, 2) := by decide +kernel
theorem d14_122 : decode K14 122 = .ok (.invokevirtual 54, 3) := by decide +kernel
theorem d14_125 : decode K14 125 = .ok (.iastore, 1) := by decide +kernel
theorem d14_126 : decode K14 126 = .ok (.aload_n 0, 1) := by decide +kernel
theorem d14_127 : decode K14 127 = .ok (.getfield 29, 3) := by decide +kernel
theorem d14_130 : decode K14 130 = .ok (.iload 5, 2) := by decide +kernel
theorem d14_132 : decode K14 132 = .ok (.aload 6, 2) := by decide +kernel
theorem d14_134 : decode K14 134 = .ok (.invokevirtual 57, 3) := by decide +kernel
theorem pd_8 : parseMethodDescriptor "()D" = some ⟨[], some .double⟩ := by decide +kernel
theorem d14_137 : decode K14 137 = .ok (.dastore, 1) := by decide +kernel
theorem d14_138 : decode K14 138 = .ok (.aload_n 0, 1) := by decide +kernel
theorem d14_139 : decode K14 139 = .ok (.getfield 33, 3) := by decide +kernel
theorem d14_142 : decode K14 142 = .ok (.iload 5, 2) := by decide +kernel
theorem d14_144 : decode K14 144 = .ok (.aload 6, 2) := by decide +kernel
theorem d14_146 : decode K14 146 = .ok (.invokevirtual 61, 3) := by decide +kernel
theorem d14_149 : decode K14 149 = .ok (.dastore, 1) := by decide +kernel
theorem d14_150 : decode K14 150 = .ok (.aload_n 0, 1) := by decide +kernel
theorem d14_151 : decode K14 151 = .ok (.getfield 36, 3) := by decide +kernel
theorem d14_154 : decode K14 154 = .ok (.iload 5, 2) := by decide +kernel
theorem d14_156 : decode K14 156 = .ok (.aload 6, 2) := by decide +kernel
theorem d14_158 : decode K14 158 = .ok (.invokevirtual 64, 3) := by decide +kernel
theorem d14_161 : decode K14 161 = .ok (.dastore, 1) := by decide +kernel
theorem d14_162 : decode K14 162 = .ok (.aload_n 0, 1) := by decide +kernel
theorem d14_163 : decode K14 163 = .ok (.getfield 39, 3) := by decide +kernel
theorem d14_166 : decode K14 166 = .ok (.iload 5, 2) := by decide +kernel
theorem d14_168 : decode K14 168 = .ok (.aload 6, 2) := by decide +kernel
theorem d14_170 : decode K14 170 = .ok (.invokevirtual 67, 3) := by decide +kernel
theorem d14_173 : decode K14 173 = .ok (.dastore, 1) := by decide +kernel
theorem d14_174 : decode K14 174 = .ok (.aload_n 0, 1) := by decide +kernel
theorem d14_175 : decode K14 175 = .ok (.getfield 42, 3) := by decide +kernel
theorem d14_178 : decode K14 178 = .ok (.aload 6, 2) := by decide +kernel
theorem d14_180 : decode K14 180 = .ok (.invokevirtual 51, 3) := by decide +kernel
theorem d14_183 : decode K14 183 = .ok (.iconst 1, 1) := by decide +kernel
theorem d14_184 : decode K14 184 = .ok (.iadd, 1) := by decide +kernel
theorem d14_185 : decode K14 185 = .ok (.dup2, 1) := by decide +kernel
theorem d14_186 : decode K14 186 = .ok (.iaload, 1) := by decide +kernel
theorem d14_187 : decode K14 187 = .ok (.iconst 1, 1) := by decide +kernel
theorem d14_188 : decode K14 188 = .ok (.iadd, 1) := by decide +kernel
theorem d14_189 : decode K14 189 = .ok (.iastore, 1) := by decide +kernel
theorem d14_190 : decode K14 190 = .ok (.iinc 5 1, 3) := by decide +kernel
theorem d14_193 : decode K14 193 = .ok (.goto (-111), 3) := by decide +kernel
theorem d14_196 : decode K14 196 = .ok (.iconst 1, 1) := by decide +kernel
theorem d14_197 : decode K14 197 = .ok (.istore 5, 2) := by decide +kernel
theorem d14_199 : decode K14 199 = .ok (.iload 5, 2) := by decide +kernel
theorem d14_201 : decode K14 201 = .ok (.iload_n 1, 1) := by decide +kernel
theorem d14_202 : decode K14 202 = .ok (.if_icmp .gt 28, 3) := by decide +kernel
theorem d14_205 : decode K14 205 = .ok (.aload_n 0, 1) := by decide +kernel
theorem d14_206 : decode K14 206 = .ok (.getfield 42, 3) := by decide +kernel
theorem d14_209 : decode K14 209 = .ok (.iload 5, 2) := by decide +kernel
theorem d14_211 : decode K14 211 = .ok (.iconst 1, 1) := by decide +kernel
theorem d14_212 : decode K14 212 = .ok (.iadd, 1) := by decide +kernel
theorem d14_213 : decode K14 213 = .ok (.dup2, 1) := by decide +kernel
theorem d14_214 : decode K14 214 = .ok (.iaload, 1) := by decide +kernel
theorem d14_215 : decode K14 215 = .ok (.aload_n 0, 1) := by decide +kernel
theorem d14_216 : decode K14 216 = .ok (.getfield 42, 3) := by decide +kernel
theorem d14_219 : decode K14 219 = .ok (.iload 5, 2) := by decide +kernel
theorem d14_221 : decode K14 221 = .ok (.iaload, 1) := by decide +kernel
theorem d14_222 : decode K14 222 = .ok (.iadd, 1) := by decide +kernel
theorem d14_223 : decode K14 223 = .ok (.iastore, 1) := by decide +kernel
theorem d14_224 : decode K14 224 = .ok (.iinc 5 1, 3) := by decide +kernel
theorem d14_227 : decode K14 227 = .ok (.goto (-28), 3) := by decide +kernel
theorem d14_230 : decode K14 230 = .ok (.aload_n 0, 1) := by decide +kernel
theorem d14_231 : decode K14 231 = .ok (.iload 4, 2) := by decide +kernel
theorem d14_233 : decode K14 233 = .ok (.newarray .int, 2) := by decide +kernel
theorem d14_235 : decode K14 235 = .ok (.putfield 70, 3) := by decide +kernel
theorem d14_238 : decode K14 238 = .ok (.aload_n 0, 1) := by decide +kernel
theorem d14_239 : decode K14 239 = .ok (.getfield 42, 3) := by decide +kernel
theorem d14_242 : decode K14 242 = .ok (.invokevirtual 73, 3) := by decide +kernel
theorem d14_245 : decode K14 245 = .ok (.checkcast 74, 3) := by decide +kernel
theorem d14_248 : decode K14 248 = .ok (.astore 5, 2) := by decide +kernel
theorem d14_250 : decode K14 250 = .ok (.iconst 0, 1) := by decide +kernel
theorem d14_251 : decode K14 251 = .ok (.istore 6, 2) := by decide +kernel
theorem d14_253 : decode K14 253 = .ok (.iload 6, 2) := by decide +kernel
theorem d14_255 : decode K14 255 = .ok (.iload 4, 2) := by decide +kernel
theorem d14_257 : decode K14 257 = .ok (.if_icmp .ge 31, 3) := by decide +kernel
theorem d14_260 : decode K14 260 = .ok (.aload_n 0, 1) := by decide +kernel
theorem d14_261 : decode K14 261 = .ok (.getfield 70, 3) := by decide +kernel
theorem d14_264 : decode K14 264 = .ok (.aload 5, 2) := by decide +kernel
theorem d14_266 : decode K14 266 = .ok (.aload_n 0, 1) := by decide +kernel
theorem d14_267 : decode K14 267 = .ok (.getfield 22, 3) := by decide +kernel
theorem d14_270 : decode K14 270 = .ok (.iload 6, 2) := by decide +kernel
theorem d14_272 : decode K14 272 = .ok (.iaload, 1) := by decide +kernel
theorem d14_273 : decode K14 273 = .ok (.dup2, 1) := by decide +kernel
theorem d14_274 : decode K14 274 = .ok (.iaload, 1) := by decide +kernel
theorem d14_275 : decode K14 275 = .ok (.dup_x2, 1) := by decide +kernel
theorem d14_276 : decode K14 276 = .ok (.iconst 1, 1) := by decide +kernel
theorem d14_277 : decode K14 277 = .ok (.iadd, 1) := by decide +kernel
theorem d14_278 : decode K14 278 = .ok (.iastore, 1) := by decide +kernel
theorem d14_279 : decode K14 279 = .ok (.iload 6, 2) := by decide +kernel
theorem d14_281 : decode K14 281 = .ok (.iastore, 1) := by decide +kernel
theorem d14_282 : decode K14 282 = .ok (.iinc 6 1, 3) := by decide +kernel
theorem d14_285 : decode K14 285 = .ok (.goto (-32), 3) := by decide +kernel
theorem d14_288 : decode K14 288 = .ok (.return_, 1) := by decide +kernel
theorem pn_Network : plainName "com/example/lanewright/lanewright/Network" = true := by first | (simp [plainName, overriddenIn]; done) | decide +kernel
theorem la_ShortestPathTree {Z : State} {a0 : Array Value} (hw : ∀ d ∈ tables_1, d.before a0 Z = true) : LaidAll Z a0 "com/example/lanewright/lanewright/ShortestPathTree" [("com/example/lanewright/lanewright/ShortestPathTree", "network", "Lcom/example/lanewright/lanewright/Network;", .null), ("com/example/lanewright/lanewright/ShortestPathTree", "distance", "[D", .null), ("com/example/lanewright/lanewright/ShortestPathTree", "predecessorArc", "[I", .null), ("com/example/lanewright/lanewright/ShortestPathTree", "heap", "[I", .null), ("com/example/lanewright/lanewright/ShortestPathTree", "position", "[I", .null), ("com/example/lanewright/lanewright/ShortestPathTree", "heapSize", "I", .int 0)] := LaidAll.cons (Or.inr (wd_197 hw)) (t := (.object "com/example/lanewright/lanewright/Network")) (by decide) rfl (LaidAll.cons (Or.inr (wd_204 hw)) (t := (.array .double)) (by decide) rfl (LaidAll.cons (Or.inr (wd_206 hw)) (t := (.array .int)) (by decide) rfl (LaidAll.cons (Or.inr (wd_208 hw)) (t := (.array .int)) (by decide) rfl (LaidAll.cons (Or.inr (wd_210 hw)) (t := (.array .int)) (by decide) rfl (LaidAll.cons (Or.inl (wd_225 hw)) (t := .int) (by decide) rfl (LaidAll.nil))))))
abbrev fs_ShortestPathTree (v0 v1 v2 v3 v4 v5 : Value) : List FR := [("com/example/lanewright/lanewright/ShortestPathTree", "network", "Lcom/example/lanewright/lanewright/Network;", v0), ("com/example/lanewright/lanewright/ShortestPathTree", "distance", "[D", v1), ("com/example/lanewright/lanewright/ShortestPathTree", "predecessorArc", "[I", v2), ("com/example/lanewright/lanewright/ShortestPathTree", "heap", "[I", v3), ("com/example/lanewright/lanewright/ShortestPathTree", "position", "[I", v4), ("com/example/lanewright/lanewright/ShortestPathTree", "heapSize", "I", v5)]
abbrev K32 : ByteArray := prog_57_method_8_code
theorem d32_0 : decode K32 0 = .ok (.aload_n 0, 1) := by decide +kernel
theorem d32_1 : decode K32 1 = .ok (.getfield 27, 3) := by decide +kernel
theorem d32_4 : decode K32 4 = .ok (.iload_n 1, 1) := by decide +kernel
theorem d32_5 : decode K32 5 = .ok (.iaload, 1) := by decide +kernel
theorem d32_6 : decode K32 6 = .ok (.istore_n 2, 1) := by decide +kernel
theorem d32_7 : decode K32 7 = .ok (.iload_n 1, 1) := by decide +kernel
theorem d32_8 : decode K32 8 = .ok (.ifCond .le 62, 3) := by decide +kernel
theorem d32_70 : decode K32 70 = .ok (.aload_n 0, 1) := by decide +kernel
theorem d32_71 : decode K32 71 = .ok (.getfield 27, 3) := by decide +kernel
theorem d32_74 : decode K32 74 = .ok (.iload_n 1, 1) := by decide +kernel
theorem d32_75 : decode K32 75 = .ok (.iload_n 2, 1) := by decide +kernel
theorem d32_76 : decode K32 76 = .ok (.iastore, 1) := by decide +kernel
theorem d32_77 : decode K32 77 = .ok (.aload_n 0, 1) := by decide +kernel
theorem d32_78 : decode K32 78 = .ok (.getfield 30, 3) := by decide +kernel
theorem d32_81 : decode K32 81 = .ok (.iload_n 2, 1) := by decide +kernel
theorem d32_82 : decode K32 82 = .ok (.iload_n 1, 1) := by decide +kernel
theorem d32_83 : decode K32 83 = .ok (.iastore, 1) := by decide +kernel
theorem d32_84 : decode K32 84 = .ok (.return_, 1) := by decide +kernel
theorem pn_ShortestPathTree : plainName "com/example/lanewright/lanewright/ShortestPathTree" = true := by first | (simp [plainName, overriddenIn]; done) | decide +kernel
theorem d32_11 : decode K32 11 = .ok (.iload_n 1, 1) := by decide +kernel
theorem d32_12 : decode K32 12 = .ok (.iconst 1, 1) := by decide +kernel
theorem d32_13 : decode K32 13 = .ok (.isub, 1) := by decide +kernel
theorem d32_14 : decode K32 14 = .ok (.iconst 2, 1) := by decide +kernel
theorem d32_15 : decode K32 15 = .ok (.idiv, 1) := by decide +kernel
theorem d32_16 : decode K32 16 = .ok (.istore_n 3, 1) := by decide +kernel
theorem d32_17 : decode K32 17 = .ok (.aload_n 0, 1) := by decide +kernel
theorem d32_18 : decode K32 18 = .ok (.getfield 19, 3) := by decide +kernel
theorem d32_21 : decode K32 21 = .ok (.aload_n 0, 1) := by decide +kernel
theorem d32_22 : decode K32 22 = .ok (.getfield 27, 3) := by decide +kernel
theorem d32_25 : decode K32 25 = .ok (.iload_n 3, 1) := by decide +kernel
theorem d32_26 : decode K32 26 = .ok (.iaload, 1) := by decide +kernel
theorem d32_27 : decode K32 27 = .ok (.daload, 1) := by decide +kernel
theorem d32_28 : decode K32 28 = .ok (.aload_n 0, 1) := by decide +kernel
theorem d32_29 : decode K32 29 = .ok (.getfield 19, 3) := by decide +kernel
theorem d32_32 : decode K32 32 = .ok (.iload_n 2, 1) := by decide +kernel
theorem d32_33 : decode K32 33 = .ok (.daload, 1) := by decide +kernel
theorem d32_34 : decode K32 34 = .ok (.dcmp .g, 1) := by decide +kernel
theorem d32_35 : decode K32 35 = .ok (.ifCond .gt 6, 3) := by decide +kernel
theorem d32_41 : decode K32 41 = .ok (.aload_n 0, 1) := by decide +kernel
theorem d32_42 : decode K32 42 = .ok (.getfield 27, 3) := by decide +kernel
theorem d32_45 : decode K32 45 = .ok (.iload_n 1, 1) := by decide +kernel
theorem d32_46 : decode K32 46 = .ok (.aload_n 0, 1) := by decide +kernel
theorem d32_47 : decode K32 47 = .ok (.getfield 27, 3) := by decide +kernel
theorem d32_50 : decode K32 50 = .ok (.iload_n 3, 1) := by decide +kernel
theorem d32_51 : decode K32 51 = .ok (.iaload, 1) := by decide +kernel
theorem d32_52 : decode K32 52 = .ok (.iastore, 1) := by decide +kernel
theorem d32_53 : decode K32 53 = .ok (.aload_n 0, 1) := by decide +kernel
theorem d32_54 : decode K32 54 = .ok (.getfield 30, 3) := by decide +kernel
theorem d32_57 : decode K32 57 = .ok (.aload_n 0, 1) := by decide +kernel
theorem d32_58 : decode K32 58 = .ok (.getfield 27, 3) := by decide +kernel
theorem d32_61 : decode K32 61 = .ok (.iload_n 1, 1) := by decide +kernel
theorem d32_62 : decode K32 62 = .ok (.iaload, 1) := by decide +kernel
theorem d32_63 : decode K32 63 = .ok (.iload_n 1, 1) := by decide +kernel
theorem d32_64 : decode K32 64 = .ok (.iastore, 1) := by decide +kernel
theorem d32_65 : decode K32 65 = .ok (.iload_n 3, 1) := by decide +kernel
theorem d32_66 : decode K32 66 = .ok (.istore_n 1, 1) := by decide +kernel
theorem d32_67 : decode K32 67 = .ok (.goto (-60), 3) := by decide +kernel
theorem d32_38 : decode K32 38 = .ok (.goto 32, 3) := by decide +kernel
abbrev K42 : ByteArray := prog_57_method_9_code
theorem d42_0 : decode K42 0 = .ok (.aload_n 0, 1) := by decide +kernel
theorem d42_1 : decode K42 1 = .ok (.getfield 27, 3) := by decide +kernel
theorem d42_4 : decode K42 4 = .ok (.iload_n 1, 1) := by decide +kernel
theorem d42_5 : decode K42 5 = .ok (.iaload, 1) := by decide +kernel
theorem d42_6 : decode K42 6 = .ok (.istore_n 2, 1) := by decide +kernel
theorem d42_7 : decode K42 7 = .ok (.iconst 2, 1) := by decide +kernel
theorem d42_8 : decode K42 8 = .ok (.iload_n 1, 1) := by decide +kernel
theorem d42_9 : decode K42 9 = .ok (.imul, 1) := by decide +kernel
theorem d42_10 : decode K42 10 = .ok (.iconst 1, 1) := by decide +kernel
theorem d42_11 : decode K42 11 = .ok (.iadd, 1) := by decide +kernel
theorem d42_12 : decode K42 12 = .ok (.istore_n 3, 1) := by decide +kernel
theorem d42_13 : decode K42 13 = .ok (.iload_n 3, 1) := by decide +kernel
theorem d42_14 : decode K42 14 = .ok (.aload_n 0, 1) := by decide +kernel
theorem d42_15 : decode K42 15 = .ok (.getfield 46, 3) := by decide +kernel
theorem d42_18 : decode K42 18 = .ok (.if_icmp .lt 6, 3) := by decide +kernel
theorem d42_21 : decode K42 21 = .ok (.goto 97, 3) := by decide +kernel
theorem d42_118 : decode K42 118 = .ok (.aload_n 0, 1) := by decide +kernel
theorem d42_119 : decode K42 119 = .ok (.getfield 27, 3) := by decide +kernel
theorem d42_122 : decode K42 122 = .ok (.iload_n 1, 1) := by decide +kernel
theorem d42_123 : decode K42 123 = .ok (.iload_n 2, 1) := by decide +kernel
theorem d42_124 : decode K42 124 = .ok (.iastore, 1) := by decide +kernel
theorem d42_125 : decode K42 125 = .ok (.aload_n 0, 1) := by decide +kernel
theorem d42_126 : decode K42 126 = .ok (.getfield 30, 3) := by decide +kernel
theorem d42_129 : decode K42 129 = .ok (.iload_n 2, 1) := by decide +kernel
theorem d42_130 : decode K42 130 = .ok (.iload_n 1, 1) := by decide +kernel
theorem d42_131 : decode K42 131 = .ok (.iastore, 1) := by decide +kernel
theorem d42_132 : decode K42 132 = .ok (.return_, 1) := by decide +kernel
theorem d42_24 : decode K42 24 = .ok (.iload_n 3, 1) := by decide +kernel
theorem d42_25 : decode K42 25 = .ok (.iconst 1, 1) := by decide +kernel
theorem d42_26 : decode K42 26 = .ok (.iadd, 1) := by decide +kernel
theorem d42_27 : decode K42 27 = .ok (.aload_n 0, 1) := by decide +kernel
theorem d42_28 : decode K42 28 = .ok (.getfield 46, 3) := by decide +kernel
theorem d42_31 : decode K42 31 = .ok (.if_icmp .ge 34, 3) := by decide +kernel
theorem d42_65 : decode K42 65 = .ok (.aload_n 0, 1) := by decide +kernel
theorem d42_66 : decode K42 66 = .ok (.getfield 19, 3) := by decide +kernel
theorem d42_69 : decode K42 69 = .ok (.iload_n 2, 1) := by decide +kernel
theorem d42_70 : decode K42 70 = .ok (.daload, 1) := by decide +kernel
theorem d42_71 : decode K42 71 = .ok (.aload_n 0, 1) := by decide +kernel
theorem d42_72 : decode K42 72 = .ok (.getfield 19, 3) := by decide +kernel
theorem d42_75 : decode K42 75 = .ok (.aload_n 0, 1) := by decide +kernel
theorem d42_76 : decode K42 76 = .ok (.getfield 27, 3) := by decide +kernel
theorem d42_79 : decode K42 79 = .ok (.iload_n 3, 1) := by decide +kernel
theorem d42_80 : decode K42 80 = .ok (.iaload, 1) := by decide +kernel
theorem d42_81 : decode K42 81 = .ok (.daload, 1) := by decide +kernel
theorem d42_82 : decode K42 82 = .ok (.dcmp .g, 1) := by decide +kernel
theorem d42_83 : decode K42 83 = .ok (.ifCond .gt 6, 3) := by decide +kernel
theorem d42_89 : decode K42 89 = .ok (.aload_n 0, 1) := by decide +kernel
theorem d42_90 : decode K42 90 = .ok (.getfield 27, 3) := by decide +kernel
theorem d42_93 : decode K42 93 = .ok (.iload_n 1, 1) := by decide +kernel
theorem d42_94 : decode K42 94 = .ok (.aload_n 0, 1) := by decide +kernel
theorem d42_95 : decode K42 95 = .ok (.getfield 27, 3) := by decide +kernel
theorem d42_98 : decode K42 98 = .ok (.iload_n 3, 1) := by decide +kernel
theorem d42_99 : decode K42 99 = .ok (.iaload, 1) := by decide +kernel
theorem d42_100 : decode K42 100 = .ok (.iastore, 1) := by decide +kernel
theorem d42_101 : decode K42 101 = .ok (.aload_n 0, 1) := by decide +kernel
theorem d42_102 : decode K42 102 = .ok (.getfield 30, 3) := by decide +kernel
theorem d42_105 : decode K42 105 = .ok (.aload_n 0, 1) := by decide +kernel
theorem d42_106 : decode K42 106 = .ok (.getfield 27, 3) := by decide +kernel
theorem d42_109 : decode K42 109 = .ok (.iload_n 1, 1) := by decide +kernel
theorem d42_110 : decode K42 110 = .ok (.iaload, 1) := by decide +kernel
theorem d42_111 : decode K42 111 = .ok (.iload_n 1, 1) := by decide +kernel
theorem d42_112 : decode K42 112 = .ok (.iastore, 1) := by decide +kernel
theorem d42_113 : decode K42 113 = .ok (.iload_n 3, 1) := by decide +kernel
theorem d42_114 : decode K42 114 = .ok (.istore_n 1, 1) := by decide +kernel
theorem d42_115 : decode K42 115 = .ok (.goto (-108), 3) := by decide +kernel
theorem d42_86 : decode K42 86 = .ok (.goto 32, 3) := by decide +kernel
abbrev K31 : ByteArray := prog_57_method_6_code
theorem d31_0 : decode K31 0 = .ok (.aload_n 0, 1) := by decide +kernel
theorem d31_1 : decode K31 1 = .ok (.getfield 27, 3) := by decide +kernel
theorem d31_4 : decode K31 4 = .ok (.aload_n 0, 1) := by decide +kernel
theorem d31_5 : decode K31 5 = .ok (.getfield 46, 3) := by decide +kernel
theorem d31_8 : decode K31 8 = .ok (.iload_n 1, 1) := by decide +kernel
theorem d31_9 : decode K31 9 = .ok (.iastore, 1) := by decide +kernel
theorem d31_10 : decode K31 10 = .ok (.aload_n 0, 1) := by decide +kernel
theorem d31_11 : decode K31 11 = .ok (.getfield 30, 3) := by decide +kernel
theorem d31_14 : decode K31 14 = .ok (.iload_n 1, 1) := by decide +kernel
theorem d31_15 : decode K31 15 = .ok (.aload_n 0, 1) := by decide +kernel
theorem d31_16 : decode K31 16 = .ok (.getfield 46, 3) := by decide +kernel
theorem d31_19 : decode K31 19 = .ok (.iastore, 1) := by decide +kernel
theorem d31_20 : decode K31 20 = .ok (.aload_n 0, 1) := by decide +kernel
theorem d31_21 : decode K31 21 = .ok (.dup, 1) := by decide +kernel
theorem d31_22 : decode K31 22 = .ok (.getfield 46, 3) := by decide +kernel
theorem d31_25 : decode K31 25 = .ok (.iconst 1, 1) := by decide +kernel
theorem d31_26 : decode K31 26 = .ok (.iadd, 1) := by decide +kernel
theorem d31_27 : decode K31 27 = .ok (.putfield 46, 3) := by decide +kernel
theorem d31_30 : decode K31 30 = .ok (.aload_n 0, 1) := by decide +kernel
theorem d31_31 : decode K31 31 = .ok (.aload_n 0, 1) := by decide +kernel
theorem d31_32 : decode K31 32 = .ok (.getfield 46, 3) := by decide +kernel
theorem d31_35 : decode K31 35 = .ok (.iconst 1, 1) := by decide +kernel
theorem d31_36 : decode K31 36 = .ok (.isub, 1) := by decide +kernel
theorem d31_37 : decode K31 37 = .ok (.invokevirtual 73, 3) := by decide +kernel
theorem pd_9 : parseMethodDescriptor "(I)V" = some ⟨[.int], none⟩ := by decide +kernel
theorem d31_40 : decode K31 40 = .ok (.return_, 1) := by decide +kernel
theorem ef_r2 (m : MethodId) (x0 : Addr) : entryFrame m #[.ref x0] 2 = mkF m 0 #[.val (.ref x0), .unset] [] := by first | (simp [entryFrame, mkF, argsToLocals, Value.category, maxLocals]; done) | rfl
abbrev K33 : ByteArray := prog_57_method_7_code
theorem d33_0 : decode K33 0 = .ok (.aload_n 0, 1) := by decide +kernel
theorem d33_1 : decode K33 1 = .ok (.getfield 27, 3) := by decide +kernel
theorem d33_4 : decode K33 4 = .ok (.iconst 0, 1) := by decide +kernel
theorem d33_5 : decode K33 5 = .ok (.iaload, 1) := by decide +kernel
theorem d33_6 : decode K33 6 = .ok (.istore_n 1, 1) := by decide +kernel
theorem d33_7 : decode K33 7 = .ok (.aload_n 0, 1) := by decide +kernel
theorem d33_8 : decode K33 8 = .ok (.getfield 30, 3) := by decide +kernel
theorem d33_11 : decode K33 11 = .ok (.iload_n 1, 1) := by decide +kernel
theorem d33_12 : decode K33 12 = .ok (.iconst (-1), 1) := by decide +kernel
theorem d33_13 : decode K33 13 = .ok (.iastore, 1) := by decide +kernel
theorem d33_14 : decode K33 14 = .ok (.aload_n 0, 1) := by decide +kernel
theorem d33_15 : decode K33 15 = .ok (.dup, 1) := by decide +kernel
theorem d33_16 : decode K33 16 = .ok (.getfield 46, 3) := by decide +kernel
theorem d33_19 : decode K33 19 = .ok (.iconst 1, 1) := by decide +kernel
theorem d33_20 : decode K33 20 = .ok (.isub, 1) := by decide +kernel
theorem d33_21 : decode K33 21 = .ok (.putfield 46, 3) := by decide +kernel
theorem d33_24 : decode K33 24 = .ok (.aload_n 0, 1) := by decide +kernel
theorem d33_25 : decode K33 25 = .ok (.getfield 46, 3) := by decide +kernel
theorem d33_28 : decode K33 28 = .ok (.ifCond .le 35, 3) := by decide +kernel
theorem d33_63 : decode K33 63 = .ok (.iload_n 1, 1) := by decide +kernel
theorem d33_64 : decode K33 64 = .ok (.ireturn, 1) := by decide +kernel
theorem d33_31 : decode K33 31 = .ok (.aload_n 0, 1) := by decide +kernel
theorem d33_32 : decode K33 32 = .ok (.getfield 27, 3) := by decide +kernel
theorem d33_35 : decode K33 35 = .ok (.iconst 0, 1) := by decide +kernel
theorem d33_36 : decode K33 36 = .ok (.aload_n 0, 1) := by decide +kernel
theorem d33_37 : decode K33 37 = .ok (.getfield 27, 3) := by decide +kernel
theorem d33_40 : decode K33 40 = .ok (.aload_n 0, 1) := by decide +kernel
theorem d33_41 : decode K33 41 = .ok (.getfield 46, 3) := by decide +kernel
theorem d33_44 : decode K33 44 = .ok (.iaload, 1) := by decide +kernel
theorem d33_45 : decode K33 45 = .ok (.iastore, 1) := by decide +kernel
theorem d33_46 : decode K33 46 = .ok (.aload_n 0, 1) := by decide +kernel
theorem d33_47 : decode K33 47 = .ok (.getfield 30, 3) := by decide +kernel
theorem d33_50 : decode K33 50 = .ok (.aload_n 0, 1) := by decide +kernel
theorem d33_51 : decode K33 51 = .ok (.getfield 27, 3) := by decide +kernel
theorem d33_54 : decode K33 54 = .ok (.iconst 0, 1) := by decide +kernel
theorem d33_55 : decode K33 55 = .ok (.iaload, 1) := by decide +kernel
theorem d33_56 : decode K33 56 = .ok (.iconst 0, 1) := by decide +kernel
theorem d33_57 : decode K33 57 = .ok (.iastore, 1) := by decide +kernel
theorem d33_58 : decode K33 58 = .ok (.aload_n 0, 1) := by decide +kernel
theorem d33_59 : decode K33 59 = .ok (.iconst 0, 1) := by decide +kernel
theorem d33_60 : decode K33 60 = .ok (.invokevirtual 79, 3) := by decide +kernel
abbrev K39 : ByteArray := prog_29_method_3_code
theorem d39_0 : decode K39 0 = .ok (.aload_n 0, 1) := by decide +kernel
theorem d39_1 : decode K39 1 = .ok (.getfield 13, 3) := by decide +kernel
theorem d39_4 : decode K39 4 = .ok (.ireturn, 1) := by decide +kernel
abbrev K27 : ByteArray := prog_29_method_2_code
theorem d27_0 : decode K27 0 = .ok (.aload_n 0, 1) := by decide +kernel
theorem d27_1 : decode K27 1 = .ok (.getfield 7, 3) := by decide +kernel
theorem d27_4 : decode K27 4 = .ok (.ireturn, 1) := by decide +kernel
abbrev K34 : ByteArray := prog_29_method_8_code
theorem d34_0 : decode K34 0 = .ok (.aload_n 0, 1) := by decide +kernel
theorem d34_1 : decode K34 1 = .ok (.getfield 42, 3) := by decide +kernel
theorem d34_4 : decode K34 4 = .ok (.iload_n 1, 1) := by decide +kernel
theorem d34_5 : decode K34 5 = .ok (.iaload, 1) := by decide +kernel
theorem d34_6 : decode K34 6 = .ok (.ireturn, 1) := by decide +kernel
abbrev K35 : ByteArray := prog_29_method_9_code
theorem d35_0 : decode K35 0 = .ok (.aload_n 0, 1) := by decide +kernel
theorem d35_1 : decode K35 1 = .ok (.getfield 42, 3) := by decide +kernel
theorem d35_4 : decode K35 4 = .ok (.iload_n 1, 1) := by decide +kernel
theorem d35_5 : decode K35 5 = .ok (.iconst 1, 1) := by decide +kernel
theorem d35_6 : decode K35 6 = .ok (.iadd, 1) := by decide +kernel
theorem d35_7 : decode K35 7 = .ok (.iaload, 1) := by decide +kernel
theorem d35_8 : decode K35 8 = .ok (.ireturn, 1) := by decide +kernel
abbrev K37 : ByteArray := prog_29_method_10_code
theorem d37_0 : decode K37 0 = .ok (.aload_n 0, 1) := by decide +kernel
theorem d37_1 : decode K37 1 = .ok (.getfield 70, 3) := by decide +kernel
theorem d37_4 : decode K37 4 = .ok (.iload_n 1, 1) := by decide +kernel
theorem d37_5 : decode K37 5 = .ok (.iaload, 1) := by decide +kernel
theorem d37_6 : decode K37 6 = .ok (.ireturn, 1) := by decide +kernel
abbrev K38 : ByteArray := prog_29_method_6_code
theorem d38_0 : decode K38 0 = .ok (.aload_n 0, 1) := by decide +kernel
theorem d38_1 : decode K38 1 = .ok (.getfield 26, 3) := by decide +kernel
theorem d38_4 : decode K38 4 = .ok (.iload_n 1, 1) := by decide +kernel
theorem d38_5 : decode K38 5 = .ok (.iaload, 1) := by decide +kernel
theorem d38_6 : decode K38 6 = .ok (.ireturn, 1) := by decide +kernel
abbrev K43 : ByteArray := prog_29_method_5_code
theorem d43_0 : decode K43 0 = .ok (.aload_n 0, 1) := by decide +kernel
theorem d43_1 : decode K43 1 = .ok (.getfield 22, 3) := by decide +kernel
theorem d43_4 : decode K43 4 = .ok (.iload_n 1, 1) := by decide +kernel
theorem d43_5 : decode K43 5 = .ok (.iaload, 1) := by decide +kernel
theorem d43_6 : decode K43 6 = .ok (.ireturn, 1) := by decide +kernel
abbrev K36 : ByteArray := prog_57_method_3_code
theorem d36_0 : decode K36 0 = .ok (.aload_n 0, 1) := by decide +kernel
theorem d36_1 : decode K36 1 = .ok (.getfield 19, 3) := by decide +kernel
theorem d36_4 : decode K36 4 = .ok (.iload_n 1, 1) := by decide +kernel
theorem d36_5 : decode K36 5 = .ok (.daload, 1) := by decide +kernel
theorem d36_6 : decode K36 6 = .ok (.dreturn, 1) := by decide +kernel
theorem ef_rr3 (m : MethodId) (x0 : Addr) (x1 : Addr) : entryFrame m #[.ref x0, .ref x1] 3 = mkF m 0 #[.val (.ref x0), .val (.ref x1), .unset] [] := by first | (simp [entryFrame, mkF, argsToLocals, Value.category, maxLocals]; done) | rfl
abbrev K26 : ByteArray := prog_57_method_1_code
theorem d26_0 : decode K26 0 = .ok (.aload_n 0, 1) := by decide +kernel
theorem d26_1 : decode K26 1 = .ok (.invokespecial 1, 3) := by decide +kernel
theorem d26_4 : decode K26 4 = .ok (.aload_n 0, 1) := by decide +kernel
theorem d26_5 : decode K26 5 = .ok (.aload_n 1, 1) := by decide +kernel
theorem d26_6 : decode K26 6 = .ok (.putfield 7, 3) := by decide +kernel
theorem d26_9 : decode K26 9 = .ok (.aload_n 1, 1) := by decide +kernel
theorem d26_10 : decode K26 10 = .ok (.invokevirtual 13, 3) := by decide +kernel
theorem d26_13 : decode K26 13 = .ok (.iconst 1, 1) := by decide +kernel
theorem d26_14 : decode K26 14 = .ok (.iadd, 1) := by decide +kernel
theorem d26_15 : decode K26 15 = .ok (.istore_n 2, 1) := by decide +kernel
theorem d26_16 : decode K26 16 = .ok (.aload_n 0, 1) := by decide +kernel
theorem d26_17 : decode K26 17 = .ok (.iload_n 2, 1) := by decide +kernel
theorem d26_18 : decode K26 18 = .ok (.newarray .double, 2) := by decide +kernel
theorem d26_20 : decode K26 20 = .ok (.putfield 19, 3) := by decide +kernel
theorem d26_23 : decode K26 23 = .ok (.aload_n 0, 1) := by decide +kernel
theorem d26_24 : decode K26 24 = .ok (.iload_n 2, 1) := by decide +kernel
theorem d26_25 : decode K26 25 = .ok (.newarray .int, 2) := by decide +kernel
theorem d26_27 : decode K26 27 = .ok (.putfield 23, 3) := by decide +kernel
theorem d26_30 : decode K26 30 = .ok (.aload_n 0, 1) := by decide +kernel
theorem d26_31 : decode K26 31 = .ok (.iload_n 2, 1) := by decide +kernel
theorem d26_32 : decode K26 32 = .ok (.newarray .int, 2) := by decide +kernel
theorem d26_34 : decode K26 34 = .ok (.putfield 27, 3) := by decide +kernel
theorem d26_37 : decode K26 37 = .ok (.aload_n 0, 1) := by decide +kernel
theorem d26_38 : decode K26 38 = .ok (.iload_n 2, 1) := by decide +kernel
theorem d26_39 : decode K26 39 = .ok (.newarray .int, 2) := by decide +kernel
theorem d26_41 : decode K26 41 = .ok (.putfield 30, 3) := by decide +kernel
theorem d26_44 : decode K26 44 = .ok (.return_, 1) := by decide +kernel
theorem ef_rd5 (m : MethodId) (x0 : Addr) (x1 : UInt64) : entryFrame m #[.ref x0, .double x1] 5 = mkF m 0 #[.val (.ref x0), .val (.double x1), .second, .unset, .unset] [] := by first | (simp [entryFrame, mkF, argsToLocals, Value.category, maxLocals]; done) | rfl
abbrev K29 : ByteArray := jdk_65_method_113_code
theorem d29_0 : decode K29 0 = .ok (.iconst 0, 1) := by decide +kernel
theorem d29_1 : decode K29 1 = .ok (.istore_n 3, 1) := by decide +kernel
theorem d29_2 : decode K29 2 = .ok (.aload_n 0, 1) := by decide +kernel
theorem d29_3 : decode K29 3 = .ok (.arraylength, 1) := by decide +kernel
theorem d29_4 : decode K29 4 = .ok (.istore 4, 2) := by decide +kernel
theorem d29_6 : decode K29 6 = .ok (.iload_n 3, 1) := by decide +kernel
theorem d29_7 : decode K29 7 = .ok (.iload 4, 2) := by decide +kernel
theorem d29_9 : decode K29 9 = .ok (.if_icmp .ge 13, 3) := by decide +kernel
theorem d29_12 : decode K29 12 = .ok (.aload_n 0, 1) := by decide +kernel
theorem d29_13 : decode K29 13 = .ok (.iload_n 3, 1) := by decide +kernel
theorem d29_14 : decode K29 14 = .ok (.dload_n 1, 1) := by decide +kernel
theorem d29_15 : decode K29 15 = .ok (.dastore, 1) := by decide +kernel
theorem d29_16 : decode K29 16 = .ok (.iinc 3 1, 3) := by decide +kernel
theorem d29_19 : decode K29 19 = .ok (.goto (-13), 3) := by decide +kernel
theorem d29_22 : decode K29 22 = .ok (.return_, 1) := by decide +kernel
theorem pf_29 : plainFor ⟨"java/util/Arrays", "fill", "([DD)V"⟩ = true := by first | exact plainFor_of_name (by first | (simp [plainName, overriddenIn]; done) | decide +kernel) | decide +kernel
abbrev K30 : ByteArray := jdk_65_method_103_code
theorem d30_0 : decode K30 0 = .ok (.iconst 0, 1) := by decide +kernel
theorem d30_1 : decode K30 1 = .ok (.istore_n 2, 1) := by decide +kernel
theorem d30_2 : decode K30 2 = .ok (.aload_n 0, 1) := by decide +kernel
theorem d30_3 : decode K30 3 = .ok (.arraylength, 1) := by decide +kernel
theorem d30_4 : decode K30 4 = .ok (.istore_n 3, 1) := by decide +kernel
theorem d30_5 : decode K30 5 = .ok (.iload_n 2, 1) := by decide +kernel
theorem d30_6 : decode K30 6 = .ok (.iload_n 3, 1) := by decide +kernel
theorem d30_7 : decode K30 7 = .ok (.if_icmp .ge 13, 3) := by decide +kernel
theorem d30_10 : decode K30 10 = .ok (.aload_n 0, 1) := by decide +kernel
theorem d30_11 : decode K30 11 = .ok (.iload_n 2, 1) := by decide +kernel
theorem d30_12 : decode K30 12 = .ok (.iload_n 1, 1) := by decide +kernel
theorem d30_13 : decode K30 13 = .ok (.iastore, 1) := by decide +kernel
theorem d30_14 : decode K30 14 = .ok (.iinc 2 1, 3) := by decide +kernel
theorem d30_17 : decode K30 17 = .ok (.goto (-12), 3) := by decide +kernel
theorem d30_20 : decode K30 20 = .ok (.return_, 1) := by decide +kernel
theorem pf_30 : plainFor ⟨"java/util/Arrays", "fill", "([II)V"⟩ = true := by first | exact plainFor_of_name (by first | (simp [plainName, overriddenIn]; done) | decide +kernel) | decide +kernel
abbrev K28 : ByteArray := prog_57_method_2_code
theorem d28_84 : decode K28 84 = .ok (.iload 4, 2) := by decide +kernel
theorem d28_86 : decode K28 86 = .ok (.aload_n 0, 1) := by decide +kernel
theorem d28_87 : decode K28 87 = .ok (.getfield 7, 3) := by decide +kernel
theorem d28_90 : decode K28 90 = .ok (.iload_n 3, 1) := by decide +kernel
theorem d28_91 : decode K28 91 = .ok (.invokevirtual 64, 3) := by decide +kernel
theorem pd_10 : parseMethodDescriptor "(I)I" = some ⟨[.int], some .int⟩ := by decide +kernel
theorem d28_94 : decode K28 94 = .ok (.if_icmp .ge 105, 3) := by decide +kernel
theorem d28_199 : decode K28 199 = .ok (.goto (-156), 3) := by decide +kernel
theorem d28_97 : decode K28 97 = .ok (.aload_n 0, 1) := by decide +kernel
theorem d28_98 : decode K28 98 = .ok (.getfield 7, 3) := by decide +kernel
theorem d28_101 : decode K28 101 = .ok (.iload 4, 2) := by decide +kernel
theorem d28_103 : decode K28 103 = .ok (.invokevirtual 67, 3) := by decide +kernel
theorem d28_106 : decode K28 106 = .ok (.istore 5, 2) := by decide +kernel
theorem d28_108 : decode K28 108 = .ok (.aload_n 0, 1) := by decide +kernel
theorem d28_109 : decode K28 109 = .ok (.getfield 7, 3) := by decide +kernel
theorem d28_112 : decode K28 112 = .ok (.iload 5, 2) := by decide +kernel
theorem d28_114 : decode K28 114 = .ok (.invokevirtual 70, 3) := by decide +kernel
theorem d28_117 : decode K28 117 = .ok (.istore 6, 2) := by decide +kernel
theorem d28_119 : decode K28 119 = .ok (.aload_n 0, 1) := by decide +kernel
theorem d28_120 : decode K28 120 = .ok (.getfield 19, 3) := by decide +kernel
theorem d28_123 : decode K28 123 = .ok (.iload_n 3, 1) := by decide +kernel
theorem d28_124 : decode K28 124 = .ok (.daload, 1) := by decide +kernel
theorem d28_125 : decode K28 125 = .ok (.aload_n 2, 1) := by decide +kernel
theorem d28_126 : decode K28 126 = .ok (.iload 5, 2) := by decide +kernel
theorem d28_128 : decode K28 128 = .ok (.daload, 1) := by decide +kernel
theorem d28_129 : decode K28 129 = .ok (.dadd, 1) := by decide +kernel
theorem d28_130 : decode K28 130 = .ok (.dstore 7, 2) := by decide +kernel
theorem d28_132 : decode K28 132 = .ok (.dload 7, 2) := by decide +kernel
theorem d28_134 : decode K28 134 = .ok (.aload_n 0, 1) := by decide +kernel
theorem d28_135 : decode K28 135 = .ok (.getfield 19, 3) := by decide +kernel
theorem d28_138 : decode K28 138 = .ok (.iload 6, 2) := by decide +kernel
theorem d28_140 : decode K28 140 = .ok (.daload, 1) := by decide +kernel
theorem d28_141 : decode K28 141 = .ok (.dcmp .g, 1) := by decide +kernel
theorem d28_142 : decode K28 142 = .ok (.ifCond .ge 51, 3) := by decide +kernel
theorem d28_193 : decode K28 193 = .ok (.iinc 4 1, 3) := by decide +kernel
theorem d28_196 : decode K28 196 = .ok (.goto (-112), 3) := by decide +kernel
theorem d28_145 : decode K28 145 = .ok (.aload_n 0, 1) := by decide +kernel
theorem d28_146 : decode K28 146 = .ok (.getfield 19, 3) := by decide +kernel
theorem d28_149 : decode K28 149 = .ok (.iload 6, 2) := by decide +kernel
theorem d28_151 : decode K28 151 = .ok (.dload 7, 2) := by decide +kernel
theorem d28_153 : decode K28 153 = .ok (.dastore, 1) := by decide +kernel
theorem d28_154 : decode K28 154 = .ok (.aload_n 0, 1) := by decide +kernel
theorem d28_155 : decode K28 155 = .ok (.getfield 23, 3) := by decide +kernel
theorem d28_158 : decode K28 158 = .ok (.iload 6, 2) := by decide +kernel
theorem d28_160 : decode K28 160 = .ok (.iload 5, 2) := by decide +kernel
theorem d28_162 : decode K28 162 = .ok (.iastore, 1) := by decide +kernel
theorem d28_163 : decode K28 163 = .ok (.aload_n 0, 1) := by decide +kernel
theorem d28_164 : decode K28 164 = .ok (.getfield 30, 3) := by decide +kernel
theorem d28_167 : decode K28 167 = .ok (.iload 6, 2) := by decide +kernel
theorem d28_169 : decode K28 169 = .ok (.iaload, 1) := by decide +kernel
theorem d28_170 : decode K28 170 = .ok (.ifCond .ge 12, 3) := by decide +kernel
theorem d28_182 : decode K28 182 = .ok (.aload_n 0, 1) := by decide +kernel
theorem d28_183 : decode K28 183 = .ok (.aload_n 0, 1) := by decide +kernel
theorem d28_184 : decode K28 184 = .ok (.getfield 30, 3) := by decide +kernel
theorem d28_187 : decode K28 187 = .ok (.iload 6, 2) := by decide +kernel
theorem d28_189 : decode K28 189 = .ok (.iaload, 1) := by decide +kernel
theorem d28_190 : decode K28 190 = .ok (.invokevirtual 73, 3) := by decide +kernel
theorem d28_173 : decode K28 173 = .ok (.aload_n 0, 1) := by decide +kernel
theorem d28_174 : decode K28 174 = .ok (.iload 6, 2) := by decide +kernel
theorem d28_176 : decode K28 176 = .ok (.invokevirtual 50, 3) := by decide +kernel
theorem d28_179 : decode K28 179 = .ok (.goto 14, 3) := by decide +kernel
theorem d28_43 : decode K28 43 = .ok (.aload_n 0, 1) := by decide +kernel
theorem d28_44 : decode K28 44 = .ok (.getfield 46, 3) := by decide +kernel
theorem d28_47 : decode K28 47 = .ok (.ifCond .le 155, 3) := by decide +kernel
theorem d28_202 : decode K28 202 = .ok (.return_, 1) := by decide +kernel
theorem d28_50 : decode K28 50 = .ok (.aload_n 0, 1) := by decide +kernel
theorem d28_51 : decode K28 51 = .ok (.invokevirtual 54, 3) := by decide +kernel
theorem d28_54 : decode K28 54 = .ok (.istore_n 3, 1) := by decide +kernel
theorem d28_55 : decode K28 55 = .ok (.iload_n 3, 1) := by decide +kernel
theorem d28_56 : decode K28 56 = .ok (.iload_n 1, 1) := by decide +kernel
theorem d28_57 : decode K28 57 = .ok (.if_icmp .eq 17, 3) := by decide +kernel
theorem d28_74 : decode K28 74 = .ok (.aload_n 0, 1) := by decide +kernel
theorem d28_75 : decode K28 75 = .ok (.getfield 7, 3) := by decide +kernel
theorem d28_78 : decode K28 78 = .ok (.iload_n 3, 1) := by decide +kernel
theorem d28_79 : decode K28 79 = .ok (.invokevirtual 60, 3) := by decide +kernel
theorem d28_82 : decode K28 82 = .ok (.istore 4, 2) := by decide +kernel
theorem d28_60 : decode K28 60 = .ok (.iload_n 3, 1) := by decide +kernel
theorem d28_61 : decode K28 61 = .ok (.aload_n 0, 1) := by decide +kernel
theorem d28_62 : decode K28 62 = .ok (.getfield 7, 3) := by decide +kernel
theorem d28_65 : decode K28 65 = .ok (.invokevirtual 57, 3) := by decide +kernel
theorem d28_68 : decode K28 68 = .ok (.if_icmp .ge 6, 3) := by decide +kernel
theorem d28_71 : decode K28 71 = .ok (.goto (-28), 3) := by decide +kernel
theorem ef_rir9 (m : MethodId) (x0 : Addr) (x1 : Int32) (x2 : Addr) : entryFrame m #[.ref x0, .int x1, .ref x2] 9 = mkF m 0 #[.val (.ref x0), .val (.int x1), .val (.ref x2), .unset, .unset, .unset, .unset, .unset, .unset] [] := by first | (simp [entryFrame, mkF, argsToLocals, Value.category, maxLocals]; done) | rfl
theorem d28_0 : decode K28 0 = .ok (.aload_n 0, 1) := by decide +kernel
theorem d28_1 : decode K28 1 = .ok (.getfield 19, 3) := by decide +kernel
theorem d28_4 : decode K28 4 = .ok (.ldc2_w 35, 3) := by decide +kernel
theorem d28_7 : decode K28 7 = .ok (.invokestatic 37, 3) := by decide +kernel
theorem pd_11 : parseMethodDescriptor "([DD)V" = some ⟨[(.array .double), .double], none⟩ := by decide +kernel
theorem d28_10 : decode K28 10 = .ok (.aload_n 0, 1) := by decide +kernel
theorem d28_11 : decode K28 11 = .ok (.getfield 23, 3) := by decide +kernel
theorem d28_14 : decode K28 14 = .ok (.iconst (-1), 1) := by decide +kernel
theorem d28_15 : decode K28 15 = .ok (.invokestatic 43, 3) := by decide +kernel
theorem pd_12 : parseMethodDescriptor "([II)V" = some ⟨[(.array .int), .int], none⟩ := by decide +kernel
theorem d28_18 : decode K28 18 = .ok (.aload_n 0, 1) := by decide +kernel
theorem d28_19 : decode K28 19 = .ok (.getfield 30, 3) := by decide +kernel
theorem d28_22 : decode K28 22 = .ok (.iconst (-1), 1) := by decide +kernel
theorem d28_23 : decode K28 23 = .ok (.invokestatic 43, 3) := by decide +kernel
theorem d28_26 : decode K28 26 = .ok (.aload_n 0, 1) := by decide +kernel
theorem d28_27 : decode K28 27 = .ok (.iconst 0, 1) := by decide +kernel
theorem d28_28 : decode K28 28 = .ok (.putfield 46, 3) := by decide +kernel
theorem d28_31 : decode K28 31 = .ok (.aload_n 0, 1) := by decide +kernel
theorem d28_32 : decode K28 32 = .ok (.getfield 19, 3) := by decide +kernel
theorem d28_35 : decode K28 35 = .ok (.iload_n 1, 1) := by decide +kernel
theorem d28_36 : decode K28 36 = .ok (.dconst 0, 1) := by decide +kernel
theorem d28_37 : decode K28 37 = .ok (.dastore, 1) := by decide +kernel
theorem d28_38 : decode K28 38 = .ok (.aload_n 0, 1) := by decide +kernel
theorem d28_39 : decode K28 39 = .ok (.iload_n 1, 1) := by decide +kernel
theorem d28_40 : decode K28 40 = .ok (.invokevirtual 50, 3) := by decide +kernel
abbrev K1 : ByteArray := method_2_code
theorem d1_0 : decode K1 0 = .ok (.iload_n 0, 1) := by decide +kernel
theorem d1_1 : decode K1 1 = .ok (.iconst 4, 1) := by decide +kernel
theorem d1_2 : decode K1 2 = .ok (.iload_n 1, 1) := by decide +kernel
theorem d1_3 : decode K1 3 = .ok (.imul, 1) := by decide +kernel
theorem d1_4 : decode K1 4 = .ok (.iushr, 1) := by decide +kernel
theorem d1_5 : decode K1 5 = .ok (.iconst 3, 1) := by decide +kernel
theorem d1_6 : decode K1 6 = .ok (.iand, 1) := by decide +kernel
theorem d1_7 : decode K1 7 = .ok (.iconst 1, 1) := by decide +kernel
theorem d1_8 : decode K1 8 = .ok (.iadd, 1) := by decide +kernel
theorem d1_9 : decode K1 9 = .ok (.ireturn, 1) := by decide +kernel
theorem pn_ShortestPathTreeRoutePinLaw : plainName "com/example/lanewright/lanewright/ShortestPathTreeRoutePinLaw" = true := by first | (simp [plainName, overriddenIn]; done) | decide +kernel
abbrev K2 : ByteArray := method_3_code
theorem d2_0 : decode K2 0 = .ok (.iload_n 0, 1) := by decide +kernel
theorem d2_1 : decode K2 1 = .ok (.iconst 4, 1) := by decide +kernel
theorem d2_2 : decode K2 2 = .ok (.iload_n 1, 1) := by decide +kernel
theorem d2_3 : decode K2 3 = .ok (.imul, 1) := by decide +kernel
theorem d2_4 : decode K2 4 = .ok (.iconst 2, 1) := by decide +kernel
theorem d2_5 : decode K2 5 = .ok (.iadd, 1) := by decide +kernel
theorem d2_6 : decode K2 6 = .ok (.iushr, 1) := by decide +kernel
theorem d2_7 : decode K2 7 = .ok (.iconst 3, 1) := by decide +kernel
theorem d2_8 : decode K2 8 = .ok (.iand, 1) := by decide +kernel
theorem d2_9 : decode K2 9 = .ok (.iconst 1, 1) := by decide +kernel
theorem d2_10 : decode K2 10 = .ok (.iadd, 1) := by decide +kernel
theorem d2_11 : decode K2 11 = .ok (.ireturn, 1) := by decide +kernel
theorem ef_i1 (m : MethodId) (x0 : Int32) : entryFrame m #[.int x0] 1 = mkF m 0 #[.val (.int x0)] [] := by first | (simp [entryFrame, mkF, argsToLocals, Value.category, maxLocals]; done) | rfl
abbrev K44 : ByteArray := method_4_code
theorem d44_0 : decode K44 0 = .ok (.iload_n 0, 1) := by decide +kernel
theorem d44_1 : decode K44 1 = .ok (.ifCond .lt 12, 3) := by decide +kernel
theorem d44_4 : decode K44 4 = .ok (.iload_n 0, 1) := by decide +kernel
theorem d44_5 : decode K44 5 = .ok (.iconst 3, 1) := by decide +kernel
theorem d44_6 : decode K44 6 = .ok (.if_icmp .gt 7, 3) := by decide +kernel
theorem d44_9 : decode K44 9 = .ok (.iconst 1, 1) := by decide +kernel
theorem d44_10 : decode K44 10 = .ok (.goto 4, 3) := by decide +kernel
theorem d44_14 : decode K44 14 = .ok (.ireturn, 1) := by decide +kernel
theorem ef_ri6 (m : MethodId) (x0 : Addr) (x1 : Int32) : entryFrame m #[.ref x0, .int x1] 6 = mkF m 0 #[.val (.ref x0), .val (.int x1), .unset, .unset, .unset, .unset] [] := by first | (simp [entryFrame, mkF, argsToLocals, Value.category, maxLocals]; done) | rfl
abbrev K40 : ByteArray := prog_57_method_4_code
theorem d40_0 : decode K40 0 = .ok (.iconst 0, 1) := by decide +kernel
theorem d40_1 : decode K40 1 = .ok (.istore_n 2, 1) := by decide +kernel
theorem d40_2 : decode K40 2 = .ok (.iload_n 1, 1) := by decide +kernel
theorem d40_3 : decode K40 3 = .ok (.istore_n 3, 1) := by decide +kernel
theorem d40_4 : decode K40 4 = .ok (.aload_n 0, 1) := by decide +kernel
theorem d40_5 : decode K40 5 = .ok (.getfield 23, 3) := by decide +kernel
theorem d40_8 : decode K40 8 = .ok (.iload_n 3, 1) := by decide +kernel
theorem d40_9 : decode K40 9 = .ok (.iaload, 1) := by decide +kernel
theorem d40_10 : decode K40 10 = .ok (.iconst (-1), 1) := by decide +kernel
theorem d40_11 : decode K40 11 = .ok (.if_icmp .eq 23, 3) := by decide +kernel
theorem d40_34 : decode K40 34 = .ok (.iload_n 2, 1) := by decide +kernel
theorem d40_35 : decode K40 35 = .ok (.newarray .int, 2) := by decide +kernel
theorem d40_37 : decode K40 37 = .ok (.astore_n 3, 1) := by decide +kernel
theorem d40_38 : decode K40 38 = .ok (.iload_n 1, 1) := by decide +kernel
theorem d40_39 : decode K40 39 = .ok (.istore 4, 2) := by decide +kernel
theorem d40_41 : decode K40 41 = .ok (.iload_n 2, 1) := by decide +kernel
theorem d40_42 : decode K40 42 = .ok (.iconst 1, 1) := by decide +kernel
theorem d40_43 : decode K40 43 = .ok (.isub, 1) := by decide +kernel
theorem d40_44 : decode K40 44 = .ok (.istore 5, 2) := by decide +kernel
theorem d40_46 : decode K40 46 = .ok (.iload 5, 2) := by decide +kernel
theorem d40_48 : decode K40 48 = .ok (.ifCond .lt 33, 3) := by decide +kernel
theorem d40_81 : decode K40 81 = .ok (.aload_n 3, 1) := by decide +kernel
theorem d40_82 : decode K40 82 = .ok (.areturn, 1) := by decide +kernel
theorem ef_rir5 (m : MethodId) (x0 : Addr) (x1 : Int32) (x2 : Addr) : entryFrame m #[.ref x0, .int x1, .ref x2] 5 = mkF m 0 #[.val (.ref x0), .val (.int x1), .val (.ref x2), .unset, .unset] [] := by first | (simp [entryFrame, mkF, argsToLocals, Value.category, maxLocals]; done) | rfl
abbrev K41 : ByteArray := prog_57_method_5_code
theorem d41_0 : decode K41 0 = .ok (.iload_n 1, 1) := by decide +kernel
theorem d41_1 : decode K41 1 = .ok (.istore_n 3, 1) := by decide +kernel
theorem d41_2 : decode K41 2 = .ok (.aload_n 2, 1) := by decide +kernel
theorem d41_3 : decode K41 3 = .ok (.arraylength, 1) := by decide +kernel
theorem d41_4 : decode K41 4 = .ok (.iconst 1, 1) := by decide +kernel
theorem d41_5 : decode K41 5 = .ok (.isub, 1) := by decide +kernel
theorem d41_6 : decode K41 6 = .ok (.istore 4, 2) := by decide +kernel
theorem d41_8 : decode K41 8 = .ok (.iload 4, 2) := by decide +kernel
theorem d41_10 : decode K41 10 = .ok (.ifCond .lt 36, 3) := by decide +kernel
theorem d41_46 : decode K41 46 = .ok (.aload_n 0, 1) := by decide +kernel
theorem d41_47 : decode K41 47 = .ok (.getfield 23, 3) := by decide +kernel
theorem d41_50 : decode K41 50 = .ok (.iload_n 3, 1) := by decide +kernel
theorem d41_51 : decode K41 51 = .ok (.iaload, 1) := by decide +kernel
theorem d41_52 : decode K41 52 = .ok (.iconst (-1), 1) := by decide +kernel
theorem d41_53 : decode K41 53 = .ok (.if_icmp .ne 7, 3) := by decide +kernel
theorem d41_56 : decode K41 56 = .ok (.iconst 1, 1) := by decide +kernel
theorem d41_57 : decode K41 57 = .ok (.goto 4, 3) := by decide +kernel
theorem d41_61 : decode K41 61 = .ok (.ireturn, 1) := by decide +kernel
theorem d40_14 : decode K40 14 = .ok (.iinc 2 1, 3) := by decide +kernel
theorem d40_17 : decode K40 17 = .ok (.aload_n 0, 1) := by decide +kernel
theorem d40_18 : decode K40 18 = .ok (.getfield 7, 3) := by decide +kernel
theorem d40_21 : decode K40 21 = .ok (.aload_n 0, 1) := by decide +kernel
theorem d40_22 : decode K40 22 = .ok (.getfield 23, 3) := by decide +kernel
theorem d40_25 : decode K40 25 = .ok (.iload_n 3, 1) := by decide +kernel
theorem d40_26 : decode K40 26 = .ok (.iaload, 1) := by decide +kernel
theorem d40_27 : decode K40 27 = .ok (.invokevirtual 76, 3) := by decide +kernel
theorem d40_30 : decode K40 30 = .ok (.istore_n 3, 1) := by decide +kernel
theorem d40_31 : decode K40 31 = .ok (.goto (-27), 3) := by decide +kernel
theorem d40_51 : decode K40 51 = .ok (.aload_n 3, 1) := by decide +kernel
theorem d40_52 : decode K40 52 = .ok (.iload 5, 2) := by decide +kernel
theorem d40_54 : decode K40 54 = .ok (.aload_n 0, 1) := by decide +kernel
theorem d40_55 : decode K40 55 = .ok (.getfield 23, 3) := by decide +kernel
theorem d40_58 : decode K40 58 = .ok (.iload 4, 2) := by decide +kernel
theorem d40_60 : decode K40 60 = .ok (.iaload, 1) := by decide +kernel
theorem d40_61 : decode K40 61 = .ok (.iastore, 1) := by decide +kernel
theorem d40_62 : decode K40 62 = .ok (.aload_n 0, 1) := by decide +kernel
theorem d40_63 : decode K40 63 = .ok (.getfield 7, 3) := by decide +kernel
theorem d40_66 : decode K40 66 = .ok (.aload_n 3, 1) := by decide +kernel
theorem d40_67 : decode K40 67 = .ok (.iload 5, 2) := by decide +kernel
theorem d40_69 : decode K40 69 = .ok (.iaload, 1) := by decide +kernel
theorem d40_70 : decode K40 70 = .ok (.invokevirtual 76, 3) := by decide +kernel
theorem d40_73 : decode K40 73 = .ok (.istore 4, 2) := by decide +kernel
theorem d40_75 : decode K40 75 = .ok (.iinc 5 (-1), 3) := by decide +kernel
theorem d40_78 : decode K40 78 = .ok (.goto (-32), 3) := by decide +kernel
theorem d41_13 : decode K41 13 = .ok (.aload_n 0, 1) := by decide +kernel
theorem d41_14 : decode K41 14 = .ok (.getfield 23, 3) := by decide +kernel
theorem d41_17 : decode K41 17 = .ok (.iload_n 3, 1) := by decide +kernel
theorem d41_18 : decode K41 18 = .ok (.iaload, 1) := by decide +kernel
theorem d41_19 : decode K41 19 = .ok (.aload_n 2, 1) := by decide +kernel
theorem d41_20 : decode K41 20 = .ok (.iload 4, 2) := by decide +kernel
theorem d41_22 : decode K41 22 = .ok (.iaload, 1) := by decide +kernel
theorem d41_23 : decode K41 23 = .ok (.if_icmp .eq 5, 3) := by decide +kernel
theorem d41_28 : decode K41 28 = .ok (.aload_n 0, 1) := by decide +kernel
theorem d41_29 : decode K41 29 = .ok (.getfield 7, 3) := by decide +kernel
theorem d41_32 : decode K41 32 = .ok (.aload_n 2, 1) := by decide +kernel
theorem d41_33 : decode K41 33 = .ok (.iload 4, 2) := by decide +kernel
theorem d41_35 : decode K41 35 = .ok (.iaload, 1) := by decide +kernel
theorem d41_36 : decode K41 36 = .ok (.invokevirtual 76, 3) := by decide +kernel
theorem d41_39 : decode K41 39 = .ok (.istore_n 3, 1) := by decide +kernel
theorem d41_40 : decode K41 40 = .ok (.iinc 4 (-1), 3) := by decide +kernel
theorem d41_43 : decode K41 43 = .ok (.goto (-35), 3) := by decide +kernel
theorem ef_0 (m : MethodId) (x0 : Int32) (x1 : Int32) (x2 : Int32) (x3 : Int32) (x4 : Int32) : entryFrame m #[.int x0, .int x1, .int x2, .int x3, .int x4] maxLocals = mkF m 0 #[.val (.int x0), .val (.int x1), .val (.int x2), .val (.int x3), .val (.int x4), .unset, .unset, .unset, .unset, .unset, .unset, .unset, .unset, .unset, .unset, .unset, .unset, .unset, .unset, .unset, .unset] [] := by first | (simp [entryFrame, mkF, argsToLocals, Value.category, maxLocals]; done) | rfl
theorem pd_13 : parseMethodDescriptor "(IIDDDD)V" = some ⟨[.int, .int, .double, .double, .double, .double], none⟩ := by decide +kernel
theorem pd_14 : parseMethodDescriptor "(Ljava/lang/Object;)Z" = some ⟨[(.object "java/lang/Object")], some .boolean⟩ := by decide +kernel
theorem pd_15 : parseMethodDescriptor "(IILjava/util/List;)V" = some ⟨[.int, .int, (.object "java/util/List")], none⟩ := by decide +kernel
theorem pd_16 : parseMethodDescriptor "(Lcom/example/lanewright/lanewright/Network;)V" = some ⟨[(.object "com/example/lanewright/lanewright/Network")], none⟩ := by decide +kernel
theorem pd_17 : parseMethodDescriptor "(I[D)V" = some ⟨[.int, (.array .double)], none⟩ := by decide +kernel
theorem pd_18 : parseMethodDescriptor "(I)D" = some ⟨[.int], some .double⟩ := by decide +kernel
theorem pd_19 : parseMethodDescriptor "(I)[I" = some ⟨[.int], some (.array .int)⟩ := by decide +kernel
theorem pd_20 : parseMethodDescriptor "(I[I)Z" = some ⟨[.int, (.array .int)], some .boolean⟩ := by decide +kernel
theorem pd_21 : parseMethodDescriptor "(I)Z" = some ⟨[.int], some .boolean⟩ := by decide +kernel
theorem c_ac (l : Launch) (Z : State) (a0 : Array Value) (hw : ∀ d ∈ tables_1, d.before a0 Z = true) (n0 : Nat) (a : Addr) (h0 : Heap) (F : List HRow) (H00 : Hp Z n0 h0 F) :
    Con l Z n0 ⟨"java/util/AbstractCollection", "<init>", "()V"⟩ [] jdk_22_method_1_code 1 none ({ frames := 1, cells := 0, slots := 0, locals := 12 } : Room) #[.ref a] h0 (fun v h => v = none ∧ Hp Z n0 h F) := by
  refine con_of pf_5 ?_
  intro p e s m below meth c T0 W0 e0
  subst e0
  have H0 := H00
  refine g_cast (ef_r1 m a) ?_
  refine g_aloadN W0 d5_0 (pc' := 1) rfl rfl rfl ?_
  refine g_initO W0 (wd_28 hw) (wd_29 hw) (wd_30 hw) H0 rfl d5_1 (pc' := 4) rfl (by decide) (Wn := 0) (Nat.le_of_eq rfl) (by decide) ?_
  intro T1 W1 H1
  exact g_return W1 d5_4 ⟨rfl, H1⟩ (by decide) (by decide)
theorem c_abl (l : Launch) (Z : State) (a0 : Array Value) (hw : ∀ d ∈ tables_1, d.before a0 Z = true) (n0 : Nat) (a : Addr) (h0 : Heap) (F : List HRow) (H00 : Hp Z n0 h0 ((a, ObC Z "java/util/ArrayList" (fs_ArrayList (.int (0 : Int32)) .null (.int (0 : Int32)))) :: F)) :
    Con l Z n0 ⟨"java/util/AbstractList", "<init>", "()V"⟩ [] jdk_39_method_1_code 1 none ({ frames := 2, cells := 0, slots := 0, locals := 24 } : Room) #[.ref a] h0 (fun v h => v = none ∧ Hp Z n0 h ((a, ObC Z "java/util/ArrayList" (fs_ArrayList (.int (0 : Int32)) .null (.int (0 : Int32)))) :: F)) := by
  refine con_of pf_4 ?_
  intro p e s m below meth c T0 W0 e0
  subst e0
  have H0 := H00
  refine g_cast (ef_r1 m a) ?_
  refine g_aloadN W0 d4_0 (pc' := 1) rfl rfl rfl ?_
  refine g_callI W0 (argsL := []) (st := []) rfl (wd_22 hw) (wd_23 hw) (wd_26 hw) (wd_27 hw) (by decide) (a := a) (c_ac l Z a0 hw n0 a _ _ H0) pd_0 rfl rfl rfl d4_1 (pc' := 4) rfl (by decide) (Wn := 0) (Nat.le_of_eq rfl) (by decide) (kc' := 0) (ks' := 0) rfl rfl (by decide) (by decide) ?_
  intro T1 v1 W1 hp1
  obtain ⟨rfl, H1⟩ := hp1
  show Goes _ _ _ _ (State.setTop _ (mkF _ _ _ []))
  refine g_aloadN W1 d4_4 (pc' := 5) rfl rfl rfl ?_
  refine g_iconst W1 d4_5 (pc' := 6) rfl (v := (0 : Int32)) (by decide) ?_
  refine g_putf W1 (wd_31 hw) Via.refl (Or.inl (wd_32 hw)) (wd_11 hw) (ty := .int) (by decide) rfl rfl H1 (i := 0) rfl (jx := 0) rfl d4_6 (pc' := 9) rfl (L' := ((a, ObC Z "java/util/ArrayList" (fs_ArrayList (.int (0 : Int32)) .null (.int (0 : Int32)))) :: F)) rfl ?_
  intro T2 W2 H2
  exact g_return W2 d4_9 ⟨rfl, H2⟩ (by decide) (by decide)
theorem c_alini (l : Launch) (Z : State) (a0 : Array Value) (hw : ∀ d ∈ tables_1, d.before a0 Z = true) (n0 : Nat) (de : Addr) (dc : Cell) (hD : Sta Z Z.heap "java/util/ArrayList" "DEFAULTCAPACITY_EMPTY_ELEMENTDATA" "[Ljava/lang/Object;" (.ref de)) (hA : Arr Z Z.heap de dc (.object "java/lang/Object")) (hA0 : dc.slots.size.toInt32 = 0) (a : Addr) (h0 : Heap) (F : List HRow) (H00 : Hp Z n0 h0 ((a, ObC Z "java/util/ArrayList" (fs_ArrayList (.int (0 : Int32)) .null (.int (0 : Int32)))) :: F)) :
    Con l Z n0 ⟨"java/util/ArrayList", "<init>", "()V"⟩ [] jdk_38_method_2_code 1 none ({ frames := 3, cells := 0, slots := 0, locals := 36 } : Room) #[.ref a] h0 (fun v h => v = none ∧ Hp Z n0 h ((a, ObC Z "java/util/ArrayList" (fs_ArrayList (.int (0 : Int32)) (.ref de) (.int (0 : Int32)))) :: F)) := by
  refine con_of pf_3 ?_
  intro p e s m below meth c T0 W0 e0
  subst e0
  have H0 := H00
  refine g_cast (ef_r1 m a) ?_
  refine g_aloadN W0 d3_0 (pc' := 1) rfl rfl rfl ?_
  refine g_callI W0 (argsL := []) (st := []) rfl (wd_16 hw) (wd_17 hw) (wd_20 hw) (wd_21 hw) (by decide) (a := a) (c_abl l Z a0 hw n0 a _ _ H0) pd_0 rfl rfl rfl d3_1 (pc' := 4) rfl (by decide) (Wn := 0) (Nat.le_of_eq rfl) (by decide) (kc' := 0) (ks' := 0) rfl rfl (by decide) (by decide) ?_
  intro T1 v1 W1 hp1
  obtain ⟨rfl, H1⟩ := hp1
  show Goes _ _ _ _ (State.setTop _ (mkF _ _ _ []))
  refine g_aloadN W1 d3_4 (pc' := 5) rfl rfl rfl ?_
  refine g_getS W1 (wd_33 hw) Via.refl hD H1 d3_5 (pc' := 8) rfl ?_
  intro T2 W2 _ H2
  refine g_putf W2 (wd_34 hw) Via.refl (Or.inl (wd_35 hw)) (wd_11 hw) (ty := (.array (.object "java/lang/Object"))) (by decide) rfl rfl H2 (i := 0) rfl (jx := 1) rfl d3_8 (pc' := 11) rfl (L' := ((a, ObC Z "java/util/ArrayList" (fs_ArrayList (.int (0 : Int32)) (.ref de) (.int (0 : Int32)))) :: F)) rfl ?_
  intro T3 W3 H3
  exact g_return W3 d3_11 ⟨rfl, H3⟩ (by decide) (by decide)
theorem c_max (l : Launch) (Z : State) (a0 : Array Value) (hw : ∀ d ∈ tables_1, d.before a0 Z = true) (n0 : Nat)  (h0 : Heap) (F : List HRow) (H00 : Hp Z n0 h0 F) :
    Con l Z n0 ⟨"java/lang/Math", "max", "(II)I"⟩ [] jdk_29_method_65_code 2 (some .int) ({ frames := 0, cells := 0, slots := 0, locals := 0 } : Room) #[.int (10 : Int32), .int (1 : Int32)] h0 (fun v h => v = some (.int 10) ∧ Hp Z n0 h F) := by
  refine con_of pf_13 ?_
  intro p e s m below meth c T0 W0 e0
  subst e0
  have H0 := H00
  refine g_cast (ef_ii2 m (10 : Int32) (1 : Int32)) ?_
  refine g_iloadN W0 d13_0 (pc' := 1) rfl rfl ?_
  refine g_iloadN W0 d13_1 (pc' := 2) rfl rfl ?_
  refine g_icmp W0 d13_2 (pcy := 9) (by decide) (pc' := 5) rfl (fun (h : (10 : Int32) < (1 : Int32)) => absurd h (by decide)) (fun _ => ?_)
  refine g_iloadN W0 d13_5 (pc' := 6) rfl rfl ?_
  refine g_goto W0 d13_6 (pc' := 10) (by decide) ?_
  exact g_ireturn W0 d13_10 ⟨rfl, H0⟩ (by decide) (by decide)
theorem c_growI (l : Launch) (Z : State) (a0 : Array Value) (hw : ∀ d ∈ tables_1, d.before a0 Z = true) (n0 : Nat) (de : Addr) (dc : Cell) (hD : Sta Z Z.heap "java/util/ArrayList" "DEFAULTCAPACITY_EMPTY_ELEMENTDATA" "[Ljava/lang/Object;" (.ref de)) (hA : Arr Z Z.heap de dc (.object "java/lang/Object")) (hA0 : dc.slots.size.toInt32 = 0) (a : Addr) (mc : Int32) (h0 : Heap) (F : List HRow) (H00 : Hp Z n0 h0 ((a, ObC Z "java/util/ArrayList" (fs_ArrayList (.int mc) (.ref de) (.int (0 : Int32)))) :: F)) :
    Con l Z n0 ⟨"java/util/ArrayList", "grow", "(I)[Ljava/lang/Object;"⟩ [] jdk_38_method_6_code 4 (some (.array (.object "java/lang/Object"))) ({ frames := 1, cells := 1, slots := 10, locals := 14 } : Room) #[.ref a, .int (1 : Int32)] h0 (fun v h => ∃ el, v = some (.ref el) ∧ Hp Z n0 h ((el, RaC Z "java/lang/Object" (List.replicate 10 Value.null)) :: (a, ObC Z "java/util/ArrayList" (fs_ArrayList (.int mc) (.ref el) (.int (0 : Int32)))) :: F)) := by
  refine con_of pf_12 ?_
  intro p e s m below meth c T0 W0 e0
  subst e0
  have H0 := H00
  refine g_cast (ef_ri4 m a (1 : Int32)) ?_
  refine g_aloadN W0 d12_0 (pc' := 1) rfl rfl rfl ?_
  refine g_getf W0 (wd_34 hw) Via.refl H0 (i := 0) rfl (jx := 1) rfl d12_1 (pc' := 4) rfl ?_
  intro T1 W1 H1
  refine g_arrlenF W1 (cl := dc) ⟨H1.old.2 _ _ hA.1, hA.2⟩ (x := (0 : Int32)) hA0 d12_4 (pc' := 5) rfl ?_
  refine g_istoreN W1 d12_5 (pc' := 6) rfl (ls' := #[.val (.ref a), .val (.int (1 : Int32)), .val (.int (0 : Int32)), .unset]) rfl ?_
  refine g_iloadN W1 d12_6 (pc' := 7) rfl rfl ?_
  refine g_if W1 d12_7 (pcy := 20) (by decide) (pc' := 10) rfl (fun (h : (0 : Int32) < (0 : Int32)) => absurd h (by decide)) (fun _ => ?_)
  refine g_aloadN W1 d12_10 (pc' := 11) rfl rfl rfl ?_
  refine g_getf W1 (wd_34 hw) Via.refl H1 (i := 0) rfl (jx := 1) rfl d12_11 (pc' := 14) rfl ?_
  intro T2 W2 H2
  refine g_getS W2 (wd_33 hw) Via.refl hD H2 d12_14 (pc' := 17) rfl ?_
  intro T3 W3 _ H3
  refine g_acmpY W3 rfl rfl (acmp_same _) d12_17 (pcy := 45) (by decide) ?_
  refine g_aloadN W3 d12_45 (pc' := 46) rfl rfl rfl ?_
  refine g_bipush W3 d12_46 (pc' := 48) rfl (v := (10 : Int32)) (by decide) ?_
  refine g_iloadN W3 d12_48 (pc' := 49) rfl rfl ?_
  refine g_callS W3 (argsL := [.int (10 : Int32), .int (1 : Int32)]) (st := [.ref a]) (wd_84 hw) (wd_85 hw) (wd_86 hw) (wd_87 hw) (by decide) (c_max l Z a0 hw n0 _ _ H3) pd_1 rfl rfl rfl d12_49 (pc' := 52) rfl (by decide) (Wn := 1) (Nat.le_of_eq rfl) (by decide) (kc' := 0) (ks' := 0) rfl rfl (by decide) (by decide) ?_
  intro T4 v4 W4 hp4
  obtain ⟨rfl, H4⟩ := hp4
  show Goes _ _ _ _ (State.setTop _ (mkF _ _ _ [.int (10 : Int32), .ref a]))
  refine g_anewarr W4 (wd_88 hw) (wd_89 hw) H4 (by decide) (vs := (List.replicate 10 Value.null)) rfl (cap := 10) (by decide) (by decide) d12_52 (pc' := 55) rfl (kc' := 1) (ks' := 10) rfl rfl (by decide) (by decide) ?_
  intro T5 a5 W5 H5
  refine g_dup_x1 W5 d12_55 (pc' := 56) rfl rfl rfl ?_
  refine g_putf W5 (wd_34 hw) Via.refl (Or.inl (wd_35 hw)) (wd_11 hw) (ty := (.array (.object "java/lang/Object"))) (by decide) rfl rfl H5 (i := 1) rfl (jx := 1) rfl d12_56 (pc' := 59) rfl (L' := ((a5, RaC Z "java/lang/Object" (List.replicate 10 Value.null)) :: (a, ObC Z "java/util/ArrayList" (fs_ArrayList (.int mc) (.ref a5) (.int (0 : Int32)))) :: F)) rfl ?_
  intro T6 W6 H6
  exact g_areturn W6 rfl rfl d12_59 ⟨_, rfl, H6⟩ (by decide) (by decide)
theorem c_grow (l : Launch) (Z : State) (a0 : Array Value) (hw : ∀ d ∈ tables_1, d.before a0 Z = true) (n0 : Nat) (de : Addr) (dc : Cell) (hD : Sta Z Z.heap "java/util/ArrayList" "DEFAULTCAPACITY_EMPTY_ELEMENTDATA" "[Ljava/lang/Object;" (.ref de)) (hA : Arr Z Z.heap de dc (.object "java/lang/Object")) (hA0 : dc.slots.size.toInt32 = 0) (a : Addr) (mc : Int32) (h0 : Heap) (F : List HRow) (H00 : Hp Z n0 h0 ((a, ObC Z "java/util/ArrayList" (fs_ArrayList (.int mc) (.ref de) (.int (0 : Int32)))) :: F)) :
    Con l Z n0 ⟨"java/util/ArrayList", "grow", "()[Ljava/lang/Object;"⟩ [] jdk_38_method_7_code 1 (some (.array (.object "java/lang/Object"))) ({ frames := 2, cells := 1, slots := 10, locals := 29 } : Room) #[.ref a] h0 (fun v h => ∃ el, v = some (.ref el) ∧ Hp Z n0 h ((el, RaC Z "java/lang/Object" (List.replicate 10 Value.null)) :: (a, ObC Z "java/util/ArrayList" (fs_ArrayList (.int mc) (.ref el) (.int (0 : Int32)))) :: F)) := by
  refine con_of pf_11 ?_
  intro p e s m below meth c T0 W0 e0
  subst e0
  have H0 := H00
  refine g_cast (ef_r1 m a) ?_
  refine g_aloadN W0 d11_0 (pc' := 1) rfl rfl rfl ?_
  refine g_aloadN W0 d11_1 (pc' := 2) rfl rfl rfl ?_
  refine g_getf W0 (wd_67 hw) Via.refl H0 (i := 0) rfl (jx := 2) rfl d11_2 (pc' := 5) rfl ?_
  intro T1 W1 H1
  refine g_iconst W1 d11_5 (pc' := 6) rfl (v := (1 : Int32)) (by decide) ?_
  refine g_iadd W1 d11_6 (pc' := 7) rfl (v := (1 : Int32)) (by decide) ?_
  refine g_callP W1 (argsL := [.int (1 : Int32)]) (st := []) (wd_79 hw) (wd_80 hw) (wd_81 hw) (wd_11 hw) (wd_12 hw) (wd_83 hw) (by decide) (a := a) H1 (i := 0) rfl (c_growI l Z a0 hw n0 de dc hD hA hA0 a mc _ _ H1) pd_2 rfl rfl rfl d11_7 (pc' := 10) rfl (by decide) (Wn := 0) (Nat.le_of_eq rfl) (by decide) (kc' := 1) (ks' := 10) rfl rfl (by decide) (by decide) ?_
  intro T2 v2 W2 hp2
  obtain ⟨e1, rfl, H2⟩ := hp2
  show Goes _ _ _ _ (State.setTop _ (mkF _ _ _ [.ref e1]))
  exact g_areturn W2 rfl rfl d11_10 ⟨_, rfl, H2⟩ (by decide) (by decide)
theorem c_add20 (l : Launch) (Z : State) (a0 : Array Value) (hw : ∀ d ∈ tables_1, d.before a0 Z = true) (n0 : Nat) (de : Addr) (dc : Cell) (hD : Sta Z Z.heap "java/util/ArrayList" "DEFAULTCAPACITY_EMPTY_ELEMENTDATA" "[Ljava/lang/Object;" (.ref de)) (hA : Arr Z Z.heap de dc (.object "java/lang/Object")) (hA0 : dc.slots.size.toInt32 = 0) (a : Addr) (mc : Int32) (F : List HRow) (d : Addr) (dfs : List FR) (hd : (d, ObC Z "com/example/lanewright/lanewright/Network$Arc" dfs) ∈ F)  (h0 : Heap) (H00 : Hp Z n0 h0 ((a, ObC Z "java/util/ArrayList" (fs_ArrayList (.int mc) (.ref de) (.int (0 : Int32)))) :: F)) :
    Con l Z n0 ⟨"java/util/ArrayList", "add", "(Ljava/lang/Object;[Ljava/lang/Object;I)V"⟩ [] jdk_38_method_24_code 4 none ({ frames := 3, cells := 1, slots := 10, locals := 41 } : Room) #[.ref a, .ref d, .ref de, .int (0 : Int32)] h0 (fun v h => ∃ el, v = none ∧ Hp Z n0 h ((el, RaC Z "java/lang/Object" ((List.replicate 10 Value.null).set 0 (.ref d))) :: (a, ObC Z "java/util/ArrayList" (fs_ArrayList (.int mc) (.ref el) (.int (1 : Int32)))) :: F)) := by
  refine con_of pf_10 ?_
  intro p e s m below meth c T0 W0 e0
  subst e0
  have H0 := H00
  refine g_cast (ef_rrri4 m a d de (0 : Int32)) ?_
  refine g_iloadN W0 d10_0 (pc' := 1) rfl rfl ?_
  refine g_aloadN W0 d10_1 (pc' := 2) rfl rfl rfl ?_
  refine g_arrlenF W0 (cl := dc) ⟨H0.old.2 _ _ hA.1, hA.2⟩ (x := (0 : Int32)) hA0 d10_2 (pc' := 3) rfl ?_
  refine g_icmp W0 d10_3 (pcy := 11) (by decide) (pc' := 6) rfl (fun (h : ¬ (0 : Int32) = (0 : Int32)) => absurd h (by decide)) (fun _ => ?_)
  refine g_aloadN W0 d10_6 (pc' := 7) rfl rfl rfl ?_
  refine g_callP W0 (argsL := []) (st := []) (wd_74 hw) (wd_75 hw) (wd_76 hw) (wd_11 hw) (wd_12 hw) (wd_78 hw) (by decide) (a := a) H0 (i := 0) rfl (c_grow l Z a0 hw n0 de dc hD hA hA0 a mc _ _ H0) pd_3 rfl rfl rfl d10_7 (pc' := 10) rfl (by decide) (Wn := 0) (Nat.le_of_eq rfl) (by decide) (kc' := 1) (ks' := 10) rfl rfl (by decide) (by decide) ?_
  intro T1 v1 W1 hp1
  obtain ⟨e1, rfl, H1⟩ := hp1
  show Goes _ _ _ _ (State.setTop _ (mkF _ _ _ [.ref e1]))
  refine g_astoreN W1 d10_10 (pc' := 11) rfl rfl (ls' := #[.val (.ref a), .val (.ref d), .val (.ref e1), .val (.int (0 : Int32))]) rfl ?_
  refine g_aloadN W1 d10_11 (pc' := 12) rfl rfl rfl ?_
  refine g_iloadN W1 d10_12 (pc' := 13) rfl rfl ?_
  refine g_aloadN W1 d10_13 (pc' := 14) rfl rfl rfl ?_
  refine g_aastore W1 H1 (i := 0) rfl (Ins.of_exa (H1.exam (mc2 hd)) (wd_90 hw)) (jx := 0) (by decide) (by decide) d10_14 (pc' := 15) rfl (L' := ((e1, RaC Z "java/lang/Object" ((List.replicate 10 Value.null).set 0 (.ref d))) :: (a, ObC Z "java/util/ArrayList" (fs_ArrayList (.int mc) (.ref e1) (.int (0 : Int32)))) :: F)) rfl ?_
  intro T2 W2 H2
  refine g_aloadN W2 d10_15 (pc' := 16) rfl rfl rfl ?_
  refine g_iloadN W2 d10_16 (pc' := 17) rfl rfl ?_
  refine g_iconst W2 d10_17 (pc' := 18) rfl (v := (1 : Int32)) (by decide) ?_
  refine g_iadd W2 d10_18 (pc' := 19) rfl (v := (1 : Int32)) (by decide) ?_
  refine g_putf W2 (wd_67 hw) Via.refl (Or.inl (wd_68 hw)) (wd_11 hw) (ty := .int) (by decide) rfl rfl H2 (i := 1) rfl (jx := 2) rfl d10_19 (pc' := 22) rfl (L' := ((e1, RaC Z "java/lang/Object" ((List.replicate 10 Value.null).set 0 (.ref d))) :: (a, ObC Z "java/util/ArrayList" (fs_ArrayList (.int mc) (.ref e1) (.int (1 : Int32)))) :: F)) rfl ?_
  intro T3 W3 H3
  exact g_return W3 d10_22 ⟨_, rfl, H3⟩ (by decide) (by decide)
theorem c_add10 (l : Launch) (Z : State) (a0 : Array Value) (hw : ∀ d ∈ tables_1, d.before a0 Z = true) (n0 : Nat) (de : Addr) (dc : Cell) (hD : Sta Z Z.heap "java/util/ArrayList" "DEFAULTCAPACITY_EMPTY_ELEMENTDATA" "[Ljava/lang/Object;" (.ref de)) (hA : Arr Z Z.heap de dc (.object "java/lang/Object")) (hA0 : dc.slots.size.toInt32 = 0) (a : Addr) (mc : Int32) (F : List HRow) (d : Addr) (dfs : List FR) (hd : (d, ObC Z "com/example/lanewright/lanewright/Network$Arc" dfs) ∈ F)  (h0 : Heap) (H00 : Hp Z n0 h0 ((a, ObC Z "java/util/ArrayList" (fs_ArrayList (.int mc) (.ref de) (.int (0 : Int32)))) :: F)) :
    Con l Z n0 ⟨"java/util/ArrayList", "add", "(Ljava/lang/Object;)Z"⟩ [] jdk_38_method_25_code 2 (some .boolean) ({ frames := 4, cells := 1, slots := 10, locals := 56 } : Room) #[.ref a, .ref d] h0 (fun v h => ∃ el, v = some (.int 1) ∧ Hp Z n0 h ((el, RaC Z "java/lang/Object" ((List.replicate 10 Value.null).set 0 (.ref d))) :: (a, ObC Z "java/util/ArrayList" (fs_ArrayList (.int (mc + (1 : Int32))) (.ref el) (.int (1 : Int32)))) :: F)) := by
  refine con_of pf_9 ?_
  intro p e s m below meth c T0 W0 e0
  subst e0
  have H0 := H00
  refine g_cast (ef_rr2 m a d) ?_
  refine g_aloadN W0 d9_0 (pc' := 1) rfl rfl rfl ?_
  refine g_dup W0 d9_1 (pc' := 2) rfl rfl ?_
  refine g_getf W0 (wd_65 hw) (Via.of (wd_66 hw)) H0 (i := 0) rfl (jx := 0) rfl d9_2 (pc' := 5) rfl ?_
  intro T1 W1 H1
  refine g_iconst W1 d9_5 (pc' := 6) rfl (v := (1 : Int32)) (by decide) ?_
  refine g_iadd W1 d9_6 (pc' := 7) rfl rfl ?_
  refine g_putf W1 (wd_65 hw) (Via.of (wd_66 hw)) (Or.inl (wd_32 hw)) (wd_11 hw) (ty := .int) (by decide) rfl rfl H1 (i := 0) rfl (jx := 0) rfl d9_7 (pc' := 10) rfl (L' := ((a, ObC Z "java/util/ArrayList" (fs_ArrayList (.int (mc + (1 : Int32))) (.ref de) (.int (0 : Int32)))) :: F)) rfl ?_
  intro T2 W2 H2
  refine g_aloadN W2 d9_10 (pc' := 11) rfl rfl rfl ?_
  refine g_aloadN W2 d9_11 (pc' := 12) rfl rfl rfl ?_
  refine g_aloadN W2 d9_12 (pc' := 13) rfl rfl rfl ?_
  refine g_getf W2 (wd_34 hw) Via.refl H2 (i := 0) rfl (jx := 1) rfl d9_13 (pc' := 16) rfl ?_
  intro T3 W3 H3
  refine g_aloadN W3 d9_16 (pc' := 17) rfl rfl rfl ?_
  refine g_getf W3 (wd_67 hw) Via.refl H3 (i := 0) rfl (jx := 2) rfl d9_17 (pc' := 20) rfl ?_
  intro T4 W4 H4
  refine g_callP W4 (argsL := [.ref d, .ref de, .int (0 : Int32)]) (st := []) (wd_69 hw) (wd_70 hw) (wd_71 hw) (wd_11 hw) (wd_12 hw) (wd_73 hw) (by decide) (a := a) H4 (i := 0) rfl (c_add20 l Z a0 hw n0 de dc hD hA hA0 a (mc + (1 : Int32)) _ d dfs hd _ H4) pd_4 rfl rfl rfl d9_20 (pc' := 23) rfl (by decide) (Wn := 0) (Nat.le_of_eq rfl) (by decide) (kc' := 1) (ks' := 10) rfl rfl (by decide) (by decide) ?_
  intro T5 v5 W5 hp5
  obtain ⟨e1, rfl, H5⟩ := hp5
  show Goes _ _ _ _ (State.setTop _ (mkF _ _ _ []))
  refine g_iconst W5 d9_23 (pc' := 24) rfl (v := (1 : Int32)) (by decide) ?_
  exact g_zreturn W5 (by decide) d9_24 ⟨_, rfl, H5⟩ (by decide) (by decide)
theorem c_add21 (l : Launch) (Z : State) (a0 : Array Value) (hw : ∀ d ∈ tables_1, d.before a0 Z = true) (n0 : Nat) (a : Addr) (mc : Int32) (F : List HRow) (d : Addr) (dfs : List FR) (hd : (d, ObC Z "com/example/lanewright/lanewright/Network$Arc" dfs) ∈ F) (el : Addr) (vs : List Value) (sz : Int32) (jx : Nat) (hlen : vs.length.toInt32 = 10) (hne : ¬ sz = 10) (hjx : sz.toInt = (jx : Int)) (hlt : jx < vs.length)  (h0 : Heap) (H00 : Hp Z n0 h0 ((a, ObC Z "java/util/ArrayList" (fs_ArrayList (.int mc) (.ref el) (.int sz))) :: (el, RaC Z "java/lang/Object" vs) :: F)) :
    Con l Z n0 ⟨"java/util/ArrayList", "add", "(Ljava/lang/Object;[Ljava/lang/Object;I)V"⟩ [] jdk_38_method_24_code 4 none ({ frames := 0, cells := 0, slots := 0, locals := 0 } : Room) #[.ref a, .ref d, .ref el, .int sz] h0 (fun v h => v = none ∧ Hp Z n0 h ((a, ObC Z "java/util/ArrayList" (fs_ArrayList (.int mc) (.ref el) (.int (sz + (1 : Int32))))) :: (el, RaC Z "java/lang/Object" (vs.set jx (.ref d))) :: F)) := by
  refine con_of pf_10 ?_
  intro p e s m below meth c T0 W0 e0
  subst e0
  have H0 := H00
  refine g_cast (ef_rrri4 m a d el sz) ?_
  refine g_iloadN W0 d10_0 (pc' := 1) rfl rfl ?_
  refine g_aloadN W0 d10_1 (pc' := 2) rfl rfl rfl ?_
  refine g_arrlenR W0 H0 (i := 1) rfl (x := (10 : Int32)) hlen d10_2 (pc' := 3) rfl ?_
  refine g_icmp W0 d10_3 (pcy := 11) (by decide) (pc' := 6) rfl (fun (_ : ¬ sz = (10 : Int32)) => ?_) (fun (h : ¬ ¬ sz = (10 : Int32)) => absurd hne h)
  refine g_aloadN W0 d10_11 (pc' := 12) rfl rfl rfl ?_
  refine g_iloadN W0 d10_12 (pc' := 13) rfl rfl ?_
  refine g_aloadN W0 d10_13 (pc' := 14) rfl rfl rfl ?_
  refine g_aastore W0 H0 (i := 1) rfl (Ins.of_exa (H0.exam (mc2 hd)) (wd_90 hw)) (jx := jx) hjx hlt d10_14 (pc' := 15) rfl (L' := ((a, ObC Z "java/util/ArrayList" (fs_ArrayList (.int mc) (.ref el) (.int sz))) :: (el, RaC Z "java/lang/Object" (vs.set jx (.ref d))) :: F)) rfl ?_
  intro T1 W1 H1
  refine g_aloadN W1 d10_15 (pc' := 16) rfl rfl rfl ?_
  refine g_iloadN W1 d10_16 (pc' := 17) rfl rfl ?_
  refine g_iconst W1 d10_17 (pc' := 18) rfl (v := (1 : Int32)) (by decide) ?_
  refine g_iadd W1 d10_18 (pc' := 19) rfl rfl ?_
  refine g_putf W1 (wd_67 hw) Via.refl (Or.inl (wd_68 hw)) (wd_11 hw) (ty := .int) (by decide) rfl rfl H1 (i := 0) rfl (jx := 2) rfl d10_19 (pc' := 22) rfl (L' := ((a, ObC Z "java/util/ArrayList" (fs_ArrayList (.int mc) (.ref el) (.int (sz + (1 : Int32))))) :: (el, RaC Z "java/lang/Object" (vs.set jx (.ref d))) :: F)) rfl ?_
  intro T2 W2 H2
  exact g_return W2 d10_22 ⟨rfl, H2⟩ (by decide) (by decide)
theorem c_add11 (l : Launch) (Z : State) (a0 : Array Value) (hw : ∀ d ∈ tables_1, d.before a0 Z = true) (n0 : Nat) (a : Addr) (mc : Int32) (F : List HRow) (d : Addr) (dfs : List FR) (hd : (d, ObC Z "com/example/lanewright/lanewright/Network$Arc" dfs) ∈ F) (el : Addr) (vs : List Value) (sz : Int32) (jx : Nat) (hlen : vs.length.toInt32 = 10) (hne : ¬ sz = 10) (hjx : sz.toInt = (jx : Int)) (hlt : jx < vs.length)  (h0 : Heap) (H00 : Hp Z n0 h0 ((a, ObC Z "java/util/ArrayList" (fs_ArrayList (.int mc) (.ref el) (.int sz))) :: (el, RaC Z "java/lang/Object" vs) :: F)) :
    Con l Z n0 ⟨"java/util/ArrayList", "add", "(Ljava/lang/Object;)Z"⟩ [] jdk_38_method_25_code 2 (some .boolean) ({ frames := 1, cells := 0, slots := 0, locals := 15 } : Room) #[.ref a, .ref d] h0 (fun v h => v = some (.int 1) ∧ Hp Z n0 h ((a, ObC Z "java/util/ArrayList" (fs_ArrayList (.int (mc + (1 : Int32))) (.ref el) (.int (sz + (1 : Int32))))) :: (el, RaC Z "java/lang/Object" (vs.set jx (.ref d))) :: F)) := by
  refine con_of pf_9 ?_
  intro p e s m below meth c T0 W0 e0
  subst e0
  have H0 := H00
  refine g_cast (ef_rr2 m a d) ?_
  refine g_aloadN W0 d9_0 (pc' := 1) rfl rfl rfl ?_
  refine g_dup W0 d9_1 (pc' := 2) rfl rfl ?_
  refine g_getf W0 (wd_65 hw) (Via.of (wd_66 hw)) H0 (i := 0) rfl (jx := 0) rfl d9_2 (pc' := 5) rfl ?_
  intro T1 W1 H1
  refine g_iconst W1 d9_5 (pc' := 6) rfl (v := (1 : Int32)) (by decide) ?_
  refine g_iadd W1 d9_6 (pc' := 7) rfl rfl ?_
  refine g_putf W1 (wd_65 hw) (Via.of (wd_66 hw)) (Or.inl (wd_32 hw)) (wd_11 hw) (ty := .int) (by decide) rfl rfl H1 (i := 0) rfl (jx := 0) rfl d9_7 (pc' := 10) rfl (L' := ((a, ObC Z "java/util/ArrayList" (fs_ArrayList (.int (mc + (1 : Int32))) (.ref el) (.int sz))) :: (el, RaC Z "java/lang/Object" vs) :: F)) rfl ?_
  intro T2 W2 H2
  refine g_aloadN W2 d9_10 (pc' := 11) rfl rfl rfl ?_
  refine g_aloadN W2 d9_11 (pc' := 12) rfl rfl rfl ?_
  refine g_aloadN W2 d9_12 (pc' := 13) rfl rfl rfl ?_
  refine g_getf W2 (wd_34 hw) Via.refl H2 (i := 0) rfl (jx := 1) rfl d9_13 (pc' := 16) rfl ?_
  intro T3 W3 H3
  refine g_aloadN W3 d9_16 (pc' := 17) rfl rfl rfl ?_
  refine g_getf W3 (wd_67 hw) Via.refl H3 (i := 0) rfl (jx := 2) rfl d9_17 (pc' := 20) rfl ?_
  intro T4 W4 H4
  refine g_callP W4 (argsL := [.ref d, .ref el, .int sz]) (st := []) (wd_69 hw) (wd_70 hw) (wd_71 hw) (wd_11 hw) (wd_12 hw) (wd_73 hw) (by decide) (a := a) H4 (i := 0) rfl (c_add21 l Z a0 hw n0 a (mc + (1 : Int32)) _ d dfs hd el vs sz jx hlen hne hjx hlt _ H4) pd_4 rfl rfl rfl d9_20 (pc' := 23) rfl (by decide) (Wn := 0) (Nat.le_of_eq rfl) (by decide) (kc' := 0) (ks' := 0) rfl rfl (by decide) (by decide) ?_
  intro T5 v5 W5 hp5
  obtain ⟨rfl, H5⟩ := hp5
  show Goes _ _ _ _ (State.setTop _ (mkF _ _ _ []))
  refine g_iconst W5 d9_23 (pc' := 24) rfl (v := (1 : Int32)) (by decide) ?_
  exact g_zreturn W5 (by decide) d9_24 ⟨rfl, H5⟩ (by decide) (by decide)
theorem c_size (l : Launch) (Z : State) (a0 : Array Value) (hw : ∀ d ∈ tables_1, d.before a0 Z = true) (n0 : Nat) (a el : Addr) (mc sz : Int32) (h0 : Heap) (F : List HRow) (H00 : Hp Z n0 h0 ((a, ObC Z "java/util/ArrayList" (fs_ArrayList (.int mc) (.ref el) (.int sz))) :: F)) :
    Con l Z n0 ⟨"java/util/ArrayList", "size", "()I"⟩ [] jdk_38_method_8_code 1 (some .int) ({ frames := 0, cells := 0, slots := 0, locals := 0 } : Room) #[.ref a] h0 (fun v h => v = some (.int sz) ∧ Hp Z n0 h ((a, ObC Z "java/util/ArrayList" (fs_ArrayList (.int mc) (.ref el) (.int sz))) :: F)) := by
  refine con_of pf_15 ?_
  intro p e s m below meth c T0 W0 e0
  subst e0
  have H0 := H00
  refine g_cast (ef_r1 m a) ?_
  refine g_aloadN W0 d15_0 (pc' := 1) rfl rfl rfl ?_
  refine g_getf W0 (wd_67 hw) Via.refl H0 (i := 0) rfl (jx := 2) rfl d15_1 (pc' := 4) rfl ?_
  intro T1 W1 H1
  exact g_ireturn W1 d15_4 ⟨rfl, H1⟩ (by decide) (by decide)
theorem c_prei (l : Launch) (Z : State) (a0 : Array Value) (hw : ∀ d ∈ tables_1, d.before a0 Z = true) (n0 : Nat) (i n : Int32) (hi0 : ¬ i < 0) (hlt : i < n) (h0 : Heap) (F : List HRow) (H00 : Hp Z n0 h0 F) :
    Con l Z n0 ⟨"jdk/internal/util/Preconditions", "checkIndex", "(IILjava/util/function/BiFunction;)I"⟩ [] jdk_41_method_11_code 3 (some .int) ({ frames := 0, cells := 0, slots := 0, locals := 0 } : Room) #[.int i, .int n, .null] h0 (fun v h => v = some (.int i) ∧ Hp Z n0 h F) := by
  refine con_of (plainFor_of_name pn_Preconditions) ?_
  intro p e s m below meth c T0 W0 e0
  subst e0
  have H0 := H00
  refine g_cast (ef_iin3 m i n) ?_
  refine g_iloadN W0 d18_0 (pc' := 1) rfl rfl ?_
  refine g_if W0 d18_1 (pcy := 9) (by decide) (pc' := 4) rfl (fun (h : i < (0 : Int32)) => absurd h hi0) (fun (_ : ¬ i < (0 : Int32)) => ?_)
  refine g_iloadN W0 d18_4 (pc' := 5) rfl rfl ?_
  refine g_iloadN W0 d18_5 (pc' := 6) rfl rfl ?_
  refine g_icmp W0 d18_6 (pcy := 16) (by decide) (pc' := 9) rfl (fun (_ : i < n) => ?_) (fun (h : ¬ i < n) => absurd hlt h)
  refine g_iloadN W0 d18_16 (pc' := 17) rfl rfl ?_
  exact g_ireturn W0 d18_17 ⟨rfl, H0⟩ (by decide) (by decide)
theorem c_chk (l : Launch) (Z : State) (a0 : Array Value) (hw : ∀ d ∈ tables_1, d.before a0 Z = true) (n0 : Nat) (i n : Int32) (hi0 : ¬ i < 0) (hlt : i < n) (h0 : Heap) (F : List HRow) (H00 : Hp Z n0 h0 F) :
    Con l Z n0 ⟨"java/util/Objects", "checkIndex", "(II)I"⟩ [] jdk_31_method_17_code 2 (some .int) ({ frames := 1, cells := 0, slots := 0, locals := 14 } : Room) #[.int i, .int n] h0 (fun v h => v = some (.int i) ∧ Hp Z n0 h F) := by
  refine con_of pf_17 ?_
  intro p e s m below meth c T0 W0 e0
  subst e0
  have H0 := H00
  refine g_cast (ef_ii2 m i n) ?_
  refine g_iloadN W0 d17_0 (pc' := 1) rfl rfl ?_
  refine g_iloadN W0 d17_1 (pc' := 2) rfl rfl ?_
  refine g_aconst_null W0 d17_2 (pc' := 3) rfl ?_
  refine g_callS W0 (argsL := [.int i, .int n, .null]) (st := []) (wd_137 hw) (wd_138 hw) (wd_139 hw) (wd_140 hw) (by decide) (c_prei l Z a0 hw n0 i n hi0 hlt _ _ H0) pd_5 rfl rfl rfl d17_3 (pc' := 6) rfl (by decide) (Wn := 0) (Nat.le_of_eq rfl) (by decide) (kc' := 0) (ks' := 0) rfl rfl (by decide) (by decide) ?_
  intro T1 v1 W1 hp1
  obtain ⟨rfl, H1⟩ := hp1
  show Goes _ _ _ _ (State.setTop _ (mkF _ _ _ [.int i]))
  exact g_ireturn W1 d17_6 ⟨rfl, H1⟩ (by decide) (by decide)
theorem c_eld (l : Launch) (Z : State) (a0 : Array Value) (hw : ∀ d ∈ tables_1, d.before a0 Z = true) (n0 : Nat) (a el : Addr) (mc sz i : Int32) (vs : List Value) (d : Addr) (jx : Nat) (hjx : i.toInt = (jx : Int)) (hv : vs[jx]? = some (.ref d)) (h0 : Heap) (F : List HRow) (H00 : Hp Z n0 h0 ((a, ObC Z "java/util/ArrayList" (fs_ArrayList (.int mc) (.ref el) (.int sz))) :: (el, RaC Z "java/lang/Object" vs) :: F)) :
    Con l Z n0 ⟨"java/util/ArrayList", "elementData", "(I)Ljava/lang/Object;"⟩ [] jdk_38_method_18_code 2 (some (.object "java/lang/Object")) ({ frames := 0, cells := 0, slots := 0, locals := 0 } : Room) #[.ref a, .int i] h0 (fun v h => v = some (.ref d) ∧ Hp Z n0 h ((a, ObC Z "java/util/ArrayList" (fs_ArrayList (.int mc) (.ref el) (.int sz))) :: (el, RaC Z "java/lang/Object" vs) :: F)) := by
  refine con_of pf_19 ?_
  intro p e s m below meth c T0 W0 e0
  subst e0
  have H0 := H00
  refine g_cast (ef_ri2 m a i) ?_
  refine g_aloadN W0 d19_0 (pc' := 1) rfl rfl rfl ?_
  refine g_getf W0 (wd_34 hw) Via.refl H0 (i := 0) rfl (jx := 1) rfl d19_1 (pc' := 4) rfl ?_
  intro T1 W1 H1
  refine g_iloadN W1 d19_4 (pc' := 5) rfl rfl ?_
  refine g_aaload W1 H1 (i := 1) rfl (jx := jx) hjx (v := .ref d) hv d19_5 (pc' := 6) rfl ?_
  exact g_areturn W1 rfl rfl d19_6 ⟨rfl, H1⟩ (by decide) (by decide)
theorem c_get (l : Launch) (Z : State) (a0 : Array Value) (hw : ∀ d ∈ tables_1, d.before a0 Z = true) (n0 : Nat) (a el : Addr) (mc sz i : Int32) (vs : List Value) (d : Addr) (jx : Nat) (hjx : i.toInt = (jx : Int)) (hv : vs[jx]? = some (.ref d)) (hi0 : ¬ i < 0) (hlt : i < sz) (h0 : Heap) (F : List HRow) (H00 : Hp Z n0 h0 ((a, ObC Z "java/util/ArrayList" (fs_ArrayList (.int mc) (.ref el) (.int sz))) :: (el, RaC Z "java/lang/Object" vs) :: F)) :
    Con l Z n0 ⟨"java/util/ArrayList", "get", "(I)Ljava/lang/Object;"⟩ [] jdk_38_method_20_code 2 (some (.object "java/lang/Object")) ({ frames := 2, cells := 0, slots := 0, locals := 27 } : Room) #[.ref a, .int i] h0 (fun v h => v = some (.ref d) ∧ Hp Z n0 h ((a, ObC Z "java/util/ArrayList" (fs_ArrayList (.int mc) (.ref el) (.int sz))) :: (el, RaC Z "java/lang/Object" vs) :: F)) := by
  refine con_of pf_16 ?_
  intro p e s m below meth c T0 W0 e0
  subst e0
  have H0 := H00
  refine g_cast (ef_ri2 m a i) ?_
  refine g_iloadN W0 d16_0 (pc' := 1) rfl rfl ?_
  refine g_aloadN W0 d16_1 (pc' := 2) rfl rfl rfl ?_
  refine g_getf W0 (wd_67 hw) Via.refl H0 (i := 0) rfl (jx := 2) rfl d16_2 (pc' := 5) rfl ?_
  intro T1 W1 H1
  refine g_callS W1 (argsL := [.int i, .int sz]) (st := []) (wd_133 hw) (wd_134 hw) (wd_135 hw) (wd_136 hw) (by decide) (c_chk l Z a0 hw n0 i sz hi0 hlt _ _ H1) pd_1 rfl rfl rfl d16_5 (pc' := 8) rfl (by decide) (Wn := 0) (Nat.le_of_eq rfl) (by decide) (kc' := 0) (ks' := 0) rfl rfl (by decide) (by decide) ?_
  intro T2 v2 W2 hp2
  obtain ⟨rfl, H2⟩ := hp2
  show Goes _ _ _ _ (State.setTop _ (mkF _ _ _ [.int i]))
  refine g_pop W2 d16_8 (pc' := 9) rfl rfl ?_
  refine g_aloadN W2 d16_9 (pc' := 10) rfl rfl rfl ?_
  refine g_iloadN W2 d16_10 (pc' := 11) rfl rfl ?_
  refine g_callV W2 (argsL := [.int i]) (st := []) (wd_141 hw) (wd_142 hw) (wd_144 hw) (wd_143 hw) (wd_12 hw) (wd_145 hw) (by decide) (a := a) H2 (i := 0) rfl (c_eld l Z a0 hw n0 a el mc sz i vs d jx hjx hv _ _ H2) pd_6 rfl rfl rfl d16_11 (pc' := 14) rfl (by decide) (Wn := 0) (Nat.le_of_eq rfl) (by decide) (kc' := 0) (ks' := 0) rfl rfl (by decide) (by decide) ?_
  intro T3 v3 W3 hp3
  obtain ⟨rfl, H3⟩ := hp3
  show Goes _ _ _ _ (State.setTop _ (mkF _ _ _ [.ref d]))
  exact g_areturn W3 rfl rfl d16_14 ⟨rfl, H3⟩ (by decide) (by decide)
theorem c_rec (l : Launch) (Z : State) (a0 : Array Value) (hw : ∀ d ∈ tables_1, d.before a0 Z = true) (n0 : Nat) (a : Addr) (h0 : Heap) (F : List HRow) (H00 : Hp Z n0 h0 F) :
    Con l Z n0 ⟨"java/lang/Record", "<init>", "()V"⟩ [] jdk_30_method_1_code 1 none ({ frames := 1, cells := 0, slots := 0, locals := 12 } : Room) #[.ref a] h0 (fun v h => v = none ∧ Hp Z n0 h F) := by
  refine con_of pf_8 ?_
  intro p e s m below meth c T0 W0 e0
  subst e0
  have H0 := H00
  refine g_cast (ef_r1 m a) ?_
  refine g_aloadN W0 d8_0 (pc' := 1) rfl rfl rfl ?_
  refine g_initO W0 (wd_47 hw) (wd_29 hw) (wd_30 hw) H0 rfl d8_1 (pc' := 4) rfl (by decide) (Wn := 0) (Nat.le_of_eq rfl) (by decide) ?_
  intro T1 W1 H1
  exact g_return W1 d8_4 ⟨rfl, H1⟩ (by decide) (by decide)
theorem c_arci (l : Launch) (Z : State) (a0 : Array Value) (hw : ∀ d ∈ tables_1, d.before a0 Z = true) (n0 : Nat) (a : Addr) (t h0_ : Int32) (x1 x2 x3 x4 : UInt64) (h0 : Heap) (F : List HRow) (H00 : Hp Z n0 h0 ((a, ObC Z "com/example/lanewright/lanewright/Network$Arc" (fs_Network_Arc (.int (0 : Int32)) (.int (0 : Int32)) (.double 0) (.double 0) (.double 0) (.double 0))) :: F)) :
    Con l Z n0 ⟨"com/example/lanewright/lanewright/Network$Arc", "<init>", "(IIDDDD)V"⟩ [] prog_30_method_1_code 11 none ({ frames := 2, cells := 0, slots := 0, locals := 24 } : Room) #[.ref a, .int t, .int h0_, .double x1, .double x2, .double x3, .double x4] h0 (fun v h => v = none ∧ Hp Z n0 h ((a, ObC Z "com/example/lanewright/lanewright/Network$Arc" (fs_Network_Arc (.int t) (.int h0_) (.double x1) (.double x2) (.double x3) (.double x4))) :: F)) := by
  refine con_of (plainFor_of_name pn_Network_Arc) ?_
  intro p e s m below meth c T0 W0 e0
  subst e0
  have H0 := H00
  refine g_cast (ef_riidddd11 m a t h0_ x1 x2 x3 x4) ?_
  refine g_aloadN W0 d7_0 (pc' := 1) rfl rfl rfl ?_
  refine g_callI W0 (argsL := []) (st := []) rfl (wd_42 hw) (wd_43 hw) (wd_45 hw) (wd_46 hw) (by decide) (a := a) (c_rec l Z a0 hw n0 a _ _ H0) pd_0 rfl rfl rfl d7_1 (pc' := 4) rfl (by decide) (Wn := 0) (Nat.le_of_eq rfl) (by decide) (kc' := 0) (ks' := 0) rfl rfl (by decide) (by decide) ?_
  intro T1 v1 W1 hp1
  obtain ⟨rfl, H1⟩ := hp1
  show Goes _ _ _ _ (State.setTop _ (mkF _ _ _ []))
  refine g_aloadN W1 d7_4 (pc' := 5) rfl rfl rfl ?_
  refine g_iloadN W1 d7_5 (pc' := 6) rfl rfl ?_
  refine g_putf W1 (wd_48 hw) Via.refl (Or.inr ⟨(wd_49 hw), rfl, rfl⟩) (wd_37 hw) (ty := .int) (by decide) rfl rfl H1 (i := 0) rfl (jx := 0) rfl d7_6 (pc' := 9) rfl (L' := ((a, ObC Z "com/example/lanewright/lanewright/Network$Arc" (fs_Network_Arc (.int t) (.int (0 : Int32)) (.double 0) (.double 0) (.double 0) (.double 0))) :: F)) rfl ?_
  intro T2 W2 H2
  refine g_aloadN W2 d7_9 (pc' := 10) rfl rfl rfl ?_
  refine g_iloadN W2 d7_10 (pc' := 11) rfl rfl ?_
  refine g_putf W2 (wd_50 hw) Via.refl (Or.inr ⟨(wd_51 hw), rfl, rfl⟩) (wd_37 hw) (ty := .int) (by decide) rfl rfl H2 (i := 0) rfl (jx := 1) rfl d7_11 (pc' := 14) rfl (L' := ((a, ObC Z "com/example/lanewright/lanewright/Network$Arc" (fs_Network_Arc (.int t) (.int h0_) (.double 0) (.double 0) (.double 0) (.double 0))) :: F)) rfl ?_
  intro T3 W3 H3
  refine g_aloadN W3 d7_14 (pc' := 15) rfl rfl rfl ?_
  refine g_dloadN W3 d7_15 (pc' := 16) rfl rfl ?_
  refine g_putf W3 (wd_52 hw) Via.refl (Or.inr ⟨(wd_53 hw), rfl, rfl⟩) (wd_37 hw) (ty := .double) (by decide) rfl rfl H3 (i := 0) rfl (jx := 2) rfl d7_16 (pc' := 19) rfl (L' := ((a, ObC Z "com/example/lanewright/lanewright/Network$Arc" (fs_Network_Arc (.int t) (.int h0_) (.double x1) (.double 0) (.double 0) (.double 0))) :: F)) rfl ?_
  intro T4 W4 H4
  refine g_aloadN W4 d7_19 (pc' := 20) rfl rfl rfl ?_
  refine g_dload W4 d7_20 (pc' := 22) rfl rfl ?_
  refine g_putf W4 (wd_54 hw) Via.refl (Or.inr ⟨(wd_55 hw), rfl, rfl⟩) (wd_37 hw) (ty := .double) (by decide) rfl rfl H4 (i := 0) rfl (jx := 3) rfl d7_22 (pc' := 25) rfl (L' := ((a, ObC Z "com/example/lanewright/lanewright/Network$Arc" (fs_Network_Arc (.int t) (.int h0_) (.double x1) (.double x2) (.double 0) (.double 0))) :: F)) rfl ?_
  intro T5 W5 H5
  refine g_aloadN W5 d7_25 (pc' := 26) rfl rfl rfl ?_
  refine g_dload W5 d7_26 (pc' := 28) rfl rfl ?_
  refine g_putf W5 (wd_56 hw) Via.refl (Or.inr ⟨(wd_57 hw), rfl, rfl⟩) (wd_37 hw) (ty := .double) (by decide) rfl rfl H5 (i := 0) rfl (jx := 4) rfl d7_28 (pc' := 31) rfl (L' := ((a, ObC Z "com/example/lanewright/lanewright/Network$Arc" (fs_Network_Arc (.int t) (.int h0_) (.double x1) (.double x2) (.double x3) (.double 0))) :: F)) rfl ?_
  intro T6 W6 H6
  refine g_aloadN W6 d7_31 (pc' := 32) rfl rfl rfl ?_
  refine g_dload W6 d7_32 (pc' := 34) rfl rfl ?_
  refine g_putf W6 (wd_58 hw) Via.refl (Or.inr ⟨(wd_59 hw), rfl, rfl⟩) (wd_37 hw) (ty := .double) (by decide) rfl rfl H6 (i := 0) rfl (jx := 5) rfl d7_34 (pc' := 37) rfl (L' := ((a, ObC Z "com/example/lanewright/lanewright/Network$Arc" (fs_Network_Arc (.int t) (.int h0_) (.double x1) (.double x2) (.double x3) (.double x4))) :: F)) rfl ?_
  intro T7 W7 H7
  exact g_return W7 d7_37 ⟨rfl, H7⟩ (by decide) (by decide)
theorem c_a_tail (l : Launch) (Z : State) (a0 : Array Value) (hw : ∀ d ∈ tables_1, d.before a0 Z = true) (n0 : Nat) (a : Addr) (t h0_ : Int32) (x1 x2 x3 x4 : UInt64) (F : List HRow) (hd : (a, ObC Z "com/example/lanewright/lanewright/Network$Arc" (fs_Network_Arc (.int t) (.int h0_) (.double x1) (.double x2) (.double x3) (.double x4))) ∈ F) (h0 : Heap) (H00 : Hp Z n0 h0 F) :
    Con l Z n0 ⟨"com/example/lanewright/lanewright/Network$Arc", "tail", "()I"⟩ [] prog_30_method_5_code 1 (some .int) ({ frames := 0, cells := 0, slots := 0, locals := 0 } : Room) #[.ref a] h0 (fun v h => v = some (.int t) ∧ Hp Z n0 h F) := by
  refine con_of (plainFor_of_name pn_Network_Arc) ?_
  intro p e s m below meth c T0 W0 e0
  subst e0
  have H0 := H00
  refine g_cast (ef_r1 m a) ?_
  refine g_aloadN W0 d20_0 (pc' := 1) rfl rfl rfl ?_
  refine g_getfF W0 (wd_48 hw) Via.refl H0 (H0.fldm hd (jx := 0) rfl) d20_1 (pc' := 4) rfl ?_
  intro T1 W1 _ H1
  exact g_ireturn W1 d20_4 ⟨rfl, H1⟩ (by decide) (by decide)
theorem c_a_head (l : Launch) (Z : State) (a0 : Array Value) (hw : ∀ d ∈ tables_1, d.before a0 Z = true) (n0 : Nat) (a : Addr) (t h0_ : Int32) (x1 x2 x3 x4 : UInt64) (F : List HRow) (hd : (a, ObC Z "com/example/lanewright/lanewright/Network$Arc" (fs_Network_Arc (.int t) (.int h0_) (.double x1) (.double x2) (.double x3) (.double x4))) ∈ F) (h0 : Heap) (H00 : Hp Z n0 h0 F) :
    Con l Z n0 ⟨"com/example/lanewright/lanewright/Network$Arc", "head", "()I"⟩ [] prog_30_method_6_code 1 (some .int) ({ frames := 0, cells := 0, slots := 0, locals := 0 } : Room) #[.ref a] h0 (fun v h => v = some (.int h0_) ∧ Hp Z n0 h F) := by
  refine con_of (plainFor_of_name pn_Network_Arc) ?_
  intro p e s m below meth c T0 W0 e0
  subst e0
  have H0 := H00
  refine g_cast (ef_r1 m a) ?_
  refine g_aloadN W0 d21_0 (pc' := 1) rfl rfl rfl ?_
  refine g_getfF W0 (wd_50 hw) Via.refl H0 (H0.fldm hd (jx := 1) rfl) d21_1 (pc' := 4) rfl ?_
  intro T1 W1 _ H1
  exact g_ireturn W1 d21_4 ⟨rfl, H1⟩ (by decide) (by decide)
theorem c_a_capacity (l : Launch) (Z : State) (a0 : Array Value) (hw : ∀ d ∈ tables_1, d.before a0 Z = true) (n0 : Nat) (a : Addr) (t h0_ : Int32) (x1 x2 x3 x4 : UInt64) (F : List HRow) (hd : (a, ObC Z "com/example/lanewright/lanewright/Network$Arc" (fs_Network_Arc (.int t) (.int h0_) (.double x1) (.double x2) (.double x3) (.double x4))) ∈ F) (h0 : Heap) (H00 : Hp Z n0 h0 F) :
    Con l Z n0 ⟨"com/example/lanewright/lanewright/Network$Arc", "capacity", "()D"⟩ [] prog_30_method_7_code 1 (some .double) ({ frames := 0, cells := 0, slots := 0, locals := 0 } : Room) #[.ref a] h0 (fun v h => v = some (.double x1) ∧ Hp Z n0 h F) := by
  refine con_of (plainFor_of_name pn_Network_Arc) ?_
  intro p e s m below meth c T0 W0 e0
  subst e0
  have H0 := H00
  refine g_cast (ef_r1 m a) ?_
  refine g_aloadN W0 d22_0 (pc' := 1) rfl rfl rfl ?_
  refine g_getfF W0 (wd_52 hw) Via.refl H0 (H0.fldm hd (jx := 2) rfl) d22_1 (pc' := 4) rfl ?_
  intro T1 W1 _ H1
  exact g_dreturn W1 d22_4 ⟨rfl, H1⟩ (by decide) (by decide)
theorem c_a_freeFlowTime (l : Launch) (Z : State) (a0 : Array Value) (hw : ∀ d ∈ tables_1, d.before a0 Z = true) (n0 : Nat) (a : Addr) (t h0_ : Int32) (x1 x2 x3 x4 : UInt64) (F : List HRow) (hd : (a, ObC Z "com/example/lanewright/lanewright/Network$Arc" (fs_Network_Arc (.int t) (.int h0_) (.double x1) (.double x2) (.double x3) (.double x4))) ∈ F) (h0 : Heap) (H00 : Hp Z n0 h0 F) :
    Con l Z n0 ⟨"com/example/lanewright/lanewright/Network$Arc", "freeFlowTime", "()D"⟩ [] prog_30_method_8_code 1 (some .double) ({ frames := 0, cells := 0, slots := 0, locals := 0 } : Room) #[.ref a] h0 (fun v h => v = some (.double x2) ∧ Hp Z n0 h F) := by
  refine con_of (plainFor_of_name pn_Network_Arc) ?_
  intro p e s m below meth c T0 W0 e0
  subst e0
  have H0 := H00
  refine g_cast (ef_r1 m a) ?_
  refine g_aloadN W0 d23_0 (pc' := 1) rfl rfl rfl ?_
  refine g_getfF W0 (wd_54 hw) Via.refl H0 (H0.fldm hd (jx := 3) rfl) d23_1 (pc' := 4) rfl ?_
  intro T1 W1 _ H1
  exact g_dreturn W1 d23_4 ⟨rfl, H1⟩ (by decide) (by decide)
theorem c_a_b (l : Launch) (Z : State) (a0 : Array Value) (hw : ∀ d ∈ tables_1, d.before a0 Z = true) (n0 : Nat) (a : Addr) (t h0_ : Int32) (x1 x2 x3 x4 : UInt64) (F : List HRow) (hd : (a, ObC Z "com/example/lanewright/lanewright/Network$Arc" (fs_Network_Arc (.int t) (.int h0_) (.double x1) (.double x2) (.double x3) (.double x4))) ∈ F) (h0 : Heap) (H00 : Hp Z n0 h0 F) :
    Con l Z n0 ⟨"com/example/lanewright/lanewright/Network$Arc", "b", "()D"⟩ [] prog_30_method_9_code 1 (some .double) ({ frames := 0, cells := 0, slots := 0, locals := 0 } : Room) #[.ref a] h0 (fun v h => v = some (.double x3) ∧ Hp Z n0 h F) := by
  refine con_of (plainFor_of_name pn_Network_Arc) ?_
  intro p e s m below meth c T0 W0 e0
  subst e0
  have H0 := H00
  refine g_cast (ef_r1 m a) ?_
  refine g_aloadN W0 d24_0 (pc' := 1) rfl rfl rfl ?_
  refine g_getfF W0 (wd_56 hw) Via.refl H0 (H0.fldm hd (jx := 4) rfl) d24_1 (pc' := 4) rfl ?_
  intro T1 W1 _ H1
  exact g_dreturn W1 d24_4 ⟨rfl, H1⟩ (by decide) (by decide)
theorem c_a_power (l : Launch) (Z : State) (a0 : Array Value) (hw : ∀ d ∈ tables_1, d.before a0 Z = true) (n0 : Nat) (a : Addr) (t h0_ : Int32) (x1 x2 x3 x4 : UInt64) (F : List HRow) (hd : (a, ObC Z "com/example/lanewright/lanewright/Network$Arc" (fs_Network_Arc (.int t) (.int h0_) (.double x1) (.double x2) (.double x3) (.double x4))) ∈ F) (h0 : Heap) (H00 : Hp Z n0 h0 F) :
    Con l Z n0 ⟨"com/example/lanewright/lanewright/Network$Arc", "power", "()D"⟩ [] prog_30_method_10_code 1 (some .double) ({ frames := 0, cells := 0, slots := 0, locals := 0 } : Room) #[.ref a] h0 (fun v h => v = some (.double x4) ∧ Hp Z n0 h F) := by
  refine con_of (plainFor_of_name pn_Network_Arc) ?_
  intro p e s m below meth c T0 W0 e0
  subst e0
  have H0 := H00
  refine g_cast (ef_r1 m a) ?_
  refine g_aloadN W0 d25_0 (pc' := 1) rfl rfl rfl ?_
  refine g_getfF W0 (wd_58 hw) Via.refl H0 (H0.fldm hd (jx := 5) rfl) d25_1 (pc' := 4) rfl ?_
  intro T1 W1 _ H1
  exact g_dreturn W1 d25_4 ⟨rfl, H1⟩ (by decide) (by decide)

def nf1 (l : List Int32) (n : Nat) : List Int32 := l.set (n + 1) (l.getD (n + 1) 0 + 1)
def pf1 (l : List Int32) (v : Nat) : List Int32 := l.set (v + 1) (l.getD (v + 1) 0 + l.getD v 0)
def nx1 (l : List Int32) (n : Nat) : List Int32 := l.set n (l.getD n 0 + 1)
def oa1 (o l : List Int32) (n : Nat) (a : Int32) : List Int32 := o.set (l.getD n 0).toInt.toNat a
theorem nf1_len {l : List Int32} {n : Nat} : (nf1 l n).length = l.length := List.length_set
theorem pf1_len {l : List Int32} {n : Nat} : (pf1 l n).length = l.length := List.length_set
theorem nx1_len {l : List Int32} {n : Nat} : (nx1 l n).length = l.length := List.length_set
theorem oa1_len {o l : List Int32} {n : Nat} {a : Int32} : (oa1 o l n a).length = o.length := List.length_set
theorem getD_some {l : List Int32} {n : Nat} (h : n < l.length) : l[n]? = some (l.getD n 0) := by
  rw [List.getD_eq_getElem?_getD, List.getElem?_eq_getElem h]; rfl
theorem i_p1 {t : Int32} {n : Nat} (h : t.toInt = (n : Int)) (hn : n < 1000) : (t + (1 : Int32)).toInt = ((n + 1 : Nat) : Int) := by
  have e1 : (1 : Int32).toInt = 1 := by decide
  rw [Int32.toInt_add, e1, h, Kit.bmod32 (by omega) (by omega)]; omega

theorem net_ok : ∀ j0 ∈ ([1, 2, 3, 4] : List Nat), ∀ j1 ∈ ([1, 2, 3, 4] : List Nat), ∀ j2 ∈ ([1, 2, 3, 4] : List Nat), ∀ j3 ∈ ([1, 2, 3, 4] : List Nat), ((0 ≤ ((pf1 (pf1 (pf1 (pf1 (nf1 (nf1 (nf1 (nf1 (List.replicate 6 (0 : Int32)) j0) j1) j2) j3) 1) 2) 3) 4).getD j0 0).toInt ∧ ((pf1 (pf1 (pf1 (pf1 (nf1 (nf1 (nf1 (nf1 (List.replicate 6 (0 : Int32)) j0) j1) j2) j3) 1) 2) 3) 4).getD j0 0).toInt < 4) ∧ (0 ≤ ((nx1 (pf1 (pf1 (pf1 (pf1 (nf1 (nf1 (nf1 (nf1 (List.replicate 6 (0 : Int32)) j0) j1) j2) j3) 1) 2) 3) 4) j0).getD j1 0).toInt ∧ ((nx1 (pf1 (pf1 (pf1 (pf1 (nf1 (nf1 (nf1 (nf1 (List.replicate 6 (0 : Int32)) j0) j1) j2) j3) 1) 2) 3) 4) j0).getD j1 0).toInt < 4) ∧ (0 ≤ ((nx1 (nx1 (pf1 (pf1 (pf1 (pf1 (nf1 (nf1 (nf1 (nf1 (List.replicate 6 (0 : Int32)) j0) j1) j2) j3) 1) 2) 3) 4) j0) j1).getD j2 0).toInt ∧ ((nx1 (nx1 (pf1 (pf1 (pf1 (pf1 (nf1 (nf1 (nf1 (nf1 (List.replicate 6 (0 : Int32)) j0) j1) j2) j3) 1) 2) 3) 4) j0) j1).getD j2 0).toInt < 4) ∧ (0 ≤ ((nx1 (nx1 (nx1 (pf1 (pf1 (pf1 (pf1 (nf1 (nf1 (nf1 (nf1 (List.replicate 6 (0 : Int32)) j0) j1) j2) j3) 1) 2) 3) 4) j0) j1) j2).getD j3 0).toInt ∧ ((nx1 (nx1 (nx1 (pf1 (pf1 (pf1 (pf1 (nf1 (nf1 (nf1 (nf1 (List.replicate 6 (0 : Int32)) j0) j1) j2) j3) 1) 2) 3) 4) j0) j1) j2).getD j3 0).toInt < 4)) ∧ (∀ v ∈ ([1, 2, 3, 4] : List Nat), 0 ≤ ((pf1 (pf1 (pf1 (pf1 (nf1 (nf1 (nf1 (nf1 (List.replicate 6 (0 : Int32)) j0) j1) j2) j3) 1) 2) 3) 4).getD v 0).toInt ∧ ((pf1 (pf1 (pf1 (pf1 (nf1 (nf1 (nf1 (nf1 (List.replicate 6 (0 : Int32)) j0) j1) j2) j3) 1) 2) 3) 4).getD v 0).toInt ≤ ((pf1 (pf1 (pf1 (pf1 (nf1 (nf1 (nf1 (nf1 (List.replicate 6 (0 : Int32)) j0) j1) j2) j3) 1) 2) 3) 4).getD (v + 1) 0).toInt ∧ ((pf1 (pf1 (pf1 (pf1 (nf1 (nf1 (nf1 (nf1 (List.replicate 6 (0 : Int32)) j0) j1) j2) j3) 1) 2) 3) 4).getD (v + 1) 0).toInt ≤ 4 ∧ ∀ i ∈ (List.range 4), ((pf1 (pf1 (pf1 (pf1 (nf1 (nf1 (nf1 (nf1 (List.replicate 6 (0 : Int32)) j0) j1) j2) j3) 1) 2) 3) 4).getD v 0).toInt ≤ (i : Int) → (i : Int) < ((pf1 (pf1 (pf1 (pf1 (nf1 (nf1 (nf1 (nf1 (List.replicate 6 (0 : Int32)) j0) j1) j2) j3) 1) 2) 3) 4).getD (v + 1) 0).toInt → (0 ≤ ((oa1 (oa1 (oa1 (oa1 (List.replicate 4 (0 : Int32)) (pf1 (pf1 (pf1 (pf1 (nf1 (nf1 (nf1 (nf1 (List.replicate 6 (0 : Int32)) j0) j1) j2) j3) 1) 2) 3) 4) j0 0) (nx1 (pf1 (pf1 (pf1 (pf1 (nf1 (nf1 (nf1 (nf1 (List.replicate 6 (0 : Int32)) j0) j1) j2) j3) 1) 2) 3) 4) j0) j1 1) (nx1 (nx1 (pf1 (pf1 (pf1 (pf1 (nf1 (nf1 (nf1 (nf1 (List.replicate 6 (0 : Int32)) j0) j1) j2) j3) 1) 2) 3) 4) j0) j1) j2 2) (nx1 (nx1 (nx1 (pf1 (pf1 (pf1 (pf1 (nf1 (nf1 (nf1 (nf1 (List.replicate 6 (0 : Int32)) j0) j1) j2) j3) 1) 2) 3) 4) j0) j1) j2) j3 3).getD i 0).toInt ∧ ((oa1 (oa1 (oa1 (oa1 (List.replicate 4 (0 : Int32)) (pf1 (pf1 (pf1 (pf1 (nf1 (nf1 (nf1 (nf1 (List.replicate 6 (0 : Int32)) j0) j1) j2) j3) 1) 2) 3) 4) j0 0) (nx1 (pf1 (pf1 (pf1 (pf1 (nf1 (nf1 (nf1 (nf1 (List.replicate 6 (0 : Int32)) j0) j1) j2) j3) 1) 2) 3) 4) j0) j1 1) (nx1 (nx1 (pf1 (pf1 (pf1 (pf1 (nf1 (nf1 (nf1 (nf1 (List.replicate 6 (0 : Int32)) j0) j1) j2) j3) 1) 2) 3) 4) j0) j1) j2 2) (nx1 (nx1 (nx1 (pf1 (pf1 (pf1 (pf1 (nf1 (nf1 (nf1 (nf1 (List.replicate 6 (0 : Int32)) j0) j1) j2) j3) 1) 2) 3) 4) j0) j1) j2) j3 3).getD i 0).toInt < 4 ∧ ([j0, j1, j2, j3] : List Nat).getD ((oa1 (oa1 (oa1 (oa1 (List.replicate 4 (0 : Int32)) (pf1 (pf1 (pf1 (pf1 (nf1 (nf1 (nf1 (nf1 (List.replicate 6 (0 : Int32)) j0) j1) j2) j3) 1) 2) 3) 4) j0 0) (nx1 (pf1 (pf1 (pf1 (pf1 (nf1 (nf1 (nf1 (nf1 (List.replicate 6 (0 : Int32)) j0) j1) j2) j3) 1) 2) 3) 4) j0) j1 1) (nx1 (nx1 (pf1 (pf1 (pf1 (pf1 (nf1 (nf1 (nf1 (nf1 (List.replicate 6 (0 : Int32)) j0) j1) j2) j3) 1) 2) 3) 4) j0) j1) j2 2) (nx1 (nx1 (nx1 (pf1 (pf1 (pf1 (pf1 (nf1 (nf1 (nf1 (nf1 (List.replicate 6 (0 : Int32)) j0) j1) j2) j3) 1) 2) 3) 4) j0) j1) j2) j3 3).getD i 0).toInt.toNat 0 = v)) := by decide +kernel

theorem c_net (l : Launch) (Z : State) (a0 : Array Value) (hw : ∀ d ∈ tables_1, d.before a0 Z = true) (n0 : Nat) (nt a el : Addr) (mcL ft : Int32) (lv : List Value) (x1 x2 x3 x4 : UInt64) (F : List HRow) (k0 : Addr) (t0 g0 : Int32) (j0 : Nat) (hl0 : lv[0]? = some (.ref k0)) (hd0 : (k0, ObC Z "com/example/lanewright/lanewright/Network$Arc" (fs_Network_Arc (.int t0) (.int g0) (.double x1) (.double x2) (.double x3) (.double x4))) ∈ F) (ht0 : t0.toInt = (j0 : Int)) (m0 : j0 ∈ ([1, 2, 3, 4] : List Nat)) (k1 : Addr) (t1 g1 : Int32) (j1 : Nat) (hl1 : lv[1]? = some (.ref k1)) (hd1 : (k1, ObC Z "com/example/lanewright/lanewright/Network$Arc" (fs_Network_Arc (.int t1) (.int g1) (.double x1) (.double x2) (.double x3) (.double x4))) ∈ F) (ht1 : t1.toInt = (j1 : Int)) (m1 : j1 ∈ ([1, 2, 3, 4] : List Nat)) (k2 : Addr) (t2 g2 : Int32) (j2 : Nat) (hl2 : lv[2]? = some (.ref k2)) (hd2 : (k2, ObC Z "com/example/lanewright/lanewright/Network$Arc" (fs_Network_Arc (.int t2) (.int g2) (.double x1) (.double x2) (.double x3) (.double x4))) ∈ F) (ht2 : t2.toInt = (j2 : Int)) (m2 : j2 ∈ ([1, 2, 3, 4] : List Nat)) (k3 : Addr) (t3 g3 : Int32) (j3 : Nat) (hl3 : lv[3]? = some (.ref k3)) (hd3 : (k3, ObC Z "com/example/lanewright/lanewright/Network$Arc" (fs_Network_Arc (.int t3) (.int g3) (.double x1) (.double x2) (.double x3) (.double x4))) ∈ F) (ht3 : t3.toInt = (j3 : Int)) (m3 : j3 ∈ ([1, 2, 3, 4] : List Nat))  (h0 : Heap) (H00 : Hp Z n0 h0 ((nt, ObC Z "com/example/lanewright/lanewright/Network" (fs_Network (.int (0 : Int32)) (.int (0 : Int32)) .null .null .null .null .null .null .null .null)) :: (a, ObC Z "java/util/ArrayList" (fs_ArrayList (.int mcL) (.ref el) (.int (4 : Int32)))) :: (el, RaC Z "java/lang/Object" lv) :: F)) :
    Con l Z n0 ⟨"com/example/lanewright/lanewright/Network", "<init>", "(IILjava/util/List;)V"⟩ [] prog_29_method_1_code 7 none ({ frames := 3, cells := 9, slots := 40, locals := 40 } : Room) #[.ref nt, .int (4 : Int32), .int ft, .ref a] h0 (fun v h => ∃ (tlA hdA caA ffA bsA pwA foA oaA : Addr) (J : List HRow), v = none ∧ Hp Z n0 h ((nt, ObC Z "com/example/lanewright/lanewright/Network" (fs_Network (.int (4 : Int32)) (.int ft) (.ref tlA) (.ref hdA) (.ref caA) (.ref ffA) (.ref bsA) (.ref pwA) (.ref foA) (.ref oaA))) :: (tlA, IaC Z ([t0, t1, t2, t3] : List Int32)) :: (hdA, IaC Z ([g0, g1, g2, g3] : List Int32)) :: (foA, IaC Z (pf1 (pf1 (pf1 (pf1 (nf1 (nf1 (nf1 (nf1 (List.replicate 6 (0 : Int32)) j0) j1) j2) j3) 1) 2) 3) 4)) :: (oaA, IaC Z (oa1 (oa1 (oa1 (oa1 (List.replicate 4 (0 : Int32)) (pf1 (pf1 (pf1 (pf1 (nf1 (nf1 (nf1 (nf1 (List.replicate 6 (0 : Int32)) j0) j1) j2) j3) 1) 2) 3) 4) j0 0) (nx1 (pf1 (pf1 (pf1 (pf1 (nf1 (nf1 (nf1 (nf1 (List.replicate 6 (0 : Int32)) j0) j1) j2) j3) 1) 2) 3) 4) j0) j1 1) (nx1 (nx1 (pf1 (pf1 (pf1 (pf1 (nf1 (nf1 (nf1 (nf1 (List.replicate 6 (0 : Int32)) j0) j1) j2) j3) 1) 2) 3) 4) j0) j1) j2 2) (nx1 (nx1 (nx1 (pf1 (pf1 (pf1 (pf1 (nf1 (nf1 (nf1 (nf1 (List.replicate 6 (0 : Int32)) j0) j1) j2) j3) 1) 2) 3) 4) j0) j1) j2) j3 3)) :: (J ++ F))) := by
  refine con_of (plainFor_of_name pn_Network) ?_
  intro p e s m below meth c T0 W0 e0
  subst e0
  have H0 := H00
  refine g_cast (ef_riir7 m nt (4 : Int32) ft a) ?_
  have bd0 : 1 ≤ j0 ∧ j0 ≤ 4 := by simp at m0; omega
  have bd1 : 1 ≤ j1 ∧ j1 ≤ 4 := by simp at m1; omega
  have bd2 : 1 ≤ j2 ∧ j2 ≤ 4 := by simp at m2; omega
  have bd3 : 1 ≤ j3 ∧ j3 ≤ 4 := by simp at m3; omega
  obtain ⟨⟨z0, z1, z2, z3⟩, hfin⟩ := net_ok j0 m0 j1 m1 j2 m2 j3 m3
  refine g_aloadN W0 d14_0 (pc' := 1) rfl rfl rfl ?_
  refine g_initO W0 (wd_97 hw) (wd_29 hw) (wd_30 hw) H0 rfl d14_1 (pc' := 4) rfl (by decide) (Wn := 0) (Nat.le_of_eq rfl) (by decide) ?_
  intro T1 W1 H1
  refine g_aloadN W1 d14_4 (pc' := 5) rfl rfl rfl ?_
  refine g_iloadN W1 d14_5 (pc' := 6) rfl rfl ?_
  refine g_putf W1 (wd_98 hw) Via.refl (Or.inr ⟨(wd_99 hw), rfl, rfl⟩) (wd_92 hw) (ty := .int) (by decide) rfl rfl H1 (i := 0) rfl (jx := 0) rfl d14_6 (pc' := 9) rfl (L' := ((nt, ObC Z "com/example/lanewright/lanewright/Network" (fs_Network (.int (4 : Int32)) (.int (0 : Int32)) .null .null .null .null .null .null .null .null)) :: (a, ObC Z "java/util/ArrayList" (fs_ArrayList (.int mcL) (.ref el) (.int (4 : Int32)))) :: (el, RaC Z "java/lang/Object" lv) :: F)) rfl ?_
  intro T2 W2 H2
  refine g_aloadN W2 d14_9 (pc' := 10) rfl rfl rfl ?_
  refine g_iloadN W2 d14_10 (pc' := 11) rfl rfl ?_
  refine g_putf W2 (wd_100 hw) Via.refl (Or.inr ⟨(wd_101 hw), rfl, rfl⟩) (wd_92 hw) (ty := .int) (by decide) rfl rfl H2 (i := 0) rfl (jx := 1) rfl d14_11 (pc' := 14) rfl (L' := ((nt, ObC Z "com/example/lanewright/lanewright/Network" (fs_Network (.int (4 : Int32)) (.int ft) .null .null .null .null .null .null .null .null)) :: (a, ObC Z "java/util/ArrayList" (fs_ArrayList (.int mcL) (.ref el) (.int (4 : Int32)))) :: (el, RaC Z "java/lang/Object" lv) :: F)) rfl ?_
  intro T3 W3 H3
  refine g_aloadN W3 d14_14 (pc' := 15) rfl rfl rfl ?_
  have H4f := Hp.fr1 H3
  refine g_callF W3 (argsL := []) (st := []) (wd_102 hw) (wd_103 hw) (fun _ _ hZ => mvT hZ (wd_104 hw)) (wd_105 hw) (wd_106 hw) (wd_107 hw) (wd_108 hw) (wd_109 hw) (wd_12 hw) (wd_110 hw) (by decide) (a := a) (H4f.exa (i := 0) rfl) (c_size l Z a0 hw n0 a el mcL (4 : Int32) _ _ H4f) pd_7 rfl rfl rfl d14_15 (pc' := 20) rfl (by decide) (Wn := 0) (Nat.le_of_eq rfl) (by decide) (kc' := 0) (ks' := 0) rfl rfl (by decide) (by decide) ?_
  intro T5 v5 W5 hp5
  obtain ⟨rfl, H5⟩ := hp5
  show Goes _ _ _ _ (State.setTop _ (mkF _ _ _ [.int (4 : Int32)]))
  refine g_istore W5 d14_20 (pc' := 22) rfl (ls' := #[.val (.ref nt), .val (.int (4 : Int32)), .val (.int ft), .val (.ref a), .val (.int (4 : Int32)), .unset, .unset]) rfl ?_
  refine g_aloadN W5 d14_22 (pc' := 23) rfl rfl rfl ?_
  refine g_iload W5 d14_23 (pc' := 25) rfl rfl ?_
  refine g_newarrI W5 (wd_1 hw) H5 (by decide) (n := 4) (by decide) (cap := 4) (by decide) (by decide) d14_25 (pc' := 27) rfl (kc' := 1) (ks' := 4) rfl rfl (by decide) (by decide) ?_
  intro T6 a6 W6 H6
  refine g_putf W6 (wd_111 hw) Via.refl (Or.inr ⟨(wd_112 hw), rfl, rfl⟩) (wd_92 hw) (ty := (.array .int)) (by decide) rfl rfl H6 (i := 2) rfl (jx := 2) rfl d14_27 (pc' := 30) rfl (L' := ((a6, IaC Z (List.replicate 4 0)) :: (a, ObC Z "java/util/ArrayList" (fs_ArrayList (.int mcL) (.ref el) (.int (4 : Int32)))) :: (nt, ObC Z "com/example/lanewright/lanewright/Network" (fs_Network (.int (4 : Int32)) (.int ft) (.ref a6) .null .null .null .null .null .null .null)) :: (el, RaC Z "java/lang/Object" lv) :: F)) rfl ?_
  intro T7 W7 H7
  refine g_aloadN W7 d14_30 (pc' := 31) rfl rfl rfl ?_
  refine g_iload W7 d14_31 (pc' := 33) rfl rfl ?_
  refine g_newarrI W7 (wd_1 hw) H7 (by decide) (n := 4) (by decide) (cap := 4) (by decide) (by decide) d14_33 (pc' := 35) rfl (kc' := 2) (ks' := 8) rfl rfl (by decide) (by decide) ?_
  intro T8 a8 W8 H8
  refine g_putf W8 (wd_113 hw) Via.refl (Or.inr ⟨(wd_114 hw), rfl, rfl⟩) (wd_92 hw) (ty := (.array .int)) (by decide) rfl rfl H8 (i := 3) rfl (jx := 3) rfl d14_35 (pc' := 38) rfl (L' := ((a8, IaC Z (List.replicate 4 0)) :: (a6, IaC Z (List.replicate 4 0)) :: (a, ObC Z "java/util/ArrayList" (fs_ArrayList (.int mcL) (.ref el) (.int (4 : Int32)))) :: (nt, ObC Z "com/example/lanewright/lanewright/Network" (fs_Network (.int (4 : Int32)) (.int ft) (.ref a6) (.ref a8) .null .null .null .null .null .null)) :: (el, RaC Z "java/lang/Object" lv) :: F)) rfl ?_
  intro T9 W9 H9
  refine g_aloadN W9 d14_38 (pc' := 39) rfl rfl rfl ?_
  refine g_iload W9 d14_39 (pc' := 41) rfl rfl ?_
  refine g_newarr (aty := .double) W9 (wd_2 hw) H9 (by decide) (vs := [.double 0, .double 0, .double 0, .double 0]) rfl (cap := 4) (Nat.le_of_eq rfl) (by decide) d14_41 (pc' := 43) rfl (kc' := 3) (ks' := 12) rfl rfl (by decide) (by decide) ?_
  intro T10 a10 W10 H10
  replace H10 : Hp Z n0 T10.heap ((a10, ArC Z .double [.double 0, .double 0, .double 0, .double 0]) :: (a8, IaC Z (List.replicate 4 0)) :: (a6, IaC Z (List.replicate 4 0)) :: (a, ObC Z "java/util/ArrayList" (fs_ArrayList (.int mcL) (.ref el) (.int (4 : Int32)))) :: (nt, ObC Z "com/example/lanewright/lanewright/Network" (fs_Network (.int (4 : Int32)) (.int ft) (.ref a6) (.ref a8) .null .null .null .null .null .null)) :: (el, RaC Z "java/lang/Object" lv) :: F) := H10
  refine g_putf W10 (wd_115 hw) Via.refl (Or.inr ⟨(wd_116 hw), rfl, rfl⟩) (wd_92 hw) (ty := (.array .double)) (by decide) rfl rfl H10 (i := 4) rfl (jx := 4) rfl d14_43 (pc' := 46) rfl (L' := ((a10, ArC Z .double [.double 0, .double 0, .double 0, .double 0]) :: (a8, IaC Z (List.replicate 4 0)) :: (a6, IaC Z (List.replicate 4 0)) :: (a, ObC Z "java/util/ArrayList" (fs_ArrayList (.int mcL) (.ref el) (.int (4 : Int32)))) :: (nt, ObC Z "com/example/lanewright/lanewright/Network" (fs_Network (.int (4 : Int32)) (.int ft) (.ref a6) (.ref a8) (.ref a10) .null .null .null .null .null)) :: (el, RaC Z "java/lang/Object" lv) :: F)) rfl ?_
  intro T11 W11 H11
  refine g_aloadN W11 d14_46 (pc' := 47) rfl rfl rfl ?_
  refine g_iload W11 d14_47 (pc' := 49) rfl rfl ?_
  refine g_newarr (aty := .double) W11 (wd_2 hw) H11 (by decide) (vs := [.double 0, .double 0, .double 0, .double 0]) rfl (cap := 4) (Nat.le_of_eq rfl) (by decide) d14_49 (pc' := 51) rfl (kc' := 4) (ks' := 16) rfl rfl (by decide) (by decide) ?_
  intro T12 a12 W12 H12
  replace H12 : Hp Z n0 T12.heap ((a12, ArC Z .double [.double 0, .double 0, .double 0, .double 0]) :: (a10, ArC Z .double [.double 0, .double 0, .double 0, .double 0]) :: (a8, IaC Z (List.replicate 4 0)) :: (a6, IaC Z (List.replicate 4 0)) :: (a, ObC Z "java/util/ArrayList" (fs_ArrayList (.int mcL) (.ref el) (.int (4 : Int32)))) :: (nt, ObC Z "com/example/lanewright/lanewright/Network" (fs_Network (.int (4 : Int32)) (.int ft) (.ref a6) (.ref a8) (.ref a10) .null .null .null .null .null)) :: (el, RaC Z "java/lang/Object" lv) :: F) := H12
  refine g_putf W12 (wd_117 hw) Via.refl (Or.inr ⟨(wd_118 hw), rfl, rfl⟩) (wd_92 hw) (ty := (.array .double)) (by decide) rfl rfl H12 (i := 5) rfl (jx := 5) rfl d14_51 (pc' := 54) rfl (L' := ((a12, ArC Z .double [.double 0, .double 0, .double 0, .double 0]) :: (a10, ArC Z .double [.double 0, .double 0, .double 0, .double 0]) :: (a8, IaC Z (List.replicate 4 0)) :: (a6, IaC Z (List.replicate 4 0)) :: (a, ObC Z "java/util/ArrayList" (fs_ArrayList (.int mcL) (.ref el) (.int (4 : Int32)))) :: (nt, ObC Z "com/example/lanewright/lanewright/Network" (fs_Network (.int (4 : Int32)) (.int ft) (.ref a6) (.ref a8) (.ref a10) (.ref a12) .null .null .null .null)) :: (el, RaC Z "java/lang/Object" lv) :: F)) rfl ?_
  intro T13 W13 H13
  refine g_aloadN W13 d14_54 (pc' := 55) rfl rfl rfl ?_
  refine g_iload W13 d14_55 (pc' := 57) rfl rfl ?_
  refine g_newarr (aty := .double) W13 (wd_2 hw) H13 (by decide) (vs := [.double 0, .double 0, .double 0, .double 0]) rfl (cap := 4) (Nat.le_of_eq rfl) (by decide) d14_57 (pc' := 59) rfl (kc' := 5) (ks' := 20) rfl rfl (by decide) (by decide) ?_
  intro T14 a14 W14 H14
  replace H14 : Hp Z n0 T14.heap ((a14, ArC Z .double [.double 0, .double 0, .double 0, .double 0]) :: (a12, ArC Z .double [.double 0, .double 0, .double 0, .double 0]) :: (a10, ArC Z .double [.double 0, .double 0, .double 0, .double 0]) :: (a8, IaC Z (List.replicate 4 0)) :: (a6, IaC Z (List.replicate 4 0)) :: (a, ObC Z "java/util/ArrayList" (fs_ArrayList (.int mcL) (.ref el) (.int (4 : Int32)))) :: (nt, ObC Z "com/example/lanewright/lanewright/Network" (fs_Network (.int (4 : Int32)) (.int ft) (.ref a6) (.ref a8) (.ref a10) (.ref a12) .null .null .null .null)) :: (el, RaC Z "java/lang/Object" lv) :: F) := H14
  refine g_putf W14 (wd_119 hw) Via.refl (Or.inr ⟨(wd_120 hw), rfl, rfl⟩) (wd_92 hw) (ty := (.array .double)) (by decide) rfl rfl H14 (i := 6) rfl (jx := 6) rfl d14_59 (pc' := 62) rfl (L' := ((a14, ArC Z .double [.double 0, .double 0, .double 0, .double 0]) :: (a12, ArC Z .double [.double 0, .double 0, .double 0, .double 0]) :: (a10, ArC Z .double [.double 0, .double 0, .double 0, .double 0]) :: (a8, IaC Z (List.replicate 4 0)) :: (a6, IaC Z (List.replicate 4 0)) :: (a, ObC Z "java/util/ArrayList" (fs_ArrayList (.int mcL) (.ref el) (.int (4 : Int32)))) :: (nt, ObC Z "com/example/lanewright/lanewright/Network" (fs_Network (.int (4 : Int32)) (.int ft) (.ref a6) (.ref a8) (.ref a10) (.ref a12) (.ref a14) .null .null .null)) :: (el, RaC Z "java/lang/Object" lv) :: F)) rfl ?_
  intro T15 W15 H15
  refine g_aloadN W15 d14_62 (pc' := 63) rfl rfl rfl ?_
  refine g_iload W15 d14_63 (pc' := 65) rfl rfl ?_
  refine g_newarr (aty := .double) W15 (wd_2 hw) H15 (by decide) (vs := [.double 0, .double 0, .double 0, .double 0]) rfl (cap := 4) (Nat.le_of_eq rfl) (by decide) d14_65 (pc' := 67) rfl (kc' := 6) (ks' := 24) rfl rfl (by decide) (by decide) ?_
  intro T16 a16 W16 H16
  replace H16 : Hp Z n0 T16.heap ((a16, ArC Z .double [.double 0, .double 0, .double 0, .double 0]) :: (a14, ArC Z .double [.double 0, .double 0, .double 0, .double 0]) :: (a12, ArC Z .double [.double 0, .double 0, .double 0, .double 0]) :: (a10, ArC Z .double [.double 0, .double 0, .double 0, .double 0]) :: (a8, IaC Z (List.replicate 4 0)) :: (a6, IaC Z (List.replicate 4 0)) :: (a, ObC Z "java/util/ArrayList" (fs_ArrayList (.int mcL) (.ref el) (.int (4 : Int32)))) :: (nt, ObC Z "com/example/lanewright/lanewright/Network" (fs_Network (.int (4 : Int32)) (.int ft) (.ref a6) (.ref a8) (.ref a10) (.ref a12) (.ref a14) .null .null .null)) :: (el, RaC Z "java/lang/Object" lv) :: F) := H16
  refine g_putf W16 (wd_121 hw) Via.refl (Or.inr ⟨(wd_122 hw), rfl, rfl⟩) (wd_92 hw) (ty := (.array .double)) (by decide) rfl rfl H16 (i := 7) rfl (jx := 7) rfl d14_67 (pc' := 70) rfl (L' := ((a16, ArC Z .double [.double 0, .double 0, .double 0, .double 0]) :: (a14, ArC Z .double [.double 0, .double 0, .double 0, .double 0]) :: (a12, ArC Z .double [.double 0, .double 0, .double 0, .double 0]) :: (a10, ArC Z .double [.double 0, .double 0, .double 0, .double 0]) :: (a8, IaC Z (List.replicate 4 0)) :: (a6, IaC Z (List.replicate 4 0)) :: (a, ObC Z "java/util/ArrayList" (fs_ArrayList (.int mcL) (.ref el) (.int (4 : Int32)))) :: (nt, ObC Z "com/example/lanewright/lanewright/Network" (fs_Network (.int (4 : Int32)) (.int ft) (.ref a6) (.ref a8) (.ref a10) (.ref a12) (.ref a14) (.ref a16) .null .null)) :: (el, RaC Z "java/lang/Object" lv) :: F)) rfl ?_
  intro T17 W17 H17
  refine g_aloadN W17 d14_70 (pc' := 71) rfl rfl rfl ?_
  refine g_iloadN W17 d14_71 (pc' := 72) rfl rfl ?_
  refine g_iconst W17 d14_72 (pc' := 73) rfl (v := (2 : Int32)) (by decide) ?_
  refine g_iadd W17 d14_73 (pc' := 74) rfl (v := (6 : Int32)) (by decide) ?_
  refine g_newarrI W17 (wd_1 hw) H17 (by decide) (n := 6) (by decide) (cap := 6) (by decide) (by decide) d14_74 (pc' := 76) rfl (kc' := 7) (ks' := 30) rfl rfl (by decide) (by decide) ?_
  intro T18 a18 W18 H18
  refine g_putf W18 (wd_123 hw) Via.refl (Or.inr ⟨(wd_124 hw), rfl, rfl⟩) (wd_92 hw) (ty := (.array .int)) (by decide) rfl rfl H18 (i := 8) rfl (jx := 8) rfl d14_76 (pc' := 79) rfl (L' := ((a18, IaC Z (List.replicate 6 0)) :: (a16, ArC Z .double [.double 0, .double 0, .double 0, .double 0]) :: (a14, ArC Z .double [.double 0, .double 0, .double 0, .double 0]) :: (a12, ArC Z .double [.double 0, .double 0, .double 0, .double 0]) :: (a10, ArC Z .double [.double 0, .double 0, .double 0, .double 0]) :: (a8, IaC Z (List.replicate 4 0)) :: (a6, IaC Z (List.replicate 4 0)) :: (a, ObC Z "java/util/ArrayList" (fs_ArrayList (.int mcL) (.ref el) (.int (4 : Int32)))) :: (nt, ObC Z "com/example/lanewright/lanewright/Network" (fs_Network (.int (4 : Int32)) (.int ft) (.ref a6) (.ref a8) (.ref a10) (.ref a12) (.ref a14) (.ref a16) (.ref a18) .null)) :: (el, RaC Z "java/lang/Object" lv) :: F)) rfl ?_
  intro T19 W19 H19
  refine g_iconst W19 d14_79 (pc' := 80) rfl (v := (0 : Int32)) (by decide) ?_
  refine g_istore W19 d14_80 (pc' := 82) rfl (ls' := #[.val (.ref nt), .val (.int (4 : Int32)), .val (.int ft), .val (.ref a), .val (.int (4 : Int32)), .val (.int (0 : Int32)), .unset]) rfl ?_
  refine g_iload W19 d14_82 (pc' := 84) rfl rfl ?_
  refine g_iload W19 d14_84 (pc' := 86) rfl rfl ?_
  refine g_icmp W19 d14_86 (pcy := 196) (by decide) (pc' := 89) rfl (fun (h : ¬ (0 : Int32) < (4 : Int32)) => absurd h (by decide)) (fun _ => ?_)
  refine g_aloadN W19 d14_89 (pc' := 90) rfl rfl rfl ?_
  refine g_iload W19 d14_90 (pc' := 92) rfl rfl ?_
  have H20f := Hp.fr9 H19
  have H21f := Hp.fr8 H20f
  refine g_callF W19 (argsL := [.int (0 : Int32)]) (st := []) (wd_125 hw) (wd_126 hw) (fun _ _ hZ => mvT hZ (wd_127 hw)) (wd_128 hw) (wd_129 hw) (wd_130 hw) (wd_131 hw) (wd_109 hw) (wd_12 hw) (wd_132 hw) (by decide) (a := a) (H21f.exa (i := 0) rfl) (c_get l Z a0 hw n0 a el mcL (4 : Int32) (0 : Int32) lv k0 0 (by decide) hl0 (by decide) (by decide) _ _ H21f) pd_6 rfl rfl rfl d14_92 (pc' := 97) rfl (by decide) (Wn := 0) (Nat.le_of_eq rfl) (by decide) (kc' := 7) (ks' := 30) rfl rfl (by decide) (by decide) ?_
  intro T22 v22 W22 hp22
  obtain ⟨rfl, H22⟩ := hp22
  show Goes _ _ _ _ (State.setTop _ (mkF _ _ _ [.ref k0]))
  refine g_cast1 W22 (wd_146 hw) (Ins.self (H22.exam (mc10 hd0))) H22 d14_97 (pc' := 100) rfl ?_
  intro T23 W23 _ H23
  refine g_astore W23 d14_100 (pc' := 102) rfl rfl (ls' := #[.val (.ref nt), .val (.int (4 : Int32)), .val (.int ft), .val (.ref a), .val (.int (4 : Int32)), .val (.int (0 : Int32)), .val (.ref k0)]) rfl ?_
  refine g_aloadN W23 d14_102 (pc' := 103) rfl rfl rfl ?_
  refine g_getf W23 (wd_111 hw) Via.refl H23 (i := 9) rfl (jx := 2) rfl d14_103 (pc' := 106) rfl ?_
  intro T24 W24 H24
  refine g_iload W24 d14_106 (pc' := 108) rfl rfl ?_
  refine g_aload W24 d14_108 (pc' := 110) rfl rfl rfl ?_
  refine g_callVE W24 (argsL := []) (st := [.int (0 : Int32), .ref a6]) (wd_148 hw) (wd_149 hw) (wd_151 hw) (wd_150 hw) (wd_38 hw) (wd_152 hw) (fun _ hZ => notFace_of_selects (args := #[]) (mvT hZ (wd_151 hw))) (by decide) (a := k0) (H24.exam (mc10 hd0)) (c_a_tail l Z a0 hw n0 k0 t0 g0 x1 x2 x3 x4 _ (mc10 hd0) _ H24) pd_7 rfl rfl rfl d14_110 (pc' := 113) rfl (by decide) (Wn := 2) (Nat.le_of_eq rfl) (by decide) (kc' := 7) (ks' := 30) rfl rfl (by decide) (by decide) ?_
  intro T25 v25 W25 hp25
  obtain ⟨rfl, H25⟩ := hp25
  show Goes _ _ _ _ (State.setTop _ (mkF _ _ _ [.int t0, .int (0 : Int32), .ref a6]))
  refine g_iastoreI W25 H25 (i := 8) rfl (jx := 0) (by decide) (by exact (by decide : 0 < 4)) d14_113 (pc' := 114) rfl (L' := ((a, ObC Z "java/util/ArrayList" (fs_ArrayList (.int mcL) (.ref el) (.int (4 : Int32)))) :: (el, RaC Z "java/lang/Object" lv) :: (a18, IaC Z (List.replicate 6 0)) :: (a16, ArC Z .double [.double 0, .double 0, .double 0, .double 0]) :: (a14, ArC Z .double [.double 0, .double 0, .double 0, .double 0]) :: (a12, ArC Z .double [.double 0, .double 0, .double 0, .double 0]) :: (a10, ArC Z .double [.double 0, .double 0, .double 0, .double 0]) :: (a8, IaC Z (List.replicate 4 0)) :: (a6, IaC Z ([t0, 0, 0, 0] : List Int32)) :: (nt, ObC Z "com/example/lanewright/lanewright/Network" (fs_Network (.int (4 : Int32)) (.int ft) (.ref a6) (.ref a8) (.ref a10) (.ref a12) (.ref a14) (.ref a16) (.ref a18) .null)) :: F)) rfl ?_
  intro T26 W26 H26
  refine g_aloadN W26 d14_114 (pc' := 115) rfl rfl rfl ?_
  refine g_getf W26 (wd_113 hw) Via.refl H26 (i := 9) rfl (jx := 3) rfl d14_115 (pc' := 118) rfl ?_
  intro T27 W27 H27
  refine g_iload W27 d14_118 (pc' := 120) rfl rfl ?_
  refine g_aload W27 d14_120 (pc' := 122) rfl rfl rfl ?_
  refine g_callVE W27 (argsL := []) (st := [.int (0 : Int32), .ref a8]) (wd_153 hw) (wd_154 hw) (wd_156 hw) (wd_155 hw) (wd_38 hw) (wd_157 hw) (fun _ hZ => notFace_of_selects (args := #[]) (mvT hZ (wd_156 hw))) (by decide) (a := k0) (H27.exam (mc10 hd0)) (c_a_head l Z a0 hw n0 k0 t0 g0 x1 x2 x3 x4 _ (mc10 hd0) _ H27) pd_7 rfl rfl rfl d14_122 (pc' := 125) rfl (by decide) (Wn := 2) (Nat.le_of_eq rfl) (by decide) (kc' := 7) (ks' := 30) rfl rfl (by decide) (by decide) ?_
  intro T28 v28 W28 hp28
  obtain ⟨rfl, H28⟩ := hp28
  show Goes _ _ _ _ (State.setTop _ (mkF _ _ _ [.int g0, .int (0 : Int32), .ref a8]))
  refine g_iastoreI W28 H28 (i := 7) rfl (jx := 0) (by decide) (by exact (by decide : 0 < 4)) d14_125 (pc' := 126) rfl (L' := ((a, ObC Z "java/util/ArrayList" (fs_ArrayList (.int mcL) (.ref el) (.int (4 : Int32)))) :: (el, RaC Z "java/lang/Object" lv) :: (a18, IaC Z (List.replicate 6 0)) :: (a16, ArC Z .double [.double 0, .double 0, .double 0, .double 0]) :: (a14, ArC Z .double [.double 0, .double 0, .double 0, .double 0]) :: (a12, ArC Z .double [.double 0, .double 0, .double 0, .double 0]) :: (a10, ArC Z .double [.double 0, .double 0, .double 0, .double 0]) :: (a8, IaC Z ([g0, 0, 0, 0] : List Int32)) :: (a6, IaC Z ([t0, 0, 0, 0] : List Int32)) :: (nt, ObC Z "com/example/lanewright/lanewright/Network" (fs_Network (.int (4 : Int32)) (.int ft) (.ref a6) (.ref a8) (.ref a10) (.ref a12) (.ref a14) (.ref a16) (.ref a18) .null)) :: F)) rfl ?_
  intro T29 W29 H29
  refine g_aloadN W29 d14_126 (pc' := 127) rfl rfl rfl ?_
  refine g_getf W29 (wd_115 hw) Via.refl H29 (i := 9) rfl (jx := 4) rfl d14_127 (pc' := 130) rfl ?_
  intro T30 W30 H30
  refine g_iload W30 d14_130 (pc' := 132) rfl rfl ?_
  refine g_aload W30 d14_132 (pc' := 134) rfl rfl rfl ?_
  refine g_callVE W30 (argsL := []) (st := [.int (0 : Int32), .ref a10]) (wd_158 hw) (wd_159 hw) (wd_161 hw) (wd_160 hw) (wd_38 hw) (wd_162 hw) (fun _ hZ => notFace_of_selects (args := #[]) (mvT hZ (wd_161 hw))) (by decide) (a := k0) (H30.exam (mc10 hd0)) (c_a_capacity l Z a0 hw n0 k0 t0 g0 x1 x2 x3 x4 _ (mc10 hd0) _ H30) pd_8 rfl rfl rfl d14_134 (pc' := 137) rfl (by decide) (Wn := 2) (Nat.le_of_eq rfl) (by decide) (kc' := 7) (ks' := 30) rfl rfl (by decide) (by decide) ?_
  intro T31 v31 W31 hp31
  obtain ⟨rfl, H31⟩ := hp31
  show Goes _ _ _ _ (State.setTop _ (mkF _ _ _ [.double x1, .int (0 : Int32), .ref a10]))
  refine g_dastore W31 H31 (i := 6) rfl (jx := 0) (by decide) (by exact (by decide : 0 < 4)) d14_137 (pc' := 138) rfl (L' := ((a, ObC Z "java/util/ArrayList" (fs_ArrayList (.int mcL) (.ref el) (.int (4 : Int32)))) :: (el, RaC Z "java/lang/Object" lv) :: (a18, IaC Z (List.replicate 6 0)) :: (a16, ArC Z .double [.double 0, .double 0, .double 0, .double 0]) :: (a14, ArC Z .double [.double 0, .double 0, .double 0, .double 0]) :: (a12, ArC Z .double [.double 0, .double 0, .double 0, .double 0]) :: (a10, ArC Z .double [.double x1, .double 0, .double 0, .double 0]) :: (a8, IaC Z ([g0, 0, 0, 0] : List Int32)) :: (a6, IaC Z ([t0, 0, 0, 0] : List Int32)) :: (nt, ObC Z "com/example/lanewright/lanewright/Network" (fs_Network (.int (4 : Int32)) (.int ft) (.ref a6) (.ref a8) (.ref a10) (.ref a12) (.ref a14) (.ref a16) (.ref a18) .null)) :: F)) rfl ?_
  intro T32 W32 H32
  refine g_aloadN W32 d14_138 (pc' := 139) rfl rfl rfl ?_
  refine g_getf W32 (wd_117 hw) Via.refl H32 (i := 9) rfl (jx := 5) rfl d14_139 (pc' := 142) rfl ?_
  intro T33 W33 H33
  refine g_iload W33 d14_142 (pc' := 144) rfl rfl ?_
  refine g_aload W33 d14_144 (pc' := 146) rfl rfl rfl ?_
  refine g_callVE W33 (argsL := []) (st := [.int (0 : Int32), .ref a12]) (wd_163 hw) (wd_164 hw) (wd_166 hw) (wd_165 hw) (wd_38 hw) (wd_167 hw) (fun _ hZ => notFace_of_selects (args := #[]) (mvT hZ (wd_166 hw))) (by decide) (a := k0) (H33.exam (mc10 hd0)) (c_a_freeFlowTime l Z a0 hw n0 k0 t0 g0 x1 x2 x3 x4 _ (mc10 hd0) _ H33) pd_8 rfl rfl rfl d14_146 (pc' := 149) rfl (by decide) (Wn := 2) (Nat.le_of_eq rfl) (by decide) (kc' := 7) (ks' := 30) rfl rfl (by decide) (by decide) ?_
  intro T34 v34 W34 hp34
  obtain ⟨rfl, H34⟩ := hp34
  show Goes _ _ _ _ (State.setTop _ (mkF _ _ _ [.double x2, .int (0 : Int32), .ref a12]))
  refine g_dastore W34 H34 (i := 5) rfl (jx := 0) (by decide) (by exact (by decide : 0 < 4)) d14_149 (pc' := 150) rfl (L' := ((a, ObC Z "java/util/ArrayList" (fs_ArrayList (.int mcL) (.ref el) (.int (4 : Int32)))) :: (el, RaC Z "java/lang/Object" lv) :: (a18, IaC Z (List.replicate 6 0)) :: (a16, ArC Z .double [.double 0, .double 0, .double 0, .double 0]) :: (a14, ArC Z .double [.double 0, .double 0, .double 0, .double 0]) :: (a12, ArC Z .double [.double x2, .double 0, .double 0, .double 0]) :: (a10, ArC Z .double [.double x1, .double 0, .double 0, .double 0]) :: (a8, IaC Z ([g0, 0, 0, 0] : List Int32)) :: (a6, IaC Z ([t0, 0, 0, 0] : List Int32)) :: (nt, ObC Z "com/example/lanewright/lanewright/Network" (fs_Network (.int (4 : Int32)) (.int ft) (.ref a6) (.ref a8) (.ref a10) (.ref a12) (.ref a14) (.ref a16) (.ref a18) .null)) :: F)) rfl ?_
  intro T35 W35 H35
  refine g_aloadN W35 d14_150 (pc' := 151) rfl rfl rfl ?_
  refine g_getf W35 (wd_119 hw) Via.refl H35 (i := 9) rfl (jx := 6) rfl d14_151 (pc' := 154) rfl ?_
  intro T36 W36 H36
  refine g_iload W36 d14_154 (pc' := 156) rfl rfl ?_
  refine g_aload W36 d14_156 (pc' := 158) rfl rfl rfl ?_
  refine g_callVE W36 (argsL := []) (st := [.int (0 : Int32), .ref a14]) (wd_168 hw) (wd_169 hw) (wd_171 hw) (wd_170 hw) (wd_38 hw) (wd_172 hw) (fun _ hZ => notFace_of_selects (args := #[]) (mvT hZ (wd_171 hw))) (by decide) (a := k0) (H36.exam (mc10 hd0)) (c_a_b l Z a0 hw n0 k0 t0 g0 x1 x2 x3 x4 _ (mc10 hd0) _ H36) pd_8 rfl rfl rfl d14_158 (pc' := 161) rfl (by decide) (Wn := 2) (Nat.le_of_eq rfl) (by decide) (kc' := 7) (ks' := 30) rfl rfl (by decide) (by decide) ?_
  intro T37 v37 W37 hp37
  obtain ⟨rfl, H37⟩ := hp37
  show Goes _ _ _ _ (State.setTop _ (mkF _ _ _ [.double x3, .int (0 : Int32), .ref a14]))
  refine g_dastore W37 H37 (i := 4) rfl (jx := 0) (by decide) (by exact (by decide : 0 < 4)) d14_161 (pc' := 162) rfl (L' := ((a, ObC Z "java/util/ArrayList" (fs_ArrayList (.int mcL) (.ref el) (.int (4 : Int32)))) :: (el, RaC Z "java/lang/Object" lv) :: (a18, IaC Z (List.replicate 6 0)) :: (a16, ArC Z .double [.double 0, .double 0, .double 0, .double 0]) :: (a14, ArC Z .double [.double x3, .double 0, .double 0, .double 0]) :: (a12, ArC Z .double [.double x2, .double 0, .double 0, .double 0]) :: (a10, ArC Z .double [.double x1, .double 0, .double 0, .double 0]) :: (a8, IaC Z ([g0, 0, 0, 0] : List Int32)) :: (a6, IaC Z ([t0, 0, 0, 0] : List Int32)) :: (nt, ObC Z "com/example/lanewright/lanewright/Network" (fs_Network (.int (4 : Int32)) (.int ft) (.ref a6) (.ref a8) (.ref a10) (.ref a12) (.ref a14) (.ref a16) (.ref a18) .null)) :: F)) rfl ?_
  intro T38 W38 H38
  refine g_aloadN W38 d14_162 (pc' := 163) rfl rfl rfl ?_
  refine g_getf W38 (wd_121 hw) Via.refl H38 (i := 9) rfl (jx := 7) rfl d14_163 (pc' := 166) rfl ?_
  intro T39 W39 H39
  refine g_iload W39 d14_166 (pc' := 168) rfl rfl ?_
  refine g_aload W39 d14_168 (pc' := 170) rfl rfl rfl ?_
  refine g_callVE W39 (argsL := []) (st := [.int (0 : Int32), .ref a16]) (wd_173 hw) (wd_174 hw) (wd_176 hw) (wd_175 hw) (wd_38 hw) (wd_177 hw) (fun _ hZ => notFace_of_selects (args := #[]) (mvT hZ (wd_176 hw))) (by decide) (a := k0) (H39.exam (mc10 hd0)) (c_a_power l Z a0 hw n0 k0 t0 g0 x1 x2 x3 x4 _ (mc10 hd0) _ H39) pd_8 rfl rfl rfl d14_170 (pc' := 173) rfl (by decide) (Wn := 2) (Nat.le_of_eq rfl) (by decide) (kc' := 7) (ks' := 30) rfl rfl (by decide) (by decide) ?_
  intro T40 v40 W40 hp40
  obtain ⟨rfl, H40⟩ := hp40
  show Goes _ _ _ _ (State.setTop _ (mkF _ _ _ [.double x4, .int (0 : Int32), .ref a16]))
  refine g_dastore W40 H40 (i := 3) rfl (jx := 0) (by decide) (by exact (by decide : 0 < 4)) d14_173 (pc' := 174) rfl (L' := ((a, ObC Z "java/util/ArrayList" (fs_ArrayList (.int mcL) (.ref el) (.int (4 : Int32)))) :: (el, RaC Z "java/lang/Object" lv) :: (a18, IaC Z (List.replicate 6 0)) :: (a16, ArC Z .double [.double x4, .double 0, .double 0, .double 0]) :: (a14, ArC Z .double [.double x3, .double 0, .double 0, .double 0]) :: (a12, ArC Z .double [.double x2, .double 0, .double 0, .double 0]) :: (a10, ArC Z .double [.double x1, .double 0, .double 0, .double 0]) :: (a8, IaC Z ([g0, 0, 0, 0] : List Int32)) :: (a6, IaC Z ([t0, 0, 0, 0] : List Int32)) :: (nt, ObC Z "com/example/lanewright/lanewright/Network" (fs_Network (.int (4 : Int32)) (.int ft) (.ref a6) (.ref a8) (.ref a10) (.ref a12) (.ref a14) (.ref a16) (.ref a18) .null)) :: F)) rfl ?_
  intro T41 W41 H41
  refine g_aloadN W41 d14_174 (pc' := 175) rfl rfl rfl ?_
  refine g_getf W41 (wd_123 hw) Via.refl H41 (i := 9) rfl (jx := 8) rfl d14_175 (pc' := 178) rfl ?_
  intro T42 W42 H42
  refine g_aload W42 d14_178 (pc' := 180) rfl rfl rfl ?_
  refine g_callVE W42 (argsL := []) (st := [.ref a18]) (wd_148 hw) (wd_149 hw) (wd_151 hw) (wd_150 hw) (wd_38 hw) (wd_152 hw) (fun _ hZ => notFace_of_selects (args := #[]) (mvT hZ (wd_151 hw))) (by decide) (a := k0) (H42.exam (mc10 hd0)) (c_a_tail l Z a0 hw n0 k0 t0 g0 x1 x2 x3 x4 _ (mc10 hd0) _ H42) pd_7 rfl rfl rfl d14_180 (pc' := 183) rfl (by decide) (Wn := 1) (Nat.le_of_eq rfl) (by decide) (kc' := 7) (ks' := 30) rfl rfl (by decide) (by decide) ?_
  intro T43 v43 W43 hp43
  obtain ⟨rfl, H43⟩ := hp43
  show Goes _ _ _ _ (State.setTop _ (mkF _ _ _ [.int t0, .ref a18]))
  refine g_iconst W43 d14_183 (pc' := 184) rfl (v := (1 : Int32)) (by decide) ?_
  refine g_iadd W43 d14_184 (pc' := 185) rfl rfl ?_
  refine g_dup2 W43 d14_185 (pc' := 186) rfl rfl rfl ?_
  refine g_ialoadI W43 H43 (i := 2) rfl (jx := (j0 + 1)) (i_p1 ht0 (by omega)) (u := ((List.replicate 6 (0 : Int32)).getD (j0 + 1) 0)) (getD_some (by simp only [nf1_len, pf1_len, nx1_len, oa1_len, List.length_replicate]; omega)) d14_186 (pc' := 187) rfl ?_
  refine g_iconst W43 d14_187 (pc' := 188) rfl (v := (1 : Int32)) (by decide) ?_
  refine g_iadd W43 d14_188 (pc' := 189) rfl rfl ?_
  refine g_iastoreI W43 H43 (i := 2) rfl (jx := (j0 + 1)) (i_p1 ht0 (by omega)) (by simp only [nf1_len, pf1_len, nx1_len, oa1_len, List.length_replicate]; omega) d14_189 (pc' := 190) rfl (L' := ((a, ObC Z "java/util/ArrayList" (fs_ArrayList (.int mcL) (.ref el) (.int (4 : Int32)))) :: (el, RaC Z "java/lang/Object" lv) :: (a18, IaC Z (nf1 (List.replicate 6 (0 : Int32)) j0)) :: (a16, ArC Z .double [.double x4, .double 0, .double 0, .double 0]) :: (a14, ArC Z .double [.double x3, .double 0, .double 0, .double 0]) :: (a12, ArC Z .double [.double x2, .double 0, .double 0, .double 0]) :: (a10, ArC Z .double [.double x1, .double 0, .double 0, .double 0]) :: (a8, IaC Z ([g0, 0, 0, 0] : List Int32)) :: (a6, IaC Z ([t0, 0, 0, 0] : List Int32)) :: (nt, ObC Z "com/example/lanewright/lanewright/Network" (fs_Network (.int (4 : Int32)) (.int ft) (.ref a6) (.ref a8) (.ref a10) (.ref a12) (.ref a14) (.ref a16) (.ref a18) .null)) :: F)) rfl ?_
  intro T44 W44 H44
  refine g_iinc W44 d14_190 (pc' := 193) rfl rfl (v := (1 : Int32)) (by decide) (ls' := #[.val (.ref nt), .val (.int (4 : Int32)), .val (.int ft), .val (.ref a), .val (.int (4 : Int32)), .val (.int (1 : Int32)), .val (.ref k0)]) rfl ?_
  refine g_goto W44 d14_193 (pc' := 82) (by decide) ?_
  refine g_iload W44 d14_82 (pc' := 84) rfl rfl ?_
  refine g_iload W44 d14_84 (pc' := 86) rfl rfl ?_
  refine g_icmp W44 d14_86 (pcy := 196) (by decide) (pc' := 89) rfl (fun (h : ¬ (1 : Int32) < (4 : Int32)) => absurd h (by decide)) (fun _ => ?_)
  refine g_aloadN W44 d14_89 (pc' := 90) rfl rfl rfl ?_
  refine g_iload W44 d14_90 (pc' := 92) rfl rfl ?_
  have H45f := Hp.fr1 H44
  have H46f := Hp.fr1 H45f
  refine g_callF W44 (argsL := [.int (1 : Int32)]) (st := []) (wd_125 hw) (wd_126 hw) (fun _ _ hZ => mvT hZ (wd_127 hw)) (wd_128 hw) (wd_129 hw) (wd_130 hw) (wd_131 hw) (wd_109 hw) (wd_12 hw) (wd_132 hw) (by decide) (a := a) (H46f.exa (i := 0) rfl) (c_get l Z a0 hw n0 a el mcL (4 : Int32) (1 : Int32) lv k1 1 (by decide) hl1 (by decide) (by decide) _ _ H46f) pd_6 rfl rfl rfl d14_92 (pc' := 97) rfl (by decide) (Wn := 0) (Nat.le_of_eq rfl) (by decide) (kc' := 7) (ks' := 30) rfl rfl (by decide) (by decide) ?_
  intro T47 v47 W47 hp47
  obtain ⟨rfl, H47⟩ := hp47
  show Goes _ _ _ _ (State.setTop _ (mkF _ _ _ [.ref k1]))
  refine g_cast1 W47 (wd_146 hw) (Ins.self (H47.exam (mc10 hd1))) H47 d14_97 (pc' := 100) rfl ?_
  intro T48 W48 _ H48
  refine g_astore W48 d14_100 (pc' := 102) rfl rfl (ls' := #[.val (.ref nt), .val (.int (4 : Int32)), .val (.int ft), .val (.ref a), .val (.int (4 : Int32)), .val (.int (1 : Int32)), .val (.ref k1)]) rfl ?_
  refine g_aloadN W48 d14_102 (pc' := 103) rfl rfl rfl ?_
  refine g_getf W48 (wd_111 hw) Via.refl H48 (i := 9) rfl (jx := 2) rfl d14_103 (pc' := 106) rfl ?_
  intro T49 W49 H49
  refine g_iload W49 d14_106 (pc' := 108) rfl rfl ?_
  refine g_aload W49 d14_108 (pc' := 110) rfl rfl rfl ?_
  refine g_callVE W49 (argsL := []) (st := [.int (1 : Int32), .ref a6]) (wd_148 hw) (wd_149 hw) (wd_151 hw) (wd_150 hw) (wd_38 hw) (wd_152 hw) (fun _ hZ => notFace_of_selects (args := #[]) (mvT hZ (wd_151 hw))) (by decide) (a := k1) (H49.exam (mc10 hd1)) (c_a_tail l Z a0 hw n0 k1 t1 g1 x1 x2 x3 x4 _ (mc10 hd1) _ H49) pd_7 rfl rfl rfl d14_110 (pc' := 113) rfl (by decide) (Wn := 2) (Nat.le_of_eq rfl) (by decide) (kc' := 7) (ks' := 30) rfl rfl (by decide) (by decide) ?_
  intro T50 v50 W50 hp50
  obtain ⟨rfl, H50⟩ := hp50
  show Goes _ _ _ _ (State.setTop _ (mkF _ _ _ [.int t1, .int (1 : Int32), .ref a6]))
  refine g_iastoreI W50 H50 (i := 8) rfl (jx := 1) (by decide) (by exact (by decide : 1 < 4)) d14_113 (pc' := 114) rfl (L' := ((a, ObC Z "java/util/ArrayList" (fs_ArrayList (.int mcL) (.ref el) (.int (4 : Int32)))) :: (el, RaC Z "java/lang/Object" lv) :: (a18, IaC Z (nf1 (List.replicate 6 (0 : Int32)) j0)) :: (a16, ArC Z .double [.double x4, .double 0, .double 0, .double 0]) :: (a14, ArC Z .double [.double x3, .double 0, .double 0, .double 0]) :: (a12, ArC Z .double [.double x2, .double 0, .double 0, .double 0]) :: (a10, ArC Z .double [.double x1, .double 0, .double 0, .double 0]) :: (a8, IaC Z ([g0, 0, 0, 0] : List Int32)) :: (a6, IaC Z ([t0, t1, 0, 0] : List Int32)) :: (nt, ObC Z "com/example/lanewright/lanewright/Network" (fs_Network (.int (4 : Int32)) (.int ft) (.ref a6) (.ref a8) (.ref a10) (.ref a12) (.ref a14) (.ref a16) (.ref a18) .null)) :: F)) rfl ?_
  intro T51 W51 H51
  refine g_aloadN W51 d14_114 (pc' := 115) rfl rfl rfl ?_
  refine g_getf W51 (wd_113 hw) Via.refl H51 (i := 9) rfl (jx := 3) rfl d14_115 (pc' := 118) rfl ?_
  intro T52 W52 H52
  refine g_iload W52 d14_118 (pc' := 120) rfl rfl ?_
  refine g_aload W52 d14_120 (pc' := 122) rfl rfl rfl ?_
  refine g_callVE W52 (argsL := []) (st := [.int (1 : Int32), .ref a8]) (wd_153 hw) (wd_154 hw) (wd_156 hw) (wd_155 hw) (wd_38 hw) (wd_157 hw) (fun _ hZ => notFace_of_selects (args := #[]) (mvT hZ (wd_156 hw))) (by decide) (a := k1) (H52.exam (mc10 hd1)) (c_a_head l Z a0 hw n0 k1 t1 g1 x1 x2 x3 x4 _ (mc10 hd1) _ H52) pd_7 rfl rfl rfl d14_122 (pc' := 125) rfl (by decide) (Wn := 2) (Nat.le_of_eq rfl) (by decide) (kc' := 7) (ks' := 30) rfl rfl (by decide) (by decide) ?_
  intro T53 v53 W53 hp53
  obtain ⟨rfl, H53⟩ := hp53
  show Goes _ _ _ _ (State.setTop _ (mkF _ _ _ [.int g1, .int (1 : Int32), .ref a8]))
  refine g_iastoreI W53 H53 (i := 7) rfl (jx := 1) (by decide) (by exact (by decide : 1 < 4)) d14_125 (pc' := 126) rfl (L' := ((a, ObC Z "java/util/ArrayList" (fs_ArrayList (.int mcL) (.ref el) (.int (4 : Int32)))) :: (el, RaC Z "java/lang/Object" lv) :: (a18, IaC Z (nf1 (List.replicate 6 (0 : Int32)) j0)) :: (a16, ArC Z .double [.double x4, .double 0, .double 0, .double 0]) :: (a14, ArC Z .double [.double x3, .double 0, .double 0, .double 0]) :: (a12, ArC Z .double [.double x2, .double 0, .double 0, .double 0]) :: (a10, ArC Z .double [.double x1, .double 0, .double 0, .double 0]) :: (a8, IaC Z ([g0, g1, 0, 0] : List Int32)) :: (a6, IaC Z ([t0, t1, 0, 0] : List Int32)) :: (nt, ObC Z "com/example/lanewright/lanewright/Network" (fs_Network (.int (4 : Int32)) (.int ft) (.ref a6) (.ref a8) (.ref a10) (.ref a12) (.ref a14) (.ref a16) (.ref a18) .null)) :: F)) rfl ?_
  intro T54 W54 H54
  refine g_aloadN W54 d14_126 (pc' := 127) rfl rfl rfl ?_
  refine g_getf W54 (wd_115 hw) Via.refl H54 (i := 9) rfl (jx := 4) rfl d14_127 (pc' := 130) rfl ?_
  intro T55 W55 H55
  refine g_iload W55 d14_130 (pc' := 132) rfl rfl ?_
  refine g_aload W55 d14_132 (pc' := 134) rfl rfl rfl ?_
  refine g_callVE W55 (argsL := []) (st := [.int (1 : Int32), .ref a10]) (wd_158 hw) (wd_159 hw) (wd_161 hw) (wd_160 hw) (wd_38 hw) (wd_162 hw) (fun _ hZ => notFace_of_selects (args := #[]) (mvT hZ (wd_161 hw))) (by decide) (a := k1) (H55.exam (mc10 hd1)) (c_a_capacity l Z a0 hw n0 k1 t1 g1 x1 x2 x3 x4 _ (mc10 hd1) _ H55) pd_8 rfl rfl rfl d14_134 (pc' := 137) rfl (by decide) (Wn := 2) (Nat.le_of_eq rfl) (by decide) (kc' := 7) (ks' := 30) rfl rfl (by decide) (by decide) ?_
  intro T56 v56 W56 hp56
  obtain ⟨rfl, H56⟩ := hp56
  show Goes _ _ _ _ (State.setTop _ (mkF _ _ _ [.double x1, .int (1 : Int32), .ref a10]))
  refine g_dastore W56 H56 (i := 6) rfl (jx := 1) (by decide) (by exact (by decide : 1 < 4)) d14_137 (pc' := 138) rfl (L' := ((a, ObC Z "java/util/ArrayList" (fs_ArrayList (.int mcL) (.ref el) (.int (4 : Int32)))) :: (el, RaC Z "java/lang/Object" lv) :: (a18, IaC Z (nf1 (List.replicate 6 (0 : Int32)) j0)) :: (a16, ArC Z .double [.double x4, .double 0, .double 0, .double 0]) :: (a14, ArC Z .double [.double x3, .double 0, .double 0, .double 0]) :: (a12, ArC Z .double [.double x2, .double 0, .double 0, .double 0]) :: (a10, ArC Z .double [.double x1, .double x1, .double 0, .double 0]) :: (a8, IaC Z ([g0, g1, 0, 0] : List Int32)) :: (a6, IaC Z ([t0, t1, 0, 0] : List Int32)) :: (nt, ObC Z "com/example/lanewright/lanewright/Network" (fs_Network (.int (4 : Int32)) (.int ft) (.ref a6) (.ref a8) (.ref a10) (.ref a12) (.ref a14) (.ref a16) (.ref a18) .null)) :: F)) rfl ?_
  intro T57 W57 H57
  refine g_aloadN W57 d14_138 (pc' := 139) rfl rfl rfl ?_
  refine g_getf W57 (wd_117 hw) Via.refl H57 (i := 9) rfl (jx := 5) rfl d14_139 (pc' := 142) rfl ?_
  intro T58 W58 H58
  refine g_iload W58 d14_142 (pc' := 144) rfl rfl ?_
  refine g_aload W58 d14_144 (pc' := 146) rfl rfl rfl ?_
  refine g_callVE W58 (argsL := []) (st := [.int (1 : Int32), .ref a12]) (wd_163 hw) (wd_164 hw) (wd_166 hw) (wd_165 hw) (wd_38 hw) (wd_167 hw) (fun _ hZ => notFace_of_selects (args := #[]) (mvT hZ (wd_166 hw))) (by decide) (a := k1) (H58.exam (mc10 hd1)) (c_a_freeFlowTime l Z a0 hw n0 k1 t1 g1 x1 x2 x3 x4 _ (mc10 hd1) _ H58) pd_8 rfl rfl rfl d14_146 (pc' := 149) rfl (by decide) (Wn := 2) (Nat.le_of_eq rfl) (by decide) (kc' := 7) (ks' := 30) rfl rfl (by decide) (by decide) ?_
  intro T59 v59 W59 hp59
  obtain ⟨rfl, H59⟩ := hp59
  show Goes _ _ _ _ (State.setTop _ (mkF _ _ _ [.double x2, .int (1 : Int32), .ref a12]))
  refine g_dastore W59 H59 (i := 5) rfl (jx := 1) (by decide) (by exact (by decide : 1 < 4)) d14_149 (pc' := 150) rfl (L' := ((a, ObC Z "java/util/ArrayList" (fs_ArrayList (.int mcL) (.ref el) (.int (4 : Int32)))) :: (el, RaC Z "java/lang/Object" lv) :: (a18, IaC Z (nf1 (List.replicate 6 (0 : Int32)) j0)) :: (a16, ArC Z .double [.double x4, .double 0, .double 0, .double 0]) :: (a14, ArC Z .double [.double x3, .double 0, .double 0, .double 0]) :: (a12, ArC Z .double [.double x2, .double x2, .double 0, .double 0]) :: (a10, ArC Z .double [.double x1, .double x1, .double 0, .double 0]) :: (a8, IaC Z ([g0, g1, 0, 0] : List Int32)) :: (a6, IaC Z ([t0, t1, 0, 0] : List Int32)) :: (nt, ObC Z "com/example/lanewright/lanewright/Network" (fs_Network (.int (4 : Int32)) (.int ft) (.ref a6) (.ref a8) (.ref a10) (.ref a12) (.ref a14) (.ref a16) (.ref a18) .null)) :: F)) rfl ?_
  intro T60 W60 H60
  refine g_aloadN W60 d14_150 (pc' := 151) rfl rfl rfl ?_
  refine g_getf W60 (wd_119 hw) Via.refl H60 (i := 9) rfl (jx := 6) rfl d14_151 (pc' := 154) rfl ?_
  intro T61 W61 H61
  refine g_iload W61 d14_154 (pc' := 156) rfl rfl ?_
  refine g_aload W61 d14_156 (pc' := 158) rfl rfl rfl ?_
  refine g_callVE W61 (argsL := []) (st := [.int (1 : Int32), .ref a14]) (wd_168 hw) (wd_169 hw) (wd_171 hw) (wd_170 hw) (wd_38 hw) (wd_172 hw) (fun _ hZ => notFace_of_selects (args := #[]) (mvT hZ (wd_171 hw))) (by decide) (a := k1) (H61.exam (mc10 hd1)) (c_a_b l Z a0 hw n0 k1 t1 g1 x1 x2 x3 x4 _ (mc10 hd1) _ H61) pd_8 rfl rfl rfl d14_158 (pc' := 161) rfl (by decide) (Wn := 2) (Nat.le_of_eq rfl) (by decide) (kc' := 7) (ks' := 30) rfl rfl (by decide) (by decide) ?_
  intro T62 v62 W62 hp62
  obtain ⟨rfl, H62⟩ := hp62
  show Goes _ _ _ _ (State.setTop _ (mkF _ _ _ [.double x3, .int (1 : Int32), .ref a14]))
  refine g_dastore W62 H62 (i := 4) rfl (jx := 1) (by decide) (by exact (by decide : 1 < 4)) d14_161 (pc' := 162) rfl (L' := ((a, ObC Z "java/util/ArrayList" (fs_ArrayList (.int mcL) (.ref el) (.int (4 : Int32)))) :: (el, RaC Z "java/lang/Object" lv) :: (a18, IaC Z (nf1 (List.replicate 6 (0 : Int32)) j0)) :: (a16, ArC Z .double [.double x4, .double 0, .double 0, .double 0]) :: (a14, ArC Z .double [.double x3, .double x3, .double 0, .double 0]) :: (a12, ArC Z .double [.double x2, .double x2, .double 0, .double 0]) :: (a10, ArC Z .double [.double x1, .double x1, .double 0, .double 0]) :: (a8, IaC Z ([g0, g1, 0, 0] : List Int32)) :: (a6, IaC Z ([t0, t1, 0, 0] : List Int32)) :: (nt, ObC Z "com/example/lanewright/lanewright/Network" (fs_Network (.int (4 : Int32)) (.int ft) (.ref a6) (.ref a8) (.ref a10) (.ref a12) (.ref a14) (.ref a16) (.ref a18) .null)) :: F)) rfl ?_
  intro T63 W63 H63
  refine g_aloadN W63 d14_162 (pc' := 163) rfl rfl rfl ?_
  refine g_getf W63 (wd_121 hw) Via.refl H63 (i := 9) rfl (jx := 7) rfl d14_163 (pc' := 166) rfl ?_
  intro T64 W64 H64
  refine g_iload W64 d14_166 (pc' := 168) rfl rfl ?_
  refine g_aload W64 d14_168 (pc' := 170) rfl rfl rfl ?_
  refine g_callVE W64 (argsL := []) (st := [.int (1 : Int32), .ref a16]) (wd_173 hw) (wd_174 hw) (wd_176 hw) (wd_175 hw) (wd_38 hw) (wd_177 hw) (fun _ hZ => notFace_of_selects (args := #[]) (mvT hZ (wd_176 hw))) (by decide) (a := k1) (H64.exam (mc10 hd1)) (c_a_power l Z a0 hw n0 k1 t1 g1 x1 x2 x3 x4 _ (mc10 hd1) _ H64) pd_8 rfl rfl rfl d14_170 (pc' := 173) rfl (by decide) (Wn := 2) (Nat.le_of_eq rfl) (by decide) (kc' := 7) (ks' := 30) rfl rfl (by decide) (by decide) ?_
  intro T65 v65 W65 hp65
  obtain ⟨rfl, H65⟩ := hp65
  show Goes _ _ _ _ (State.setTop _ (mkF _ _ _ [.double x4, .int (1 : Int32), .ref a16]))
  refine g_dastore W65 H65 (i := 3) rfl (jx := 1) (by decide) (by exact (by decide : 1 < 4)) d14_173 (pc' := 174) rfl (L' := ((a, ObC Z "java/util/ArrayList" (fs_ArrayList (.int mcL) (.ref el) (.int (4 : Int32)))) :: (el, RaC Z "java/lang/Object" lv) :: (a18, IaC Z (nf1 (List.replicate 6 (0 : Int32)) j0)) :: (a16, ArC Z .double [.double x4, .double x4, .double 0, .double 0]) :: (a14, ArC Z .double [.double x3, .double x3, .double 0, .double 0]) :: (a12, ArC Z .double [.double x2, .double x2, .double 0, .double 0]) :: (a10, ArC Z .double [.double x1, .double x1, .double 0, .double 0]) :: (a8, IaC Z ([g0, g1, 0, 0] : List Int32)) :: (a6, IaC Z ([t0, t1, 0, 0] : List Int32)) :: (nt, ObC Z "com/example/lanewright/lanewright/Network" (fs_Network (.int (4 : Int32)) (.int ft) (.ref a6) (.ref a8) (.ref a10) (.ref a12) (.ref a14) (.ref a16) (.ref a18) .null)) :: F)) rfl ?_
  intro T66 W66 H66
  refine g_aloadN W66 d14_174 (pc' := 175) rfl rfl rfl ?_
  refine g_getf W66 (wd_123 hw) Via.refl H66 (i := 9) rfl (jx := 8) rfl d14_175 (pc' := 178) rfl ?_
  intro T67 W67 H67
  refine g_aload W67 d14_178 (pc' := 180) rfl rfl rfl ?_
  refine g_callVE W67 (argsL := []) (st := [.ref a18]) (wd_148 hw) (wd_149 hw) (wd_151 hw) (wd_150 hw) (wd_38 hw) (wd_152 hw) (fun _ hZ => notFace_of_selects (args := #[]) (mvT hZ (wd_151 hw))) (by decide) (a := k1) (H67.exam (mc10 hd1)) (c_a_tail l Z a0 hw n0 k1 t1 g1 x1 x2 x3 x4 _ (mc10 hd1) _ H67) pd_7 rfl rfl rfl d14_180 (pc' := 183) rfl (by decide) (Wn := 1) (Nat.le_of_eq rfl) (by decide) (kc' := 7) (ks' := 30) rfl rfl (by decide) (by decide) ?_
  intro T68 v68 W68 hp68
  obtain ⟨rfl, H68⟩ := hp68
  show Goes _ _ _ _ (State.setTop _ (mkF _ _ _ [.int t1, .ref a18]))
  refine g_iconst W68 d14_183 (pc' := 184) rfl (v := (1 : Int32)) (by decide) ?_
  refine g_iadd W68 d14_184 (pc' := 185) rfl rfl ?_
  refine g_dup2 W68 d14_185 (pc' := 186) rfl rfl rfl ?_
  refine g_ialoadI W68 H68 (i := 2) rfl (jx := (j1 + 1)) (i_p1 ht1 (by omega)) (u := ((nf1 (List.replicate 6 (0 : Int32)) j0).getD (j1 + 1) 0)) (getD_some (by simp only [nf1_len, pf1_len, nx1_len, oa1_len, List.length_replicate]; omega)) d14_186 (pc' := 187) rfl ?_
  refine g_iconst W68 d14_187 (pc' := 188) rfl (v := (1 : Int32)) (by decide) ?_
  refine g_iadd W68 d14_188 (pc' := 189) rfl rfl ?_
  refine g_iastoreI W68 H68 (i := 2) rfl (jx := (j1 + 1)) (i_p1 ht1 (by omega)) (by simp only [nf1_len, pf1_len, nx1_len, oa1_len, List.length_replicate]; omega) d14_189 (pc' := 190) rfl (L' := ((a, ObC Z "java/util/ArrayList" (fs_ArrayList (.int mcL) (.ref el) (.int (4 : Int32)))) :: (el, RaC Z "java/lang/Object" lv) :: (a18, IaC Z (nf1 (nf1 (List.replicate 6 (0 : Int32)) j0) j1)) :: (a16, ArC Z .double [.double x4, .double x4, .double 0, .double 0]) :: (a14, ArC Z .double [.double x3, .double x3, .double 0, .double 0]) :: (a12, ArC Z .double [.double x2, .double x2, .double 0, .double 0]) :: (a10, ArC Z .double [.double x1, .double x1, .double 0, .double 0]) :: (a8, IaC Z ([g0, g1, 0, 0] : List Int32)) :: (a6, IaC Z ([t0, t1, 0, 0] : List Int32)) :: (nt, ObC Z "com/example/lanewright/lanewright/Network" (fs_Network (.int (4 : Int32)) (.int ft) (.ref a6) (.ref a8) (.ref a10) (.ref a12) (.ref a14) (.ref a16) (.ref a18) .null)) :: F)) rfl ?_
  intro T69 W69 H69
  refine g_iinc W69 d14_190 (pc' := 193) rfl rfl (v := (2 : Int32)) (by decide) (ls' := #[.val (.ref nt), .val (.int (4 : Int32)), .val (.int ft), .val (.ref a), .val (.int (4 : Int32)), .val (.int (2 : Int32)), .val (.ref k1)]) rfl ?_
  refine g_goto W69 d14_193 (pc' := 82) (by decide) ?_
  refine g_iload W69 d14_82 (pc' := 84) rfl rfl ?_
  refine g_iload W69 d14_84 (pc' := 86) rfl rfl ?_
  refine g_icmp W69 d14_86 (pcy := 196) (by decide) (pc' := 89) rfl (fun (h : ¬ (2 : Int32) < (4 : Int32)) => absurd h (by decide)) (fun _ => ?_)
  refine g_aloadN W69 d14_89 (pc' := 90) rfl rfl rfl ?_
  refine g_iload W69 d14_90 (pc' := 92) rfl rfl ?_
  have H70f := Hp.fr1 H69
  have H71f := Hp.fr1 H70f
  refine g_callF W69 (argsL := [.int (2 : Int32)]) (st := []) (wd_125 hw) (wd_126 hw) (fun _ _ hZ => mvT hZ (wd_127 hw)) (wd_128 hw) (wd_129 hw) (wd_130 hw) (wd_131 hw) (wd_109 hw) (wd_12 hw) (wd_132 hw) (by decide) (a := a) (H71f.exa (i := 0) rfl) (c_get l Z a0 hw n0 a el mcL (4 : Int32) (2 : Int32) lv k2 2 (by decide) hl2 (by decide) (by decide) _ _ H71f) pd_6 rfl rfl rfl d14_92 (pc' := 97) rfl (by decide) (Wn := 0) (Nat.le_of_eq rfl) (by decide) (kc' := 7) (ks' := 30) rfl rfl (by decide) (by decide) ?_
  intro T72 v72 W72 hp72
  obtain ⟨rfl, H72⟩ := hp72
  show Goes _ _ _ _ (State.setTop _ (mkF _ _ _ [.ref k2]))
  refine g_cast1 W72 (wd_146 hw) (Ins.self (H72.exam (mc10 hd2))) H72 d14_97 (pc' := 100) rfl ?_
  intro T73 W73 _ H73
  refine g_astore W73 d14_100 (pc' := 102) rfl rfl (ls' := #[.val (.ref nt), .val (.int (4 : Int32)), .val (.int ft), .val (.ref a), .val (.int (4 : Int32)), .val (.int (2 : Int32)), .val (.ref k2)]) rfl ?_
  refine g_aloadN W73 d14_102 (pc' := 103) rfl rfl rfl ?_
  refine g_getf W73 (wd_111 hw) Via.refl H73 (i := 9) rfl (jx := 2) rfl d14_103 (pc' := 106) rfl ?_
  intro T74 W74 H74
  refine g_iload W74 d14_106 (pc' := 108) rfl rfl ?_
  refine g_aload W74 d14_108 (pc' := 110) rfl rfl rfl ?_
  refine g_callVE W74 (argsL := []) (st := [.int (2 : Int32), .ref a6]) (wd_148 hw) (wd_149 hw) (wd_151 hw) (wd_150 hw) (wd_38 hw) (wd_152 hw) (fun _ hZ => notFace_of_selects (args := #[]) (mvT hZ (wd_151 hw))) (by decide) (a := k2) (H74.exam (mc10 hd2)) (c_a_tail l Z a0 hw n0 k2 t2 g2 x1 x2 x3 x4 _ (mc10 hd2) _ H74) pd_7 rfl rfl rfl d14_110 (pc' := 113) rfl (by decide) (Wn := 2) (Nat.le_of_eq rfl) (by decide) (kc' := 7) (ks' := 30) rfl rfl (by decide) (by decide) ?_
  intro T75 v75 W75 hp75
  obtain ⟨rfl, H75⟩ := hp75
  show Goes _ _ _ _ (State.setTop _ (mkF _ _ _ [.int t2, .int (2 : Int32), .ref a6]))
  refine g_iastoreI W75 H75 (i := 8) rfl (jx := 2) (by decide) (by exact (by decide : 2 < 4)) d14_113 (pc' := 114) rfl (L' := ((a, ObC Z "java/util/ArrayList" (fs_ArrayList (.int mcL) (.ref el) (.int (4 : Int32)))) :: (el, RaC Z "java/lang/Object" lv) :: (a18, IaC Z (nf1 (nf1 (List.replicate 6 (0 : Int32)) j0) j1)) :: (a16, ArC Z .double [.double x4, .double x4, .double 0, .double 0]) :: (a14, ArC Z .double [.double x3, .double x3, .double 0, .double 0]) :: (a12, ArC Z .double [.double x2, .double x2, .double 0, .double 0]) :: (a10, ArC Z .double [.double x1, .double x1, .double 0, .double 0]) :: (a8, IaC Z ([g0, g1, 0, 0] : List Int32)) :: (a6, IaC Z ([t0, t1, t2, 0] : List Int32)) :: (nt, ObC Z "com/example/lanewright/lanewright/Network" (fs_Network (.int (4 : Int32)) (.int ft) (.ref a6) (.ref a8) (.ref a10) (.ref a12) (.ref a14) (.ref a16) (.ref a18) .null)) :: F)) rfl ?_
  intro T76 W76 H76
  refine g_aloadN W76 d14_114 (pc' := 115) rfl rfl rfl ?_
  refine g_getf W76 (wd_113 hw) Via.refl H76 (i := 9) rfl (jx := 3) rfl d14_115 (pc' := 118) rfl ?_
  intro T77 W77 H77
  refine g_iload W77 d14_118 (pc' := 120) rfl rfl ?_
  refine g_aload W77 d14_120 (pc' := 122) rfl rfl rfl ?_
  refine g_callVE W77 (argsL := []) (st := [.int (2 : Int32), .ref a8]) (wd_153 hw) (wd_154 hw) (wd_156 hw) (wd_155 hw) (wd_38 hw) (wd_157 hw) (fun _ hZ => notFace_of_selects (args := #[]) (mvT hZ (wd_156 hw))) (by decide) (a := k2) (H77.exam (mc10 hd2)) (c_a_head l Z a0 hw n0 k2 t2 g2 x1 x2 x3 x4 _ (mc10 hd2) _ H77) pd_7 rfl rfl rfl d14_122 (pc' := 125) rfl (by decide) (Wn := 2) (Nat.le_of_eq rfl) (by decide) (kc' := 7) (ks' := 30) rfl rfl (by decide) (by decide) ?_
  intro T78 v78 W78 hp78
  obtain ⟨rfl, H78⟩ := hp78
  show Goes _ _ _ _ (State.setTop _ (mkF _ _ _ [.int g2, .int (2 : Int32), .ref a8]))
  refine g_iastoreI W78 H78 (i := 7) rfl (jx := 2) (by decide) (by exact (by decide : 2 < 4)) d14_125 (pc' := 126) rfl (L' := ((a, ObC Z "java/util/ArrayList" (fs_ArrayList (.int mcL) (.ref el) (.int (4 : Int32)))) :: (el, RaC Z "java/lang/Object" lv) :: (a18, IaC Z (nf1 (nf1 (List.replicate 6 (0 : Int32)) j0) j1)) :: (a16, ArC Z .double [.double x4, .double x4, .double 0, .double 0]) :: (a14, ArC Z .double [.double x3, .double x3, .double 0, .double 0]) :: (a12, ArC Z .double [.double x2, .double x2, .double 0, .double 0]) :: (a10, ArC Z .double [.double x1, .double x1, .double 0, .double 0]) :: (a8, IaC Z ([g0, g1, g2, 0] : List Int32)) :: (a6, IaC Z ([t0, t1, t2, 0] : List Int32)) :: (nt, ObC Z "com/example/lanewright/lanewright/Network" (fs_Network (.int (4 : Int32)) (.int ft) (.ref a6) (.ref a8) (.ref a10) (.ref a12) (.ref a14) (.ref a16) (.ref a18) .null)) :: F)) rfl ?_
  intro T79 W79 H79
  refine g_aloadN W79 d14_126 (pc' := 127) rfl rfl rfl ?_
  refine g_getf W79 (wd_115 hw) Via.refl H79 (i := 9) rfl (jx := 4) rfl d14_127 (pc' := 130) rfl ?_
  intro T80 W80 H80
  refine g_iload W80 d14_130 (pc' := 132) rfl rfl ?_
  refine g_aload W80 d14_132 (pc' := 134) rfl rfl rfl ?_
  refine g_callVE W80 (argsL := []) (st := [.int (2 : Int32), .ref a10]) (wd_158 hw) (wd_159 hw) (wd_161 hw) (wd_160 hw) (wd_38 hw) (wd_162 hw) (fun _ hZ => notFace_of_selects (args := #[]) (mvT hZ (wd_161 hw))) (by decide) (a := k2) (H80.exam (mc10 hd2)) (c_a_capacity l Z a0 hw n0 k2 t2 g2 x1 x2 x3 x4 _ (mc10 hd2) _ H80) pd_8 rfl rfl rfl d14_134 (pc' := 137) rfl (by decide) (Wn := 2) (Nat.le_of_eq rfl) (by decide) (kc' := 7) (ks' := 30) rfl rfl (by decide) (by decide) ?_
  intro T81 v81 W81 hp81
  obtain ⟨rfl, H81⟩ := hp81
  show Goes _ _ _ _ (State.setTop _ (mkF _ _ _ [.double x1, .int (2 : Int32), .ref a10]))
  refine g_dastore W81 H81 (i := 6) rfl (jx := 2) (by decide) (by exact (by decide : 2 < 4)) d14_137 (pc' := 138) rfl (L' := ((a, ObC Z "java/util/ArrayList" (fs_ArrayList (.int mcL) (.ref el) (.int (4 : Int32)))) :: (el, RaC Z "java/lang/Object" lv) :: (a18, IaC Z (nf1 (nf1 (List.replicate 6 (0 : Int32)) j0) j1)) :: (a16, ArC Z .double [.double x4, .double x4, .double 0, .double 0]) :: (a14, ArC Z .double [.double x3, .double x3, .double 0, .double 0]) :: (a12, ArC Z .double [.double x2, .double x2, .double 0, .double 0]) :: (a10, ArC Z .double [.double x1, .double x1, .double x1, .double 0]) :: (a8, IaC Z ([g0, g1, g2, 0] : List Int32)) :: (a6, IaC Z ([t0, t1, t2, 0] : List Int32)) :: (nt, ObC Z "com/example/lanewright/lanewright/Network" (fs_Network (.int (4 : Int32)) (.int ft) (.ref a6) (.ref a8) (.ref a10) (.ref a12) (.ref a14) (.ref a16) (.ref a18) .null)) :: F)) rfl ?_
  intro T82 W82 H82
  refine g_aloadN W82 d14_138 (pc' := 139) rfl rfl rfl ?_
  refine g_getf W82 (wd_117 hw) Via.refl H82 (i := 9) rfl (jx := 5) rfl d14_139 (pc' := 142) rfl ?_
  intro T83 W83 H83
  refine g_iload W83 d14_142 (pc' := 144) rfl rfl ?_
  refine g_aload W83 d14_144 (pc' := 146) rfl rfl rfl ?_
  refine g_callVE W83 (argsL := []) (st := [.int (2 : Int32), .ref a12]) (wd_163 hw) (wd_164 hw) (wd_166 hw) (wd_165 hw) (wd_38 hw) (wd_167 hw) (fun _ hZ => notFace_of_selects (args := #[]) (mvT hZ (wd_166 hw))) (by decide) (a := k2) (H83.exam (mc10 hd2)) (c_a_freeFlowTime l Z a0 hw n0 k2 t2 g2 x1 x2 x3 x4 _ (mc10 hd2) _ H83) pd_8 rfl rfl rfl d14_146 (pc' := 149) rfl (by decide) (Wn := 2) (Nat.le_of_eq rfl) (by decide) (kc' := 7) (ks' := 30) rfl rfl (by decide) (by decide) ?_
  intro T84 v84 W84 hp84
  obtain ⟨rfl, H84⟩ := hp84
  show Goes _ _ _ _ (State.setTop _ (mkF _ _ _ [.double x2, .int (2 : Int32), .ref a12]))
  refine g_dastore W84 H84 (i := 5) rfl (jx := 2) (by decide) (by exact (by decide : 2 < 4)) d14_149 (pc' := 150) rfl (L' := ((a, ObC Z "java/util/ArrayList" (fs_ArrayList (.int mcL) (.ref el) (.int (4 : Int32)))) :: (el, RaC Z "java/lang/Object" lv) :: (a18, IaC Z (nf1 (nf1 (List.replicate 6 (0 : Int32)) j0) j1)) :: (a16, ArC Z .double [.double x4, .double x4, .double 0, .double 0]) :: (a14, ArC Z .double [.double x3, .double x3, .double 0, .double 0]) :: (a12, ArC Z .double [.double x2, .double x2, .double x2, .double 0]) :: (a10, ArC Z .double [.double x1, .double x1, .double x1, .double 0]) :: (a8, IaC Z ([g0, g1, g2, 0] : List Int32)) :: (a6, IaC Z ([t0, t1, t2, 0] : List Int32)) :: (nt, ObC Z "com/example/lanewright/lanewright/Network" (fs_Network (.int (4 : Int32)) (.int ft) (.ref a6) (.ref a8) (.ref a10) (.ref a12) (.ref a14) (.ref a16) (.ref a18) .null)) :: F)) rfl ?_
  intro T85 W85 H85
  refine g_aloadN W85 d14_150 (pc' := 151) rfl rfl rfl ?_
  refine g_getf W85 (wd_119 hw) Via.refl H85 (i := 9) rfl (jx := 6) rfl d14_151 (pc' := 154) rfl ?_
  intro T86 W86 H86
  refine g_iload W86 d14_154 (pc' := 156) rfl rfl ?_
  refine g_aload W86 d14_156 (pc' := 158) rfl rfl rfl ?_
  refine g_callVE W86 (argsL := []) (st := [.int (2 : Int32), .ref a14]) (wd_168 hw) (wd_169 hw) (wd_171 hw) (wd_170 hw) (wd_38 hw) (wd_172 hw) (fun _ hZ => notFace_of_selects (args := #[]) (mvT hZ (wd_171 hw))) (by decide) (a := k2) (H86.exam (mc10 hd2)) (c_a_b l Z a0 hw n0 k2 t2 g2 x1 x2 x3 x4 _ (mc10 hd2) _ H86) pd_8 rfl rfl rfl d14_158 (pc' := 161) rfl (by decide) (Wn := 2) (Nat.le_of_eq rfl) (by decide) (kc' := 7) (ks' := 30) rfl rfl (by decide) (by decide) ?_
  intro T87 v87 W87 hp87
  obtain ⟨rfl, H87⟩ := hp87
  show Goes _ _ _ _ (State.setTop _ (mkF _ _ _ [.double x3, .int (2 : Int32), .ref a14]))
  refine g_dastore W87 H87 (i := 4) rfl (jx := 2) (by decide) (by exact (by decide : 2 < 4)) d14_161 (pc' := 162) rfl (L' := ((a, ObC Z "java/util/ArrayList" (fs_ArrayList (.int mcL) (.ref el) (.int (4 : Int32)))) :: (el, RaC Z "java/lang/Object" lv) :: (a18, IaC Z (nf1 (nf1 (List.replicate 6 (0 : Int32)) j0) j1)) :: (a16, ArC Z .double [.double x4, .double x4, .double 0, .double 0]) :: (a14, ArC Z .double [.double x3, .double x3, .double x3, .double 0]) :: (a12, ArC Z .double [.double x2, .double x2, .double x2, .double 0]) :: (a10, ArC Z .double [.double x1, .double x1, .double x1, .double 0]) :: (a8, IaC Z ([g0, g1, g2, 0] : List Int32)) :: (a6, IaC Z ([t0, t1, t2, 0] : List Int32)) :: (nt, ObC Z "com/example/lanewright/lanewright/Network" (fs_Network (.int (4 : Int32)) (.int ft) (.ref a6) (.ref a8) (.ref a10) (.ref a12) (.ref a14) (.ref a16) (.ref a18) .null)) :: F)) rfl ?_
  intro T88 W88 H88
  refine g_aloadN W88 d14_162 (pc' := 163) rfl rfl rfl ?_
  refine g_getf W88 (wd_121 hw) Via.refl H88 (i := 9) rfl (jx := 7) rfl d14_163 (pc' := 166) rfl ?_
  intro T89 W89 H89
  refine g_iload W89 d14_166 (pc' := 168) rfl rfl ?_
  refine g_aload W89 d14_168 (pc' := 170) rfl rfl rfl ?_
  refine g_callVE W89 (argsL := []) (st := [.int (2 : Int32), .ref a16]) (wd_173 hw) (wd_174 hw) (wd_176 hw) (wd_175 hw) (wd_38 hw) (wd_177 hw) (fun _ hZ => notFace_of_selects (args := #[]) (mvT hZ (wd_176 hw))) (by decide) (a := k2) (H89.exam (mc10 hd2)) (c_a_power l Z a0 hw n0 k2 t2 g2 x1 x2 x3 x4 _ (mc10 hd2) _ H89) pd_8 rfl rfl rfl d14_170 (pc' := 173) rfl (by decide) (Wn := 2) (Nat.le_of_eq rfl) (by decide) (kc' := 7) (ks' := 30) rfl rfl (by decide) (by decide) ?_
  intro T90 v90 W90 hp90
  obtain ⟨rfl, H90⟩ := hp90
  show Goes _ _ _ _ (State.setTop _ (mkF _ _ _ [.double x4, .int (2 : Int32), .ref a16]))
  refine g_dastore W90 H90 (i := 3) rfl (jx := 2) (by decide) (by exact (by decide : 2 < 4)) d14_173 (pc' := 174) rfl (L' := ((a, ObC Z "java/util/ArrayList" (fs_ArrayList (.int mcL) (.ref el) (.int (4 : Int32)))) :: (el, RaC Z "java/lang/Object" lv) :: (a18, IaC Z (nf1 (nf1 (List.replicate 6 (0 : Int32)) j0) j1)) :: (a16, ArC Z .double [.double x4, .double x4, .double x4, .double 0]) :: (a14, ArC Z .double [.double x3, .double x3, .double x3, .double 0]) :: (a12, ArC Z .double [.double x2, .double x2, .double x2, .double 0]) :: (a10, ArC Z .double [.double x1, .double x1, .double x1, .double 0]) :: (a8, IaC Z ([g0, g1, g2, 0] : List Int32)) :: (a6, IaC Z ([t0, t1, t2, 0] : List Int32)) :: (nt, ObC Z "com/example/lanewright/lanewright/Network" (fs_Network (.int (4 : Int32)) (.int ft) (.ref a6) (.ref a8) (.ref a10) (.ref a12) (.ref a14) (.ref a16) (.ref a18) .null)) :: F)) rfl ?_
  intro T91 W91 H91
  refine g_aloadN W91 d14_174 (pc' := 175) rfl rfl rfl ?_
  refine g_getf W91 (wd_123 hw) Via.refl H91 (i := 9) rfl (jx := 8) rfl d14_175 (pc' := 178) rfl ?_
  intro T92 W92 H92
  refine g_aload W92 d14_178 (pc' := 180) rfl rfl rfl ?_
  refine g_callVE W92 (argsL := []) (st := [.ref a18]) (wd_148 hw) (wd_149 hw) (wd_151 hw) (wd_150 hw) (wd_38 hw) (wd_152 hw) (fun _ hZ => notFace_of_selects (args := #[]) (mvT hZ (wd_151 hw))) (by decide) (a := k2) (H92.exam (mc10 hd2)) (c_a_tail l Z a0 hw n0 k2 t2 g2 x1 x2 x3 x4 _ (mc10 hd2) _ H92) pd_7 rfl rfl rfl d14_180 (pc' := 183) rfl (by decide) (Wn := 1) (Nat.le_of_eq rfl) (by decide) (kc' := 7) (ks' := 30) rfl rfl (by decide) (by decide) ?_
  intro T93 v93 W93 hp93
  obtain ⟨rfl, H93⟩ := hp93
  show Goes _ _ _ _ (State.setTop _ (mkF _ _ _ [.int t2, .ref a18]))
  refine g_iconst W93 d14_183 (pc' := 184) rfl (v := (1 : Int32)) (by decide) ?_
  refine g_iadd W93 d14_184 (pc' := 185) rfl rfl ?_
  refine g_dup2 W93 d14_185 (pc' := 186) rfl rfl rfl ?_
  refine g_ialoadI W93 H93 (i := 2) rfl (jx := (j2 + 1)) (i_p1 ht2 (by omega)) (u := ((nf1 (nf1 (List.replicate 6 (0 : Int32)) j0) j1).getD (j2 + 1) 0)) (getD_some (by simp only [nf1_len, pf1_len, nx1_len, oa1_len, List.length_replicate]; omega)) d14_186 (pc' := 187) rfl ?_
  refine g_iconst W93 d14_187 (pc' := 188) rfl (v := (1 : Int32)) (by decide) ?_
  refine g_iadd W93 d14_188 (pc' := 189) rfl rfl ?_
  refine g_iastoreI W93 H93 (i := 2) rfl (jx := (j2 + 1)) (i_p1 ht2 (by omega)) (by simp only [nf1_len, pf1_len, nx1_len, oa1_len, List.length_replicate]; omega) d14_189 (pc' := 190) rfl (L' := ((a, ObC Z "java/util/ArrayList" (fs_ArrayList (.int mcL) (.ref el) (.int (4 : Int32)))) :: (el, RaC Z "java/lang/Object" lv) :: (a18, IaC Z (nf1 (nf1 (nf1 (List.replicate 6 (0 : Int32)) j0) j1) j2)) :: (a16, ArC Z .double [.double x4, .double x4, .double x4, .double 0]) :: (a14, ArC Z .double [.double x3, .double x3, .double x3, .double 0]) :: (a12, ArC Z .double [.double x2, .double x2, .double x2, .double 0]) :: (a10, ArC Z .double [.double x1, .double x1, .double x1, .double 0]) :: (a8, IaC Z ([g0, g1, g2, 0] : List Int32)) :: (a6, IaC Z ([t0, t1, t2, 0] : List Int32)) :: (nt, ObC Z "com/example/lanewright/lanewright/Network" (fs_Network (.int (4 : Int32)) (.int ft) (.ref a6) (.ref a8) (.ref a10) (.ref a12) (.ref a14) (.ref a16) (.ref a18) .null)) :: F)) rfl ?_
  intro T94 W94 H94
  refine g_iinc W94 d14_190 (pc' := 193) rfl rfl (v := (3 : Int32)) (by decide) (ls' := #[.val (.ref nt), .val (.int (4 : Int32)), .val (.int ft), .val (.ref a), .val (.int (4 : Int32)), .val (.int (3 : Int32)), .val (.ref k2)]) rfl ?_
  refine g_goto W94 d14_193 (pc' := 82) (by decide) ?_
  refine g_iload W94 d14_82 (pc' := 84) rfl rfl ?_
  refine g_iload W94 d14_84 (pc' := 86) rfl rfl ?_
  refine g_icmp W94 d14_86 (pcy := 196) (by decide) (pc' := 89) rfl (fun (h : ¬ (3 : Int32) < (4 : Int32)) => absurd h (by decide)) (fun _ => ?_)
  refine g_aloadN W94 d14_89 (pc' := 90) rfl rfl rfl ?_
  refine g_iload W94 d14_90 (pc' := 92) rfl rfl ?_
  have H95f := Hp.fr1 H94
  have H96f := Hp.fr1 H95f
  refine g_callF W94 (argsL := [.int (3 : Int32)]) (st := []) (wd_125 hw) (wd_126 hw) (fun _ _ hZ => mvT hZ (wd_127 hw)) (wd_128 hw) (wd_129 hw) (wd_130 hw) (wd_131 hw) (wd_109 hw) (wd_12 hw) (wd_132 hw) (by decide) (a := a) (H96f.exa (i := 0) rfl) (c_get l Z a0 hw n0 a el mcL (4 : Int32) (3 : Int32) lv k3 3 (by decide) hl3 (by decide) (by decide) _ _ H96f) pd_6 rfl rfl rfl d14_92 (pc' := 97) rfl (by decide) (Wn := 0) (Nat.le_of_eq rfl) (by decide) (kc' := 7) (ks' := 30) rfl rfl (by decide) (by decide) ?_
  intro T97 v97 W97 hp97
  obtain ⟨rfl, H97⟩ := hp97
  show Goes _ _ _ _ (State.setTop _ (mkF _ _ _ [.ref k3]))
  refine g_cast1 W97 (wd_146 hw) (Ins.self (H97.exam (mc10 hd3))) H97 d14_97 (pc' := 100) rfl ?_
  intro T98 W98 _ H98
  refine g_astore W98 d14_100 (pc' := 102) rfl rfl (ls' := #[.val (.ref nt), .val (.int (4 : Int32)), .val (.int ft), .val (.ref a), .val (.int (4 : Int32)), .val (.int (3 : Int32)), .val (.ref k3)]) rfl ?_
  refine g_aloadN W98 d14_102 (pc' := 103) rfl rfl rfl ?_
  refine g_getf W98 (wd_111 hw) Via.refl H98 (i := 9) rfl (jx := 2) rfl d14_103 (pc' := 106) rfl ?_
  intro T99 W99 H99
  refine g_iload W99 d14_106 (pc' := 108) rfl rfl ?_
  refine g_aload W99 d14_108 (pc' := 110) rfl rfl rfl ?_
  refine g_callVE W99 (argsL := []) (st := [.int (3 : Int32), .ref a6]) (wd_148 hw) (wd_149 hw) (wd_151 hw) (wd_150 hw) (wd_38 hw) (wd_152 hw) (fun _ hZ => notFace_of_selects (args := #[]) (mvT hZ (wd_151 hw))) (by decide) (a := k3) (H99.exam (mc10 hd3)) (c_a_tail l Z a0 hw n0 k3 t3 g3 x1 x2 x3 x4 _ (mc10 hd3) _ H99) pd_7 rfl rfl rfl d14_110 (pc' := 113) rfl (by decide) (Wn := 2) (Nat.le_of_eq rfl) (by decide) (kc' := 7) (ks' := 30) rfl rfl (by decide) (by decide) ?_
  intro T100 v100 W100 hp100
  obtain ⟨rfl, H100⟩ := hp100
  show Goes _ _ _ _ (State.setTop _ (mkF _ _ _ [.int t3, .int (3 : Int32), .ref a6]))
  refine g_iastoreI W100 H100 (i := 8) rfl (jx := 3) (by decide) (by exact (by decide : 3 < 4)) d14_113 (pc' := 114) rfl (L' := ((a, ObC Z "java/util/ArrayList" (fs_ArrayList (.int mcL) (.ref el) (.int (4 : Int32)))) :: (el, RaC Z "java/lang/Object" lv) :: (a18, IaC Z (nf1 (nf1 (nf1 (List.replicate 6 (0 : Int32)) j0) j1) j2)) :: (a16, ArC Z .double [.double x4, .double x4, .double x4, .double 0]) :: (a14, ArC Z .double [.double x3, .double x3, .double x3, .double 0]) :: (a12, ArC Z .double [.double x2, .double x2, .double x2, .double 0]) :: (a10, ArC Z .double [.double x1, .double x1, .double x1, .double 0]) :: (a8, IaC Z ([g0, g1, g2, 0] : List Int32)) :: (a6, IaC Z ([t0, t1, t2, t3] : List Int32)) :: (nt, ObC Z "com/example/lanewright/lanewright/Network" (fs_Network (.int (4 : Int32)) (.int ft) (.ref a6) (.ref a8) (.ref a10) (.ref a12) (.ref a14) (.ref a16) (.ref a18) .null)) :: F)) rfl ?_
  intro T101 W101 H101
  refine g_aloadN W101 d14_114 (pc' := 115) rfl rfl rfl ?_
  refine g_getf W101 (wd_113 hw) Via.refl H101 (i := 9) rfl (jx := 3) rfl d14_115 (pc' := 118) rfl ?_
  intro T102 W102 H102
  refine g_iload W102 d14_118 (pc' := 120) rfl rfl ?_
  refine g_aload W102 d14_120 (pc' := 122) rfl rfl rfl ?_
  refine g_callVE W102 (argsL := []) (st := [.int (3 : Int32), .ref a8]) (wd_153 hw) (wd_154 hw) (wd_156 hw) (wd_155 hw) (wd_38 hw) (wd_157 hw) (fun _ hZ => notFace_of_selects (args := #[]) (mvT hZ (wd_156 hw))) (by decide) (a := k3) (H102.exam (mc10 hd3)) (c_a_head l Z a0 hw n0 k3 t3 g3 x1 x2 x3 x4 _ (mc10 hd3) _ H102) pd_7 rfl rfl rfl d14_122 (pc' := 125) rfl (by decide) (Wn := 2) (Nat.le_of_eq rfl) (by decide) (kc' := 7) (ks' := 30) rfl rfl (by decide) (by decide) ?_
  intro T103 v103 W103 hp103
  obtain ⟨rfl, H103⟩ := hp103
  show Goes _ _ _ _ (State.setTop _ (mkF _ _ _ [.int g3, .int (3 : Int32), .ref a8]))
  refine g_iastoreI W103 H103 (i := 7) rfl (jx := 3) (by decide) (by exact (by decide : 3 < 4)) d14_125 (pc' := 126) rfl (L' := ((a, ObC Z "java/util/ArrayList" (fs_ArrayList (.int mcL) (.ref el) (.int (4 : Int32)))) :: (el, RaC Z "java/lang/Object" lv) :: (a18, IaC Z (nf1 (nf1 (nf1 (List.replicate 6 (0 : Int32)) j0) j1) j2)) :: (a16, ArC Z .double [.double x4, .double x4, .double x4, .double 0]) :: (a14, ArC Z .double [.double x3, .double x3, .double x3, .double 0]) :: (a12, ArC Z .double [.double x2, .double x2, .double x2, .double 0]) :: (a10, ArC Z .double [.double x1, .double x1, .double x1, .double 0]) :: (a8, IaC Z ([g0, g1, g2, g3] : List Int32)) :: (a6, IaC Z ([t0, t1, t2, t3] : List Int32)) :: (nt, ObC Z "com/example/lanewright/lanewright/Network" (fs_Network (.int (4 : Int32)) (.int ft) (.ref a6) (.ref a8) (.ref a10) (.ref a12) (.ref a14) (.ref a16) (.ref a18) .null)) :: F)) rfl ?_
  intro T104 W104 H104
  refine g_aloadN W104 d14_126 (pc' := 127) rfl rfl rfl ?_
  refine g_getf W104 (wd_115 hw) Via.refl H104 (i := 9) rfl (jx := 4) rfl d14_127 (pc' := 130) rfl ?_
  intro T105 W105 H105
  refine g_iload W105 d14_130 (pc' := 132) rfl rfl ?_
  refine g_aload W105 d14_132 (pc' := 134) rfl rfl rfl ?_
  refine g_callVE W105 (argsL := []) (st := [.int (3 : Int32), .ref a10]) (wd_158 hw) (wd_159 hw) (wd_161 hw) (wd_160 hw) (wd_38 hw) (wd_162 hw) (fun _ hZ => notFace_of_selects (args := #[]) (mvT hZ (wd_161 hw))) (by decide) (a := k3) (H105.exam (mc10 hd3)) (c_a_capacity l Z a0 hw n0 k3 t3 g3 x1 x2 x3 x4 _ (mc10 hd3) _ H105) pd_8 rfl rfl rfl d14_134 (pc' := 137) rfl (by decide) (Wn := 2) (Nat.le_of_eq rfl) (by decide) (kc' := 7) (ks' := 30) rfl rfl (by decide) (by decide) ?_
  intro T106 v106 W106 hp106
  obtain ⟨rfl, H106⟩ := hp106
  show Goes _ _ _ _ (State.setTop _ (mkF _ _ _ [.double x1, .int (3 : Int32), .ref a10]))
  refine g_dastore W106 H106 (i := 6) rfl (jx := 3) (by decide) (by exact (by decide : 3 < 4)) d14_137 (pc' := 138) rfl (L' := ((a, ObC Z "java/util/ArrayList" (fs_ArrayList (.int mcL) (.ref el) (.int (4 : Int32)))) :: (el, RaC Z "java/lang/Object" lv) :: (a18, IaC Z (nf1 (nf1 (nf1 (List.replicate 6 (0 : Int32)) j0) j1) j2)) :: (a16, ArC Z .double [.double x4, .double x4, .double x4, .double 0]) :: (a14, ArC Z .double [.double x3, .double x3, .double x3, .double 0]) :: (a12, ArC Z .double [.double x2, .double x2, .double x2, .double 0]) :: (a10, ArC Z .double [.double x1, .double x1, .double x1, .double x1]) :: (a8, IaC Z ([g0, g1, g2, g3] : List Int32)) :: (a6, IaC Z ([t0, t1, t2, t3] : List Int32)) :: (nt, ObC Z "com/example/lanewright/lanewright/Network" (fs_Network (.int (4 : Int32)) (.int ft) (.ref a6) (.ref a8) (.ref a10) (.ref a12) (.ref a14) (.ref a16) (.ref a18) .null)) :: F)) rfl ?_
  intro T107 W107 H107
  refine g_aloadN W107 d14_138 (pc' := 139) rfl rfl rfl ?_
  refine g_getf W107 (wd_117 hw) Via.refl H107 (i := 9) rfl (jx := 5) rfl d14_139 (pc' := 142) rfl ?_
  intro T108 W108 H108
  refine g_iload W108 d14_142 (pc' := 144) rfl rfl ?_
  refine g_aload W108 d14_144 (pc' := 146) rfl rfl rfl ?_
  refine g_callVE W108 (argsL := []) (st := [.int (3 : Int32), .ref a12]) (wd_163 hw) (wd_164 hw) (wd_166 hw) (wd_165 hw) (wd_38 hw) (wd_167 hw) (fun _ hZ => notFace_of_selects (args := #[]) (mvT hZ (wd_166 hw))) (by decide) (a := k3) (H108.exam (mc10 hd3)) (c_a_freeFlowTime l Z a0 hw n0 k3 t3 g3 x1 x2 x3 x4 _ (mc10 hd3) _ H108) pd_8 rfl rfl rfl d14_146 (pc' := 149) rfl (by decide) (Wn := 2) (Nat.le_of_eq rfl) (by decide) (kc' := 7) (ks' := 30) rfl rfl (by decide) (by decide) ?_
  intro T109 v109 W109 hp109
  obtain ⟨rfl, H109⟩ := hp109
  show Goes _ _ _ _ (State.setTop _ (mkF _ _ _ [.double x2, .int (3 : Int32), .ref a12]))
  refine g_dastore W109 H109 (i := 5) rfl (jx := 3) (by decide) (by exact (by decide : 3 < 4)) d14_149 (pc' := 150) rfl (L' := ((a, ObC Z "java/util/ArrayList" (fs_ArrayList (.int mcL) (.ref el) (.int (4 : Int32)))) :: (el, RaC Z "java/lang/Object" lv) :: (a18, IaC Z (nf1 (nf1 (nf1 (List.replicate 6 (0 : Int32)) j0) j1) j2)) :: (a16, ArC Z .double [.double x4, .double x4, .double x4, .double 0]) :: (a14, ArC Z .double [.double x3, .double x3, .double x3, .double 0]) :: (a12, ArC Z .double [.double x2, .double x2, .double x2, .double x2]) :: (a10, ArC Z .double [.double x1, .double x1, .double x1, .double x1]) :: (a8, IaC Z ([g0, g1, g2, g3] : List Int32)) :: (a6, IaC Z ([t0, t1, t2, t3] : List Int32)) :: (nt, ObC Z "com/example/lanewright/lanewright/Network" (fs_Network (.int (4 : Int32)) (.int ft) (.ref a6) (.ref a8) (.ref a10) (.ref a12) (.ref a14) (.ref a16) (.ref a18) .null)) :: F)) rfl ?_
  intro T110 W110 H110
  refine g_aloadN W110 d14_150 (pc' := 151) rfl rfl rfl ?_
  refine g_getf W110 (wd_119 hw) Via.refl H110 (i := 9) rfl (jx := 6) rfl d14_151 (pc' := 154) rfl ?_
  intro T111 W111 H111
  refine g_iload W111 d14_154 (pc' := 156) rfl rfl ?_
  refine g_aload W111 d14_156 (pc' := 158) rfl rfl rfl ?_
  refine g_callVE W111 (argsL := []) (st := [.int (3 : Int32), .ref a14]) (wd_168 hw) (wd_169 hw) (wd_171 hw) (wd_170 hw) (wd_38 hw) (wd_172 hw) (fun _ hZ => notFace_of_selects (args := #[]) (mvT hZ (wd_171 hw))) (by decide) (a := k3) (H111.exam (mc10 hd3)) (c_a_b l Z a0 hw n0 k3 t3 g3 x1 x2 x3 x4 _ (mc10 hd3) _ H111) pd_8 rfl rfl rfl d14_158 (pc' := 161) rfl (by decide) (Wn := 2) (Nat.le_of_eq rfl) (by decide) (kc' := 7) (ks' := 30) rfl rfl (by decide) (by decide) ?_
  intro T112 v112 W112 hp112
  obtain ⟨rfl, H112⟩ := hp112
  show Goes _ _ _ _ (State.setTop _ (mkF _ _ _ [.double x3, .int (3 : Int32), .ref a14]))
  refine g_dastore W112 H112 (i := 4) rfl (jx := 3) (by decide) (by exact (by decide : 3 < 4)) d14_161 (pc' := 162) rfl (L' := ((a, ObC Z "java/util/ArrayList" (fs_ArrayList (.int mcL) (.ref el) (.int (4 : Int32)))) :: (el, RaC Z "java/lang/Object" lv) :: (a18, IaC Z (nf1 (nf1 (nf1 (List.replicate 6 (0 : Int32)) j0) j1) j2)) :: (a16, ArC Z .double [.double x4, .double x4, .double x4, .double 0]) :: (a14, ArC Z .double [.double x3, .double x3, .double x3, .double x3]) :: (a12, ArC Z .double [.double x2, .double x2, .double x2, .double x2]) :: (a10, ArC Z .double [.double x1, .double x1, .double x1, .double x1]) :: (a8, IaC Z ([g0, g1, g2, g3] : List Int32)) :: (a6, IaC Z ([t0, t1, t2, t3] : List Int32)) :: (nt, ObC Z "com/example/lanewright/lanewright/Network" (fs_Network (.int (4 : Int32)) (.int ft) (.ref a6) (.ref a8) (.ref a10) (.ref a12) (.ref a14) (.ref a16) (.ref a18) .null)) :: F)) rfl ?_
  intro T113 W113 H113
  refine g_aloadN W113 d14_162 (pc' := 163) rfl rfl rfl ?_
  refine g_getf W113 (wd_121 hw) Via.refl H113 (i := 9) rfl (jx := 7) rfl d14_163 (pc' := 166) rfl ?_
  intro T114 W114 H114
  refine g_iload W114 d14_166 (pc' := 168) rfl rfl ?_
  refine g_aload W114 d14_168 (pc' := 170) rfl rfl rfl ?_
  refine g_callVE W114 (argsL := []) (st := [.int (3 : Int32), .ref a16]) (wd_173 hw) (wd_174 hw) (wd_176 hw) (wd_175 hw) (wd_38 hw) (wd_177 hw) (fun _ hZ => notFace_of_selects (args := #[]) (mvT hZ (wd_176 hw))) (by decide) (a := k3) (H114.exam (mc10 hd3)) (c_a_power l Z a0 hw n0 k3 t3 g3 x1 x2 x3 x4 _ (mc10 hd3) _ H114) pd_8 rfl rfl rfl d14_170 (pc' := 173) rfl (by decide) (Wn := 2) (Nat.le_of_eq rfl) (by decide) (kc' := 7) (ks' := 30) rfl rfl (by decide) (by decide) ?_
  intro T115 v115 W115 hp115
  obtain ⟨rfl, H115⟩ := hp115
  show Goes _ _ _ _ (State.setTop _ (mkF _ _ _ [.double x4, .int (3 : Int32), .ref a16]))
  refine g_dastore W115 H115 (i := 3) rfl (jx := 3) (by decide) (by exact (by decide : 3 < 4)) d14_173 (pc' := 174) rfl (L' := ((a, ObC Z "java/util/ArrayList" (fs_ArrayList (.int mcL) (.ref el) (.int (4 : Int32)))) :: (el, RaC Z "java/lang/Object" lv) :: (a18, IaC Z (nf1 (nf1 (nf1 (List.replicate 6 (0 : Int32)) j0) j1) j2)) :: (a16, ArC Z .double [.double x4, .double x4, .double x4, .double x4]) :: (a14, ArC Z .double [.double x3, .double x3, .double x3, .double x3]) :: (a12, ArC Z .double [.double x2, .double x2, .double x2, .double x2]) :: (a10, ArC Z .double [.double x1, .double x1, .double x1, .double x1]) :: (a8, IaC Z ([g0, g1, g2, g3] : List Int32)) :: (a6, IaC Z ([t0, t1, t2, t3] : List Int32)) :: (nt, ObC Z "com/example/lanewright/lanewright/Network" (fs_Network (.int (4 : Int32)) (.int ft) (.ref a6) (.ref a8) (.ref a10) (.ref a12) (.ref a14) (.ref a16) (.ref a18) .null)) :: F)) rfl ?_
  intro T116 W116 H116
  refine g_aloadN W116 d14_174 (pc' := 175) rfl rfl rfl ?_
  refine g_getf W116 (wd_123 hw) Via.refl H116 (i := 9) rfl (jx := 8) rfl d14_175 (pc' := 178) rfl ?_
  intro T117 W117 H117
  refine g_aload W117 d14_178 (pc' := 180) rfl rfl rfl ?_
  refine g_callVE W117 (argsL := []) (st := [.ref a18]) (wd_148 hw) (wd_149 hw) (wd_151 hw) (wd_150 hw) (wd_38 hw) (wd_152 hw) (fun _ hZ => notFace_of_selects (args := #[]) (mvT hZ (wd_151 hw))) (by decide) (a := k3) (H117.exam (mc10 hd3)) (c_a_tail l Z a0 hw n0 k3 t3 g3 x1 x2 x3 x4 _ (mc10 hd3) _ H117) pd_7 rfl rfl rfl d14_180 (pc' := 183) rfl (by decide) (Wn := 1) (Nat.le_of_eq rfl) (by decide) (kc' := 7) (ks' := 30) rfl rfl (by decide) (by decide) ?_
  intro T118 v118 W118 hp118
  obtain ⟨rfl, H118⟩ := hp118
  show Goes _ _ _ _ (State.setTop _ (mkF _ _ _ [.int t3, .ref a18]))
  refine g_iconst W118 d14_183 (pc' := 184) rfl (v := (1 : Int32)) (by decide) ?_
  refine g_iadd W118 d14_184 (pc' := 185) rfl rfl ?_
  refine g_dup2 W118 d14_185 (pc' := 186) rfl rfl rfl ?_
  refine g_ialoadI W118 H118 (i := 2) rfl (jx := (j3 + 1)) (i_p1 ht3 (by omega)) (u := ((nf1 (nf1 (nf1 (List.replicate 6 (0 : Int32)) j0) j1) j2).getD (j3 + 1) 0)) (getD_some (by simp only [nf1_len, pf1_len, nx1_len, oa1_len, List.length_replicate]; omega)) d14_186 (pc' := 187) rfl ?_
  refine g_iconst W118 d14_187 (pc' := 188) rfl (v := (1 : Int32)) (by decide) ?_
  refine g_iadd W118 d14_188 (pc' := 189) rfl rfl ?_
  refine g_iastoreI W118 H118 (i := 2) rfl (jx := (j3 + 1)) (i_p1 ht3 (by omega)) (by simp only [nf1_len, pf1_len, nx1_len, oa1_len, List.length_replicate]; omega) d14_189 (pc' := 190) rfl (L' := ((a, ObC Z "java/util/ArrayList" (fs_ArrayList (.int mcL) (.ref el) (.int (4 : Int32)))) :: (el, RaC Z "java/lang/Object" lv) :: (a18, IaC Z (nf1 (nf1 (nf1 (nf1 (List.replicate 6 (0 : Int32)) j0) j1) j2) j3)) :: (a16, ArC Z .double [.double x4, .double x4, .double x4, .double x4]) :: (a14, ArC Z .double [.double x3, .double x3, .double x3, .double x3]) :: (a12, ArC Z .double [.double x2, .double x2, .double x2, .double x2]) :: (a10, ArC Z .double [.double x1, .double x1, .double x1, .double x1]) :: (a8, IaC Z ([g0, g1, g2, g3] : List Int32)) :: (a6, IaC Z ([t0, t1, t2, t3] : List Int32)) :: (nt, ObC Z "com/example/lanewright/lanewright/Network" (fs_Network (.int (4 : Int32)) (.int ft) (.ref a6) (.ref a8) (.ref a10) (.ref a12) (.ref a14) (.ref a16) (.ref a18) .null)) :: F)) rfl ?_
  intro T119 W119 H119
  refine g_iinc W119 d14_190 (pc' := 193) rfl rfl (v := (4 : Int32)) (by decide) (ls' := #[.val (.ref nt), .val (.int (4 : Int32)), .val (.int ft), .val (.ref a), .val (.int (4 : Int32)), .val (.int (4 : Int32)), .val (.ref k3)]) rfl ?_
  refine g_goto W119 d14_193 (pc' := 82) (by decide) ?_
  refine g_iload W119 d14_82 (pc' := 84) rfl rfl ?_
  refine g_iload W119 d14_84 (pc' := 86) rfl rfl ?_
  refine g_icmp W119 d14_86 (pcy := 196) (by decide) (pc' := 89) rfl (fun _ => ?_) (fun (h : ¬ ¬ (4 : Int32) < (4 : Int32)) => absurd h (by decide))
  refine g_iconst W119 d14_196 (pc' := 197) rfl (v := (1 : Int32)) (by decide) ?_
  refine g_istore W119 d14_197 (pc' := 199) rfl (ls' := #[.val (.ref nt), .val (.int (4 : Int32)), .val (.int ft), .val (.ref a), .val (.int (4 : Int32)), .val (.int (1 : Int32)), .val (.ref k3)]) rfl ?_
  refine g_iload W119 d14_199 (pc' := 201) rfl rfl ?_
  refine g_iloadN W119 d14_201 (pc' := 202) rfl rfl ?_
  refine g_icmp W119 d14_202 (pcy := 230) (by decide) (pc' := 205) rfl (fun (h : (4 : Int32) < (1 : Int32)) => absurd h (by decide)) (fun _ => ?_)
  refine g_aloadN W119 d14_205 (pc' := 206) rfl rfl rfl ?_
  refine g_getf W119 (wd_123 hw) Via.refl H119 (i := 9) rfl (jx := 8) rfl d14_206 (pc' := 209) rfl ?_
  intro T120 W120 H120
  refine g_iload W120 d14_209 (pc' := 211) rfl rfl ?_
  refine g_iconst W120 d14_211 (pc' := 212) rfl (v := (1 : Int32)) (by decide) ?_
  refine g_iadd W120 d14_212 (pc' := 213) rfl (v := (2 : Int32)) (by decide) ?_
  refine g_dup2 W120 d14_213 (pc' := 214) rfl rfl rfl ?_
  refine g_ialoadI W120 H120 (i := 2) rfl (jx := 2) (by decide) (u := ((nf1 (nf1 (nf1 (nf1 (List.replicate 6 (0 : Int32)) j0) j1) j2) j3).getD 2 0)) (getD_some (by simp only [nf1_len, pf1_len, nx1_len, oa1_len, List.length_replicate]; decide)) d14_214 (pc' := 215) rfl ?_
  refine g_aloadN W120 d14_215 (pc' := 216) rfl rfl rfl ?_
  refine g_getf W120 (wd_123 hw) Via.refl H120 (i := 9) rfl (jx := 8) rfl d14_216 (pc' := 219) rfl ?_
  intro T121 W121 H121
  refine g_iload W121 d14_219 (pc' := 221) rfl rfl ?_
  refine g_ialoadI W121 H121 (i := 2) rfl (jx := 1) (by decide) (u := ((nf1 (nf1 (nf1 (nf1 (List.replicate 6 (0 : Int32)) j0) j1) j2) j3).getD 1 0)) (getD_some (by simp only [nf1_len, pf1_len, nx1_len, oa1_len, List.length_replicate]; decide)) d14_221 (pc' := 222) rfl ?_
  refine g_iadd W121 d14_222 (pc' := 223) rfl rfl ?_
  refine g_iastoreI W121 H121 (i := 2) rfl (jx := 2) (by decide) (by simp only [nf1_len, pf1_len, nx1_len, oa1_len, List.length_replicate]; decide) d14_223 (pc' := 224) rfl (L' := ((a, ObC Z "java/util/ArrayList" (fs_ArrayList (.int mcL) (.ref el) (.int (4 : Int32)))) :: (el, RaC Z "java/lang/Object" lv) :: (a18, IaC Z (pf1 (nf1 (nf1 (nf1 (nf1 (List.replicate 6 (0 : Int32)) j0) j1) j2) j3) 1)) :: (a16, ArC Z .double [.double x4, .double x4, .double x4, .double x4]) :: (a14, ArC Z .double [.double x3, .double x3, .double x3, .double x3]) :: (a12, ArC Z .double [.double x2, .double x2, .double x2, .double x2]) :: (a10, ArC Z .double [.double x1, .double x1, .double x1, .double x1]) :: (a8, IaC Z ([g0, g1, g2, g3] : List Int32)) :: (a6, IaC Z ([t0, t1, t2, t3] : List Int32)) :: (nt, ObC Z "com/example/lanewright/lanewright/Network" (fs_Network (.int (4 : Int32)) (.int ft) (.ref a6) (.ref a8) (.ref a10) (.ref a12) (.ref a14) (.ref a16) (.ref a18) .null)) :: F)) rfl ?_
  intro T122 W122 H122
  refine g_iinc W122 d14_224 (pc' := 227) rfl rfl (v := (2 : Int32)) (by decide) (ls' := #[.val (.ref nt), .val (.int (4 : Int32)), .val (.int ft), .val (.ref a), .val (.int (4 : Int32)), .val (.int (2 : Int32)), .val (.ref k3)]) rfl ?_
  refine g_goto W122 d14_227 (pc' := 199) (by decide) ?_
  refine g_iload W122 d14_199 (pc' := 201) rfl rfl ?_
  refine g_iloadN W122 d14_201 (pc' := 202) rfl rfl ?_
  refine g_icmp W122 d14_202 (pcy := 230) (by decide) (pc' := 205) rfl (fun (h : (4 : Int32) < (2 : Int32)) => absurd h (by decide)) (fun _ => ?_)
  refine g_aloadN W122 d14_205 (pc' := 206) rfl rfl rfl ?_
  refine g_getf W122 (wd_123 hw) Via.refl H122 (i := 9) rfl (jx := 8) rfl d14_206 (pc' := 209) rfl ?_
  intro T123 W123 H123
  refine g_iload W123 d14_209 (pc' := 211) rfl rfl ?_
  refine g_iconst W123 d14_211 (pc' := 212) rfl (v := (1 : Int32)) (by decide) ?_
  refine g_iadd W123 d14_212 (pc' := 213) rfl (v := (3 : Int32)) (by decide) ?_
  refine g_dup2 W123 d14_213 (pc' := 214) rfl rfl rfl ?_
  refine g_ialoadI W123 H123 (i := 2) rfl (jx := 3) (by decide) (u := ((pf1 (nf1 (nf1 (nf1 (nf1 (List.replicate 6 (0 : Int32)) j0) j1) j2) j3) 1).getD 3 0)) (getD_some (by simp only [nf1_len, pf1_len, nx1_len, oa1_len, List.length_replicate]; decide)) d14_214 (pc' := 215) rfl ?_
  refine g_aloadN W123 d14_215 (pc' := 216) rfl rfl rfl ?_
  refine g_getf W123 (wd_123 hw) Via.refl H123 (i := 9) rfl (jx := 8) rfl d14_216 (pc' := 219) rfl ?_
  intro T124 W124 H124
  refine g_iload W124 d14_219 (pc' := 221) rfl rfl ?_
  refine g_ialoadI W124 H124 (i := 2) rfl (jx := 2) (by decide) (u := ((pf1 (nf1 (nf1 (nf1 (nf1 (List.replicate 6 (0 : Int32)) j0) j1) j2) j3) 1).getD 2 0)) (getD_some (by simp only [nf1_len, pf1_len, nx1_len, oa1_len, List.length_replicate]; decide)) d14_221 (pc' := 222) rfl ?_
  refine g_iadd W124 d14_222 (pc' := 223) rfl rfl ?_
  refine g_iastoreI W124 H124 (i := 2) rfl (jx := 3) (by decide) (by simp only [nf1_len, pf1_len, nx1_len, oa1_len, List.length_replicate]; decide) d14_223 (pc' := 224) rfl (L' := ((a, ObC Z "java/util/ArrayList" (fs_ArrayList (.int mcL) (.ref el) (.int (4 : Int32)))) :: (el, RaC Z "java/lang/Object" lv) :: (a18, IaC Z (pf1 (pf1 (nf1 (nf1 (nf1 (nf1 (List.replicate 6 (0 : Int32)) j0) j1) j2) j3) 1) 2)) :: (a16, ArC Z .double [.double x4, .double x4, .double x4, .double x4]) :: (a14, ArC Z .double [.double x3, .double x3, .double x3, .double x3]) :: (a12, ArC Z .double [.double x2, .double x2, .double x2, .double x2]) :: (a10, ArC Z .double [.double x1, .double x1, .double x1, .double x1]) :: (a8, IaC Z ([g0, g1, g2, g3] : List Int32)) :: (a6, IaC Z ([t0, t1, t2, t3] : List Int32)) :: (nt, ObC Z "com/example/lanewright/lanewright/Network" (fs_Network (.int (4 : Int32)) (.int ft) (.ref a6) (.ref a8) (.ref a10) (.ref a12) (.ref a14) (.ref a16) (.ref a18) .null)) :: F)) rfl ?_
  intro T125 W125 H125
  refine g_iinc W125 d14_224 (pc' := 227) rfl rfl (v := (3 : Int32)) (by decide) (ls' := #[.val (.ref nt), .val (.int (4 : Int32)), .val (.int ft), .val (.ref a), .val (.int (4 : Int32)), .val (.int (3 : Int32)), .val (.ref k3)]) rfl ?_
  refine g_goto W125 d14_227 (pc' := 199) (by decide) ?_
  refine g_iload W125 d14_199 (pc' := 201) rfl rfl ?_
  refine g_iloadN W125 d14_201 (pc' := 202) rfl rfl ?_
  refine g_icmp W125 d14_202 (pcy := 230) (by decide) (pc' := 205) rfl (fun (h : (4 : Int32) < (3 : Int32)) => absurd h (by decide)) (fun _ => ?_)
  refine g_aloadN W125 d14_205 (pc' := 206) rfl rfl rfl ?_
  refine g_getf W125 (wd_123 hw) Via.refl H125 (i := 9) rfl (jx := 8) rfl d14_206 (pc' := 209) rfl ?_
  intro T126 W126 H126
  refine g_iload W126 d14_209 (pc' := 211) rfl rfl ?_
  refine g_iconst W126 d14_211 (pc' := 212) rfl (v := (1 : Int32)) (by decide) ?_
  refine g_iadd W126 d14_212 (pc' := 213) rfl (v := (4 : Int32)) (by decide) ?_
  refine g_dup2 W126 d14_213 (pc' := 214) rfl rfl rfl ?_
  refine g_ialoadI W126 H126 (i := 2) rfl (jx := 4) (by decide) (u := ((pf1 (pf1 (nf1 (nf1 (nf1 (nf1 (List.replicate 6 (0 : Int32)) j0) j1) j2) j3) 1) 2).getD 4 0)) (getD_some (by simp only [nf1_len, pf1_len, nx1_len, oa1_len, List.length_replicate]; decide)) d14_214 (pc' := 215) rfl ?_
  refine g_aloadN W126 d14_215 (pc' := 216) rfl rfl rfl ?_
  refine g_getf W126 (wd_123 hw) Via.refl H126 (i := 9) rfl (jx := 8) rfl d14_216 (pc' := 219) rfl ?_
  intro T127 W127 H127
  refine g_iload W127 d14_219 (pc' := 221) rfl rfl ?_
  refine g_ialoadI W127 H127 (i := 2) rfl (jx := 3) (by decide) (u := ((pf1 (pf1 (nf1 (nf1 (nf1 (nf1 (List.replicate 6 (0 : Int32)) j0) j1) j2) j3) 1) 2).getD 3 0)) (getD_some (by simp only [nf1_len, pf1_len, nx1_len, oa1_len, List.length_replicate]; decide)) d14_221 (pc' := 222) rfl ?_
  refine g_iadd W127 d14_222 (pc' := 223) rfl rfl ?_
  refine g_iastoreI W127 H127 (i := 2) rfl (jx := 4) (by decide) (by simp only [nf1_len, pf1_len, nx1_len, oa1_len, List.length_replicate]; decide) d14_223 (pc' := 224) rfl (L' := ((a, ObC Z "java/util/ArrayList" (fs_ArrayList (.int mcL) (.ref el) (.int (4 : Int32)))) :: (el, RaC Z "java/lang/Object" lv) :: (a18, IaC Z (pf1 (pf1 (pf1 (nf1 (nf1 (nf1 (nf1 (List.replicate 6 (0 : Int32)) j0) j1) j2) j3) 1) 2) 3)) :: (a16, ArC Z .double [.double x4, .double x4, .double x4, .double x4]) :: (a14, ArC Z .double [.double x3, .double x3, .double x3, .double x3]) :: (a12, ArC Z .double [.double x2, .double x2, .double x2, .double x2]) :: (a10, ArC Z .double [.double x1, .double x1, .double x1, .double x1]) :: (a8, IaC Z ([g0, g1, g2, g3] : List Int32)) :: (a6, IaC Z ([t0, t1, t2, t3] : List Int32)) :: (nt, ObC Z "com/example/lanewright/lanewright/Network" (fs_Network (.int (4 : Int32)) (.int ft) (.ref a6) (.ref a8) (.ref a10) (.ref a12) (.ref a14) (.ref a16) (.ref a18) .null)) :: F)) rfl ?_
  intro T128 W128 H128
  refine g_iinc W128 d14_224 (pc' := 227) rfl rfl (v := (4 : Int32)) (by decide) (ls' := #[.val (.ref nt), .val (.int (4 : Int32)), .val (.int ft), .val (.ref a), .val (.int (4 : Int32)), .val (.int (4 : Int32)), .val (.ref k3)]) rfl ?_
  refine g_goto W128 d14_227 (pc' := 199) (by decide) ?_
  refine g_iload W128 d14_199 (pc' := 201) rfl rfl ?_
  refine g_iloadN W128 d14_201 (pc' := 202) rfl rfl ?_
  refine g_icmp W128 d14_202 (pcy := 230) (by decide) (pc' := 205) rfl (fun (h : (4 : Int32) < (4 : Int32)) => absurd h (by decide)) (fun _ => ?_)
  refine g_aloadN W128 d14_205 (pc' := 206) rfl rfl rfl ?_
  refine g_getf W128 (wd_123 hw) Via.refl H128 (i := 9) rfl (jx := 8) rfl d14_206 (pc' := 209) rfl ?_
  intro T129 W129 H129
  refine g_iload W129 d14_209 (pc' := 211) rfl rfl ?_
  refine g_iconst W129 d14_211 (pc' := 212) rfl (v := (1 : Int32)) (by decide) ?_
  refine g_iadd W129 d14_212 (pc' := 213) rfl (v := (5 : Int32)) (by decide) ?_
  refine g_dup2 W129 d14_213 (pc' := 214) rfl rfl rfl ?_
  refine g_ialoadI W129 H129 (i := 2) rfl (jx := 5) (by decide) (u := ((pf1 (pf1 (pf1 (nf1 (nf1 (nf1 (nf1 (List.replicate 6 (0 : Int32)) j0) j1) j2) j3) 1) 2) 3).getD 5 0)) (getD_some (by simp only [nf1_len, pf1_len, nx1_len, oa1_len, List.length_replicate]; decide)) d14_214 (pc' := 215) rfl ?_
  refine g_aloadN W129 d14_215 (pc' := 216) rfl rfl rfl ?_
  refine g_getf W129 (wd_123 hw) Via.refl H129 (i := 9) rfl (jx := 8) rfl d14_216 (pc' := 219) rfl ?_
  intro T130 W130 H130
  refine g_iload W130 d14_219 (pc' := 221) rfl rfl ?_
  refine g_ialoadI W130 H130 (i := 2) rfl (jx := 4) (by decide) (u := ((pf1 (pf1 (pf1 (nf1 (nf1 (nf1 (nf1 (List.replicate 6 (0 : Int32)) j0) j1) j2) j3) 1) 2) 3).getD 4 0)) (getD_some (by simp only [nf1_len, pf1_len, nx1_len, oa1_len, List.length_replicate]; decide)) d14_221 (pc' := 222) rfl ?_
  refine g_iadd W130 d14_222 (pc' := 223) rfl rfl ?_
  refine g_iastoreI W130 H130 (i := 2) rfl (jx := 5) (by decide) (by simp only [nf1_len, pf1_len, nx1_len, oa1_len, List.length_replicate]; decide) d14_223 (pc' := 224) rfl (L' := ((a, ObC Z "java/util/ArrayList" (fs_ArrayList (.int mcL) (.ref el) (.int (4 : Int32)))) :: (el, RaC Z "java/lang/Object" lv) :: (a18, IaC Z (pf1 (pf1 (pf1 (pf1 (nf1 (nf1 (nf1 (nf1 (List.replicate 6 (0 : Int32)) j0) j1) j2) j3) 1) 2) 3) 4)) :: (a16, ArC Z .double [.double x4, .double x4, .double x4, .double x4]) :: (a14, ArC Z .double [.double x3, .double x3, .double x3, .double x3]) :: (a12, ArC Z .double [.double x2, .double x2, .double x2, .double x2]) :: (a10, ArC Z .double [.double x1, .double x1, .double x1, .double x1]) :: (a8, IaC Z ([g0, g1, g2, g3] : List Int32)) :: (a6, IaC Z ([t0, t1, t2, t3] : List Int32)) :: (nt, ObC Z "com/example/lanewright/lanewright/Network" (fs_Network (.int (4 : Int32)) (.int ft) (.ref a6) (.ref a8) (.ref a10) (.ref a12) (.ref a14) (.ref a16) (.ref a18) .null)) :: F)) rfl ?_
  intro T131 W131 H131
  refine g_iinc W131 d14_224 (pc' := 227) rfl rfl (v := (5 : Int32)) (by decide) (ls' := #[.val (.ref nt), .val (.int (4 : Int32)), .val (.int ft), .val (.ref a), .val (.int (4 : Int32)), .val (.int (5 : Int32)), .val (.ref k3)]) rfl ?_
  refine g_goto W131 d14_227 (pc' := 199) (by decide) ?_
  refine g_iload W131 d14_199 (pc' := 201) rfl rfl ?_
  refine g_iloadN W131 d14_201 (pc' := 202) rfl rfl ?_
  refine g_icmp W131 d14_202 (pcy := 230) (by decide) (pc' := 205) rfl (fun _ => ?_) (fun (h : ¬ (4 : Int32) < (5 : Int32)) => absurd h (by decide))
  refine g_aloadN W131 d14_230 (pc' := 231) rfl rfl rfl ?_
  refine g_iload W131 d14_231 (pc' := 233) rfl rfl ?_
  refine g_newarrI W131 (wd_1 hw) H131 (by decide) (n := 4) (by decide) (cap := 4) (by decide) (by decide) d14_233 (pc' := 235) rfl (kc' := 8) (ks' := 34) rfl rfl (by decide) (by decide) ?_
  intro T132 a132 W132 H132
  refine g_putf W132 (wd_178 hw) Via.refl (Or.inr ⟨(wd_179 hw), rfl, rfl⟩) (wd_92 hw) (ty := (.array .int)) (by decide) rfl rfl H132 (i := 10) rfl (jx := 9) rfl d14_235 (pc' := 238) rfl (L' := ((a132, IaC Z (List.replicate 4 0)) :: (a, ObC Z "java/util/ArrayList" (fs_ArrayList (.int mcL) (.ref el) (.int (4 : Int32)))) :: (el, RaC Z "java/lang/Object" lv) :: (a18, IaC Z (pf1 (pf1 (pf1 (pf1 (nf1 (nf1 (nf1 (nf1 (List.replicate 6 (0 : Int32)) j0) j1) j2) j3) 1) 2) 3) 4)) :: (a16, ArC Z .double [.double x4, .double x4, .double x4, .double x4]) :: (a14, ArC Z .double [.double x3, .double x3, .double x3, .double x3]) :: (a12, ArC Z .double [.double x2, .double x2, .double x2, .double x2]) :: (a10, ArC Z .double [.double x1, .double x1, .double x1, .double x1]) :: (a8, IaC Z ([g0, g1, g2, g3] : List Int32)) :: (a6, IaC Z ([t0, t1, t2, t3] : List Int32)) :: (nt, ObC Z "com/example/lanewright/lanewright/Network" (fs_Network (.int (4 : Int32)) (.int ft) (.ref a6) (.ref a8) (.ref a10) (.ref a12) (.ref a14) (.ref a16) (.ref a18) (.ref a132))) :: F)) rfl ?_
  intro T133 W133 H133
  refine g_aloadN W133 d14_238 (pc' := 239) rfl rfl rfl ?_
  refine g_getf W133 (wd_123 hw) Via.refl H133 (i := 10) rfl (jx := 8) rfl d14_239 (pc' := 242) rfl ?_
  intro T134 W134 H134
  refine g_cloneI W134 (wd_180 hw) (wd_181 hw) (wd_185 hw) (wd_183 hw) (wd_184 hw) (wd_186 hw) H134 (i := 3) rfl rfl d14_242 (pc' := 245) rfl (by decide) (Wn := 0) (by decide) (by decide) (cap := 6) (by simp only [nf1_len, pf1_len, nx1_len, oa1_len, List.length_replicate]; decide) (kc' := 9) (ks' := 40) rfl rfl (by decide) (by decide) ?_
  intro T135 b1 W135 H135
  refine g_cast1 W135 (wd_187 hw) (Ins.self (by obtain ⟨-, cl, q1, q2⟩ := H135.get (i := 0) rfl; exact q2.exa q1)) H135 d14_245 (pc' := 248) rfl ?_
  intro T136 W136 _ H136
  refine g_astore W136 d14_248 (pc' := 250) rfl rfl (ls' := #[.val (.ref nt), .val (.int (4 : Int32)), .val (.int ft), .val (.ref a), .val (.int (4 : Int32)), .val (.ref b1), .val (.ref k3)]) rfl ?_
  refine g_iconst W136 d14_250 (pc' := 251) rfl (v := (0 : Int32)) (by decide) ?_
  refine g_istore W136 d14_251 (pc' := 253) rfl (ls' := #[.val (.ref nt), .val (.int (4 : Int32)), .val (.int ft), .val (.ref a), .val (.int (4 : Int32)), .val (.ref b1), .val (.int (0 : Int32))]) rfl ?_
  refine g_iload W136 d14_253 (pc' := 255) rfl rfl ?_
  refine g_iload W136 d14_255 (pc' := 257) rfl rfl ?_
  refine g_icmp W136 d14_257 (pcy := 288) (by decide) (pc' := 260) rfl (fun (h : ¬ (0 : Int32) < (4 : Int32)) => absurd h (by decide)) (fun _ => ?_)
  refine g_aloadN W136 d14_260 (pc' := 261) rfl rfl rfl ?_
  refine g_getf W136 (wd_178 hw) Via.refl H136 (i := 11) rfl (jx := 9) rfl d14_261 (pc' := 264) rfl ?_
  intro T137 W137 H137
  refine g_aload W137 d14_264 (pc' := 266) rfl rfl rfl ?_
  refine g_aloadN W137 d14_266 (pc' := 267) rfl rfl rfl ?_
  refine g_getf W137 (wd_111 hw) Via.refl H137 (i := 11) rfl (jx := 2) rfl d14_267 (pc' := 270) rfl ?_
  intro T138 W138 H138
  refine g_iload W138 d14_270 (pc' := 272) rfl rfl ?_
  refine g_ialoadI W138 H138 (i := 10) rfl (jx := 0) (by decide) (u := t0) rfl d14_272 (pc' := 273) rfl ?_
  refine g_dup2 W138 d14_273 (pc' := 274) rfl rfl rfl ?_
  refine g_ialoadI W138 H138 (i := 0) rfl (jx := j0) ht0 (u := ((pf1 (pf1 (pf1 (pf1 (nf1 (nf1 (nf1 (nf1 (List.replicate 6 (0 : Int32)) j0) j1) j2) j3) 1) 2) 3) 4).getD j0 0)) (getD_some (by simp only [nf1_len, pf1_len, nx1_len, oa1_len, List.length_replicate]; omega)) d14_274 (pc' := 275) rfl ?_
  refine g_dup_x2 W138 d14_275 (pc' := 276) rfl rfl rfl rfl ?_
  refine g_iconst W138 d14_276 (pc' := 277) rfl (v := (1 : Int32)) (by decide) ?_
  refine g_iadd W138 d14_277 (pc' := 278) rfl rfl ?_
  refine g_iastoreI W138 H138 (i := 0) rfl (jx := j0) ht0 (by simp only [nf1_len, pf1_len, nx1_len, oa1_len, List.length_replicate]; omega) d14_278 (pc' := 279) rfl (L' := ((b1, IaC Z (nx1 (pf1 (pf1 (pf1 (pf1 (nf1 (nf1 (nf1 (nf1 (List.replicate 6 (0 : Int32)) j0) j1) j2) j3) 1) 2) 3) 4) j0)) :: (a132, IaC Z (List.replicate 4 0)) :: (a, ObC Z "java/util/ArrayList" (fs_ArrayList (.int mcL) (.ref el) (.int (4 : Int32)))) :: (el, RaC Z "java/lang/Object" lv) :: (a18, IaC Z (pf1 (pf1 (pf1 (pf1 (nf1 (nf1 (nf1 (nf1 (List.replicate 6 (0 : Int32)) j0) j1) j2) j3) 1) 2) 3) 4)) :: (a16, ArC Z .double [.double x4, .double x4, .double x4, .double x4]) :: (a14, ArC Z .double [.double x3, .double x3, .double x3, .double x3]) :: (a12, ArC Z .double [.double x2, .double x2, .double x2, .double x2]) :: (a10, ArC Z .double [.double x1, .double x1, .double x1, .double x1]) :: (a8, IaC Z ([g0, g1, g2, g3] : List Int32)) :: (a6, IaC Z ([t0, t1, t2, t3] : List Int32)) :: (nt, ObC Z "com/example/lanewright/lanewright/Network" (fs_Network (.int (4 : Int32)) (.int ft) (.ref a6) (.ref a8) (.ref a10) (.ref a12) (.ref a14) (.ref a16) (.ref a18) (.ref a132))) :: F)) rfl ?_
  intro T139 W139 H139
  refine g_iload W139 d14_279 (pc' := 281) rfl rfl ?_
  refine g_iastoreI W139 H139 (i := 1) rfl (jx := ((pf1 (pf1 (pf1 (pf1 (nf1 (nf1 (nf1 (nf1 (List.replicate 6 (0 : Int32)) j0) j1) j2) j3) 1) 2) 3) 4).getD j0 0).toInt.toNat) ((Int.toNat_of_nonneg z0.1).symm) (by simp only [nf1_len, pf1_len, nx1_len, oa1_len, List.length_replicate]; omega) d14_281 (pc' := 282) rfl (L' := ((b1, IaC Z (nx1 (pf1 (pf1 (pf1 (pf1 (nf1 (nf1 (nf1 (nf1 (List.replicate 6 (0 : Int32)) j0) j1) j2) j3) 1) 2) 3) 4) j0)) :: (a132, IaC Z (oa1 (List.replicate 4 (0 : Int32)) (pf1 (pf1 (pf1 (pf1 (nf1 (nf1 (nf1 (nf1 (List.replicate 6 (0 : Int32)) j0) j1) j2) j3) 1) 2) 3) 4) j0 0)) :: (a, ObC Z "java/util/ArrayList" (fs_ArrayList (.int mcL) (.ref el) (.int (4 : Int32)))) :: (el, RaC Z "java/lang/Object" lv) :: (a18, IaC Z (pf1 (pf1 (pf1 (pf1 (nf1 (nf1 (nf1 (nf1 (List.replicate 6 (0 : Int32)) j0) j1) j2) j3) 1) 2) 3) 4)) :: (a16, ArC Z .double [.double x4, .double x4, .double x4, .double x4]) :: (a14, ArC Z .double [.double x3, .double x3, .double x3, .double x3]) :: (a12, ArC Z .double [.double x2, .double x2, .double x2, .double x2]) :: (a10, ArC Z .double [.double x1, .double x1, .double x1, .double x1]) :: (a8, IaC Z ([g0, g1, g2, g3] : List Int32)) :: (a6, IaC Z ([t0, t1, t2, t3] : List Int32)) :: (nt, ObC Z "com/example/lanewright/lanewright/Network" (fs_Network (.int (4 : Int32)) (.int ft) (.ref a6) (.ref a8) (.ref a10) (.ref a12) (.ref a14) (.ref a16) (.ref a18) (.ref a132))) :: F)) rfl ?_
  intro T140 W140 H140
  refine g_iinc W140 d14_282 (pc' := 285) rfl rfl (v := (1 : Int32)) (by decide) (ls' := #[.val (.ref nt), .val (.int (4 : Int32)), .val (.int ft), .val (.ref a), .val (.int (4 : Int32)), .val (.ref b1), .val (.int (1 : Int32))]) rfl ?_
  refine g_goto W140 d14_285 (pc' := 253) (by decide) ?_
  refine g_iload W140 d14_253 (pc' := 255) rfl rfl ?_
  refine g_iload W140 d14_255 (pc' := 257) rfl rfl ?_
  refine g_icmp W140 d14_257 (pcy := 288) (by decide) (pc' := 260) rfl (fun (h : ¬ (1 : Int32) < (4 : Int32)) => absurd h (by decide)) (fun _ => ?_)
  refine g_aloadN W140 d14_260 (pc' := 261) rfl rfl rfl ?_
  refine g_getf W140 (wd_178 hw) Via.refl H140 (i := 11) rfl (jx := 9) rfl d14_261 (pc' := 264) rfl ?_
  intro T141 W141 H141
  refine g_aload W141 d14_264 (pc' := 266) rfl rfl rfl ?_
  refine g_aloadN W141 d14_266 (pc' := 267) rfl rfl rfl ?_
  refine g_getf W141 (wd_111 hw) Via.refl H141 (i := 11) rfl (jx := 2) rfl d14_267 (pc' := 270) rfl ?_
  intro T142 W142 H142
  refine g_iload W142 d14_270 (pc' := 272) rfl rfl ?_
  refine g_ialoadI W142 H142 (i := 10) rfl (jx := 1) (by decide) (u := t1) rfl d14_272 (pc' := 273) rfl ?_
  refine g_dup2 W142 d14_273 (pc' := 274) rfl rfl rfl ?_
  refine g_ialoadI W142 H142 (i := 0) rfl (jx := j1) ht1 (u := ((nx1 (pf1 (pf1 (pf1 (pf1 (nf1 (nf1 (nf1 (nf1 (List.replicate 6 (0 : Int32)) j0) j1) j2) j3) 1) 2) 3) 4) j0).getD j1 0)) (getD_some (by simp only [nf1_len, pf1_len, nx1_len, oa1_len, List.length_replicate]; omega)) d14_274 (pc' := 275) rfl ?_
  refine g_dup_x2 W142 d14_275 (pc' := 276) rfl rfl rfl rfl ?_
  refine g_iconst W142 d14_276 (pc' := 277) rfl (v := (1 : Int32)) (by decide) ?_
  refine g_iadd W142 d14_277 (pc' := 278) rfl rfl ?_
  refine g_iastoreI W142 H142 (i := 0) rfl (jx := j1) ht1 (by simp only [nf1_len, pf1_len, nx1_len, oa1_len, List.length_replicate]; omega) d14_278 (pc' := 279) rfl (L' := ((b1, IaC Z (nx1 (nx1 (pf1 (pf1 (pf1 (pf1 (nf1 (nf1 (nf1 (nf1 (List.replicate 6 (0 : Int32)) j0) j1) j2) j3) 1) 2) 3) 4) j0) j1)) :: (a132, IaC Z (oa1 (List.replicate 4 (0 : Int32)) (pf1 (pf1 (pf1 (pf1 (nf1 (nf1 (nf1 (nf1 (List.replicate 6 (0 : Int32)) j0) j1) j2) j3) 1) 2) 3) 4) j0 0)) :: (a, ObC Z "java/util/ArrayList" (fs_ArrayList (.int mcL) (.ref el) (.int (4 : Int32)))) :: (el, RaC Z "java/lang/Object" lv) :: (a18, IaC Z (pf1 (pf1 (pf1 (pf1 (nf1 (nf1 (nf1 (nf1 (List.replicate 6 (0 : Int32)) j0) j1) j2) j3) 1) 2) 3) 4)) :: (a16, ArC Z .double [.double x4, .double x4, .double x4, .double x4]) :: (a14, ArC Z .double [.double x3, .double x3, .double x3, .double x3]) :: (a12, ArC Z .double [.double x2, .double x2, .double x2, .double x2]) :: (a10, ArC Z .double [.double x1, .double x1, .double x1, .double x1]) :: (a8, IaC Z ([g0, g1, g2, g3] : List Int32)) :: (a6, IaC Z ([t0, t1, t2, t3] : List Int32)) :: (nt, ObC Z "com/example/lanewright/lanewright/Network" (fs_Network (.int (4 : Int32)) (.int ft) (.ref a6) (.ref a8) (.ref a10) (.ref a12) (.ref a14) (.ref a16) (.ref a18) (.ref a132))) :: F)) rfl ?_
  intro T143 W143 H143
  refine g_iload W143 d14_279 (pc' := 281) rfl rfl ?_
  refine g_iastoreI W143 H143 (i := 1) rfl (jx := ((nx1 (pf1 (pf1 (pf1 (pf1 (nf1 (nf1 (nf1 (nf1 (List.replicate 6 (0 : Int32)) j0) j1) j2) j3) 1) 2) 3) 4) j0).getD j1 0).toInt.toNat) ((Int.toNat_of_nonneg z1.1).symm) (by simp only [nf1_len, pf1_len, nx1_len, oa1_len, List.length_replicate]; omega) d14_281 (pc' := 282) rfl (L' := ((b1, IaC Z (nx1 (nx1 (pf1 (pf1 (pf1 (pf1 (nf1 (nf1 (nf1 (nf1 (List.replicate 6 (0 : Int32)) j0) j1) j2) j3) 1) 2) 3) 4) j0) j1)) :: (a132, IaC Z (oa1 (oa1 (List.replicate 4 (0 : Int32)) (pf1 (pf1 (pf1 (pf1 (nf1 (nf1 (nf1 (nf1 (List.replicate 6 (0 : Int32)) j0) j1) j2) j3) 1) 2) 3) 4) j0 0) (nx1 (pf1 (pf1 (pf1 (pf1 (nf1 (nf1 (nf1 (nf1 (List.replicate 6 (0 : Int32)) j0) j1) j2) j3) 1) 2) 3) 4) j0) j1 1)) :: (a, ObC Z "java/util/ArrayList" (fs_ArrayList (.int mcL) (.ref el) (.int (4 : Int32)))) :: (el, RaC Z "java/lang/Object" lv) :: (a18, IaC Z (pf1 (pf1 (pf1 (pf1 (nf1 (nf1 (nf1 (nf1 (List.replicate 6 (0 : Int32)) j0) j1) j2) j3) 1) 2) 3) 4)) :: (a16, ArC Z .double [.double x4, .double x4, .double x4, .double x4]) :: (a14, ArC Z .double [.double x3, .double x3, .double x3, .double x3]) :: (a12, ArC Z .double [.double x2, .double x2, .double x2, .double x2]) :: (a10, ArC Z .double [.double x1, .double x1, .double x1, .double x1]) :: (a8, IaC Z ([g0, g1, g2, g3] : List Int32)) :: (a6, IaC Z ([t0, t1, t2, t3] : List Int32)) :: (nt, ObC Z "com/example/lanewright/lanewright/Network" (fs_Network (.int (4 : Int32)) (.int ft) (.ref a6) (.ref a8) (.ref a10) (.ref a12) (.ref a14) (.ref a16) (.ref a18) (.ref a132))) :: F)) rfl ?_
  intro T144 W144 H144
  refine g_iinc W144 d14_282 (pc' := 285) rfl rfl (v := (2 : Int32)) (by decide) (ls' := #[.val (.ref nt), .val (.int (4 : Int32)), .val (.int ft), .val (.ref a), .val (.int (4 : Int32)), .val (.ref b1), .val (.int (2 : Int32))]) rfl ?_
  refine g_goto W144 d14_285 (pc' := 253) (by decide) ?_
  refine g_iload W144 d14_253 (pc' := 255) rfl rfl ?_
  refine g_iload W144 d14_255 (pc' := 257) rfl rfl ?_
  refine g_icmp W144 d14_257 (pcy := 288) (by decide) (pc' := 260) rfl (fun (h : ¬ (2 : Int32) < (4 : Int32)) => absurd h (by decide)) (fun _ => ?_)
  refine g_aloadN W144 d14_260 (pc' := 261) rfl rfl rfl ?_
  refine g_getf W144 (wd_178 hw) Via.refl H144 (i := 11) rfl (jx := 9) rfl d14_261 (pc' := 264) rfl ?_
  intro T145 W145 H145
  refine g_aload W145 d14_264 (pc' := 266) rfl rfl rfl ?_
  refine g_aloadN W145 d14_266 (pc' := 267) rfl rfl rfl ?_
  refine g_getf W145 (wd_111 hw) Via.refl H145 (i := 11) rfl (jx := 2) rfl d14_267 (pc' := 270) rfl ?_
  intro T146 W146 H146
  refine g_iload W146 d14_270 (pc' := 272) rfl rfl ?_
  refine g_ialoadI W146 H146 (i := 10) rfl (jx := 2) (by decide) (u := t2) rfl d14_272 (pc' := 273) rfl ?_
  refine g_dup2 W146 d14_273 (pc' := 274) rfl rfl rfl ?_
  refine g_ialoadI W146 H146 (i := 0) rfl (jx := j2) ht2 (u := ((nx1 (nx1 (pf1 (pf1 (pf1 (pf1 (nf1 (nf1 (nf1 (nf1 (List.replicate 6 (0 : Int32)) j0) j1) j2) j3) 1) 2) 3) 4) j0) j1).getD j2 0)) (getD_some (by simp only [nf1_len, pf1_len, nx1_len, oa1_len, List.length_replicate]; omega)) d14_274 (pc' := 275) rfl ?_
  refine g_dup_x2 W146 d14_275 (pc' := 276) rfl rfl rfl rfl ?_
  refine g_iconst W146 d14_276 (pc' := 277) rfl (v := (1 : Int32)) (by decide) ?_
  refine g_iadd W146 d14_277 (pc' := 278) rfl rfl ?_
  refine g_iastoreI W146 H146 (i := 0) rfl (jx := j2) ht2 (by simp only [nf1_len, pf1_len, nx1_len, oa1_len, List.length_replicate]; omega) d14_278 (pc' := 279) rfl (L' := ((b1, IaC Z (nx1 (nx1 (nx1 (pf1 (pf1 (pf1 (pf1 (nf1 (nf1 (nf1 (nf1 (List.replicate 6 (0 : Int32)) j0) j1) j2) j3) 1) 2) 3) 4) j0) j1) j2)) :: (a132, IaC Z (oa1 (oa1 (List.replicate 4 (0 : Int32)) (pf1 (pf1 (pf1 (pf1 (nf1 (nf1 (nf1 (nf1 (List.replicate 6 (0 : Int32)) j0) j1) j2) j3) 1) 2) 3) 4) j0 0) (nx1 (pf1 (pf1 (pf1 (pf1 (nf1 (nf1 (nf1 (nf1 (List.replicate 6 (0 : Int32)) j0) j1) j2) j3) 1) 2) 3) 4) j0) j1 1)) :: (a, ObC Z "java/util/ArrayList" (fs_ArrayList (.int mcL) (.ref el) (.int (4 : Int32)))) :: (el, RaC Z "java/lang/Object" lv) :: (a18, IaC Z (pf1 (pf1 (pf1 (pf1 (nf1 (nf1 (nf1 (nf1 (List.replicate 6 (0 : Int32)) j0) j1) j2) j3) 1) 2) 3) 4)) :: (a16, ArC Z .double [.double x4, .double x4, .double x4, .double x4]) :: (a14, ArC Z .double [.double x3, .double x3, .double x3, .double x3]) :: (a12, ArC Z .double [.double x2, .double x2, .double x2, .double x2]) :: (a10, ArC Z .double [.double x1, .double x1, .double x1, .double x1]) :: (a8, IaC Z ([g0, g1, g2, g3] : List Int32)) :: (a6, IaC Z ([t0, t1, t2, t3] : List Int32)) :: (nt, ObC Z "com/example/lanewright/lanewright/Network" (fs_Network (.int (4 : Int32)) (.int ft) (.ref a6) (.ref a8) (.ref a10) (.ref a12) (.ref a14) (.ref a16) (.ref a18) (.ref a132))) :: F)) rfl ?_
  intro T147 W147 H147
  refine g_iload W147 d14_279 (pc' := 281) rfl rfl ?_
  refine g_iastoreI W147 H147 (i := 1) rfl (jx := ((nx1 (nx1 (pf1 (pf1 (pf1 (pf1 (nf1 (nf1 (nf1 (nf1 (List.replicate 6 (0 : Int32)) j0) j1) j2) j3) 1) 2) 3) 4) j0) j1).getD j2 0).toInt.toNat) ((Int.toNat_of_nonneg z2.1).symm) (by simp only [nf1_len, pf1_len, nx1_len, oa1_len, List.length_replicate]; omega) d14_281 (pc' := 282) rfl (L' := ((b1, IaC Z (nx1 (nx1 (nx1 (pf1 (pf1 (pf1 (pf1 (nf1 (nf1 (nf1 (nf1 (List.replicate 6 (0 : Int32)) j0) j1) j2) j3) 1) 2) 3) 4) j0) j1) j2)) :: (a132, IaC Z (oa1 (oa1 (oa1 (List.replicate 4 (0 : Int32)) (pf1 (pf1 (pf1 (pf1 (nf1 (nf1 (nf1 (nf1 (List.replicate 6 (0 : Int32)) j0) j1) j2) j3) 1) 2) 3) 4) j0 0) (nx1 (pf1 (pf1 (pf1 (pf1 (nf1 (nf1 (nf1 (nf1 (List.replicate 6 (0 : Int32)) j0) j1) j2) j3) 1) 2) 3) 4) j0) j1 1) (nx1 (nx1 (pf1 (pf1 (pf1 (pf1 (nf1 (nf1 (nf1 (nf1 (List.replicate 6 (0 : Int32)) j0) j1) j2) j3) 1) 2) 3) 4) j0) j1) j2 2)) :: (a, ObC Z "java/util/ArrayList" (fs_ArrayList (.int mcL) (.ref el) (.int (4 : Int32)))) :: (el, RaC Z "java/lang/Object" lv) :: (a18, IaC Z (pf1 (pf1 (pf1 (pf1 (nf1 (nf1 (nf1 (nf1 (List.replicate 6 (0 : Int32)) j0) j1) j2) j3) 1) 2) 3) 4)) :: (a16, ArC Z .double [.double x4, .double x4, .double x4, .double x4]) :: (a14, ArC Z .double [.double x3, .double x3, .double x3, .double x3]) :: (a12, ArC Z .double [.double x2, .double x2, .double x2, .double x2]) :: (a10, ArC Z .double [.double x1, .double x1, .double x1, .double x1]) :: (a8, IaC Z ([g0, g1, g2, g3] : List Int32)) :: (a6, IaC Z ([t0, t1, t2, t3] : List Int32)) :: (nt, ObC Z "com/example/lanewright/lanewright/Network" (fs_Network (.int (4 : Int32)) (.int ft) (.ref a6) (.ref a8) (.ref a10) (.ref a12) (.ref a14) (.ref a16) (.ref a18) (.ref a132))) :: F)) rfl ?_
  intro T148 W148 H148
  refine g_iinc W148 d14_282 (pc' := 285) rfl rfl (v := (3 : Int32)) (by decide) (ls' := #[.val (.ref nt), .val (.int (4 : Int32)), .val (.int ft), .val (.ref a), .val (.int (4 : Int32)), .val (.ref b1), .val (.int (3 : Int32))]) rfl ?_
  refine g_goto W148 d14_285 (pc' := 253) (by decide) ?_
  refine g_iload W148 d14_253 (pc' := 255) rfl rfl ?_
  refine g_iload W148 d14_255 (pc' := 257) rfl rfl ?_
  refine g_icmp W148 d14_257 (pcy := 288) (by decide) (pc' := 260) rfl (fun (h : ¬ (3 : Int32) < (4 : Int32)) => absurd h (by decide)) (fun _ => ?_)
  refine g_aloadN W148 d14_260 (pc' := 261) rfl rfl rfl ?_
  refine g_getf W148 (wd_178 hw) Via.refl H148 (i := 11) rfl (jx := 9) rfl d14_261 (pc' := 264) rfl ?_
  intro T149 W149 H149
  refine g_aload W149 d14_264 (pc' := 266) rfl rfl rfl ?_
  refine g_aloadN W149 d14_266 (pc' := 267) rfl rfl rfl ?_
  refine g_getf W149 (wd_111 hw) Via.refl H149 (i := 11) rfl (jx := 2) rfl d14_267 (pc' := 270) rfl ?_
  intro T150 W150 H150
  refine g_iload W150 d14_270 (pc' := 272) rfl rfl ?_
  refine g_ialoadI W150 H150 (i := 10) rfl (jx := 3) (by decide) (u := t3) rfl d14_272 (pc' := 273) rfl ?_
  refine g_dup2 W150 d14_273 (pc' := 274) rfl rfl rfl ?_
  refine g_ialoadI W150 H150 (i := 0) rfl (jx := j3) ht3 (u := ((nx1 (nx1 (nx1 (pf1 (pf1 (pf1 (pf1 (nf1 (nf1 (nf1 (nf1 (List.replicate 6 (0 : Int32)) j0) j1) j2) j3) 1) 2) 3) 4) j0) j1) j2).getD j3 0)) (getD_some (by simp only [nf1_len, pf1_len, nx1_len, oa1_len, List.length_replicate]; omega)) d14_274 (pc' := 275) rfl ?_
  refine g_dup_x2 W150 d14_275 (pc' := 276) rfl rfl rfl rfl ?_
  refine g_iconst W150 d14_276 (pc' := 277) rfl (v := (1 : Int32)) (by decide) ?_
  refine g_iadd W150 d14_277 (pc' := 278) rfl rfl ?_
  refine g_iastoreI W150 H150 (i := 0) rfl (jx := j3) ht3 (by simp only [nf1_len, pf1_len, nx1_len, oa1_len, List.length_replicate]; omega) d14_278 (pc' := 279) rfl (L' := ((b1, IaC Z (nx1 (nx1 (nx1 (nx1 (pf1 (pf1 (pf1 (pf1 (nf1 (nf1 (nf1 (nf1 (List.replicate 6 (0 : Int32)) j0) j1) j2) j3) 1) 2) 3) 4) j0) j1) j2) j3)) :: (a132, IaC Z (oa1 (oa1 (oa1 (List.replicate 4 (0 : Int32)) (pf1 (pf1 (pf1 (pf1 (nf1 (nf1 (nf1 (nf1 (List.replicate 6 (0 : Int32)) j0) j1) j2) j3) 1) 2) 3) 4) j0 0) (nx1 (pf1 (pf1 (pf1 (pf1 (nf1 (nf1 (nf1 (nf1 (List.replicate 6 (0 : Int32)) j0) j1) j2) j3) 1) 2) 3) 4) j0) j1 1) (nx1 (nx1 (pf1 (pf1 (pf1 (pf1 (nf1 (nf1 (nf1 (nf1 (List.replicate 6 (0 : Int32)) j0) j1) j2) j3) 1) 2) 3) 4) j0) j1) j2 2)) :: (a, ObC Z "java/util/ArrayList" (fs_ArrayList (.int mcL) (.ref el) (.int (4 : Int32)))) :: (el, RaC Z "java/lang/Object" lv) :: (a18, IaC Z (pf1 (pf1 (pf1 (pf1 (nf1 (nf1 (nf1 (nf1 (List.replicate 6 (0 : Int32)) j0) j1) j2) j3) 1) 2) 3) 4)) :: (a16, ArC Z .double [.double x4, .double x4, .double x4, .double x4]) :: (a14, ArC Z .double [.double x3, .double x3, .double x3, .double x3]) :: (a12, ArC Z .double [.double x2, .double x2, .double x2, .double x2]) :: (a10, ArC Z .double [.double x1, .double x1, .double x1, .double x1]) :: (a8, IaC Z ([g0, g1, g2, g3] : List Int32)) :: (a6, IaC Z ([t0, t1, t2, t3] : List Int32)) :: (nt, ObC Z "com/example/lanewright/lanewright/Network" (fs_Network (.int (4 : Int32)) (.int ft) (.ref a6) (.ref a8) (.ref a10) (.ref a12) (.ref a14) (.ref a16) (.ref a18) (.ref a132))) :: F)) rfl ?_
  intro T151 W151 H151
  refine g_iload W151 d14_279 (pc' := 281) rfl rfl ?_
  refine g_iastoreI W151 H151 (i := 1) rfl (jx := ((nx1 (nx1 (nx1 (pf1 (pf1 (pf1 (pf1 (nf1 (nf1 (nf1 (nf1 (List.replicate 6 (0 : Int32)) j0) j1) j2) j3) 1) 2) 3) 4) j0) j1) j2).getD j3 0).toInt.toNat) ((Int.toNat_of_nonneg z3.1).symm) (by simp only [nf1_len, pf1_len, nx1_len, oa1_len, List.length_replicate]; omega) d14_281 (pc' := 282) rfl (L' := ((b1, IaC Z (nx1 (nx1 (nx1 (nx1 (pf1 (pf1 (pf1 (pf1 (nf1 (nf1 (nf1 (nf1 (List.replicate 6 (0 : Int32)) j0) j1) j2) j3) 1) 2) 3) 4) j0) j1) j2) j3)) :: (a132, IaC Z (oa1 (oa1 (oa1 (oa1 (List.replicate 4 (0 : Int32)) (pf1 (pf1 (pf1 (pf1 (nf1 (nf1 (nf1 (nf1 (List.replicate 6 (0 : Int32)) j0) j1) j2) j3) 1) 2) 3) 4) j0 0) (nx1 (pf1 (pf1 (pf1 (pf1 (nf1 (nf1 (nf1 (nf1 (List.replicate 6 (0 : Int32)) j0) j1) j2) j3) 1) 2) 3) 4) j0) j1 1) (nx1 (nx1 (pf1 (pf1 (pf1 (pf1 (nf1 (nf1 (nf1 (nf1 (List.replicate 6 (0 : Int32)) j0) j1) j2) j3) 1) 2) 3) 4) j0) j1) j2 2) (nx1 (nx1 (nx1 (pf1 (pf1 (pf1 (pf1 (nf1 (nf1 (nf1 (nf1 (List.replicate 6 (0 : Int32)) j0) j1) j2) j3) 1) 2) 3) 4) j0) j1) j2) j3 3)) :: (a, ObC Z "java/util/ArrayList" (fs_ArrayList (.int mcL) (.ref el) (.int (4 : Int32)))) :: (el, RaC Z "java/lang/Object" lv) :: (a18, IaC Z (pf1 (pf1 (pf1 (pf1 (nf1 (nf1 (nf1 (nf1 (List.replicate 6 (0 : Int32)) j0) j1) j2) j3) 1) 2) 3) 4)) :: (a16, ArC Z .double [.double x4, .double x4, .double x4, .double x4]) :: (a14, ArC Z .double [.double x3, .double x3, .double x3, .double x3]) :: (a12, ArC Z .double [.double x2, .double x2, .double x2, .double x2]) :: (a10, ArC Z .double [.double x1, .double x1, .double x1, .double x1]) :: (a8, IaC Z ([g0, g1, g2, g3] : List Int32)) :: (a6, IaC Z ([t0, t1, t2, t3] : List Int32)) :: (nt, ObC Z "com/example/lanewright/lanewright/Network" (fs_Network (.int (4 : Int32)) (.int ft) (.ref a6) (.ref a8) (.ref a10) (.ref a12) (.ref a14) (.ref a16) (.ref a18) (.ref a132))) :: F)) rfl ?_
  intro T152 W152 H152
  refine g_iinc W152 d14_282 (pc' := 285) rfl rfl (v := (4 : Int32)) (by decide) (ls' := #[.val (.ref nt), .val (.int (4 : Int32)), .val (.int ft), .val (.ref a), .val (.int (4 : Int32)), .val (.ref b1), .val (.int (4 : Int32))]) rfl ?_
  refine g_goto W152 d14_285 (pc' := 253) (by decide) ?_
  refine g_iload W152 d14_253 (pc' := 255) rfl rfl ?_
  refine g_iload W152 d14_255 (pc' := 257) rfl rfl ?_
  refine g_icmp W152 d14_257 (pcy := 288) (by decide) (pc' := 260) rfl (fun _ => ?_) (fun (h : ¬ ¬ (4 : Int32) < (4 : Int32)) => absurd h (by decide))
  have H153f := Hp.fr1 H152
  have H154f := Hp.fr4 H153f
  have H155f := Hp.fr9 H154f
  have H156f := Hp.fr10 H155f
  have H157f := Hp.fr11 H156f
  exact g_return W152 d14_288 ⟨_, _, _, _, _, _, _, _, [(b1, IaC Z (nx1 (nx1 (nx1 (nx1 (pf1 (pf1 (pf1 (pf1 (nf1 (nf1 (nf1 (nf1 (List.replicate 6 (0 : Int32)) j0) j1) j2) j3) 1) 2) 3) 4) j0) j1) j2) j3)), (a, ObC Z "java/util/ArrayList" (fs_ArrayList (.int mcL) (.ref el) (.int (4 : Int32)))), (el, RaC Z "java/lang/Object" lv), (a16, ArC Z .double [.double x4, .double x4, .double x4, .double x4]), (a14, ArC Z .double [.double x3, .double x3, .double x3, .double x3]), (a12, ArC Z .double [.double x2, .double x2, .double x2, .double x2]), (a10, ArC Z .double [.double x1, .double x1, .double x1, .double x1])], rfl, H157f⟩ (by decide) (by decide)

theorem lt_inf {x : UInt64} (h : Jvm.FP.Core.DFin x) : FP.dcmp x (9218868437227405312 : UInt64) = some .lt ∧ FP.dcmp (9218868437227405312 : UInt64) x = some .gt := by
  have k : Jvm.FP.Core.dkey (9218868437227405312 : UInt64) = 9218868437227405312 := by decide +kernel
  have n : Jvm.FP.Core.val64 (9218868437227405312 : UInt64) ≠ .nan := by decide +kernel
  have b := (Jvm.FP.Core.fin_bits x).mp h
  refine ⟨?_, ?_⟩
  · rw [show FP.dcmp x (9218868437227405312 : UInt64) = _ from Jvm.FP.Core.dcmp_key h.ne_nan n]
    refine congrArg some ((Jvm.FP.Core.compare_lt_iff _ _).mpr ?_)
    rw [k]; unfold Jvm.FP.Core.dkey; split <;> omega
  · rw [show FP.dcmp (9218868437227405312 : UInt64) x = _ from Jvm.FP.Core.dcmp_key n h.ne_nan]
    refine congrArg some ((Jvm.FP.Core.compare_gt_iff _ _).mpr ?_)
    rw [k]; unfold Jvm.FP.Core.dkey; split <;> omega
/-- a distance as a number: 1000 is infinity -/
def DV (x : UInt64) (n : Nat) : Prop := (n = 1000 ∧ x = (9218868437227405312 : UInt64)) ∨ (n < 1000 ∧ Jvm.OwnKit.Dy (n : Int) 0 x)
theorem dv_cmp {x y : UInt64} {n k : Nat} (hx : DV x n) (hy : DV y k) : FP.dcmp x y = some (compare (n : Int) (k : Int)) := by
  rcases hx with ⟨rfl, rfl⟩ | ⟨h1, h2⟩
  · rcases hy with ⟨rfl, rfl⟩ | ⟨g1, g2⟩
    · decide +kernel
    · rw [(lt_inf g2.1).2]; exact congrArg some ((Jvm.FP.Core.compare_gt_iff _ _).mpr (by omega)).symm
  · rcases hy with ⟨rfl, rfl⟩ | ⟨g1, g2⟩
    · rw [(lt_inf h2.1).1]; exact congrArg some ((Jvm.FP.Core.compare_lt_iff _ _).mpr (by omega)).symm
    · exact dy_cmp h2 g2
theorem dv_lt {x y : UInt64} {n k : Nat} (hx : DV x n) (hy : DV y k) (o : CmpOp) : cmpValue (FP.dcmp x y) o < (0 : Int32) ↔ n < k := by
  rw [dv_cmp hx hy]
  rcases cv3 (n : Int) (k : Int) o with ⟨h, q⟩ | ⟨h, q⟩ | ⟨h, q⟩ <;> rw [q]
  · exact ⟨fun _ => by omega, fun _ => by decide⟩
  · exact ⟨fun z => absurd z (by decide), fun _ => by omega⟩
  · exact ⟨fun z => absurd z (by decide), fun _ => by omega⟩
theorem dv_gt {x y : UInt64} {n k : Nat} (hx : DV x n) (hy : DV y k) (o : CmpOp) : (0 : Int32) < cmpValue (FP.dcmp x y) o ↔ k < n := by
  rw [dv_cmp hx hy]
  rcases cv3 (n : Int) (k : Int) o with ⟨h, q⟩ | ⟨h, q⟩ | ⟨h, q⟩ <;> rw [q]
  · exact ⟨fun z => absurd z (by decide), fun _ => by omega⟩
  · exact ⟨fun z => absurd z (by decide), fun _ => by omega⟩
  · exact ⟨fun _ => by omega, fun _ => by decide⟩
def up {α : Type} (f : Nat → α) (v : Nat) (y : α) : Nat → α := fun w => if w = v then y else f w
theorem up_s {α : Type} {f : Nat → α} {v : Nat} {y : α} : up f v y v = y := if_pos rfl
theorem up_o {α : Type} {f : Nat → α} {v w : Nat} {y : α} (h : w ≠ v) : up f v y w = f w := if_neg h
def RI (l : List Int32) (f : Nat → Int) : Prop := l.length = 5 ∧ ∀ v, v < 5 → ∃ x, l[v]? = some x ∧ x.toInt = f v
def RN (l : List Int32) (f : Nat → Nat) : Prop := l.length = 5 ∧ ∀ v, v < 5 → ∃ x, l[v]? = some x ∧ x.toInt = (f v : Int)
def RD (l : List UInt64) (f : Nat → Nat) : Prop := l.length = 5 ∧ ∀ v, v < 5 → ∃ x, l[v]? = some x ∧ DV x (f v)
theorem RI.set {l : List Int32} {f : Nat → Int} {v : Nat} {x : Int32} {y : Int} (h : RI l f) (hv : v < 5) (hx : x.toInt = y) : RI (l.set v x) (up f v y) := by
  refine ⟨by rw [List.length_set]; exact h.1, fun w hw => ?_⟩
  by_cases q : w = v
  · subst q; exact ⟨x, List.getElem?_set_self (by rw [h.1]; exact hv), by rw [up_s]; exact hx⟩
  · obtain ⟨z, z1, z2⟩ := h.2 w hw
    exact ⟨z, (List.getElem?_set_ne (fun z => q z.symm)).trans z1, by rw [up_o q]; exact z2⟩
theorem RN.set {l : List Int32} {f : Nat → Nat} {v : Nat} {x : Int32} {y : Nat} (h : RN l f) (hv : v < 5) (hx : x.toInt = (y : Int)) : RN (l.set v x) (up f v y) := by
  refine ⟨by rw [List.length_set]; exact h.1, fun w hw => ?_⟩
  by_cases q : w = v
  · subst q; exact ⟨x, List.getElem?_set_self (by rw [h.1]; exact hv), by rw [up_s]; exact hx⟩
  · obtain ⟨z, z1, z2⟩ := h.2 w hw
    exact ⟨z, (List.getElem?_set_ne (fun z => q z.symm)).trans z1, by rw [up_o q]; exact z2⟩
theorem RD.set {l : List UInt64} {f : Nat → Nat} {v : Nat} {x : UInt64} {y : Nat} (h : RD l f) (hv : v < 5) (hx : DV x y) : RD (l.set v x) (up f v y) := by
  refine ⟨by rw [List.length_set]; exact h.1, fun w hw => ?_⟩
  by_cases q : w = v
  · subst q; exact ⟨x, List.getElem?_set_self (by rw [h.1]; exact hv), by rw [up_s]; exact hx⟩
  · obtain ⟨z, z1, z2⟩ := h.2 w hw
    exact ⟨z, (List.getElem?_set_ne (fun z => q z.symm)).trans z1, by rw [up_o q]; exact z2⟩

theorem c_su0 (l : Launch) (Z : State) (a0 : Array Value) (hw : ∀ d ∈ tables_1, d.before a0 Z = true) (n0 : Nat) (tr nt dsA prA hpA psA : Addr) (hz : Int32) (DL : List UInt64) (HL QL : List Int32) (D hh : Nat → Nat) (Q : Nat → Int) (rd : RD DL D) (rh : RN HL hh) (rq : RI QL Q) (b0 : hh 0 < 5) (bi : hh 0 < 5)  (h0 : Heap) (F : List HRow) (H00 : Hp Z n0 h0 ((tr, ObC Z "com/example/lanewright/lanewright/ShortestPathTree" (fs_ShortestPathTree (.ref nt) (.ref dsA) (.ref prA) (.ref hpA) (.ref psA) (.int hz))) :: (dsA, DaC Z DL) :: (hpA, IaC Z HL) :: (psA, IaC Z QL) :: F)) :
    Con l Z n0 ⟨"com/example/lanewright/lanewright/ShortestPathTree", "siftUp", "(I)V"⟩ [] prog_57_method_8_code 4 none ({ frames := 0, cells := 0, slots := 0, locals := 0 } : Room) #[.ref tr, .int (0 : Int32)] h0 (fun v h => ∃ (HL2 QL2 : List Int32) (h2 : Nat → Nat) (Q2 : Nat → Int), v = none ∧ RN HL2 h2 ∧ RI QL2 Q2 ∧ (h2 = up hh 0 (hh 0) ∧ Q2 = up Q (hh 0) 0) ∧ Hp Z n0 h ((tr, ObC Z "com/example/lanewright/lanewright/ShortestPathTree" (fs_ShortestPathTree (.ref nt) (.ref dsA) (.ref prA) (.ref hpA) (.ref psA) (.int hz))) :: (dsA, DaC Z DL) :: (hpA, IaC Z HL2) :: (psA, IaC Z QL2) :: F)) := by
  refine con_of (plainFor_of_name pn_ShortestPathTree) ?_
  intro p e s m below meth c T0 W0 e0
  subst e0
  have H0 := H00
  refine g_cast (ef_ri4 m tr (0 : Int32)) ?_
  obtain ⟨xi, xig, xih⟩ := rh.2 0 (by omega)
  refine g_aloadN W0 d32_0 (pc' := 1) rfl rfl rfl ?_
  refine g_getf W0 (wd_207 hw) Via.refl H0 (i := 0) rfl (jx := 3) rfl d32_1 (pc' := 4) rfl ?_
  intro T1 W1 H1
  refine g_iloadN W1 d32_4 (pc' := 5) rfl rfl ?_
  refine g_ialoadI W1 H1 (i := 2) rfl (jx := 0) (by decide) (u := xi) xig d32_5 (pc' := 6) rfl ?_
  refine g_istoreN W1 d32_6 (pc' := 7) rfl (ls' := #[.val (.ref tr), .val (.int (0 : Int32)), .val (.int xi), .unset]) rfl ?_
  refine g_iloadN W1 d32_7 (pc' := 8) rfl rfl ?_
  refine g_if W1 d32_8 (pcy := 70) (by decide) (pc' := 11) rfl (fun _ => ?_) (fun (h : ¬ ¬ (0 : Int32) < (0 : Int32)) => absurd h (by decide))
  refine g_aloadN W1 d32_70 (pc' := 71) rfl rfl rfl ?_
  refine g_getf W1 (wd_207 hw) Via.refl H1 (i := 0) rfl (jx := 3) rfl d32_71 (pc' := 74) rfl ?_
  intro T2 W2 H2
  refine g_iloadN W2 d32_74 (pc' := 75) rfl rfl ?_
  refine g_iloadN W2 d32_75 (pc' := 76) rfl rfl ?_
  refine g_iastoreI W2 H2 (i := 2) rfl (jx := 0) (by decide) (by rw [rh.1]; omega) d32_76 (pc' := 77) rfl (L' := ((tr, ObC Z "com/example/lanewright/lanewright/ShortestPathTree" (fs_ShortestPathTree (.ref nt) (.ref dsA) (.ref prA) (.ref hpA) (.ref psA) (.int hz))) :: (dsA, DaC Z DL) :: (hpA, IaC Z (HL.set 0 xi)) :: (psA, IaC Z QL) :: F)) rfl ?_
  intro T3 W3 H3
  refine g_aloadN W3 d32_77 (pc' := 78) rfl rfl rfl ?_
  refine g_getf W3 (wd_209 hw) Via.refl H3 (i := 0) rfl (jx := 4) rfl d32_78 (pc' := 81) rfl ?_
  intro T4 W4 H4
  refine g_iloadN W4 d32_81 (pc' := 82) rfl rfl ?_
  refine g_iloadN W4 d32_82 (pc' := 83) rfl rfl ?_
  refine g_iastoreI W4 H4 (i := 3) rfl (jx := (hh 0)) xih (by rw [rq.1]; omega) d32_83 (pc' := 84) rfl (L' := ((tr, ObC Z "com/example/lanewright/lanewright/ShortestPathTree" (fs_ShortestPathTree (.ref nt) (.ref dsA) (.ref prA) (.ref hpA) (.ref psA) (.int hz))) :: (dsA, DaC Z DL) :: (hpA, IaC Z (HL.set 0 xi)) :: (psA, IaC Z (QL.set (hh 0) (0 : Int32))) :: F)) rfl ?_
  intro T5 W5 H5
  exact g_return W5 d32_84 ⟨_, _, _, _, rfl, rh.set (by omega) xih, rq.set bi (y := 0) (by decide), ⟨rfl, rfl⟩, H5⟩ (by decide) (by decide)
theorem c_su1 (l : Launch) (Z : State) (a0 : Array Value) (hw : ∀ d ∈ tables_1, d.before a0 Z = true) (n0 : Nat) (tr nt dsA prA hpA psA : Addr) (hz : Int32) (DL : List UInt64) (HL QL : List Int32) (D hh : Nat → Nat) (Q : Nat → Int) (rd : RD DL D) (rh : RN HL hh) (rq : RI QL Q) (b0 : hh 0 < 5) (bi : hh 1 < 5)  (h0 : Heap) (F : List HRow) (H00 : Hp Z n0 h0 ((tr, ObC Z "com/example/lanewright/lanewright/ShortestPathTree" (fs_ShortestPathTree (.ref nt) (.ref dsA) (.ref prA) (.ref hpA) (.ref psA) (.int hz))) :: (dsA, DaC Z DL) :: (hpA, IaC Z HL) :: (psA, IaC Z QL) :: F)) :
    Con l Z n0 ⟨"com/example/lanewright/lanewright/ShortestPathTree", "siftUp", "(I)V"⟩ [] prog_57_method_8_code 4 none ({ frames := 0, cells := 0, slots := 0, locals := 0 } : Room) #[.ref tr, .int (1 : Int32)] h0 (fun v h => ∃ (HL2 QL2 : List Int32) (h2 : Nat → Nat) (Q2 : Nat → Int), v = none ∧ RN HL2 h2 ∧ RI QL2 Q2 ∧ ((D (hh 0) ≤ D (hh 1) ∧ h2 = up hh 1 (hh 1) ∧ Q2 = up Q (hh 1) 1) ∨ (D (hh 1) < D (hh 0) ∧ h2 = up (up hh 1 (hh 0)) 0 (hh 1) ∧ Q2 = up (up Q (hh 0) 1) (hh 1) 0)) ∧ Hp Z n0 h ((tr, ObC Z "com/example/lanewright/lanewright/ShortestPathTree" (fs_ShortestPathTree (.ref nt) (.ref dsA) (.ref prA) (.ref hpA) (.ref psA) (.int hz))) :: (dsA, DaC Z DL) :: (hpA, IaC Z HL2) :: (psA, IaC Z QL2) :: F)) := by
  refine con_of (plainFor_of_name pn_ShortestPathTree) ?_
  intro p e s m below meth c T0 W0 e0
  subst e0
  have H0 := H00
  refine g_cast (ef_ri4 m tr (1 : Int32)) ?_
  obtain ⟨xi, xig, xih⟩ := rh.2 1 (by omega)
  obtain ⟨x0, x0g, x0h⟩ := rh.2 0 (by omega)
  obtain ⟨di, dig, dih⟩ := rd.2 (hh 1) (by omega)
  obtain ⟨d0, d0g, d0h⟩ := rd.2 (hh 0) (by omega)
  refine g_aloadN W0 d32_0 (pc' := 1) rfl rfl rfl ?_
  refine g_getf W0 (wd_207 hw) Via.refl H0 (i := 0) rfl (jx := 3) rfl d32_1 (pc' := 4) rfl ?_
  intro T1 W1 H1
  refine g_iloadN W1 d32_4 (pc' := 5) rfl rfl ?_
  refine g_ialoadI W1 H1 (i := 2) rfl (jx := 1) (by decide) (u := xi) xig d32_5 (pc' := 6) rfl ?_
  refine g_istoreN W1 d32_6 (pc' := 7) rfl (ls' := #[.val (.ref tr), .val (.int (1 : Int32)), .val (.int xi), .unset]) rfl ?_
  refine g_iloadN W1 d32_7 (pc' := 8) rfl rfl ?_
  refine g_if W1 d32_8 (pcy := 70) (by decide) (pc' := 11) rfl (fun (h : ¬ (0 : Int32) < (1 : Int32)) => absurd h (by decide)) (fun _ => ?_)
  refine g_iloadN W1 d32_11 (pc' := 12) rfl rfl ?_
  refine g_iconst W1 d32_12 (pc' := 13) rfl (v := (1 : Int32)) (by decide) ?_
  refine g_isub W1 d32_13 (pc' := 14) rfl (v := (0 : Int32)) (by decide) ?_
  refine g_iconst W1 d32_14 (pc' := 15) rfl (v := (2 : Int32)) (by decide) ?_
  refine g_idiv W1 d32_15 (pc' := 16) rfl (by decide) (v := (0 : Int32)) (by decide) ?_
  refine g_istoreN W1 d32_16 (pc' := 17) rfl (ls' := #[.val (.ref tr), .val (.int (1 : Int32)), .val (.int xi), .val (.int (0 : Int32))]) rfl ?_
  refine g_aloadN W1 d32_17 (pc' := 18) rfl rfl rfl ?_
  refine g_getf W1 (wd_203 hw) Via.refl H1 (i := 0) rfl (jx := 1) rfl d32_18 (pc' := 21) rfl ?_
  intro T2 W2 H2
  refine g_aloadN W2 d32_21 (pc' := 22) rfl rfl rfl ?_
  refine g_getf W2 (wd_207 hw) Via.refl H2 (i := 0) rfl (jx := 3) rfl d32_22 (pc' := 25) rfl ?_
  intro T3 W3 H3
  refine g_iloadN W3 d32_25 (pc' := 26) rfl rfl ?_
  refine g_ialoadI W3 H3 (i := 2) rfl (jx := 0) (by decide) (u := x0) x0g d32_26 (pc' := 27) rfl ?_
  refine g_daloadD W3 H3 (i := 1) rfl (jx := (hh 0)) x0h (u := d0) d0g d32_27 (pc' := 28) rfl ?_
  refine g_aloadN W3 d32_28 (pc' := 29) rfl rfl rfl ?_
  refine g_getf W3 (wd_203 hw) Via.refl H3 (i := 0) rfl (jx := 1) rfl d32_29 (pc' := 32) rfl ?_
  intro T4 W4 H4
  refine g_iloadN W4 d32_32 (pc' := 33) rfl rfl ?_
  refine g_daloadD W4 H4 (i := 1) rfl (jx := (hh 1)) xih (u := di) dig d32_33 (pc' := 34) rfl ?_
  refine g_dcmp W4 d32_34 (pc' := 35) rfl rfl ?_
  refine g_if W4 d32_35 (pcy := 41) (by decide) (pc' := 38) rfl (fun (c5 : (0 : Int32) < (cmpValue (FP.dcmp d0 di) .g)) => ?_) (fun (c5 : ¬ (0 : Int32) < (cmpValue (FP.dcmp d0 di) .g)) => ?_)
  · refine g_aloadN W4 d32_41 (pc' := 42) rfl rfl rfl ?_
    refine g_getf W4 (wd_207 hw) Via.refl H4 (i := 0) rfl (jx := 3) rfl d32_42 (pc' := 45) rfl ?_
    intro T6 W6 H6
    refine g_iloadN W6 d32_45 (pc' := 46) rfl rfl ?_
    refine g_aloadN W6 d32_46 (pc' := 47) rfl rfl rfl ?_
    refine g_getf W6 (wd_207 hw) Via.refl H6 (i := 0) rfl (jx := 3) rfl d32_47 (pc' := 50) rfl ?_
    intro T7 W7 H7
    refine g_iloadN W7 d32_50 (pc' := 51) rfl rfl ?_
    refine g_ialoadI W7 H7 (i := 2) rfl (jx := 0) (by decide) (u := x0) x0g d32_51 (pc' := 52) rfl ?_
    refine g_iastoreI W7 H7 (i := 2) rfl (jx := 1) (by decide) (by rw [rh.1]; omega) d32_52 (pc' := 53) rfl (L' := ((tr, ObC Z "com/example/lanewright/lanewright/ShortestPathTree" (fs_ShortestPathTree (.ref nt) (.ref dsA) (.ref prA) (.ref hpA) (.ref psA) (.int hz))) :: (dsA, DaC Z DL) :: (hpA, IaC Z (HL.set 1 x0)) :: (psA, IaC Z QL) :: F)) rfl ?_
    intro T8 W8 H8
    refine g_aloadN W8 d32_53 (pc' := 54) rfl rfl rfl ?_
    refine g_getf W8 (wd_209 hw) Via.refl H8 (i := 0) rfl (jx := 4) rfl d32_54 (pc' := 57) rfl ?_
    intro T9 W9 H9
    refine g_aloadN W9 d32_57 (pc' := 58) rfl rfl rfl ?_
    refine g_getf W9 (wd_207 hw) Via.refl H9 (i := 0) rfl (jx := 3) rfl d32_58 (pc' := 61) rfl ?_
    intro T10 W10 H10
    refine g_iloadN W10 d32_61 (pc' := 62) rfl rfl ?_
    refine g_ialoadI W10 H10 (i := 2) rfl (jx := 1) (by decide) (u := x0) (List.getElem?_set_self (by rw [rh.1]; omega)) d32_62 (pc' := 63) rfl ?_
    refine g_iloadN W10 d32_63 (pc' := 64) rfl rfl ?_
    refine g_iastoreI W10 H10 (i := 3) rfl (jx := (hh 0)) x0h (by rw [rq.1]; omega) d32_64 (pc' := 65) rfl (L' := ((tr, ObC Z "com/example/lanewright/lanewright/ShortestPathTree" (fs_ShortestPathTree (.ref nt) (.ref dsA) (.ref prA) (.ref hpA) (.ref psA) (.int hz))) :: (dsA, DaC Z DL) :: (hpA, IaC Z (HL.set 1 x0)) :: (psA, IaC Z (QL.set (hh 0) (1 : Int32))) :: F)) rfl ?_
    intro T11 W11 H11
    refine g_iloadN W11 d32_65 (pc' := 66) rfl rfl ?_
    refine g_istoreN W11 d32_66 (pc' := 67) rfl (ls' := #[.val (.ref tr), .val (.int (0 : Int32)), .val (.int xi), .val (.int (0 : Int32))]) rfl ?_
    refine g_goto W11 d32_67 (pc' := 7) (by decide) ?_
    refine g_iloadN W11 d32_7 (pc' := 8) rfl rfl ?_
    refine g_if W11 d32_8 (pcy := 70) (by decide) (pc' := 11) rfl (fun _ => ?_) (fun (h : ¬ ¬ (0 : Int32) < (0 : Int32)) => absurd h (by decide))
    refine g_aloadN W11 d32_70 (pc' := 71) rfl rfl rfl ?_
    refine g_getf W11 (wd_207 hw) Via.refl H11 (i := 0) rfl (jx := 3) rfl d32_71 (pc' := 74) rfl ?_
    intro T12 W12 H12
    refine g_iloadN W12 d32_74 (pc' := 75) rfl rfl ?_
    refine g_iloadN W12 d32_75 (pc' := 76) rfl rfl ?_
    refine g_iastoreI W12 H12 (i := 2) rfl (jx := 0) (by decide) (by rw [List.length_set, rh.1]; omega) d32_76 (pc' := 77) rfl (L' := ((tr, ObC Z "com/example/lanewright/lanewright/ShortestPathTree" (fs_ShortestPathTree (.ref nt) (.ref dsA) (.ref prA) (.ref hpA) (.ref psA) (.int hz))) :: (dsA, DaC Z DL) :: (hpA, IaC Z ((HL.set 1 x0).set 0 xi)) :: (psA, IaC Z (QL.set (hh 0) (1 : Int32))) :: F)) rfl ?_
    intro T13 W13 H13
    refine g_aloadN W13 d32_77 (pc' := 78) rfl rfl rfl ?_
    refine g_getf W13 (wd_209 hw) Via.refl H13 (i := 0) rfl (jx := 4) rfl d32_78 (pc' := 81) rfl ?_
    intro T14 W14 H14
    refine g_iloadN W14 d32_81 (pc' := 82) rfl rfl ?_
    refine g_iloadN W14 d32_82 (pc' := 83) rfl rfl ?_
    refine g_iastoreI W14 H14 (i := 3) rfl (jx := (hh 1)) xih (by rw [List.length_set, rq.1]; omega) d32_83 (pc' := 84) rfl (L' := ((tr, ObC Z "com/example/lanewright/lanewright/ShortestPathTree" (fs_ShortestPathTree (.ref nt) (.ref dsA) (.ref prA) (.ref hpA) (.ref psA) (.int hz))) :: (dsA, DaC Z DL) :: (hpA, IaC Z ((HL.set 1 x0).set 0 xi)) :: (psA, IaC Z ((QL.set (hh 0) (1 : Int32)).set (hh 1) (0 : Int32))) :: F)) rfl ?_
    intro T15 W15 H15
    exact g_return W15 d32_84 ⟨_, _, _, _, rfl, (rh.set (v := 1) (by omega) x0h).set (v := 0) (by omega) xih, (rq.set b0 (y := 1) (by decide)).set bi (y := 0) (by decide), Or.inr ⟨(dv_gt d0h dih _).mp c5, rfl, rfl⟩, H15⟩ (by decide) (by decide)
  · refine g_goto W4 d32_38 (pc' := 70) (by decide) ?_
    refine g_aloadN W4 d32_70 (pc' := 71) rfl rfl rfl ?_
    refine g_getf W4 (wd_207 hw) Via.refl H4 (i := 0) rfl (jx := 3) rfl d32_71 (pc' := 74) rfl ?_
    intro T16 W16 H16
    refine g_iloadN W16 d32_74 (pc' := 75) rfl rfl ?_
    refine g_iloadN W16 d32_75 (pc' := 76) rfl rfl ?_
    refine g_iastoreI W16 H16 (i := 2) rfl (jx := 1) (by decide) (by rw [rh.1]; omega) d32_76 (pc' := 77) rfl (L' := ((tr, ObC Z "com/example/lanewright/lanewright/ShortestPathTree" (fs_ShortestPathTree (.ref nt) (.ref dsA) (.ref prA) (.ref hpA) (.ref psA) (.int hz))) :: (dsA, DaC Z DL) :: (hpA, IaC Z (HL.set 1 xi)) :: (psA, IaC Z QL) :: F)) rfl ?_
    intro T17 W17 H17
    refine g_aloadN W17 d32_77 (pc' := 78) rfl rfl rfl ?_
    refine g_getf W17 (wd_209 hw) Via.refl H17 (i := 0) rfl (jx := 4) rfl d32_78 (pc' := 81) rfl ?_
    intro T18 W18 H18
    refine g_iloadN W18 d32_81 (pc' := 82) rfl rfl ?_
    refine g_iloadN W18 d32_82 (pc' := 83) rfl rfl ?_
    refine g_iastoreI W18 H18 (i := 3) rfl (jx := (hh 1)) xih (by rw [rq.1]; omega) d32_83 (pc' := 84) rfl (L' := ((tr, ObC Z "com/example/lanewright/lanewright/ShortestPathTree" (fs_ShortestPathTree (.ref nt) (.ref dsA) (.ref prA) (.ref hpA) (.ref psA) (.int hz))) :: (dsA, DaC Z DL) :: (hpA, IaC Z (HL.set 1 xi)) :: (psA, IaC Z (QL.set (hh 1) (1 : Int32))) :: F)) rfl ?_
    intro T19 W19 H19
    exact g_return W19 d32_84 ⟨_, _, _, _, rfl, rh.set (by omega) xih, rq.set bi (y := 1) (by decide), Or.inl ⟨Nat.le_of_not_lt fun z => c5 ((dv_gt d0h dih _).mpr z), rfl, rfl⟩, H19⟩ (by decide) (by decide)
theorem c_su2 (l : Launch) (Z : State) (a0 : Array Value) (hw : ∀ d ∈ tables_1, d.before a0 Z = true) (n0 : Nat) (tr nt dsA prA hpA psA : Addr) (hz : Int32) (DL : List UInt64) (HL QL : List Int32) (D hh : Nat → Nat) (Q : Nat → Int) (rd : RD DL D) (rh : RN HL hh) (rq : RI QL Q) (b0 : hh 0 < 5) (bi : hh 2 < 5)  (h0 : Heap) (F : List HRow) (H00 : Hp Z n0 h0 ((tr, ObC Z "com/example/lanewright/lanewright/ShortestPathTree" (fs_ShortestPathTree (.ref nt) (.ref dsA) (.ref prA) (.ref hpA) (.ref psA) (.int hz))) :: (dsA, DaC Z DL) :: (hpA, IaC Z HL) :: (psA, IaC Z QL) :: F)) :
    Con l Z n0 ⟨"com/example/lanewright/lanewright/ShortestPathTree", "siftUp", "(I)V"⟩ [] prog_57_method_8_code 4 none ({ frames := 0, cells := 0, slots := 0, locals := 0 } : Room) #[.ref tr, .int (2 : Int32)] h0 (fun v h => ∃ (HL2 QL2 : List Int32) (h2 : Nat → Nat) (Q2 : Nat → Int), v = none ∧ RN HL2 h2 ∧ RI QL2 Q2 ∧ ((D (hh 0) ≤ D (hh 2) ∧ h2 = up hh 2 (hh 2) ∧ Q2 = up Q (hh 2) 2) ∨ (D (hh 2) < D (hh 0) ∧ h2 = up (up hh 2 (hh 0)) 0 (hh 2) ∧ Q2 = up (up Q (hh 0) 2) (hh 2) 0)) ∧ Hp Z n0 h ((tr, ObC Z "com/example/lanewright/lanewright/ShortestPathTree" (fs_ShortestPathTree (.ref nt) (.ref dsA) (.ref prA) (.ref hpA) (.ref psA) (.int hz))) :: (dsA, DaC Z DL) :: (hpA, IaC Z HL2) :: (psA, IaC Z QL2) :: F)) := by
  refine con_of (plainFor_of_name pn_ShortestPathTree) ?_
  intro p e s m below meth c T0 W0 e0
  subst e0
  have H0 := H00
  refine g_cast (ef_ri4 m tr (2 : Int32)) ?_
  obtain ⟨xi, xig, xih⟩ := rh.2 2 (by omega)
  obtain ⟨x0, x0g, x0h⟩ := rh.2 0 (by omega)
  obtain ⟨di, dig, dih⟩ := rd.2 (hh 2) (by omega)
  obtain ⟨d0, d0g, d0h⟩ := rd.2 (hh 0) (by omega)
  refine g_aloadN W0 d32_0 (pc' := 1) rfl rfl rfl ?_
  refine g_getf W0 (wd_207 hw) Via.refl H0 (i := 0) rfl (jx := 3) rfl d32_1 (pc' := 4) rfl ?_
  intro T1 W1 H1
  refine g_iloadN W1 d32_4 (pc' := 5) rfl rfl ?_
  refine g_ialoadI W1 H1 (i := 2) rfl (jx := 2) (by decide) (u := xi) xig d32_5 (pc' := 6) rfl ?_
  refine g_istoreN W1 d32_6 (pc' := 7) rfl (ls' := #[.val (.ref tr), .val (.int (2 : Int32)), .val (.int xi), .unset]) rfl ?_
  refine g_iloadN W1 d32_7 (pc' := 8) rfl rfl ?_
  refine g_if W1 d32_8 (pcy := 70) (by decide) (pc' := 11) rfl (fun (h : ¬ (0 : Int32) < (2 : Int32)) => absurd h (by decide)) (fun _ => ?_)
  refine g_iloadN W1 d32_11 (pc' := 12) rfl rfl ?_
  refine g_iconst W1 d32_12 (pc' := 13) rfl (v := (1 : Int32)) (by decide) ?_
  refine g_isub W1 d32_13 (pc' := 14) rfl (v := (1 : Int32)) (by decide) ?_
  refine g_iconst W1 d32_14 (pc' := 15) rfl (v := (2 : Int32)) (by decide) ?_
  refine g_idiv W1 d32_15 (pc' := 16) rfl (by decide) (v := (0 : Int32)) (by decide) ?_
  refine g_istoreN W1 d32_16 (pc' := 17) rfl (ls' := #[.val (.ref tr), .val (.int (2 : Int32)), .val (.int xi), .val (.int (0 : Int32))]) rfl ?_
  refine g_aloadN W1 d32_17 (pc' := 18) rfl rfl rfl ?_
  refine g_getf W1 (wd_203 hw) Via.refl H1 (i := 0) rfl (jx := 1) rfl d32_18 (pc' := 21) rfl ?_
  intro T2 W2 H2
  refine g_aloadN W2 d32_21 (pc' := 22) rfl rfl rfl ?_
  refine g_getf W2 (wd_207 hw) Via.refl H2 (i := 0) rfl (jx := 3) rfl d32_22 (pc' := 25) rfl ?_
  intro T3 W3 H3
  refine g_iloadN W3 d32_25 (pc' := 26) rfl rfl ?_
  refine g_ialoadI W3 H3 (i := 2) rfl (jx := 0) (by decide) (u := x0) x0g d32_26 (pc' := 27) rfl ?_
  refine g_daloadD W3 H3 (i := 1) rfl (jx := (hh 0)) x0h (u := d0) d0g d32_27 (pc' := 28) rfl ?_
  refine g_aloadN W3 d32_28 (pc' := 29) rfl rfl rfl ?_
  refine g_getf W3 (wd_203 hw) Via.refl H3 (i := 0) rfl (jx := 1) rfl d32_29 (pc' := 32) rfl ?_
  intro T4 W4 H4
  refine g_iloadN W4 d32_32 (pc' := 33) rfl rfl ?_
  refine g_daloadD W4 H4 (i := 1) rfl (jx := (hh 2)) xih (u := di) dig d32_33 (pc' := 34) rfl ?_
  refine g_dcmp W4 d32_34 (pc' := 35) rfl rfl ?_
  refine g_if W4 d32_35 (pcy := 41) (by decide) (pc' := 38) rfl (fun (c5 : (0 : Int32) < (cmpValue (FP.dcmp d0 di) .g)) => ?_) (fun (c5 : ¬ (0 : Int32) < (cmpValue (FP.dcmp d0 di) .g)) => ?_)
  · refine g_aloadN W4 d32_41 (pc' := 42) rfl rfl rfl ?_
    refine g_getf W4 (wd_207 hw) Via.refl H4 (i := 0) rfl (jx := 3) rfl d32_42 (pc' := 45) rfl ?_
    intro T6 W6 H6
    refine g_iloadN W6 d32_45 (pc' := 46) rfl rfl ?_
    refine g_aloadN W6 d32_46 (pc' := 47) rfl rfl rfl ?_
    refine g_getf W6 (wd_207 hw) Via.refl H6 (i := 0) rfl (jx := 3) rfl d32_47 (pc' := 50) rfl ?_
    intro T7 W7 H7
    refine g_iloadN W7 d32_50 (pc' := 51) rfl rfl ?_
    refine g_ialoadI W7 H7 (i := 2) rfl (jx := 0) (by decide) (u := x0) x0g d32_51 (pc' := 52) rfl ?_
    refine g_iastoreI W7 H7 (i := 2) rfl (jx := 2) (by decide) (by rw [rh.1]; omega) d32_52 (pc' := 53) rfl (L' := ((tr, ObC Z "com/example/lanewright/lanewright/ShortestPathTree" (fs_ShortestPathTree (.ref nt) (.ref dsA) (.ref prA) (.ref hpA) (.ref psA) (.int hz))) :: (dsA, DaC Z DL) :: (hpA, IaC Z (HL.set 2 x0)) :: (psA, IaC Z QL) :: F)) rfl ?_
    intro T8 W8 H8
    refine g_aloadN W8 d32_53 (pc' := 54) rfl rfl rfl ?_
    refine g_getf W8 (wd_209 hw) Via.refl H8 (i := 0) rfl (jx := 4) rfl d32_54 (pc' := 57) rfl ?_
    intro T9 W9 H9
    refine g_aloadN W9 d32_57 (pc' := 58) rfl rfl rfl ?_
    refine g_getf W9 (wd_207 hw) Via.refl H9 (i := 0) rfl (jx := 3) rfl d32_58 (pc' := 61) rfl ?_
    intro T10 W10 H10
    refine g_iloadN W10 d32_61 (pc' := 62) rfl rfl ?_
    refine g_ialoadI W10 H10 (i := 2) rfl (jx := 2) (by decide) (u := x0) (List.getElem?_set_self (by rw [rh.1]; omega)) d32_62 (pc' := 63) rfl ?_
    refine g_iloadN W10 d32_63 (pc' := 64) rfl rfl ?_
    refine g_iastoreI W10 H10 (i := 3) rfl (jx := (hh 0)) x0h (by rw [rq.1]; omega) d32_64 (pc' := 65) rfl (L' := ((tr, ObC Z "com/example/lanewright/lanewright/ShortestPathTree" (fs_ShortestPathTree (.ref nt) (.ref dsA) (.ref prA) (.ref hpA) (.ref psA) (.int hz))) :: (dsA, DaC Z DL) :: (hpA, IaC Z (HL.set 2 x0)) :: (psA, IaC Z (QL.set (hh 0) (2 : Int32))) :: F)) rfl ?_
    intro T11 W11 H11
    refine g_iloadN W11 d32_65 (pc' := 66) rfl rfl ?_
    refine g_istoreN W11 d32_66 (pc' := 67) rfl (ls' := #[.val (.ref tr), .val (.int (0 : Int32)), .val (.int xi), .val (.int (0 : Int32))]) rfl ?_
    refine g_goto W11 d32_67 (pc' := 7) (by decide) ?_
    refine g_iloadN W11 d32_7 (pc' := 8) rfl rfl ?_
    refine g_if W11 d32_8 (pcy := 70) (by decide) (pc' := 11) rfl (fun _ => ?_) (fun (h : ¬ ¬ (0 : Int32) < (0 : Int32)) => absurd h (by decide))
    refine g_aloadN W11 d32_70 (pc' := 71) rfl rfl rfl ?_
    refine g_getf W11 (wd_207 hw) Via.refl H11 (i := 0) rfl (jx := 3) rfl d32_71 (pc' := 74) rfl ?_
    intro T12 W12 H12
    refine g_iloadN W12 d32_74 (pc' := 75) rfl rfl ?_
    refine g_iloadN W12 d32_75 (pc' := 76) rfl rfl ?_
    refine g_iastoreI W12 H12 (i := 2) rfl (jx := 0) (by decide) (by rw [List.length_set, rh.1]; omega) d32_76 (pc' := 77) rfl (L' := ((tr, ObC Z "com/example/lanewright/lanewright/ShortestPathTree" (fs_ShortestPathTree (.ref nt) (.ref dsA) (.ref prA) (.ref hpA) (.ref psA) (.int hz))) :: (dsA, DaC Z DL) :: (hpA, IaC Z ((HL.set 2 x0).set 0 xi)) :: (psA, IaC Z (QL.set (hh 0) (2 : Int32))) :: F)) rfl ?_
    intro T13 W13 H13
    refine g_aloadN W13 d32_77 (pc' := 78) rfl rfl rfl ?_
    refine g_getf W13 (wd_209 hw) Via.refl H13 (i := 0) rfl (jx := 4) rfl d32_78 (pc' := 81) rfl ?_
    intro T14 W14 H14
    refine g_iloadN W14 d32_81 (pc' := 82) rfl rfl ?_
    refine g_iloadN W14 d32_82 (pc' := 83) rfl rfl ?_
    refine g_iastoreI W14 H14 (i := 3) rfl (jx := (hh 2)) xih (by rw [List.length_set, rq.1]; omega) d32_83 (pc' := 84) rfl (L' := ((tr, ObC Z "com/example/lanewright/lanewright/ShortestPathTree" (fs_ShortestPathTree (.ref nt) (.ref dsA) (.ref prA) (.ref hpA) (.ref psA) (.int hz))) :: (dsA, DaC Z DL) :: (hpA, IaC Z ((HL.set 2 x0).set 0 xi)) :: (psA, IaC Z ((QL.set (hh 0) (2 : Int32)).set (hh 2) (0 : Int32))) :: F)) rfl ?_
    intro T15 W15 H15
    exact g_return W15 d32_84 ⟨_, _, _, _, rfl, (rh.set (v := 2) (by omega) x0h).set (v := 0) (by omega) xih, (rq.set b0 (y := 2) (by decide)).set bi (y := 0) (by decide), Or.inr ⟨(dv_gt d0h dih _).mp c5, rfl, rfl⟩, H15⟩ (by decide) (by decide)
  · refine g_goto W4 d32_38 (pc' := 70) (by decide) ?_
    refine g_aloadN W4 d32_70 (pc' := 71) rfl rfl rfl ?_
    refine g_getf W4 (wd_207 hw) Via.refl H4 (i := 0) rfl (jx := 3) rfl d32_71 (pc' := 74) rfl ?_
    intro T16 W16 H16
    refine g_iloadN W16 d32_74 (pc' := 75) rfl rfl ?_
    refine g_iloadN W16 d32_75 (pc' := 76) rfl rfl ?_
    refine g_iastoreI W16 H16 (i := 2) rfl (jx := 2) (by decide) (by rw [rh.1]; omega) d32_76 (pc' := 77) rfl (L' := ((tr, ObC Z "com/example/lanewright/lanewright/ShortestPathTree" (fs_ShortestPathTree (.ref nt) (.ref dsA) (.ref prA) (.ref hpA) (.ref psA) (.int hz))) :: (dsA, DaC Z DL) :: (hpA, IaC Z (HL.set 2 xi)) :: (psA, IaC Z QL) :: F)) rfl ?_
    intro T17 W17 H17
    refine g_aloadN W17 d32_77 (pc' := 78) rfl rfl rfl ?_
    refine g_getf W17 (wd_209 hw) Via.refl H17 (i := 0) rfl (jx := 4) rfl d32_78 (pc' := 81) rfl ?_
    intro T18 W18 H18
    refine g_iloadN W18 d32_81 (pc' := 82) rfl rfl ?_
    refine g_iloadN W18 d32_82 (pc' := 83) rfl rfl ?_
    refine g_iastoreI W18 H18 (i := 3) rfl (jx := (hh 2)) xih (by rw [rq.1]; omega) d32_83 (pc' := 84) rfl (L' := ((tr, ObC Z "com/example/lanewright/lanewright/ShortestPathTree" (fs_ShortestPathTree (.ref nt) (.ref dsA) (.ref prA) (.ref hpA) (.ref psA) (.int hz))) :: (dsA, DaC Z DL) :: (hpA, IaC Z (HL.set 2 xi)) :: (psA, IaC Z (QL.set (hh 2) (2 : Int32))) :: F)) rfl ?_
    intro T19 W19 H19
    exact g_return W19 d32_84 ⟨_, _, _, _, rfl, rh.set (by omega) xih, rq.set bi (y := 2) (by decide), Or.inl ⟨Nat.le_of_not_lt fun z => c5 ((dv_gt d0h dih _).mpr z), rfl, rfl⟩, H19⟩ (by decide) (by decide)
theorem c_sd1 (l : Launch) (Z : State) (a0 : Array Value) (hw : ∀ d ∈ tables_1, d.before a0 Z = true) (n0 : Nat) (tr nt dsA prA hpA psA : Addr) (DL : List UInt64) (HL QL : List Int32) (D hh : Nat → Nat) (Q : Nat → Int) (rd : RD DL D) (rh : RN HL hh) (rq : RI QL Q) (b0 : hh 0 < 5)  (h0 : Heap) (F : List HRow) (H00 : Hp Z n0 h0 ((tr, ObC Z "com/example/lanewright/lanewright/ShortestPathTree" (fs_ShortestPathTree (.ref nt) (.ref dsA) (.ref prA) (.ref hpA) (.ref psA) (.int (1 : Int32)))) :: (dsA, DaC Z DL) :: (hpA, IaC Z HL) :: (psA, IaC Z QL) :: F)) :
    Con l Z n0 ⟨"com/example/lanewright/lanewright/ShortestPathTree", "siftDown", "(I)V"⟩ [] prog_57_method_9_code 4 none ({ frames := 0, cells := 0, slots := 0, locals := 0 } : Room) #[.ref tr, .int (0 : Int32)] h0 (fun v h => ∃ (HL2 QL2 : List Int32) (h2 : Nat → Nat) (Q2 : Nat → Int), v = none ∧ RN HL2 h2 ∧ RI QL2 Q2 ∧ (h2 = up hh 0 (hh 0) ∧ Q2 = up Q (hh 0) 0) ∧ Hp Z n0 h ((tr, ObC Z "com/example/lanewright/lanewright/ShortestPathTree" (fs_ShortestPathTree (.ref nt) (.ref dsA) (.ref prA) (.ref hpA) (.ref psA) (.int (1 : Int32)))) :: (dsA, DaC Z DL) :: (hpA, IaC Z HL2) :: (psA, IaC Z QL2) :: F)) := by
  refine con_of (plainFor_of_name pn_ShortestPathTree) ?_
  intro p e s m below meth c T0 W0 e0
  subst e0
  have H0 := H00
  refine g_cast (ef_ri4 m tr (0 : Int32)) ?_
  obtain ⟨x0, x0g, x0h⟩ := rh.2 0 (by omega)
  refine g_aloadN W0 d42_0 (pc' := 1) rfl rfl rfl ?_
  refine g_getf W0 (wd_207 hw) Via.refl H0 (i := 0) rfl (jx := 3) rfl d42_1 (pc' := 4) rfl ?_
  intro T1 W1 H1
  refine g_iloadN W1 d42_4 (pc' := 5) rfl rfl ?_
  refine g_ialoadI W1 H1 (i := 2) rfl (jx := 0) (by decide) (u := x0) x0g d42_5 (pc' := 6) rfl ?_
  refine g_istoreN W1 d42_6 (pc' := 7) rfl (ls' := #[.val (.ref tr), .val (.int (0 : Int32)), .val (.int x0), .unset]) rfl ?_
  refine g_iconst W1 d42_7 (pc' := 8) rfl (v := (2 : Int32)) (by decide) ?_
  refine g_iloadN W1 d42_8 (pc' := 9) rfl rfl ?_
  refine g_imul W1 d42_9 (pc' := 10) rfl (v := (0 : Int32)) (by decide) ?_
  refine g_iconst W1 d42_10 (pc' := 11) rfl (v := (1 : Int32)) (by decide) ?_
  refine g_iadd W1 d42_11 (pc' := 12) rfl (v := (1 : Int32)) (by decide) ?_
  refine g_istoreN W1 d42_12 (pc' := 13) rfl (ls' := #[.val (.ref tr), .val (.int (0 : Int32)), .val (.int x0), .val (.int (1 : Int32))]) rfl ?_
  refine g_iloadN W1 d42_13 (pc' := 14) rfl rfl ?_
  refine g_aloadN W1 d42_14 (pc' := 15) rfl rfl rfl ?_
  refine g_getf W1 (wd_224 hw) Via.refl H1 (i := 0) rfl (jx := 5) rfl d42_15 (pc' := 18) rfl ?_
  intro T2 W2 H2
  refine g_icmp W2 d42_18 (pcy := 24) (by decide) (pc' := 21) rfl (fun (h : (1 : Int32) < (1 : Int32)) => absurd h (by decide)) (fun _ => ?_)
  refine g_goto W2 d42_21 (pc' := 118) (by decide) ?_
  refine g_aloadN W2 d42_118 (pc' := 119) rfl rfl rfl ?_
  refine g_getf W2 (wd_207 hw) Via.refl H2 (i := 0) rfl (jx := 3) rfl d42_119 (pc' := 122) rfl ?_
  intro T3 W3 H3
  refine g_iloadN W3 d42_122 (pc' := 123) rfl rfl ?_
  refine g_iloadN W3 d42_123 (pc' := 124) rfl rfl ?_
  refine g_iastoreI W3 H3 (i := 2) rfl (jx := 0) (by decide) (by rw [rh.1]; omega) d42_124 (pc' := 125) rfl (L' := ((tr, ObC Z "com/example/lanewright/lanewright/ShortestPathTree" (fs_ShortestPathTree (.ref nt) (.ref dsA) (.ref prA) (.ref hpA) (.ref psA) (.int (1 : Int32)))) :: (dsA, DaC Z DL) :: (hpA, IaC Z (HL.set 0 x0)) :: (psA, IaC Z QL) :: F)) rfl ?_
  intro T4 W4 H4
  refine g_aloadN W4 d42_125 (pc' := 126) rfl rfl rfl ?_
  refine g_getf W4 (wd_209 hw) Via.refl H4 (i := 0) rfl (jx := 4) rfl d42_126 (pc' := 129) rfl ?_
  intro T5 W5 H5
  refine g_iloadN W5 d42_129 (pc' := 130) rfl rfl ?_
  refine g_iloadN W5 d42_130 (pc' := 131) rfl rfl ?_
  refine g_iastoreI W5 H5 (i := 3) rfl (jx := (hh 0)) x0h (by rw [rq.1]; omega) d42_131 (pc' := 132) rfl (L' := ((tr, ObC Z "com/example/lanewright/lanewright/ShortestPathTree" (fs_ShortestPathTree (.ref nt) (.ref dsA) (.ref prA) (.ref hpA) (.ref psA) (.int (1 : Int32)))) :: (dsA, DaC Z DL) :: (hpA, IaC Z (HL.set 0 x0)) :: (psA, IaC Z (QL.set (hh 0) (0 : Int32))) :: F)) rfl ?_
  intro T6 W6 H6
  exact g_return W6 d42_132 ⟨_, _, _, _, rfl, rh.set (by omega) x0h, rq.set b0 (y := 0) (by decide), ⟨rfl, rfl⟩, H6⟩ (by decide) (by decide)
theorem c_sd2 (l : Launch) (Z : State) (a0 : Array Value) (hw : ∀ d ∈ tables_1, d.before a0 Z = true) (n0 : Nat) (tr nt dsA prA hpA psA : Addr) (DL : List UInt64) (HL QL : List Int32) (D hh : Nat → Nat) (Q : Nat → Int) (rd : RD DL D) (rh : RN HL hh) (rq : RI QL Q) (b0 : hh 0 < 5) (b1 : hh 1 < 5)  (h0 : Heap) (F : List HRow) (H00 : Hp Z n0 h0 ((tr, ObC Z "com/example/lanewright/lanewright/ShortestPathTree" (fs_ShortestPathTree (.ref nt) (.ref dsA) (.ref prA) (.ref hpA) (.ref psA) (.int (2 : Int32)))) :: (dsA, DaC Z DL) :: (hpA, IaC Z HL) :: (psA, IaC Z QL) :: F)) :
    Con l Z n0 ⟨"com/example/lanewright/lanewright/ShortestPathTree", "siftDown", "(I)V"⟩ [] prog_57_method_9_code 4 none ({ frames := 0, cells := 0, slots := 0, locals := 0 } : Room) #[.ref tr, .int (0 : Int32)] h0 (fun v h => ∃ (HL2 QL2 : List Int32) (h2 : Nat → Nat) (Q2 : Nat → Int), v = none ∧ RN HL2 h2 ∧ RI QL2 Q2 ∧ ((D (hh 0) ≤ D (hh 1) ∧ h2 = up hh 0 (hh 0) ∧ Q2 = up Q (hh 0) 0) ∨ (D (hh 1) < D (hh 0) ∧ h2 = up (up hh 0 (hh 1)) 1 (hh 0) ∧ Q2 = up (up Q (hh 1) 0) (hh 0) 1)) ∧ Hp Z n0 h ((tr, ObC Z "com/example/lanewright/lanewright/ShortestPathTree" (fs_ShortestPathTree (.ref nt) (.ref dsA) (.ref prA) (.ref hpA) (.ref psA) (.int (2 : Int32)))) :: (dsA, DaC Z DL) :: (hpA, IaC Z HL2) :: (psA, IaC Z QL2) :: F)) := by
  refine con_of (plainFor_of_name pn_ShortestPathTree) ?_
  intro p e s m below meth c T0 W0 e0
  subst e0
  have H0 := H00
  refine g_cast (ef_ri4 m tr (0 : Int32)) ?_
  obtain ⟨x0, x0g, x0h⟩ := rh.2 0 (by omega)
  obtain ⟨x1, x1g, x1h⟩ := rh.2 1 (by omega)
  obtain ⟨d0, d0g, d0h⟩ := rd.2 (hh 0) (by omega)
  obtain ⟨d1, d1g, d1h⟩ := rd.2 (hh 1) (by omega)
  refine g_aloadN W0 d42_0 (pc' := 1) rfl rfl rfl ?_
  refine g_getf W0 (wd_207 hw) Via.refl H0 (i := 0) rfl (jx := 3) rfl d42_1 (pc' := 4) rfl ?_
  intro T1 W1 H1
  refine g_iloadN W1 d42_4 (pc' := 5) rfl rfl ?_
  refine g_ialoadI W1 H1 (i := 2) rfl (jx := 0) (by decide) (u := x0) x0g d42_5 (pc' := 6) rfl ?_
  refine g_istoreN W1 d42_6 (pc' := 7) rfl (ls' := #[.val (.ref tr), .val (.int (0 : Int32)), .val (.int x0), .unset]) rfl ?_
  refine g_iconst W1 d42_7 (pc' := 8) rfl (v := (2 : Int32)) (by decide) ?_
  refine g_iloadN W1 d42_8 (pc' := 9) rfl rfl ?_
  refine g_imul W1 d42_9 (pc' := 10) rfl (v := (0 : Int32)) (by decide) ?_
  refine g_iconst W1 d42_10 (pc' := 11) rfl (v := (1 : Int32)) (by decide) ?_
  refine g_iadd W1 d42_11 (pc' := 12) rfl (v := (1 : Int32)) (by decide) ?_
  refine g_istoreN W1 d42_12 (pc' := 13) rfl (ls' := #[.val (.ref tr), .val (.int (0 : Int32)), .val (.int x0), .val (.int (1 : Int32))]) rfl ?_
  refine g_iloadN W1 d42_13 (pc' := 14) rfl rfl ?_
  refine g_aloadN W1 d42_14 (pc' := 15) rfl rfl rfl ?_
  refine g_getf W1 (wd_224 hw) Via.refl H1 (i := 0) rfl (jx := 5) rfl d42_15 (pc' := 18) rfl ?_
  intro T2 W2 H2
  refine g_icmp W2 d42_18 (pcy := 24) (by decide) (pc' := 21) rfl (fun _ => ?_) (fun (h : ¬ (1 : Int32) < (2 : Int32)) => absurd h (by decide))
  refine g_iloadN W2 d42_24 (pc' := 25) rfl rfl ?_
  refine g_iconst W2 d42_25 (pc' := 26) rfl (v := (1 : Int32)) (by decide) ?_
  refine g_iadd W2 d42_26 (pc' := 27) rfl (v := (2 : Int32)) (by decide) ?_
  refine g_aloadN W2 d42_27 (pc' := 28) rfl rfl rfl ?_
  refine g_getf W2 (wd_224 hw) Via.refl H2 (i := 0) rfl (jx := 5) rfl d42_28 (pc' := 31) rfl ?_
  intro T3 W3 H3
  refine g_icmp W3 d42_31 (pcy := 65) (by decide) (pc' := 34) rfl (fun _ => ?_) (fun (h : ¬ ¬ (2 : Int32) < (2 : Int32)) => absurd h (by decide))
  refine g_aloadN W3 d42_65 (pc' := 66) rfl rfl rfl ?_
  refine g_getf W3 (wd_203 hw) Via.refl H3 (i := 0) rfl (jx := 1) rfl d42_66 (pc' := 69) rfl ?_
  intro T4 W4 H4
  refine g_iloadN W4 d42_69 (pc' := 70) rfl rfl ?_
  refine g_daloadD W4 H4 (i := 1) rfl (jx := (hh 0)) x0h (u := d0) d0g d42_70 (pc' := 71) rfl ?_
  refine g_aloadN W4 d42_71 (pc' := 72) rfl rfl rfl ?_
  refine g_getf W4 (wd_203 hw) Via.refl H4 (i := 0) rfl (jx := 1) rfl d42_72 (pc' := 75) rfl ?_
  intro T5 W5 H5
  refine g_aloadN W5 d42_75 (pc' := 76) rfl rfl rfl ?_
  refine g_getf W5 (wd_207 hw) Via.refl H5 (i := 0) rfl (jx := 3) rfl d42_76 (pc' := 79) rfl ?_
  intro T6 W6 H6
  refine g_iloadN W6 d42_79 (pc' := 80) rfl rfl ?_
  refine g_ialoadI W6 H6 (i := 2) rfl (jx := 1) (by decide) (u := x1) x1g d42_80 (pc' := 81) rfl ?_
  refine g_daloadD W6 H6 (i := 1) rfl (jx := (hh 1)) x1h (u := d1) d1g d42_81 (pc' := 82) rfl ?_
  refine g_dcmp W6 d42_82 (pc' := 83) rfl rfl ?_
  refine g_if W6 d42_83 (pcy := 89) (by decide) (pc' := 86) rfl (fun (c7 : (0 : Int32) < (cmpValue (FP.dcmp d0 d1) .g)) => ?_) (fun (c7 : ¬ (0 : Int32) < (cmpValue (FP.dcmp d0 d1) .g)) => ?_)
  · refine g_aloadN W6 d42_89 (pc' := 90) rfl rfl rfl ?_
    refine g_getf W6 (wd_207 hw) Via.refl H6 (i := 0) rfl (jx := 3) rfl d42_90 (pc' := 93) rfl ?_
    intro T8 W8 H8
    refine g_iloadN W8 d42_93 (pc' := 94) rfl rfl ?_
    refine g_aloadN W8 d42_94 (pc' := 95) rfl rfl rfl ?_
    refine g_getf W8 (wd_207 hw) Via.refl H8 (i := 0) rfl (jx := 3) rfl d42_95 (pc' := 98) rfl ?_
    intro T9 W9 H9
    refine g_iloadN W9 d42_98 (pc' := 99) rfl rfl ?_
    refine g_ialoadI W9 H9 (i := 2) rfl (jx := 1) (by decide) (u := x1) x1g d42_99 (pc' := 100) rfl ?_
    refine g_iastoreI W9 H9 (i := 2) rfl (jx := 0) (by decide) (by rw [rh.1]; omega) d42_100 (pc' := 101) rfl (L' := ((tr, ObC Z "com/example/lanewright/lanewright/ShortestPathTree" (fs_ShortestPathTree (.ref nt) (.ref dsA) (.ref prA) (.ref hpA) (.ref psA) (.int (2 : Int32)))) :: (dsA, DaC Z DL) :: (hpA, IaC Z (HL.set 0 x1)) :: (psA, IaC Z QL) :: F)) rfl ?_
    intro T10 W10 H10
    refine g_aloadN W10 d42_101 (pc' := 102) rfl rfl rfl ?_
    refine g_getf W10 (wd_209 hw) Via.refl H10 (i := 0) rfl (jx := 4) rfl d42_102 (pc' := 105) rfl ?_
    intro T11 W11 H11
    refine g_aloadN W11 d42_105 (pc' := 106) rfl rfl rfl ?_
    refine g_getf W11 (wd_207 hw) Via.refl H11 (i := 0) rfl (jx := 3) rfl d42_106 (pc' := 109) rfl ?_
    intro T12 W12 H12
    refine g_iloadN W12 d42_109 (pc' := 110) rfl rfl ?_
    refine g_ialoadI W12 H12 (i := 2) rfl (jx := 0) (by decide) (u := x1) (List.getElem?_set_self (by rw [rh.1]; omega)) d42_110 (pc' := 111) rfl ?_
    refine g_iloadN W12 d42_111 (pc' := 112) rfl rfl ?_
    refine g_iastoreI W12 H12 (i := 3) rfl (jx := (hh 1)) x1h (by rw [rq.1]; omega) d42_112 (pc' := 113) rfl (L' := ((tr, ObC Z "com/example/lanewright/lanewright/ShortestPathTree" (fs_ShortestPathTree (.ref nt) (.ref dsA) (.ref prA) (.ref hpA) (.ref psA) (.int (2 : Int32)))) :: (dsA, DaC Z DL) :: (hpA, IaC Z (HL.set 0 x1)) :: (psA, IaC Z (QL.set (hh 1) (0 : Int32))) :: F)) rfl ?_
    intro T13 W13 H13
    refine g_iloadN W13 d42_113 (pc' := 114) rfl rfl ?_
    refine g_istoreN W13 d42_114 (pc' := 115) rfl (ls' := #[.val (.ref tr), .val (.int (1 : Int32)), .val (.int x0), .val (.int (1 : Int32))]) rfl ?_
    refine g_goto W13 d42_115 (pc' := 7) (by decide) ?_
    refine g_iconst W13 d42_7 (pc' := 8) rfl (v := (2 : Int32)) (by decide) ?_
    refine g_iloadN W13 d42_8 (pc' := 9) rfl rfl ?_
    refine g_imul W13 d42_9 (pc' := 10) rfl (v := (2 : Int32)) (by decide) ?_
    refine g_iconst W13 d42_10 (pc' := 11) rfl (v := (1 : Int32)) (by decide) ?_
    refine g_iadd W13 d42_11 (pc' := 12) rfl (v := (3 : Int32)) (by decide) ?_
    refine g_istoreN W13 d42_12 (pc' := 13) rfl (ls' := #[.val (.ref tr), .val (.int (1 : Int32)), .val (.int x0), .val (.int (3 : Int32))]) rfl ?_
    refine g_iloadN W13 d42_13 (pc' := 14) rfl rfl ?_
    refine g_aloadN W13 d42_14 (pc' := 15) rfl rfl rfl ?_
    refine g_getf W13 (wd_224 hw) Via.refl H13 (i := 0) rfl (jx := 5) rfl d42_15 (pc' := 18) rfl ?_
    intro T14 W14 H14
    refine g_icmp W14 d42_18 (pcy := 24) (by decide) (pc' := 21) rfl (fun (h : (3 : Int32) < (2 : Int32)) => absurd h (by decide)) (fun _ => ?_)
    refine g_goto W14 d42_21 (pc' := 118) (by decide) ?_
    refine g_aloadN W14 d42_118 (pc' := 119) rfl rfl rfl ?_
    refine g_getf W14 (wd_207 hw) Via.refl H14 (i := 0) rfl (jx := 3) rfl d42_119 (pc' := 122) rfl ?_
    intro T15 W15 H15
    refine g_iloadN W15 d42_122 (pc' := 123) rfl rfl ?_
    refine g_iloadN W15 d42_123 (pc' := 124) rfl rfl ?_
    refine g_iastoreI W15 H15 (i := 2) rfl (jx := 1) (by decide) (by rw [List.length_set, rh.1]; omega) d42_124 (pc' := 125) rfl (L' := ((tr, ObC Z "com/example/lanewright/lanewright/ShortestPathTree" (fs_ShortestPathTree (.ref nt) (.ref dsA) (.ref prA) (.ref hpA) (.ref psA) (.int (2 : Int32)))) :: (dsA, DaC Z DL) :: (hpA, IaC Z ((HL.set 0 x1).set 1 x0)) :: (psA, IaC Z (QL.set (hh 1) (0 : Int32))) :: F)) rfl ?_
    intro T16 W16 H16
    refine g_aloadN W16 d42_125 (pc' := 126) rfl rfl rfl ?_
    refine g_getf W16 (wd_209 hw) Via.refl H16 (i := 0) rfl (jx := 4) rfl d42_126 (pc' := 129) rfl ?_
    intro T17 W17 H17
    refine g_iloadN W17 d42_129 (pc' := 130) rfl rfl ?_
    refine g_iloadN W17 d42_130 (pc' := 131) rfl rfl ?_
    refine g_iastoreI W17 H17 (i := 3) rfl (jx := (hh 0)) x0h (by rw [List.length_set, rq.1]; omega) d42_131 (pc' := 132) rfl (L' := ((tr, ObC Z "com/example/lanewright/lanewright/ShortestPathTree" (fs_ShortestPathTree (.ref nt) (.ref dsA) (.ref prA) (.ref hpA) (.ref psA) (.int (2 : Int32)))) :: (dsA, DaC Z DL) :: (hpA, IaC Z ((HL.set 0 x1).set 1 x0)) :: (psA, IaC Z ((QL.set (hh 1) (0 : Int32)).set (hh 0) (1 : Int32))) :: F)) rfl ?_
    intro T18 W18 H18
    exact g_return W18 d42_132 ⟨_, _, _, _, rfl, (rh.set (v := 0) (by omega) x1h).set (v := 1) (by omega) x0h, (rq.set b1 (y := 0) (by decide)).set b0 (y := 1) (by decide), Or.inr ⟨(dv_gt d0h d1h _).mp c7, rfl, rfl⟩, H18⟩ (by decide) (by decide)
  · refine g_goto W6 d42_86 (pc' := 118) (by decide) ?_
    refine g_aloadN W6 d42_118 (pc' := 119) rfl rfl rfl ?_
    refine g_getf W6 (wd_207 hw) Via.refl H6 (i := 0) rfl (jx := 3) rfl d42_119 (pc' := 122) rfl ?_
    intro T19 W19 H19
    refine g_iloadN W19 d42_122 (pc' := 123) rfl rfl ?_
    refine g_iloadN W19 d42_123 (pc' := 124) rfl rfl ?_
    refine g_iastoreI W19 H19 (i := 2) rfl (jx := 0) (by decide) (by rw [rh.1]; omega) d42_124 (pc' := 125) rfl (L' := ((tr, ObC Z "com/example/lanewright/lanewright/ShortestPathTree" (fs_ShortestPathTree (.ref nt) (.ref dsA) (.ref prA) (.ref hpA) (.ref psA) (.int (2 : Int32)))) :: (dsA, DaC Z DL) :: (hpA, IaC Z (HL.set 0 x0)) :: (psA, IaC Z QL) :: F)) rfl ?_
    intro T20 W20 H20
    refine g_aloadN W20 d42_125 (pc' := 126) rfl rfl rfl ?_
    refine g_getf W20 (wd_209 hw) Via.refl H20 (i := 0) rfl (jx := 4) rfl d42_126 (pc' := 129) rfl ?_
    intro T21 W21 H21
    refine g_iloadN W21 d42_129 (pc' := 130) rfl rfl ?_
    refine g_iloadN W21 d42_130 (pc' := 131) rfl rfl ?_
    refine g_iastoreI W21 H21 (i := 3) rfl (jx := (hh 0)) x0h (by rw [rq.1]; omega) d42_131 (pc' := 132) rfl (L' := ((tr, ObC Z "com/example/lanewright/lanewright/ShortestPathTree" (fs_ShortestPathTree (.ref nt) (.ref dsA) (.ref prA) (.ref hpA) (.ref psA) (.int (2 : Int32)))) :: (dsA, DaC Z DL) :: (hpA, IaC Z (HL.set 0 x0)) :: (psA, IaC Z (QL.set (hh 0) (0 : Int32))) :: F)) rfl ?_
    intro T22 W22 H22
    exact g_return W22 d42_132 ⟨_, _, _, _, rfl, rh.set (by omega) x0h, rq.set b0 (y := 0) (by decide), Or.inl ⟨Nat.le_of_not_lt fun z => c7 ((dv_gt d0h d1h _).mpr z), rfl, rfl⟩, H22⟩ (by decide) (by decide)
theorem c_push0 (l : Launch) (Z : State) (a0 : Array Value) (hw : ∀ d ∈ tables_1, d.before a0 Z = true) (n0 : Nat) (tr nt dsA prA hpA psA : Addr) (DL : List UInt64) (HL QL : List Int32) (D hh : Nat → Nat) (Q : Nat → Int) (rd : RD DL D) (rh : RN HL hh) (rq : RI QL Q) (nd : Int32) (i0 : Nat) (hnd : nd.toInt = (i0 : Int)) (bn : i0 < 5)  (h0 : Heap) (F : List HRow) (H00 : Hp Z n0 h0 ((tr, ObC Z "com/example/lanewright/lanewright/ShortestPathTree" (fs_ShortestPathTree (.ref nt) (.ref dsA) (.ref prA) (.ref hpA) (.ref psA) (.int (0 : Int32)))) :: (dsA, DaC Z DL) :: (hpA, IaC Z HL) :: (psA, IaC Z QL) :: F)) :
    Con l Z n0 ⟨"com/example/lanewright/lanewright/ShortestPathTree", "push", "(I)V"⟩ [] prog_57_method_6_code 2 none ({ frames := 1, cells := 0, slots := 0, locals := 15 } : Room) #[.ref tr, .int nd] h0 (fun v h => ∃ (HL2 QL2 : List Int32) (h2 : Nat → Nat) (Q2 : Nat → Int), v = none ∧ RN HL2 h2 ∧ RI QL2 Q2 ∧ (h2 = up (up hh 0 i0) 0 ((up hh 0 i0) 0) ∧ Q2 = up (up Q i0 0) ((up hh 0 i0) 0) 0) ∧ Hp Z n0 h ((tr, ObC Z "com/example/lanewright/lanewright/ShortestPathTree" (fs_ShortestPathTree (.ref nt) (.ref dsA) (.ref prA) (.ref hpA) (.ref psA) (.int (1 : Int32)))) :: (dsA, DaC Z DL) :: (hpA, IaC Z HL2) :: (psA, IaC Z QL2) :: F)) := by
  refine con_of (plainFor_of_name pn_ShortestPathTree) ?_
  intro p e s m below meth c T0 W0 e0
  subst e0
  have H0 := H00
  refine g_cast (ef_ri2 m tr nd) ?_
  refine g_aloadN W0 d31_0 (pc' := 1) rfl rfl rfl ?_
  refine g_getf W0 (wd_207 hw) Via.refl H0 (i := 0) rfl (jx := 3) rfl d31_1 (pc' := 4) rfl ?_
  intro T1 W1 H1
  refine g_aloadN W1 d31_4 (pc' := 5) rfl rfl rfl ?_
  refine g_getf W1 (wd_224 hw) Via.refl H1 (i := 0) rfl (jx := 5) rfl d31_5 (pc' := 8) rfl ?_
  intro T2 W2 H2
  refine g_iloadN W2 d31_8 (pc' := 9) rfl rfl ?_
  refine g_iastoreI W2 H2 (i := 2) rfl (jx := 0) (by decide) (by rw [rh.1]; omega) d31_9 (pc' := 10) rfl (L' := ((tr, ObC Z "com/example/lanewright/lanewright/ShortestPathTree" (fs_ShortestPathTree (.ref nt) (.ref dsA) (.ref prA) (.ref hpA) (.ref psA) (.int (0 : Int32)))) :: (dsA, DaC Z DL) :: (hpA, IaC Z (HL.set 0 nd)) :: (psA, IaC Z QL) :: F)) rfl ?_
  intro T3 W3 H3
  refine g_aloadN W3 d31_10 (pc' := 11) rfl rfl rfl ?_
  refine g_getf W3 (wd_209 hw) Via.refl H3 (i := 0) rfl (jx := 4) rfl d31_11 (pc' := 14) rfl ?_
  intro T4 W4 H4
  refine g_iloadN W4 d31_14 (pc' := 15) rfl rfl ?_
  refine g_aloadN W4 d31_15 (pc' := 16) rfl rfl rfl ?_
  refine g_getf W4 (wd_224 hw) Via.refl H4 (i := 0) rfl (jx := 5) rfl d31_16 (pc' := 19) rfl ?_
  intro T5 W5 H5
  refine g_iastoreI W5 H5 (i := 3) rfl (jx := i0) hnd (by rw [rq.1]; omega) d31_19 (pc' := 20) rfl (L' := ((tr, ObC Z "com/example/lanewright/lanewright/ShortestPathTree" (fs_ShortestPathTree (.ref nt) (.ref dsA) (.ref prA) (.ref hpA) (.ref psA) (.int (0 : Int32)))) :: (dsA, DaC Z DL) :: (hpA, IaC Z (HL.set 0 nd)) :: (psA, IaC Z (QL.set i0 (0 : Int32))) :: F)) rfl ?_
  intro T6 W6 H6
  refine g_aloadN W6 d31_20 (pc' := 21) rfl rfl rfl ?_
  refine g_dup W6 d31_21 (pc' := 22) rfl rfl ?_
  refine g_getf W6 (wd_224 hw) Via.refl H6 (i := 0) rfl (jx := 5) rfl d31_22 (pc' := 25) rfl ?_
  intro T7 W7 H7
  refine g_iconst W7 d31_25 (pc' := 26) rfl (v := (1 : Int32)) (by decide) ?_
  refine g_iadd W7 d31_26 (pc' := 27) rfl (v := (1 : Int32)) (by decide) ?_
  refine g_putf W7 (wd_224 hw) Via.refl (Or.inl (wd_225 hw)) (wd_190 hw) (ty := .int) (by decide) rfl rfl H7 (i := 0) rfl (jx := 5) rfl d31_27 (pc' := 30) rfl (L' := ((tr, ObC Z "com/example/lanewright/lanewright/ShortestPathTree" (fs_ShortestPathTree (.ref nt) (.ref dsA) (.ref prA) (.ref hpA) (.ref psA) (.int (1 : Int32)))) :: (dsA, DaC Z DL) :: (hpA, IaC Z (HL.set 0 nd)) :: (psA, IaC Z (QL.set i0 (0 : Int32))) :: F)) rfl ?_
  intro T8 W8 H8
  refine g_aloadN W8 d31_30 (pc' := 31) rfl rfl rfl ?_
  refine g_aloadN W8 d31_31 (pc' := 32) rfl rfl rfl ?_
  refine g_getf W8 (wd_224 hw) Via.refl H8 (i := 0) rfl (jx := 5) rfl d31_32 (pc' := 35) rfl ?_
  intro T9 W9 H9
  refine g_iconst W9 d31_35 (pc' := 36) rfl (v := (1 : Int32)) (by decide) ?_
  refine g_isub W9 d31_36 (pc' := 37) rfl (v := (0 : Int32)) (by decide) ?_
  refine g_callP W9 (argsL := [.int (0 : Int32)]) (st := []) (wd_230 hw) (wd_231 hw) (wd_232 hw) (wd_190 hw) (wd_191 hw) (wd_233 hw) (by decide) (a := tr) H9 (i := 0) rfl (c_su0 l Z a0 hw n0 tr nt dsA prA hpA psA (1 : Int32) DL _ _ D (up hh 0 i0) (up Q i0 0) rd (rh.set (by omega) hnd) (rq.set bn (by decide)) (by rw [up_s]; exact bn) (by rw [up_s]; exact bn) _ _ H9) pd_9 rfl rfl rfl d31_37 (pc' := 40) rfl (by decide) (Wn := 0) (Nat.le_of_eq rfl) (by decide) (kc' := 0) (ks' := 0) rfl rfl (by decide) (by decide) ?_
  intro T10 v10 W10 hp10
  obtain ⟨HL2, QL2, h2, Q2, rfl, r1, r2, r3, H10⟩ := hp10
  show Goes _ _ _ _ (State.setTop _ (mkF _ _ _ []))
  exact g_return W10 d31_40 ⟨HL2, QL2, h2, Q2, rfl, r1, r2, r3, H10⟩ (by decide) (by decide)
theorem c_push1 (l : Launch) (Z : State) (a0 : Array Value) (hw : ∀ d ∈ tables_1, d.before a0 Z = true) (n0 : Nat) (tr nt dsA prA hpA psA : Addr) (DL : List UInt64) (HL QL : List Int32) (D hh : Nat → Nat) (Q : Nat → Int) (rd : RD DL D) (rh : RN HL hh) (rq : RI QL Q) (nd : Int32) (i0 : Nat) (hnd : nd.toInt = (i0 : Int)) (bn : i0 < 5) (b0 : hh 0 < 5)  (h0 : Heap) (F : List HRow) (H00 : Hp Z n0 h0 ((tr, ObC Z "com/example/lanewright/lanewright/ShortestPathTree" (fs_ShortestPathTree (.ref nt) (.ref dsA) (.ref prA) (.ref hpA) (.ref psA) (.int (1 : Int32)))) :: (dsA, DaC Z DL) :: (hpA, IaC Z HL) :: (psA, IaC Z QL) :: F)) :
    Con l Z n0 ⟨"com/example/lanewright/lanewright/ShortestPathTree", "push", "(I)V"⟩ [] prog_57_method_6_code 2 none ({ frames := 1, cells := 0, slots := 0, locals := 15 } : Room) #[.ref tr, .int nd] h0 (fun v h => ∃ (HL2 QL2 : List Int32) (h2 : Nat → Nat) (Q2 : Nat → Int), v = none ∧ RN HL2 h2 ∧ RI QL2 Q2 ∧ ((D ((up hh 1 i0) 0) ≤ D ((up hh 1 i0) 1) ∧ h2 = up (up hh 1 i0) 1 ((up hh 1 i0) 1) ∧ Q2 = up (up Q i0 1) ((up hh 1 i0) 1) 1) ∨ (D ((up hh 1 i0) 1) < D ((up hh 1 i0) 0) ∧ h2 = up (up (up hh 1 i0) 1 ((up hh 1 i0) 0)) 0 ((up hh 1 i0) 1) ∧ Q2 = up (up (up Q i0 1) ((up hh 1 i0) 0) 1) ((up hh 1 i0) 1) 0)) ∧ Hp Z n0 h ((tr, ObC Z "com/example/lanewright/lanewright/ShortestPathTree" (fs_ShortestPathTree (.ref nt) (.ref dsA) (.ref prA) (.ref hpA) (.ref psA) (.int (2 : Int32)))) :: (dsA, DaC Z DL) :: (hpA, IaC Z HL2) :: (psA, IaC Z QL2) :: F)) := by
  refine con_of (plainFor_of_name pn_ShortestPathTree) ?_
  intro p e s m below meth c T0 W0 e0
  subst e0
  have H0 := H00
  refine g_cast (ef_ri2 m tr nd) ?_
  refine g_aloadN W0 d31_0 (pc' := 1) rfl rfl rfl ?_
  refine g_getf W0 (wd_207 hw) Via.refl H0 (i := 0) rfl (jx := 3) rfl d31_1 (pc' := 4) rfl ?_
  intro T1 W1 H1
  refine g_aloadN W1 d31_4 (pc' := 5) rfl rfl rfl ?_
  refine g_getf W1 (wd_224 hw) Via.refl H1 (i := 0) rfl (jx := 5) rfl d31_5 (pc' := 8) rfl ?_
  intro T2 W2 H2
  refine g_iloadN W2 d31_8 (pc' := 9) rfl rfl ?_
  refine g_iastoreI W2 H2 (i := 2) rfl (jx := 1) (by decide) (by rw [rh.1]; omega) d31_9 (pc' := 10) rfl (L' := ((tr, ObC Z "com/example/lanewright/lanewright/ShortestPathTree" (fs_ShortestPathTree (.ref nt) (.ref dsA) (.ref prA) (.ref hpA) (.ref psA) (.int (1 : Int32)))) :: (dsA, DaC Z DL) :: (hpA, IaC Z (HL.set 1 nd)) :: (psA, IaC Z QL) :: F)) rfl ?_
  intro T3 W3 H3
  refine g_aloadN W3 d31_10 (pc' := 11) rfl rfl rfl ?_
  refine g_getf W3 (wd_209 hw) Via.refl H3 (i := 0) rfl (jx := 4) rfl d31_11 (pc' := 14) rfl ?_
  intro T4 W4 H4
  refine g_iloadN W4 d31_14 (pc' := 15) rfl rfl ?_
  refine g_aloadN W4 d31_15 (pc' := 16) rfl rfl rfl ?_
  refine g_getf W4 (wd_224 hw) Via.refl H4 (i := 0) rfl (jx := 5) rfl d31_16 (pc' := 19) rfl ?_
  intro T5 W5 H5
  refine g_iastoreI W5 H5 (i := 3) rfl (jx := i0) hnd (by rw [rq.1]; omega) d31_19 (pc' := 20) rfl (L' := ((tr, ObC Z "com/example/lanewright/lanewright/ShortestPathTree" (fs_ShortestPathTree (.ref nt) (.ref dsA) (.ref prA) (.ref hpA) (.ref psA) (.int (1 : Int32)))) :: (dsA, DaC Z DL) :: (hpA, IaC Z (HL.set 1 nd)) :: (psA, IaC Z (QL.set i0 (1 : Int32))) :: F)) rfl ?_
  intro T6 W6 H6
  refine g_aloadN W6 d31_20 (pc' := 21) rfl rfl rfl ?_
  refine g_dup W6 d31_21 (pc' := 22) rfl rfl ?_
  refine g_getf W6 (wd_224 hw) Via.refl H6 (i := 0) rfl (jx := 5) rfl d31_22 (pc' := 25) rfl ?_
  intro T7 W7 H7
  refine g_iconst W7 d31_25 (pc' := 26) rfl (v := (1 : Int32)) (by decide) ?_
  refine g_iadd W7 d31_26 (pc' := 27) rfl (v := (2 : Int32)) (by decide) ?_
  refine g_putf W7 (wd_224 hw) Via.refl (Or.inl (wd_225 hw)) (wd_190 hw) (ty := .int) (by decide) rfl rfl H7 (i := 0) rfl (jx := 5) rfl d31_27 (pc' := 30) rfl (L' := ((tr, ObC Z "com/example/lanewright/lanewright/ShortestPathTree" (fs_ShortestPathTree (.ref nt) (.ref dsA) (.ref prA) (.ref hpA) (.ref psA) (.int (2 : Int32)))) :: (dsA, DaC Z DL) :: (hpA, IaC Z (HL.set 1 nd)) :: (psA, IaC Z (QL.set i0 (1 : Int32))) :: F)) rfl ?_
  intro T8 W8 H8
  refine g_aloadN W8 d31_30 (pc' := 31) rfl rfl rfl ?_
  refine g_aloadN W8 d31_31 (pc' := 32) rfl rfl rfl ?_
  refine g_getf W8 (wd_224 hw) Via.refl H8 (i := 0) rfl (jx := 5) rfl d31_32 (pc' := 35) rfl ?_
  intro T9 W9 H9
  refine g_iconst W9 d31_35 (pc' := 36) rfl (v := (1 : Int32)) (by decide) ?_
  refine g_isub W9 d31_36 (pc' := 37) rfl (v := (1 : Int32)) (by decide) ?_
  refine g_callP W9 (argsL := [.int (1 : Int32)]) (st := []) (wd_230 hw) (wd_231 hw) (wd_232 hw) (wd_190 hw) (wd_191 hw) (wd_233 hw) (by decide) (a := tr) H9 (i := 0) rfl (c_su1 l Z a0 hw n0 tr nt dsA prA hpA psA (2 : Int32) DL _ _ D (up hh 1 i0) (up Q i0 1) rd (rh.set (by omega) hnd) (rq.set bn (by decide)) (by rw [up_o (by decide)]; exact b0) (by rw [up_s]; exact bn) _ _ H9) pd_9 rfl rfl rfl d31_37 (pc' := 40) rfl (by decide) (Wn := 0) (Nat.le_of_eq rfl) (by decide) (kc' := 0) (ks' := 0) rfl rfl (by decide) (by decide) ?_
  intro T10 v10 W10 hp10
  obtain ⟨HL2, QL2, h2, Q2, rfl, r1, r2, r3, H10⟩ := hp10
  show Goes _ _ _ _ (State.setTop _ (mkF _ _ _ []))
  exact g_return W10 d31_40 ⟨HL2, QL2, h2, Q2, rfl, r1, r2, r3, H10⟩ (by decide) (by decide)
theorem c_push2 (l : Launch) (Z : State) (a0 : Array Value) (hw : ∀ d ∈ tables_1, d.before a0 Z = true) (n0 : Nat) (tr nt dsA prA hpA psA : Addr) (DL : List UInt64) (HL QL : List Int32) (D hh : Nat → Nat) (Q : Nat → Int) (rd : RD DL D) (rh : RN HL hh) (rq : RI QL Q) (nd : Int32) (i0 : Nat) (hnd : nd.toInt = (i0 : Int)) (bn : i0 < 5) (b0 : hh 0 < 5)  (h0 : Heap) (F : List HRow) (H00 : Hp Z n0 h0 ((tr, ObC Z "com/example/lanewright/lanewright/ShortestPathTree" (fs_ShortestPathTree (.ref nt) (.ref dsA) (.ref prA) (.ref hpA) (.ref psA) (.int (2 : Int32)))) :: (dsA, DaC Z DL) :: (hpA, IaC Z HL) :: (psA, IaC Z QL) :: F)) :
    Con l Z n0 ⟨"com/example/lanewright/lanewright/ShortestPathTree", "push", "(I)V"⟩ [] prog_57_method_6_code 2 none ({ frames := 1, cells := 0, slots := 0, locals := 15 } : Room) #[.ref tr, .int nd] h0 (fun v h => ∃ (HL2 QL2 : List Int32) (h2 : Nat → Nat) (Q2 : Nat → Int), v = none ∧ RN HL2 h2 ∧ RI QL2 Q2 ∧ ((D ((up hh 2 i0) 0) ≤ D ((up hh 2 i0) 2) ∧ h2 = up (up hh 2 i0) 2 ((up hh 2 i0) 2) ∧ Q2 = up (up Q i0 2) ((up hh 2 i0) 2) 2) ∨ (D ((up hh 2 i0) 2) < D ((up hh 2 i0) 0) ∧ h2 = up (up (up hh 2 i0) 2 ((up hh 2 i0) 0)) 0 ((up hh 2 i0) 2) ∧ Q2 = up (up (up Q i0 2) ((up hh 2 i0) 0) 2) ((up hh 2 i0) 2) 0)) ∧ Hp Z n0 h ((tr, ObC Z "com/example/lanewright/lanewright/ShortestPathTree" (fs_ShortestPathTree (.ref nt) (.ref dsA) (.ref prA) (.ref hpA) (.ref psA) (.int (3 : Int32)))) :: (dsA, DaC Z DL) :: (hpA, IaC Z HL2) :: (psA, IaC Z QL2) :: F)) := by
  refine con_of (plainFor_of_name pn_ShortestPathTree) ?_
  intro p e s m below meth c T0 W0 e0
  subst e0
  have H0 := H00
  refine g_cast (ef_ri2 m tr nd) ?_
  refine g_aloadN W0 d31_0 (pc' := 1) rfl rfl rfl ?_
  refine g_getf W0 (wd_207 hw) Via.refl H0 (i := 0) rfl (jx := 3) rfl d31_1 (pc' := 4) rfl ?_
  intro T1 W1 H1
  refine g_aloadN W1 d31_4 (pc' := 5) rfl rfl rfl ?_
  refine g_getf W1 (wd_224 hw) Via.refl H1 (i := 0) rfl (jx := 5) rfl d31_5 (pc' := 8) rfl ?_
  intro T2 W2 H2
  refine g_iloadN W2 d31_8 (pc' := 9) rfl rfl ?_
  refine g_iastoreI W2 H2 (i := 2) rfl (jx := 2) (by decide) (by rw [rh.1]; omega) d31_9 (pc' := 10) rfl (L' := ((tr, ObC Z "com/example/lanewright/lanewright/ShortestPathTree" (fs_ShortestPathTree (.ref nt) (.ref dsA) (.ref prA) (.ref hpA) (.ref psA) (.int (2 : Int32)))) :: (dsA, DaC Z DL) :: (hpA, IaC Z (HL.set 2 nd)) :: (psA, IaC Z QL) :: F)) rfl ?_
  intro T3 W3 H3
  refine g_aloadN W3 d31_10 (pc' := 11) rfl rfl rfl ?_
  refine g_getf W3 (wd_209 hw) Via.refl H3 (i := 0) rfl (jx := 4) rfl d31_11 (pc' := 14) rfl ?_
  intro T4 W4 H4
  refine g_iloadN W4 d31_14 (pc' := 15) rfl rfl ?_
  refine g_aloadN W4 d31_15 (pc' := 16) rfl rfl rfl ?_
  refine g_getf W4 (wd_224 hw) Via.refl H4 (i := 0) rfl (jx := 5) rfl d31_16 (pc' := 19) rfl ?_
  intro T5 W5 H5
  refine g_iastoreI W5 H5 (i := 3) rfl (jx := i0) hnd (by rw [rq.1]; omega) d31_19 (pc' := 20) rfl (L' := ((tr, ObC Z "com/example/lanewright/lanewright/ShortestPathTree" (fs_ShortestPathTree (.ref nt) (.ref dsA) (.ref prA) (.ref hpA) (.ref psA) (.int (2 : Int32)))) :: (dsA, DaC Z DL) :: (hpA, IaC Z (HL.set 2 nd)) :: (psA, IaC Z (QL.set i0 (2 : Int32))) :: F)) rfl ?_
  intro T6 W6 H6
  refine g_aloadN W6 d31_20 (pc' := 21) rfl rfl rfl ?_
  refine g_dup W6 d31_21 (pc' := 22) rfl rfl ?_
  refine g_getf W6 (wd_224 hw) Via.refl H6 (i := 0) rfl (jx := 5) rfl d31_22 (pc' := 25) rfl ?_
  intro T7 W7 H7
  refine g_iconst W7 d31_25 (pc' := 26) rfl (v := (1 : Int32)) (by decide) ?_
  refine g_iadd W7 d31_26 (pc' := 27) rfl (v := (3 : Int32)) (by decide) ?_
  refine g_putf W7 (wd_224 hw) Via.refl (Or.inl (wd_225 hw)) (wd_190 hw) (ty := .int) (by decide) rfl rfl H7 (i := 0) rfl (jx := 5) rfl d31_27 (pc' := 30) rfl (L' := ((tr, ObC Z "com/example/lanewright/lanewright/ShortestPathTree" (fs_ShortestPathTree (.ref nt) (.ref dsA) (.ref prA) (.ref hpA) (.ref psA) (.int (3 : Int32)))) :: (dsA, DaC Z DL) :: (hpA, IaC Z (HL.set 2 nd)) :: (psA, IaC Z (QL.set i0 (2 : Int32))) :: F)) rfl ?_
  intro T8 W8 H8
  refine g_aloadN W8 d31_30 (pc' := 31) rfl rfl rfl ?_
  refine g_aloadN W8 d31_31 (pc' := 32) rfl rfl rfl ?_
  refine g_getf W8 (wd_224 hw) Via.refl H8 (i := 0) rfl (jx := 5) rfl d31_32 (pc' := 35) rfl ?_
  intro T9 W9 H9
  refine g_iconst W9 d31_35 (pc' := 36) rfl (v := (1 : Int32)) (by decide) ?_
  refine g_isub W9 d31_36 (pc' := 37) rfl (v := (2 : Int32)) (by decide) ?_
  refine g_callP W9 (argsL := [.int (2 : Int32)]) (st := []) (wd_230 hw) (wd_231 hw) (wd_232 hw) (wd_190 hw) (wd_191 hw) (wd_233 hw) (by decide) (a := tr) H9 (i := 0) rfl (c_su2 l Z a0 hw n0 tr nt dsA prA hpA psA (3 : Int32) DL _ _ D (up hh 2 i0) (up Q i0 2) rd (rh.set (by omega) hnd) (rq.set bn (by decide)) (by rw [up_o (by decide)]; exact b0) (by rw [up_s]; exact bn) _ _ H9) pd_9 rfl rfl rfl d31_37 (pc' := 40) rfl (by decide) (Wn := 0) (Nat.le_of_eq rfl) (by decide) (kc' := 0) (ks' := 0) rfl rfl (by decide) (by decide) ?_
  intro T10 v10 W10 hp10
  obtain ⟨HL2, QL2, h2, Q2, rfl, r1, r2, r3, H10⟩ := hp10
  show Goes _ _ _ _ (State.setTop _ (mkF _ _ _ []))
  exact g_return W10 d31_40 ⟨HL2, QL2, h2, Q2, rfl, r1, r2, r3, H10⟩ (by decide) (by decide)
theorem c_pop1 (l : Launch) (Z : State) (a0 : Array Value) (hw : ∀ d ∈ tables_1, d.before a0 Z = true) (n0 : Nat) (tr nt dsA prA hpA psA : Addr) (DL : List UInt64) (HL QL : List Int32) (D hh : Nat → Nat) (Q : Nat → Int) (rd : RD DL D) (rh : RN HL hh) (rq : RI QL Q) (b0 : hh 0 < 5)  (h0 : Heap) (F : List HRow) (H00 : Hp Z n0 h0 ((tr, ObC Z "com/example/lanewright/lanewright/ShortestPathTree" (fs_ShortestPathTree (.ref nt) (.ref dsA) (.ref prA) (.ref hpA) (.ref psA) (.int (1 : Int32)))) :: (dsA, DaC Z DL) :: (hpA, IaC Z HL) :: (psA, IaC Z QL) :: F)) :
    Con l Z n0 ⟨"com/example/lanewright/lanewright/ShortestPathTree", "pop", "()I"⟩ [] prog_57_method_7_code 2 (some .int) ({ frames := 0, cells := 0, slots := 0, locals := 0 } : Room) #[.ref tr] h0 (fun v h => ∃ (x : Int32) (HL2 QL2 : List Int32) (h2 : Nat → Nat) (Q2 : Nat → Int), v = some (.int x) ∧ x.toInt = (hh 0 : Int) ∧ RN HL2 h2 ∧ RI QL2 Q2 ∧ (h2 = hh ∧ Q2 = up Q (hh 0) (-1)) ∧ Hp Z n0 h ((tr, ObC Z "com/example/lanewright/lanewright/ShortestPathTree" (fs_ShortestPathTree (.ref nt) (.ref dsA) (.ref prA) (.ref hpA) (.ref psA) (.int (0 : Int32)))) :: (dsA, DaC Z DL) :: (hpA, IaC Z HL2) :: (psA, IaC Z QL2) :: F)) := by
  refine con_of (plainFor_of_name pn_ShortestPathTree) ?_
  intro p e s m below meth c T0 W0 e0
  subst e0
  have H0 := H00
  refine g_cast (ef_r2 m tr) ?_
  obtain ⟨x0, x0g, x0h⟩ := rh.2 0 (by omega)
  refine g_aloadN W0 d33_0 (pc' := 1) rfl rfl rfl ?_
  refine g_getf W0 (wd_207 hw) Via.refl H0 (i := 0) rfl (jx := 3) rfl d33_1 (pc' := 4) rfl ?_
  intro T1 W1 H1
  refine g_iconst W1 d33_4 (pc' := 5) rfl (v := (0 : Int32)) (by decide) ?_
  refine g_ialoadI W1 H1 (i := 2) rfl (jx := 0) (by decide) (u := x0) x0g d33_5 (pc' := 6) rfl ?_
  refine g_istoreN W1 d33_6 (pc' := 7) rfl (ls' := #[.val (.ref tr), .val (.int x0)]) rfl ?_
  refine g_aloadN W1 d33_7 (pc' := 8) rfl rfl rfl ?_
  refine g_getf W1 (wd_209 hw) Via.refl H1 (i := 0) rfl (jx := 4) rfl d33_8 (pc' := 11) rfl ?_
  intro T2 W2 H2
  refine g_iloadN W2 d33_11 (pc' := 12) rfl rfl ?_
  refine g_iconst W2 d33_12 (pc' := 13) rfl (v := (-1 : Int32)) (by decide) ?_
  refine g_iastoreI W2 H2 (i := 3) rfl (jx := (hh 0)) x0h (by rw [rq.1]; omega) d33_13 (pc' := 14) rfl (L' := ((tr, ObC Z "com/example/lanewright/lanewright/ShortestPathTree" (fs_ShortestPathTree (.ref nt) (.ref dsA) (.ref prA) (.ref hpA) (.ref psA) (.int (1 : Int32)))) :: (dsA, DaC Z DL) :: (hpA, IaC Z HL) :: (psA, IaC Z (QL.set (hh 0) (-1 : Int32))) :: F)) rfl ?_
  intro T3 W3 H3
  refine g_aloadN W3 d33_14 (pc' := 15) rfl rfl rfl ?_
  refine g_dup W3 d33_15 (pc' := 16) rfl rfl ?_
  refine g_getf W3 (wd_224 hw) Via.refl H3 (i := 0) rfl (jx := 5) rfl d33_16 (pc' := 19) rfl ?_
  intro T4 W4 H4
  refine g_iconst W4 d33_19 (pc' := 20) rfl (v := (1 : Int32)) (by decide) ?_
  refine g_isub W4 d33_20 (pc' := 21) rfl (v := (0 : Int32)) (by decide) ?_
  refine g_putf W4 (wd_224 hw) Via.refl (Or.inl (wd_225 hw)) (wd_190 hw) (ty := .int) (by decide) rfl rfl H4 (i := 0) rfl (jx := 5) rfl d33_21 (pc' := 24) rfl (L' := ((tr, ObC Z "com/example/lanewright/lanewright/ShortestPathTree" (fs_ShortestPathTree (.ref nt) (.ref dsA) (.ref prA) (.ref hpA) (.ref psA) (.int (0 : Int32)))) :: (dsA, DaC Z DL) :: (hpA, IaC Z HL) :: (psA, IaC Z (QL.set (hh 0) (-1 : Int32))) :: F)) rfl ?_
  intro T5 W5 H5
  refine g_aloadN W5 d33_24 (pc' := 25) rfl rfl rfl ?_
  refine g_getf W5 (wd_224 hw) Via.refl H5 (i := 0) rfl (jx := 5) rfl d33_25 (pc' := 28) rfl ?_
  intro T6 W6 H6
  refine g_if W6 d33_28 (pcy := 63) (by decide) (pc' := 31) rfl (fun _ => ?_) (fun (h : ¬ ¬ (0 : Int32) < (0 : Int32)) => absurd h (by decide))
  refine g_iloadN W6 d33_63 (pc' := 64) rfl rfl ?_
  exact g_ireturn W6 d33_64 ⟨x0, _, _, _, _, rfl, x0h, rh, rq.set b0 (y := -1) (by decide), ⟨rfl, rfl⟩, H6⟩ (by decide) (by decide)
theorem c_pop2 (l : Launch) (Z : State) (a0 : Array Value) (hw : ∀ d ∈ tables_1, d.before a0 Z = true) (n0 : Nat) (tr nt dsA prA hpA psA : Addr) (DL : List UInt64) (HL QL : List Int32) (D hh : Nat → Nat) (Q : Nat → Int) (rd : RD DL D) (rh : RN HL hh) (rq : RI QL Q) (b0 : hh 0 < 5) (b1 : hh 1 < 5) (bl : hh 1 < 5)  (h0 : Heap) (F : List HRow) (H00 : Hp Z n0 h0 ((tr, ObC Z "com/example/lanewright/lanewright/ShortestPathTree" (fs_ShortestPathTree (.ref nt) (.ref dsA) (.ref prA) (.ref hpA) (.ref psA) (.int (2 : Int32)))) :: (dsA, DaC Z DL) :: (hpA, IaC Z HL) :: (psA, IaC Z QL) :: F)) :
    Con l Z n0 ⟨"com/example/lanewright/lanewright/ShortestPathTree", "pop", "()I"⟩ [] prog_57_method_7_code 2 (some .int) ({ frames := 1, cells := 0, slots := 0, locals := 15 } : Room) #[.ref tr] h0 (fun v h => ∃ (x : Int32) (HL2 QL2 : List Int32) (h2 : Nat → Nat) (Q2 : Nat → Int), v = some (.int x) ∧ x.toInt = (hh 0 : Int) ∧ RN HL2 h2 ∧ RI QL2 Q2 ∧ (h2 = up (up hh 0 (hh 1)) 0 ((up hh 0 (hh 1)) 0) ∧ Q2 = up (up (up Q (hh 0) (-1)) (hh 1) 0) ((up hh 0 (hh 1)) 0) 0) ∧ Hp Z n0 h ((tr, ObC Z "com/example/lanewright/lanewright/ShortestPathTree" (fs_ShortestPathTree (.ref nt) (.ref dsA) (.ref prA) (.ref hpA) (.ref psA) (.int (1 : Int32)))) :: (dsA, DaC Z DL) :: (hpA, IaC Z HL2) :: (psA, IaC Z QL2) :: F)) := by
  refine con_of (plainFor_of_name pn_ShortestPathTree) ?_
  intro p e s m below meth c T0 W0 e0
  subst e0
  have H0 := H00
  refine g_cast (ef_r2 m tr) ?_
  obtain ⟨x0, x0g, x0h⟩ := rh.2 0 (by omega)
  obtain ⟨xl, xlg, xlh⟩ := rh.2 1 (by omega)
  refine g_aloadN W0 d33_0 (pc' := 1) rfl rfl rfl ?_
  refine g_getf W0 (wd_207 hw) Via.refl H0 (i := 0) rfl (jx := 3) rfl d33_1 (pc' := 4) rfl ?_
  intro T1 W1 H1
  refine g_iconst W1 d33_4 (pc' := 5) rfl (v := (0 : Int32)) (by decide) ?_
  refine g_ialoadI W1 H1 (i := 2) rfl (jx := 0) (by decide) (u := x0) x0g d33_5 (pc' := 6) rfl ?_
  refine g_istoreN W1 d33_6 (pc' := 7) rfl (ls' := #[.val (.ref tr), .val (.int x0)]) rfl ?_
  refine g_aloadN W1 d33_7 (pc' := 8) rfl rfl rfl ?_
  refine g_getf W1 (wd_209 hw) Via.refl H1 (i := 0) rfl (jx := 4) rfl d33_8 (pc' := 11) rfl ?_
  intro T2 W2 H2
  refine g_iloadN W2 d33_11 (pc' := 12) rfl rfl ?_
  refine g_iconst W2 d33_12 (pc' := 13) rfl (v := (-1 : Int32)) (by decide) ?_
  refine g_iastoreI W2 H2 (i := 3) rfl (jx := (hh 0)) x0h (by rw [rq.1]; omega) d33_13 (pc' := 14) rfl (L' := ((tr, ObC Z "com/example/lanewright/lanewright/ShortestPathTree" (fs_ShortestPathTree (.ref nt) (.ref dsA) (.ref prA) (.ref hpA) (.ref psA) (.int (2 : Int32)))) :: (dsA, DaC Z DL) :: (hpA, IaC Z HL) :: (psA, IaC Z (QL.set (hh 0) (-1 : Int32))) :: F)) rfl ?_
  intro T3 W3 H3
  refine g_aloadN W3 d33_14 (pc' := 15) rfl rfl rfl ?_
  refine g_dup W3 d33_15 (pc' := 16) rfl rfl ?_
  refine g_getf W3 (wd_224 hw) Via.refl H3 (i := 0) rfl (jx := 5) rfl d33_16 (pc' := 19) rfl ?_
  intro T4 W4 H4
  refine g_iconst W4 d33_19 (pc' := 20) rfl (v := (1 : Int32)) (by decide) ?_
  refine g_isub W4 d33_20 (pc' := 21) rfl (v := (1 : Int32)) (by decide) ?_
  refine g_putf W4 (wd_224 hw) Via.refl (Or.inl (wd_225 hw)) (wd_190 hw) (ty := .int) (by decide) rfl rfl H4 (i := 0) rfl (jx := 5) rfl d33_21 (pc' := 24) rfl (L' := ((tr, ObC Z "com/example/lanewright/lanewright/ShortestPathTree" (fs_ShortestPathTree (.ref nt) (.ref dsA) (.ref prA) (.ref hpA) (.ref psA) (.int (1 : Int32)))) :: (dsA, DaC Z DL) :: (hpA, IaC Z HL) :: (psA, IaC Z (QL.set (hh 0) (-1 : Int32))) :: F)) rfl ?_
  intro T5 W5 H5
  refine g_aloadN W5 d33_24 (pc' := 25) rfl rfl rfl ?_
  refine g_getf W5 (wd_224 hw) Via.refl H5 (i := 0) rfl (jx := 5) rfl d33_25 (pc' := 28) rfl ?_
  intro T6 W6 H6
  refine g_if W6 d33_28 (pcy := 63) (by decide) (pc' := 31) rfl (fun (h : ¬ (0 : Int32) < (1 : Int32)) => absurd h (by decide)) (fun _ => ?_)
  refine g_aloadN W6 d33_31 (pc' := 32) rfl rfl rfl ?_
  refine g_getf W6 (wd_207 hw) Via.refl H6 (i := 0) rfl (jx := 3) rfl d33_32 (pc' := 35) rfl ?_
  intro T7 W7 H7
  refine g_iconst W7 d33_35 (pc' := 36) rfl (v := (0 : Int32)) (by decide) ?_
  refine g_aloadN W7 d33_36 (pc' := 37) rfl rfl rfl ?_
  refine g_getf W7 (wd_207 hw) Via.refl H7 (i := 0) rfl (jx := 3) rfl d33_37 (pc' := 40) rfl ?_
  intro T8 W8 H8
  refine g_aloadN W8 d33_40 (pc' := 41) rfl rfl rfl ?_
  refine g_getf W8 (wd_224 hw) Via.refl H8 (i := 0) rfl (jx := 5) rfl d33_41 (pc' := 44) rfl ?_
  intro T9 W9 H9
  refine g_ialoadI W9 H9 (i := 2) rfl (jx := 1) (by decide) (u := xl) xlg d33_44 (pc' := 45) rfl ?_
  refine g_iastoreI W9 H9 (i := 2) rfl (jx := 0) (by decide) (by rw [rh.1]; omega) d33_45 (pc' := 46) rfl (L' := ((tr, ObC Z "com/example/lanewright/lanewright/ShortestPathTree" (fs_ShortestPathTree (.ref nt) (.ref dsA) (.ref prA) (.ref hpA) (.ref psA) (.int (1 : Int32)))) :: (dsA, DaC Z DL) :: (hpA, IaC Z (HL.set 0 xl)) :: (psA, IaC Z (QL.set (hh 0) (-1 : Int32))) :: F)) rfl ?_
  intro T10 W10 H10
  refine g_aloadN W10 d33_46 (pc' := 47) rfl rfl rfl ?_
  refine g_getf W10 (wd_209 hw) Via.refl H10 (i := 0) rfl (jx := 4) rfl d33_47 (pc' := 50) rfl ?_
  intro T11 W11 H11
  refine g_aloadN W11 d33_50 (pc' := 51) rfl rfl rfl ?_
  refine g_getf W11 (wd_207 hw) Via.refl H11 (i := 0) rfl (jx := 3) rfl d33_51 (pc' := 54) rfl ?_
  intro T12 W12 H12
  refine g_iconst W12 d33_54 (pc' := 55) rfl (v := (0 : Int32)) (by decide) ?_
  refine g_ialoadI W12 H12 (i := 2) rfl (jx := 0) (by decide) (u := xl) (List.getElem?_set_self (by rw [rh.1]; omega)) d33_55 (pc' := 56) rfl ?_
  refine g_iconst W12 d33_56 (pc' := 57) rfl (v := (0 : Int32)) (by decide) ?_
  refine g_iastoreI W12 H12 (i := 3) rfl (jx := (hh 1)) xlh (by rw [List.length_set, rq.1]; omega) d33_57 (pc' := 58) rfl (L' := ((tr, ObC Z "com/example/lanewright/lanewright/ShortestPathTree" (fs_ShortestPathTree (.ref nt) (.ref dsA) (.ref prA) (.ref hpA) (.ref psA) (.int (1 : Int32)))) :: (dsA, DaC Z DL) :: (hpA, IaC Z (HL.set 0 xl)) :: (psA, IaC Z ((QL.set (hh 0) (-1 : Int32)).set (hh 1) (0 : Int32))) :: F)) rfl ?_
  intro T13 W13 H13
  refine g_aloadN W13 d33_58 (pc' := 59) rfl rfl rfl ?_
  refine g_iconst W13 d33_59 (pc' := 60) rfl (v := (0 : Int32)) (by decide) ?_
  refine g_callP W13 (argsL := [.int (0 : Int32)]) (st := []) (wd_279 hw) (wd_280 hw) (wd_281 hw) (wd_190 hw) (wd_191 hw) (wd_282 hw) (by decide) (a := tr) H13 (i := 0) rfl (c_sd1 l Z a0 hw n0 tr nt dsA prA hpA psA DL _ _ D (up hh 0 (hh 1)) (up (up Q (hh 0) (-1)) (hh 1) 0) rd (rh.set (by omega) xlh) ((rq.set b0 (by decide)).set bl (by decide)) (by rw [up_s]; exact bl) _ _ H13) pd_9 rfl rfl rfl d33_60 (pc' := 63) rfl (by decide) (Wn := 0) (Nat.le_of_eq rfl) (by decide) (kc' := 0) (ks' := 0) rfl rfl (by decide) (by decide) ?_
  intro T14 v14 W14 hp14
  obtain ⟨HL2, QL2, h2, Q2, rfl, r1, r2, r3, H14⟩ := hp14
  show Goes _ _ _ _ (State.setTop _ (mkF _ _ _ []))
  refine g_iloadN W14 d33_63 (pc' := 64) rfl rfl ?_
  exact g_ireturn W14 d33_64 ⟨x0, HL2, QL2, h2, Q2, rfl, x0h, r1, r2, r3, H14⟩ (by decide) (by decide)
theorem c_pop3 (l : Launch) (Z : State) (a0 : Array Value) (hw : ∀ d ∈ tables_1, d.before a0 Z = true) (n0 : Nat) (tr nt dsA prA hpA psA : Addr) (DL : List UInt64) (HL QL : List Int32) (D hh : Nat → Nat) (Q : Nat → Int) (rd : RD DL D) (rh : RN HL hh) (rq : RI QL Q) (b0 : hh 0 < 5) (b1 : hh 1 < 5) (bl : hh 2 < 5)  (h0 : Heap) (F : List HRow) (H00 : Hp Z n0 h0 ((tr, ObC Z "com/example/lanewright/lanewright/ShortestPathTree" (fs_ShortestPathTree (.ref nt) (.ref dsA) (.ref prA) (.ref hpA) (.ref psA) (.int (3 : Int32)))) :: (dsA, DaC Z DL) :: (hpA, IaC Z HL) :: (psA, IaC Z QL) :: F)) :
    Con l Z n0 ⟨"com/example/lanewright/lanewright/ShortestPathTree", "pop", "()I"⟩ [] prog_57_method_7_code 2 (some .int) ({ frames := 1, cells := 0, slots := 0, locals := 15 } : Room) #[.ref tr] h0 (fun v h => ∃ (x : Int32) (HL2 QL2 : List Int32) (h2 : Nat → Nat) (Q2 : Nat → Int), v = some (.int x) ∧ x.toInt = (hh 0 : Int) ∧ RN HL2 h2 ∧ RI QL2 Q2 ∧ ((D ((up hh 0 (hh 2)) 0) ≤ D ((up hh 0 (hh 2)) 1) ∧ h2 = up (up hh 0 (hh 2)) 0 ((up hh 0 (hh 2)) 0) ∧ Q2 = up (up (up Q (hh 0) (-1)) (hh 2) 0) ((up hh 0 (hh 2)) 0) 0) ∨ (D ((up hh 0 (hh 2)) 1) < D ((up hh 0 (hh 2)) 0) ∧ h2 = up (up (up hh 0 (hh 2)) 0 ((up hh 0 (hh 2)) 1)) 1 ((up hh 0 (hh 2)) 0) ∧ Q2 = up (up (up (up Q (hh 0) (-1)) (hh 2) 0) ((up hh 0 (hh 2)) 1) 0) ((up hh 0 (hh 2)) 0) 1)) ∧ Hp Z n0 h ((tr, ObC Z "com/example/lanewright/lanewright/ShortestPathTree" (fs_ShortestPathTree (.ref nt) (.ref dsA) (.ref prA) (.ref hpA) (.ref psA) (.int (2 : Int32)))) :: (dsA, DaC Z DL) :: (hpA, IaC Z HL2) :: (psA, IaC Z QL2) :: F)) := by
  refine con_of (plainFor_of_name pn_ShortestPathTree) ?_
  intro p e s m below meth c T0 W0 e0
  subst e0
  have H0 := H00
  refine g_cast (ef_r2 m tr) ?_
  obtain ⟨x0, x0g, x0h⟩ := rh.2 0 (by omega)
  obtain ⟨xl, xlg, xlh⟩ := rh.2 2 (by omega)
  refine g_aloadN W0 d33_0 (pc' := 1) rfl rfl rfl ?_
  refine g_getf W0 (wd_207 hw) Via.refl H0 (i := 0) rfl (jx := 3) rfl d33_1 (pc' := 4) rfl ?_
  intro T1 W1 H1
  refine g_iconst W1 d33_4 (pc' := 5) rfl (v := (0 : Int32)) (by decide) ?_
  refine g_ialoadI W1 H1 (i := 2) rfl (jx := 0) (by decide) (u := x0) x0g d33_5 (pc' := 6) rfl ?_
  refine g_istoreN W1 d33_6 (pc' := 7) rfl (ls' := #[.val (.ref tr), .val (.int x0)]) rfl ?_
  refine g_aloadN W1 d33_7 (pc' := 8) rfl rfl rfl ?_
  refine g_getf W1 (wd_209 hw) Via.refl H1 (i := 0) rfl (jx := 4) rfl d33_8 (pc' := 11) rfl ?_
  intro T2 W2 H2
  refine g_iloadN W2 d33_11 (pc' := 12) rfl rfl ?_
  refine g_iconst W2 d33_12 (pc' := 13) rfl (v := (-1 : Int32)) (by decide) ?_
  refine g_iastoreI W2 H2 (i := 3) rfl (jx := (hh 0)) x0h (by rw [rq.1]; omega) d33_13 (pc' := 14) rfl (L' := ((tr, ObC Z "com/example/lanewright/lanewright/ShortestPathTree" (fs_ShortestPathTree (.ref nt) (.ref dsA) (.ref prA) (.ref hpA) (.ref psA) (.int (3 : Int32)))) :: (dsA, DaC Z DL) :: (hpA, IaC Z HL) :: (psA, IaC Z (QL.set (hh 0) (-1 : Int32))) :: F)) rfl ?_
  intro T3 W3 H3
  refine g_aloadN W3 d33_14 (pc' := 15) rfl rfl rfl ?_
  refine g_dup W3 d33_15 (pc' := 16) rfl rfl ?_
  refine g_getf W3 (wd_224 hw) Via.refl H3 (i := 0) rfl (jx := 5) rfl d33_16 (pc' := 19) rfl ?_
  intro T4 W4 H4
  refine g_iconst W4 d33_19 (pc' := 20) rfl (v := (1 : Int32)) (by decide) ?_
  refine g_isub W4 d33_20 (pc' := 21) rfl (v := (2 : Int32)) (by decide) ?_
  refine g_putf W4 (wd_224 hw) Via.refl (Or.inl (wd_225 hw)) (wd_190 hw) (ty := .int) (by decide) rfl rfl H4 (i := 0) rfl (jx := 5) rfl d33_21 (pc' := 24) rfl (L' := ((tr, ObC Z "com/example/lanewright/lanewright/ShortestPathTree" (fs_ShortestPathTree (.ref nt) (.ref dsA) (.ref prA) (.ref hpA) (.ref psA) (.int (2 : Int32)))) :: (dsA, DaC Z DL) :: (hpA, IaC Z HL) :: (psA, IaC Z (QL.set (hh 0) (-1 : Int32))) :: F)) rfl ?_
  intro T5 W5 H5
  refine g_aloadN W5 d33_24 (pc' := 25) rfl rfl rfl ?_
  refine g_getf W5 (wd_224 hw) Via.refl H5 (i := 0) rfl (jx := 5) rfl d33_25 (pc' := 28) rfl ?_
  intro T6 W6 H6
  refine g_if W6 d33_28 (pcy := 63) (by decide) (pc' := 31) rfl (fun (h : ¬ (0 : Int32) < (2 : Int32)) => absurd h (by decide)) (fun _ => ?_)
  refine g_aloadN W6 d33_31 (pc' := 32) rfl rfl rfl ?_
  refine g_getf W6 (wd_207 hw) Via.refl H6 (i := 0) rfl (jx := 3) rfl d33_32 (pc' := 35) rfl ?_
  intro T7 W7 H7
  refine g_iconst W7 d33_35 (pc' := 36) rfl (v := (0 : Int32)) (by decide) ?_
  refine g_aloadN W7 d33_36 (pc' := 37) rfl rfl rfl ?_
  refine g_getf W7 (wd_207 hw) Via.refl H7 (i := 0) rfl (jx := 3) rfl d33_37 (pc' := 40) rfl ?_
  intro T8 W8 H8
  refine g_aloadN W8 d33_40 (pc' := 41) rfl rfl rfl ?_
  refine g_getf W8 (wd_224 hw) Via.refl H8 (i := 0) rfl (jx := 5) rfl d33_41 (pc' := 44) rfl ?_
  intro T9 W9 H9
  refine g_ialoadI W9 H9 (i := 2) rfl (jx := 2) (by decide) (u := xl) xlg d33_44 (pc' := 45) rfl ?_
  refine g_iastoreI W9 H9 (i := 2) rfl (jx := 0) (by decide) (by rw [rh.1]; omega) d33_45 (pc' := 46) rfl (L' := ((tr, ObC Z "com/example/lanewright/lanewright/ShortestPathTree" (fs_ShortestPathTree (.ref nt) (.ref dsA) (.ref prA) (.ref hpA) (.ref psA) (.int (2 : Int32)))) :: (dsA, DaC Z DL) :: (hpA, IaC Z (HL.set 0 xl)) :: (psA, IaC Z (QL.set (hh 0) (-1 : Int32))) :: F)) rfl ?_
  intro T10 W10 H10
  refine g_aloadN W10 d33_46 (pc' := 47) rfl rfl rfl ?_
  refine g_getf W10 (wd_209 hw) Via.refl H10 (i := 0) rfl (jx := 4) rfl d33_47 (pc' := 50) rfl ?_
  intro T11 W11 H11
  refine g_aloadN W11 d33_50 (pc' := 51) rfl rfl rfl ?_
  refine g_getf W11 (wd_207 hw) Via.refl H11 (i := 0) rfl (jx := 3) rfl d33_51 (pc' := 54) rfl ?_
  intro T12 W12 H12
  refine g_iconst W12 d33_54 (pc' := 55) rfl (v := (0 : Int32)) (by decide) ?_
  refine g_ialoadI W12 H12 (i := 2) rfl (jx := 0) (by decide) (u := xl) (List.getElem?_set_self (by rw [rh.1]; omega)) d33_55 (pc' := 56) rfl ?_
  refine g_iconst W12 d33_56 (pc' := 57) rfl (v := (0 : Int32)) (by decide) ?_
  refine g_iastoreI W12 H12 (i := 3) rfl (jx := (hh 2)) xlh (by rw [List.length_set, rq.1]; omega) d33_57 (pc' := 58) rfl (L' := ((tr, ObC Z "com/example/lanewright/lanewright/ShortestPathTree" (fs_ShortestPathTree (.ref nt) (.ref dsA) (.ref prA) (.ref hpA) (.ref psA) (.int (2 : Int32)))) :: (dsA, DaC Z DL) :: (hpA, IaC Z (HL.set 0 xl)) :: (psA, IaC Z ((QL.set (hh 0) (-1 : Int32)).set (hh 2) (0 : Int32))) :: F)) rfl ?_
  intro T13 W13 H13
  refine g_aloadN W13 d33_58 (pc' := 59) rfl rfl rfl ?_
  refine g_iconst W13 d33_59 (pc' := 60) rfl (v := (0 : Int32)) (by decide) ?_
  refine g_callP W13 (argsL := [.int (0 : Int32)]) (st := []) (wd_279 hw) (wd_280 hw) (wd_281 hw) (wd_190 hw) (wd_191 hw) (wd_282 hw) (by decide) (a := tr) H13 (i := 0) rfl (c_sd2 l Z a0 hw n0 tr nt dsA prA hpA psA DL _ _ D (up hh 0 (hh 2)) (up (up Q (hh 0) (-1)) (hh 2) 0) rd (rh.set (by omega) xlh) ((rq.set b0 (by decide)).set bl (by decide)) (by rw [up_s]; exact bl) (by rw [up_o (by decide)]; exact b1) _ _ H13) pd_9 rfl rfl rfl d33_60 (pc' := 63) rfl (by decide) (Wn := 0) (Nat.le_of_eq rfl) (by decide) (kc' := 0) (ks' := 0) rfl rfl (by decide) (by decide) ?_
  intro T14 v14 W14 hp14
  obtain ⟨HL2, QL2, h2, Q2, rfl, r1, r2, r3, H14⟩ := hp14
  show Goes _ _ _ _ (State.setTop _ (mkF _ _ _ []))
  refine g_iloadN W14 d33_63 (pc' := 64) rfl rfl ?_
  exact g_ireturn W14 d33_64 ⟨x0, HL2, QL2, h2, Q2, rfl, x0h, r1, r2, r3, H14⟩ (by decide) (by decide)

theorem up_id {α : Type} {f : Nat → α} {v : Nat} {y : α} (h : f v = y) : up f v y = f := by
  funext w; by_cases q : w = v
  · subst q; rw [up_s, h]
  · rw [up_o q]
theorem up_comm {α : Type} {f : Nat → α} {v w : Nat} {x y : α} (h : v ≠ w) : up (up f v x) w y = up (up f w y) v x := by
  funext z; unfold up
  by_cases q1 : z = w
  · by_cases q2 : z = v
    · omega
    · rw [if_pos q1, if_neg q2, if_pos q1]
  · by_cases q2 : z = v
    · rw [if_neg q1, if_pos q2, if_pos q2]
    · rw [if_neg q1, if_neg q2, if_neg q2, if_neg q1]
def Cons (h : Nat → Nat) (Q : Nat → Int) (hs : Nat) : Prop := (∀ i, i < hs → 1 ≤ h i ∧ h i ≤ 4 ∧ Q (h i) = (i : Int)) ∧ (∀ v, 1 ≤ v → v ≤ 4 → 0 ≤ Q v → ∃ i, i < hs ∧ h i = v) ∧ (∀ v, 1 ≤ v → v ≤ 4 → -1 ≤ Q v)
def HOk (D h : Nat → Nat) (Q : Nat → Int) (hs : Nat) : Prop := Cons h Q hs ∧ ∀ i, 0 < i → i < hs → D (h 0) ≤ D (h i)
theorem Cons.inj {h : Nat → Nat} {Q : Nat → Int} {hs i j : Nat} (H : Cons h Q hs) (hi : i < hs) (hj : j < hs) (e : h i = h j) : i = j := by
  have a := (H.1 i hi).2.2
  have b := (H.1 j hj).2.2
  rw [e] at a; omega
theorem Cons.swap {h : Nat → Nat} {Q : Nat → Int} {hs i : Nat} (H : Cons h Q hs) (hi : i < hs) (h0 : 0 < i) : Cons (up (up h i (h 0)) 0 (h i)) (up (up Q (h 0) (i : Int)) (h i) 0) hs ∧ ∀ v, 1 ≤ v → v ≤ 4 → (0 ≤ up (up Q (h 0) (i : Int)) (h i) 0 v ↔ 0 ≤ Q v) := by
  have ne : h 0 ≠ h i := fun q => by have := H.inj (by omega) hi q; omega
  have q0 := (H.1 0 (by omega)).2.2
  have qi := (H.1 i hi).2.2
  have iff : ∀ v, 1 ≤ v → v ≤ 4 → (0 ≤ up (up Q (h 0) (i : Int)) (h i) 0 v ↔ 0 ≤ Q v) := fun v _ _ => by
    by_cases a : v = h i
    · subst a; rw [up_s]; omega
    · rw [up_o a]
      by_cases b : v = h 0
      · subst b; rw [up_s]; omega
      · rw [up_o b]
  refine ⟨⟨fun j hj => ?_, fun v h1 h2 hv => ?_, fun v h1 h2 => ?_⟩, iff⟩
  · by_cases a : j = 0
    · subst a; rw [up_s, up_s]; exact ⟨(H.1 i hi).1, (H.1 i hi).2.1, rfl⟩
    · rw [up_o a]
      by_cases b : j = i
      · subst b; rw [up_s, up_o ne, up_s]; exact ⟨(H.1 0 (by omega)).1, (H.1 0 (by omega)).2.1, rfl⟩
      · rw [up_o b]
        have n1 : h j ≠ h i := fun q => b (H.inj hj hi q)
        have n2 : h j ≠ h 0 := fun q => a (H.inj hj (by omega) q)
        rw [up_o n1, up_o n2]; exact H.1 j hj
  · obtain ⟨j, hj, e⟩ := H.2.1 v h1 h2 ((iff v h1 h2).mp hv)
    by_cases a : j = 0
    · subst a; exact ⟨i, hi, by rw [up_o (by omega), up_s]; exact e⟩
    · by_cases b : j = i
      · subst b; exact ⟨0, by omega, by rw [up_s]; exact e⟩
      · exact ⟨j, hj, by rw [up_o a, up_o b]; exact e⟩
  · by_cases a : v = h i
    · subst a; rw [up_s]; omega
    · rw [up_o a]
      by_cases b : v = h 0
      · subst b; rw [up_s]; omega
      · rw [up_o b]; exact H.2.2 v h1 h2
/-- what siftUp (and siftDown) leaves -/
theorem su_ok {D h h2 : Nat → Nat} {Q Q2 : Nat → Int} {hs i : Nat} (H : Cons h Q hs) (hi : i < hs) (h0 : 0 < i) (ord : ∀ j, 0 < j → j < hs → j ≠ i → D (h 0) ≤ D (h j))
    (rel : (D (h 0) ≤ D (h i) ∧ h2 = up h i (h i) ∧ Q2 = up Q (h i) (i : Int)) ∨ (D (h i) < D (h 0) ∧ h2 = up (up h i (h 0)) 0 (h i) ∧ Q2 = up (up Q (h 0) (i : Int)) (h i) 0)) : HOk D h2 Q2 hs ∧ ∀ v, 1 ≤ v → v ≤ 4 → (0 ≤ Q2 v ↔ 0 ≤ Q v) := by
  rcases rel with ⟨a, rfl, rfl⟩ | ⟨a, rfl, rfl⟩
  · rw [up_id rfl, up_id (H.1 i hi).2.2]
    refine ⟨⟨H, fun j j0 j1 => ?_⟩, fun _ _ _ => Iff.rfl⟩
    by_cases b : j = i
    · subst b; exact a
    · exact ord j j0 j1 b
  · obtain ⟨C, f⟩ := H.swap hi h0
    refine ⟨⟨C, fun j j0 j1 => ?_⟩, f⟩
    rw [up_s, up_o (by omega : j ≠ 0)]
    by_cases b : j = i
    · subst b; rw [up_s]; omega
    · rw [up_o b]; have := ord j j0 j1 b; omega
theorem su0_ok {D h h2 : Nat → Nat} {Q Q2 : Nat → Int} {hs : Nat} (H : Cons h Q hs) (hi : 0 < hs) (ord : ∀ j, 0 < j → j < hs → D (h 0) ≤ D (h j)) (rel : h2 = up h 0 (h 0) ∧ Q2 = up Q (h 0) 0) : HOk D h2 Q2 hs ∧ ∀ v, 1 ≤ v → v ≤ 4 → (0 ≤ Q2 v ↔ 0 ≤ Q v) := by
  obtain ⟨rfl, rfl⟩ := rel
  rw [up_id rfl, up_id (show Q (h 0) = 0 from (H.1 0 hi).2.2)]
  exact ⟨⟨H, ord⟩, fun _ _ _ => Iff.rfl⟩
theorem Cons.push {h : Nat → Nat} {Q : Nat → Int} {hs nd : Nat} (H : Cons h Q hs) (n1 : 1 ≤ nd) (n2 : nd ≤ 4) (hn : Q nd < 0) : Cons (up h hs nd) (up Q nd (hs : Int)) (hs + 1) ∧ ∀ v, 1 ≤ v → v ≤ 4 → (0 ≤ up Q nd (hs : Int) v ↔ 0 ≤ Q v ∨ v = nd) := by
  have iff : ∀ v, 1 ≤ v → v ≤ 4 → (0 ≤ up Q nd (hs : Int) v ↔ 0 ≤ Q v ∨ v = nd) := fun v _ _ => by
    by_cases a : v = nd
    · subst a; rw [up_s]; omega
    · rw [up_o a]; omega
  refine ⟨⟨fun j hj => ?_, fun v h1 h2 hv => ?_, fun v h1 h2 => ?_⟩, iff⟩
  · by_cases a : j = hs
    · subst a; rw [up_s, up_s]; exact ⟨n1, n2, rfl⟩
    · rw [up_o a]
      have z := H.1 j (by omega)
      have : h j ≠ nd := fun q => by rw [q] at z; omega
      rw [up_o this]; exact z
  · rcases (iff v h1 h2).mp hv with q | q
    · obtain ⟨j, hj, e⟩ := H.2.1 v h1 h2 q
      exact ⟨j, by omega, by rw [up_o (by omega)]; exact e⟩
    · exact ⟨hs, by omega, by rw [up_s]; exact q.symm⟩
  · by_cases a : v = nd
    · subst a; rw [up_s]; omega
    · rw [up_o a]; exact H.2.2 v h1 h2
theorem Cons.drop1 {h : Nat → Nat} {Q : Nat → Int} (H : Cons h Q 1) : Cons h (up Q (h 0) (-1)) 0 ∧ ∀ v, 1 ≤ v → v ≤ 4 → (0 ≤ up Q (h 0) (-1) v ↔ 0 ≤ Q v ∧ v ≠ h 0) := by
  have iff : ∀ v, 1 ≤ v → v ≤ 4 → (0 ≤ up Q (h 0) (-1) v ↔ 0 ≤ Q v ∧ v ≠ h 0) := fun v _ _ => by
    by_cases a : v = h 0
    · subst a; rw [up_s]; omega
    · rw [up_o a]; omega
  refine ⟨⟨fun j hj => by omega, fun v h1 h2 hv => ?_, fun v h1 h2 => ?_⟩, iff⟩
  · obtain ⟨a, b⟩ := (iff v h1 h2).mp hv
    obtain ⟨j, hj, e⟩ := H.2.1 v h1 h2 a
    have : j = 0 := by omega
    subst this; exact absurd e.symm b
  · by_cases a : v = h 0
    · subst a; rw [up_s]; omega
    · rw [up_o a]; exact H.2.2 v h1 h2
theorem Cons.drop {h : Nat → Nat} {Q : Nat → Int} {n : Nat} (H : Cons h Q (n + 1)) (hn : 0 < n) : Cons (up h 0 (h n)) (up (up Q (h 0) (-1)) (h n) 0) n ∧ ∀ v, 1 ≤ v → v ≤ 4 → (0 ≤ up (up Q (h 0) (-1)) (h n) 0 v ↔ 0 ≤ Q v ∧ v ≠ h 0) := by
  have ne : h n ≠ h 0 := fun q => by have := H.inj (by omega) (by omega) q; omega
  have qn := (H.1 n (by omega)).2.2
  have iff : ∀ v, 1 ≤ v → v ≤ 4 → (0 ≤ up (up Q (h 0) (-1)) (h n) 0 v ↔ 0 ≤ Q v ∧ v ≠ h 0) := fun v _ _ => by
    by_cases a : v = h n
    · subst a; rw [up_s]; exact ⟨fun _ => ⟨by omega, ne⟩, fun _ => by omega⟩
    · rw [up_o a]
      by_cases b : v = h 0
      · subst b; rw [up_s]; omega
      · rw [up_o b]; omega
  refine ⟨⟨fun j hj => ?_, fun v h1 h2 hv => ?_, fun v h1 h2 => ?_⟩, iff⟩
  · by_cases a : j = 0
    · subst a; rw [up_s, up_s]; exact ⟨(H.1 n (by omega)).1, (H.1 n (by omega)).2.1, rfl⟩
    · rw [up_o a]
      have n1 : h j ≠ h n := fun q => by have := H.inj (by omega) (by omega) q; omega
      have n2 : h j ≠ h 0 := fun q => a (H.inj (by omega) (by omega) q)
      rw [up_o n1, up_o n2]; exact H.1 j (by omega)
  · obtain ⟨a, b⟩ := (iff v h1 h2).mp hv
    obtain ⟨j, hj, e⟩ := H.2.1 v h1 h2 a
    by_cases q : j = n
    · subst q; exact ⟨0, hn, by rw [up_s]; exact e⟩
    · exact ⟨j, by omega, by rw [up_o (fun z => by subst z; exact b e.symm)]; exact e⟩
  · by_cases a : v = h n
    · subst a; rw [up_s]; omega
    · rw [up_o a]
      by_cases b : v = h 0
      · subst b; rw [up_s]; omega
      · rw [up_o b]; exact H.2.2 v h1 h2
theorem push_ok {D h h2 : Nat → Nat} {Q Q2 : Nat → Int} {hs nd : Nat} (H : HOk D h Q hs) (n1 : 1 ≤ nd) (n2 : nd ≤ 4) (hn : Q nd < 0) (h3 : hs ≤ 2)
    (rel : (hs = 0 ∧ h2 = up (up h 0 nd) 0 (up h 0 nd 0) ∧ Q2 = up (up Q nd 0) (up h 0 nd 0) 0) ∨ (0 < hs ∧ ((D (up h hs nd 0) ≤ D (up h hs nd hs) ∧ h2 = up (up h hs nd) hs (up h hs nd hs) ∧ Q2 = up (up Q nd (hs : Int)) (up h hs nd hs) (hs : Int)) ∨ (D (up h hs nd hs) < D (up h hs nd 0) ∧ h2 = up (up (up h hs nd) hs (up h hs nd 0)) 0 (up h hs nd hs) ∧ Q2 = up (up (up Q nd (hs : Int)) (up h hs nd 0) (hs : Int)) (up h hs nd hs) 0)))) :
    HOk D h2 Q2 (hs + 1) ∧ ∀ v, 1 ≤ v → v ≤ 4 → (0 ≤ Q2 v ↔ 0 ≤ Q v ∨ v = nd) := by
  obtain ⟨C, f⟩ := H.1.push n1 n2 hn
  rcases rel with ⟨rfl, rel⟩ | ⟨h0, rel⟩
  · obtain ⟨a, b⟩ := su0_ok (D := D) C (by omega) (fun j j0 j1 => by omega) rel
    exact ⟨a, fun v h1 h2 => (b v h1 h2).trans (f v h1 h2)⟩
  · obtain ⟨a, b⟩ := su_ok (D := D) (i := hs) C (by omega) h0 (fun j j0 j1 j2 => by rw [up_o (by omega : (0 : Nat) ≠ hs), up_o j2]; exact H.2 j j0 (by omega)) rel
    exact ⟨a, fun v h1 h2 => (b v h1 h2).trans (f v h1 h2)⟩
theorem dec_ok {D h h2 : Nat → Nat} {Q Q2 : Nat → Int} {hs i t : Nat} (H : HOk D h Q hs) (hi : i < hs) (ht : t ≤ D (h i))
    (rel : (i = 0 ∧ h2 = up h 0 (h 0) ∧ Q2 = up Q (h 0) 0) ∨ (0 < i ∧ ((up D (h i) t (h 0) ≤ up D (h i) t (h i) ∧ h2 = up h i (h i) ∧ Q2 = up Q (h i) (i : Int)) ∨ (up D (h i) t (h i) < up D (h i) t (h 0) ∧ h2 = up (up h i (h 0)) 0 (h i) ∧ Q2 = up (up Q (h 0) (i : Int)) (h i) 0)))) :
    HOk (up D (h i) t) h2 Q2 hs ∧ ∀ v, 1 ≤ v → v ≤ 4 → (0 ≤ Q2 v ↔ 0 ≤ Q v) := by
  rcases rel with ⟨rfl, rel⟩ | ⟨h0, rel⟩
  · refine su0_ok H.1 hi (fun j j0 j1 => ?_) rel
    have : h j ≠ h 0 := fun q => by have := H.1.inj j1 hi q; omega
    rw [up_s, up_o this]; have := H.2 j j0 j1; omega
  · refine su_ok H.1 hi h0 (fun j j0 j1 j2 => ?_) rel
    have a : h j ≠ h i := fun q => j2 (H.1.inj j1 hi q)
    have b : h 0 ≠ h i := fun q => by have := H.1.inj (by omega) hi q; omega
    rw [up_o a, up_o b]; exact H.2 j j0 j1
theorem pop1_ok {D h h2 : Nat → Nat} {Q Q2 : Nat → Int} (H : HOk D h Q 1) (rel : h2 = h ∧ Q2 = up Q (h 0) (-1)) : HOk D h2 Q2 0 ∧ ∀ v, 1 ≤ v → v ≤ 4 → (0 ≤ Q2 v ↔ 0 ≤ Q v ∧ v ≠ h 0) := by
  obtain ⟨rfl, rfl⟩ := rel
  obtain ⟨C, f⟩ := H.1.drop1
  exact ⟨⟨C, fun i a b => by omega⟩, f⟩
theorem pop2_ok {D h h2 : Nat → Nat} {Q Q2 : Nat → Int} (H : HOk D h Q 2) (rel : h2 = up (up h 0 (h 1)) 0 (up h 0 (h 1) 0) ∧ Q2 = up (up (up Q (h 0) (-1)) (h 1) 0) (up h 0 (h 1) 0) 0) : HOk D h2 Q2 1 ∧ ∀ v, 1 ≤ v → v ≤ 4 → (0 ≤ Q2 v ↔ 0 ≤ Q v ∧ v ≠ h 0) := by
  obtain ⟨C, f⟩ := H.1.drop (n := 1) (by omega)
  obtain ⟨a, b⟩ := su0_ok (D := D) C (by omega) (fun j j0 j1 => by omega) rel
  exact ⟨a, fun v h1 h2 => (b v h1 h2).trans (f v h1 h2)⟩
theorem pop3_ok {D h h2 : Nat → Nat} {Q Q2 : Nat → Int} (H : HOk D h Q 3)
    (rel : (D (up h 0 (h 2) 0) ≤ D (up h 0 (h 2) 1) ∧ h2 = up (up h 0 (h 2)) 0 (up h 0 (h 2) 0) ∧ Q2 = up (up (up Q (h 0) (-1)) (h 2) 0) (up h 0 (h 2) 0) 0) ∨ (D (up h 0 (h 2) 1) < D (up h 0 (h 2) 0) ∧ h2 = up (up (up h 0 (h 2)) 0 (up h 0 (h 2) 1)) 1 (up h 0 (h 2) 0) ∧ Q2 = up (up (up (up Q (h 0) (-1)) (h 2) 0) (up h 0 (h 2) 1) 0) (up h 0 (h 2) 0) 1)) :
    HOk D h2 Q2 2 ∧ ∀ v, 1 ≤ v → v ≤ 4 → (0 ≤ Q2 v ↔ 0 ≤ Q v ∧ v ≠ h 0) := by
  obtain ⟨C, f⟩ := H.1.drop (n := 2) (by omega)
  generalize up h 0 (h 2) = g at *
  generalize up (up Q (h 0) (-1)) (h 2) 0 = P at *
  rcases rel with ⟨r1, r2⟩ | ⟨r1, r2, r3⟩
  · obtain ⟨a, b⟩ := su0_ok (D := D) C (by omega) (fun j j0 j1 => by rw [show j = 1 by omega]; exact r1) r2
    exact ⟨a, fun v h1 h2 => (b v h1 h2).trans (f v h1 h2)⟩
  · have ne : g 1 ≠ g 0 := fun q => by have := C.inj (by omega) (by omega) q; omega
    obtain ⟨a, b⟩ := su_ok (D := D) (h2 := h2) (Q2 := Q2) (i := 1) C (by omega) (by omega) (fun j j0 j1 j2 => by omega) (Or.inr ⟨r1, by rw [r2, up_comm (by omega)], by rw [r3, up_comm ne]; rfl⟩)
    exact ⟨a, fun v h1 h2 => (b v h1 h2).trans (f v h1 h2)⟩
def cntQ (Q : Nat → Int) : Nat := (if 0 ≤ Q 1 then 1 else 0) + (if 0 ≤ Q 2 then 1 else 0) + (if 0 ≤ Q 3 then 1 else 0) + (if 0 ≤ Q 4 then 1 else 0)
def cntS (S : Nat → Bool) : Nat := (if S 1 = true then 1 else 0) + (if S 2 = true then 1 else 0) + (if S 3 = true then 1 else 0) + (if S 4 = true then 1 else 0)
theorem cntQ_add {Q Q2 : Nat → Int} {nd : Nat} (n1 : 1 ≤ nd) (n2 : nd ≤ 4) (hq : Q nd < 0) (f : ∀ v, 1 ≤ v → v ≤ 4 → (0 ≤ Q2 v ↔ 0 ≤ Q v ∨ v = nd)) : cntQ Q2 = cntQ Q + 1 := by
  unfold cntQ
  have f1 := f 1 (by omega) (by omega); have f2 := f 2 (by omega) (by omega); have f3 := f 3 (by omega) (by omega); have f4 := f 4 (by omega) (by omega)
  have hn : nd = 1 ∨ nd = 2 ∨ nd = 3 ∨ nd = 4 := by omega
  rcases hn with rfl | rfl | rfl | rfl <;> simp only [f1, f2, f3, f4] <;> simp [Int.not_le.mpr hq] <;> omega
theorem cntQ_sub {Q Q2 : Nat → Int} {nd : Nat} (n1 : 1 ≤ nd) (n2 : nd ≤ 4) (hq : 0 ≤ Q nd) (f : ∀ v, 1 ≤ v → v ≤ 4 → (0 ≤ Q2 v ↔ 0 ≤ Q v ∧ v ≠ nd)) : cntQ Q2 + 1 = cntQ Q := by
  unfold cntQ
  have f1 := f 1 (by omega) (by omega); have f2 := f 2 (by omega) (by omega); have f3 := f 3 (by omega) (by omega); have f4 := f 4 (by omega) (by omega)
  have hn : nd = 1 ∨ nd = 2 ∨ nd = 3 ∨ nd = 4 := by omega
  rcases hn with rfl | rfl | rfl | rfl <;> simp only [f1, f2, f3, f4] <;> simp [hq] <;> omega
theorem cntQ_eq {Q Q2 : Nat → Int} (f : ∀ v, 1 ≤ v → v ≤ 4 → (0 ≤ Q2 v ↔ 0 ≤ Q v)) : cntQ Q2 = cntQ Q := by
  unfold cntQ
  simp only [f 1 (by omega) (by omega), f 2 (by omega) (by omega), f 3 (by omega) (by omega), f 4 (by omega) (by omega)]
theorem cntS_add {S : Nat → Bool} {nd : Nat} (n1 : 1 ≤ nd) (n2 : nd ≤ 4) (hs : S nd = false) : cntS (up S nd true) = cntS S + 1 := by
  unfold cntS
  have hn : nd = 1 ∨ nd = 2 ∨ nd = 3 ∨ nd = 4 := by omega
  rcases hn with rfl | rfl | rfl | rfl <;> simp [up, hs] <;> omega
theorem cnt_le {Q : Nat → Int} {S : Nat → Bool} (f : ∀ v, 1 ≤ v → v ≤ 4 → 0 ≤ Q v → S v = false) : cntQ Q + cntS S ≤ 4 := by
  unfold cntQ cntS
  have g : ∀ v, 1 ≤ v → v ≤ 4 → (if 0 ≤ Q v then 1 else 0) + (if S v = true then 1 else 0) ≤ 1 := fun v a b => by
    by_cases q : 0 ≤ Q v
    · rw [if_pos q, f v a b q]; decide
    · rw [if_neg q]; split <;> omega
  have g1 := g 1 (by omega) (by omega); have g2 := g 2 (by omega) (by omega); have g3 := g 3 (by omega) (by omega); have g4 := g 4 (by omega) (by omega)
  omega


def Arcs (T Hd tm : Nat → Nat) : Prop := ∀ a, a < 4 → 1 ≤ T a ∧ T a ≤ 4 ∧ 1 ≤ Hd a ∧ Hd a ≤ 4 ∧ tm a ≤ 7
def Rt1 (og ft : Nat) (T Hd tm : Nat → Nat) (S : Nat → Bool) (D : Nat → Nat) (P : Nat → Int) (R : Nat → Nat) (v : Nat) : Prop := (v = og ∧ P v = -1 ∧ D v = 0 ∧ R v = 0) ∨ (v ≠ og ∧ ∃ a : Nat, a < 4 ∧ P v = (a : Int) ∧ Hd a = v ∧ S (T a) = true ∧ (T a = og ∨ ft ≤ T a) ∧ D v = D (T a) + tm a ∧ R v = R (T a) + 1)
def Inv (og ft : Nat) (T Hd tm : Nat → Nat) (k : Nat) (S : Nat → Bool) (D : Nat → Nat) (P : Nat → Int) (h : Nat → Nat) (Q : Nat → Int) (hs : Nat) (R : Nat → Nat) : Prop := HOk D h Q hs ∧ hs = cntQ Q ∧ k = cntS S ∧ (∀ v, 1 ≤ v → v ≤ 4 → 0 ≤ Q v → S v = false ∧ D v < 1000) ∧ (∀ v, 1 ≤ v → v ≤ 4 → D v < 1000 → S v = true ∨ 0 ≤ Q v) ∧ (∀ u v, 1 ≤ u → u ≤ 4 → 1 ≤ v → v ≤ 4 → S u = true → 0 ≤ Q v → D u ≤ D v) ∧ (∀ v, 1 ≤ v → v ≤ 4 → D v < 1000 → Rt1 og ft T Hd tm S D P R v) ∧ (∀ v, 1 ≤ v → v ≤ 4 → S v = true → R v + 1 ≤ k) ∧ (∀ v, 1 ≤ v → v ≤ 4 → 0 ≤ Q v → R v ≤ k) ∧ (∀ v, 1 ≤ v → v ≤ 4 → D v < 1000 → D v ≤ 7 * R v) ∧ (∀ v, 1 ≤ v → v ≤ 4 → D v ≤ 1000) ∧ D og = 0
def JInv (og ft : Nat) (T Hd tm : Nat → Nat) (k : Nat) (S : Nat → Bool) (D : Nat → Nat) (P : Nat → Int) (h : Nat → Nat) (Q : Nat → Int) (hs : Nat) (R : Nat → Nat) (nd : Nat) : Prop := Inv og ft T Hd tm k S D P h Q hs R ∧ 1 ≤ nd ∧ nd ≤ 4 ∧ S nd = true ∧ D nd < 1000 ∧ (nd = og ∨ ft ≤ nd) ∧ ∀ u, 1 ≤ u → u ≤ 4 → S u = true → D u ≤ D nd
theorem inv_pop {og ft k hs : Nat} {T Hd tm D h h2 R : Nat → Nat} {S : Nat → Bool} {P Q Q2 : Nat → Int} (I : Inv og ft T Hd tm k S D P h Q hs R) (h0 : 0 < hs) (H2 : HOk D h2 Q2 (hs - 1)) (f : ∀ v, 1 ≤ v → v ≤ 4 → (0 ≤ Q2 v ↔ 0 ≤ Q v ∧ v ≠ h 0)) :
    Inv og ft T Hd tm (k + 1) (up S (h 0) true) D P h2 Q2 (hs - 1) R ∧ 1 ≤ h 0 ∧ h 0 ≤ 4 ∧ D (h 0) < 1000 ∧ (∀ u, 1 ≤ u → u ≤ 4 → up S (h 0) true u = true → D u ≤ D (h 0)) := by
  obtain ⟨H, e1, e2, i4, i5, i6, i7, i8, i9, i10, i11, i12⟩ := I
  obtain ⟨a1, a2, a3⟩ := H.1.1 0 h0
  have q0 : 0 ≤ Q (h 0) := by omega
  obtain ⟨sf, fin⟩ := i4 _ a1 a2 q0
  have su : ∀ v, S v = true → up S (h 0) true v = true := fun v hv => by
    by_cases q : v = h 0
    · subst q; exact up_s
    · rw [up_o q]; exact hv
  refine ⟨⟨H2, ?_, ?_, fun v v1 v2 hv => ?_, fun v v1 v2 hv => ?_, fun u v u1 u2 v1 v2 hu hv => ?_, fun v v1 v2 hv => ?_, fun v v1 v2 hv => ?_, fun v v1 v2 hv => ?_, i10, i11, i12⟩, a1, a2, fin, fun u u1 u2 hu => ?_⟩
  · have := cntQ_sub a1 a2 q0 f; omega
  · rw [cntS_add a1 a2 sf, ← e2]
  · obtain ⟨b1, b2⟩ := (f v v1 v2).mp hv
    rw [up_o b2]; exact i4 v v1 v2 b1
  · by_cases q : v = h 0
    · subst q; exact Or.inl up_s
    · rcases i5 v v1 v2 hv with b | b
      · exact Or.inl (su v b)
      · exact Or.inr ((f v v1 v2).mpr ⟨b, q⟩)
  · obtain ⟨b1, b2⟩ := (f v v1 v2).mp hv
    by_cases q : u = h 0
    · subst q
      obtain ⟨i, hi, e⟩ := H.1.2.1 v v1 v2 b1
      have : 0 < i := Nat.pos_of_ne_zero fun z => by subst z; exact b2 e.symm
      rw [← e]; exact H.2 i this hi
    · rw [up_o q] at hu; exact i6 u v u1 u2 v1 v2 hu b1
  · rcases i7 v v1 v2 hv with b | ⟨b1, a, b2, b3, b4, b5, b6⟩
    · exact Or.inl b
    · exact Or.inr ⟨b1, a, b2, b3, b4, su _ b5, b6⟩
  · by_cases q : v = h 0
    · subst q; have := i9 _ a1 a2 q0; omega
    · rw [up_o q] at hv; have := i8 v v1 v2 hv; omega
  · have := i9 v v1 v2 ((f v v1 v2).mp hv).1; omega
  · by_cases q : u = h 0
    · subst q; exact Nat.le_refl _
    · rw [up_o q] at hu; exact i6 u _ u1 u2 a1 a2 hu q0
theorem inv_relax {og ft k hs hs2 nd a : Nat} {T Hd tm D h h2 R : Nat → Nat} {S : Nat → Bool} {P Q Q2 : Nat → Int} (I : JInv og ft T Hd tm k S D P h Q hs R nd) (ha : Arcs T Hd tm) (hA : a < 4) (hT : T a = nd) (lt : D nd + tm a < D (Hd a)) (H2 : HOk (up D (Hd a) (D nd + tm a)) h2 Q2 hs2) (hc : hs2 = cntQ Q2) (f : ∀ v, 1 ≤ v → v ≤ 4 → (0 ≤ Q2 v ↔ 0 ≤ Q v ∨ v = Hd a)) :
    JInv og ft T Hd tm k S (up D (Hd a) (D nd + tm a)) (up P (Hd a) (a : Int)) h2 Q2 hs2 (up R (Hd a) (R nd + 1)) nd := by
  obtain ⟨⟨H, e1, e2, i4, i5, i6, i7, i8, i9, i10, i11, i12⟩, n1, n2, n3, n4, n5, n6⟩ := I
  obtain ⟨-, -, d1, d2, d3⟩ := ha a hA
  have sf : S (Hd a) = false := by
    cases q : S (Hd a) with
    | false => rfl
    | true => have := n6 _ d1 d2 q; omega
  have so : ∀ u, S u = true → u ≠ Hd a := fun u hu q => by rw [q, sf] at hu; cases hu
  have hog : Hd a ≠ og := fun q => by rw [q, i12] at lt; omega
  have rn := i8 nd n1 n2 n3
  have dn := i10 nd n1 n2 n4
  have kc := i11 _ d1 d2
  have dx : ∀ v, 1 ≤ v → v ≤ 4 → up D (Hd a) (D nd + tm a) v < 1000 → v ≠ Hd a → D v < 1000 := fun v _ _ hv q => by rw [up_o q] at hv; exact hv
  refine ⟨⟨H2, hc, e2, fun v v1 v2 hv => ?_, fun v v1 v2 hv => ?_, fun u v u1 u2 v1 v2 hu hv => ?_, fun v v1 v2 hv => ?_, fun v v1 v2 hv => by rw [up_o (so v hv)]; exact i8 v v1 v2 hv, fun v v1 v2 hv => ?_, fun v v1 v2 hv => ?_, fun v v1 v2 => ?_, ?_⟩, n1, n2, n3, by rw [up_o (so nd n3)]; exact n4, n5, fun u u1 u2 hu => ?_⟩
  · by_cases q : v = Hd a
    · subst q; rw [up_s]; exact ⟨sf, by omega⟩
    · rw [up_o q]; rcases (f v v1 v2).mp hv with b | b
      · exact i4 v v1 v2 b
      · exact absurd b q
  · by_cases q : v = Hd a
    · exact Or.inr ((f v v1 v2).mpr (Or.inr q))
    · rcases i5 v v1 v2 (dx v v1 v2 hv q) with b | b
      · exact Or.inl b
      · exact Or.inr ((f v v1 v2).mpr (Or.inl b))
  · rw [up_o (so u hu)]
    by_cases q : v = Hd a
    · subst q; rw [up_s]; have := n6 u u1 u2 hu; omega
    · rw [up_o q]; rcases (f v v1 v2).mp hv with b | b
      · exact i6 u v u1 u2 v1 v2 hu b
      · exact absurd b q
  · by_cases q : v = Hd a
    · subst q
      refine Or.inr ⟨hog, a, hA, up_s, rfl, by rw [hT]; exact n3, by rw [hT]; exact n5, ?_, ?_⟩
      · rw [up_s, hT, up_o (so nd n3)]
      · rw [up_s, hT, up_o (so nd n3)]
    · rcases i7 v v1 v2 (dx v v1 v2 hv q) with ⟨b1, b2, b3, b4⟩ | ⟨b1, a', b2, b3, b4, b5, b6, b7, b8⟩
      · exact Or.inl ⟨b1, by rw [up_o q]; exact b2, by rw [up_o q]; exact b3, by rw [up_o q]; exact b4⟩
      · exact Or.inr ⟨b1, a', b2, by rw [up_o q]; exact b3, b4, b5, b6, by rw [up_o q, up_o (so _ b5)]; exact b7, by rw [up_o q, up_o (so _ b5)]; exact b8⟩
  · by_cases q : v = Hd a
    · subst q; rw [up_s]; omega
    · rw [up_o q]; rcases (f v v1 v2).mp hv with b | b
      · exact i9 v v1 v2 b
      · exact absurd b q
  · by_cases q : v = Hd a
    · subst q; rw [up_s, up_s]; omega
    · rw [up_o q, up_o q]; exact i10 v v1 v2 (dx v v1 v2 hv q)
  · by_cases q : v = Hd a
    · subst q; rw [up_s]; omega
    · rw [up_o q]; exact i11 v v1 v2
  · rw [up_o (fun z => hog z.symm)]; exact i12
  · rw [up_o (so u hu), up_o (so nd n3)]; exact n6 u u1 u2 hu

theorem inv_hs {og ft k hs : Nat} {T Hd tm D h R : Nat → Nat} {S : Nat → Bool} {P Q : Nat → Int} (I : Inv og ft T Hd tm k S D P h Q hs R) : hs + k ≤ 4 := by
  rw [I.2.1, I.2.2.1]; exact cnt_le (fun v a b q => (I.2.2.2.1 v a b q).1)
/-- a node that is not in the heap and not settled: the heap has room -/
theorem inv_room {og ft k hs nd hd : Nat} {T Hd tm D h R : Nat → Nat} {S : Nat → Bool} {P Q : Nat → Int} (I : Inv og ft T Hd tm k S D P h Q hs R) (n1 : 1 ≤ nd) (n2 : nd ≤ 4) (hn : S nd = true) (d1 : 1 ≤ hd) (d2 : hd ≤ 4) (hq : Q hd < 0) (hS : S hd = false) : hs ≤ 2 := by
  have a := cntS_add d1 d2 hS
  have b := cnt_le (Q := Q) (S := up S hd true) (fun v v1 v2 q => by
    by_cases z : v = hd
    · subst z; omega
    · rw [up_o z]; exact (I.2.2.2.1 v v1 v2 q).1)
  have c : 1 ≤ cntS S := by
    unfold cntS
    have hx : nd = 1 ∨ nd = 2 ∨ nd = 3 ∨ nd = 4 := by omega
    rcases hx with rfl | rfl | rfl | rfl <;> rw [if_pos hn] <;> omega
  have := I.2.1
  omega

theorem c_ftn (l : Launch) (Z : State) (a0 : Array Value) (hw : ∀ d ∈ tables_1, d.before a0 Z = true) (n0 : Nat) (nt tlA hdA caA ffA bsA pwA foA oaA : Addr) (ftI : Int32)  (h0 : Heap) (F : List HRow) (H00 : Hp Z n0 h0 ((nt, ObC Z "com/example/lanewright/lanewright/Network" (fs_Network (.int (4 : Int32)) (.int ftI) (.ref tlA) (.ref hdA) (.ref caA) (.ref ffA) (.ref bsA) (.ref pwA) (.ref foA) (.ref oaA))) :: F)) :
    Con l Z n0 ⟨"com/example/lanewright/lanewright/Network", "firstThruNode", "()I"⟩ [] prog_29_method_3_code 1 (some .int) ({ frames := 0, cells := 0, slots := 0, locals := 0 } : Room) #[.ref nt] h0 (fun v h => v = some (.int ftI) ∧ Hp Z n0 h ((nt, ObC Z "com/example/lanewright/lanewright/Network" (fs_Network (.int (4 : Int32)) (.int ftI) (.ref tlA) (.ref hdA) (.ref caA) (.ref ffA) (.ref bsA) (.ref pwA) (.ref foA) (.ref oaA))) :: F)) := by
  refine con_of (plainFor_of_name pn_Network) ?_
  intro p e s m below meth c T0 W0 e0
  subst e0
  have H0 := H00
  refine g_cast (ef_r1 m nt) ?_
  refine g_aloadN W0 d39_0 (pc' := 1) rfl rfl rfl ?_
  refine g_getf W0 (wd_100 hw) Via.refl H0 (i := 0) rfl (jx := 1) rfl d39_1 (pc' := 4) rfl ?_
  intro T1 W1 H1
  exact g_ireturn W1 d39_4 ⟨rfl, H1⟩ (by decide) (by decide)
theorem c_ncnt (l : Launch) (Z : State) (a0 : Array Value) (hw : ∀ d ∈ tables_1, d.before a0 Z = true) (n0 : Nat) (nt tlA hdA caA ffA bsA pwA foA oaA : Addr) (ftI : Int32)  (h0 : Heap) (F : List HRow) (H00 : Hp Z n0 h0 ((nt, ObC Z "com/example/lanewright/lanewright/Network" (fs_Network (.int (4 : Int32)) (.int ftI) (.ref tlA) (.ref hdA) (.ref caA) (.ref ffA) (.ref bsA) (.ref pwA) (.ref foA) (.ref oaA))) :: F)) :
    Con l Z n0 ⟨"com/example/lanewright/lanewright/Network", "nodeCount", "()I"⟩ [] prog_29_method_2_code 1 (some .int) ({ frames := 0, cells := 0, slots := 0, locals := 0 } : Room) #[.ref nt] h0 (fun v h => v = some (.int 4) ∧ Hp Z n0 h ((nt, ObC Z "com/example/lanewright/lanewright/Network" (fs_Network (.int (4 : Int32)) (.int ftI) (.ref tlA) (.ref hdA) (.ref caA) (.ref ffA) (.ref bsA) (.ref pwA) (.ref foA) (.ref oaA))) :: F)) := by
  refine con_of (plainFor_of_name pn_Network) ?_
  intro p e s m below meth c T0 W0 e0
  subst e0
  have H0 := H00
  refine g_cast (ef_r1 m nt) ?_
  refine g_aloadN W0 d27_0 (pc' := 1) rfl rfl rfl ?_
  refine g_getf W0 (wd_98 hw) Via.refl H0 (i := 0) rfl (jx := 0) rfl d27_1 (pc' := 4) rfl ?_
  intro T1 W1 H1
  exact g_ireturn W1 d27_4 ⟨rfl, H1⟩ (by decide) (by decide)
theorem c_fout (l : Launch) (Z : State) (a0 : Array Value) (hw : ∀ d ∈ tables_1, d.before a0 Z = true) (n0 : Nat) (nt tlA hdA caA ffA bsA pwA foA oaA : Addr) (ftI : Int32) (xs : List Int32) (kk : Int32) (i0 : Nat) (hk : kk.toInt = (i0 : Int)) (x : Int32) (hx : xs[i0]? = some x) (h0 : Heap) (F : List HRow) (H00 : Hp Z n0 h0 ((nt, ObC Z "com/example/lanewright/lanewright/Network" (fs_Network (.int (4 : Int32)) (.int ftI) (.ref tlA) (.ref hdA) (.ref caA) (.ref ffA) (.ref bsA) (.ref pwA) (.ref foA) (.ref oaA))) :: (foA, IaC Z xs) :: F)) :
    Con l Z n0 ⟨"com/example/lanewright/lanewright/Network", "firstOut", "(I)I"⟩ [] prog_29_method_8_code 2 (some .int) ({ frames := 0, cells := 0, slots := 0, locals := 0 } : Room) #[.ref nt, .int kk] h0 (fun v h => v = some (.int x) ∧ Hp Z n0 h ((nt, ObC Z "com/example/lanewright/lanewright/Network" (fs_Network (.int (4 : Int32)) (.int ftI) (.ref tlA) (.ref hdA) (.ref caA) (.ref ffA) (.ref bsA) (.ref pwA) (.ref foA) (.ref oaA))) :: (foA, IaC Z xs) :: F)) := by
  refine con_of (plainFor_of_name pn_Network) ?_
  intro p e s m below meth c T0 W0 e0
  subst e0
  have H0 := H00
  refine g_cast (ef_ri2 m nt kk) ?_
  refine g_aloadN W0 d34_0 (pc' := 1) rfl rfl rfl ?_
  refine g_getf W0 (wd_123 hw) Via.refl H0 (i := 0) rfl (jx := 8) rfl d34_1 (pc' := 4) rfl ?_
  intro T1 W1 H1
  refine g_iloadN W1 d34_4 (pc' := 5) rfl rfl ?_
  refine g_ialoadI W1 H1 (i := 1) rfl (jx := i0) hk (u := x) hx d34_5 (pc' := 6) rfl ?_
  exact g_ireturn W1 d34_6 ⟨rfl, H1⟩ (by decide) (by decide)
theorem c_eout (l : Launch) (Z : State) (a0 : Array Value) (hw : ∀ d ∈ tables_1, d.before a0 Z = true) (n0 : Nat) (nt tlA hdA caA ffA bsA pwA foA oaA : Addr) (ftI : Int32) (xs : List Int32) (kk : Int32) (i0 : Nat) (hk : kk.toInt = (i0 : Int)) (x : Int32) (hx : xs[i0 + 1]? = some x) (hb : i0 < 100) (h0 : Heap) (F : List HRow) (H00 : Hp Z n0 h0 ((nt, ObC Z "com/example/lanewright/lanewright/Network" (fs_Network (.int (4 : Int32)) (.int ftI) (.ref tlA) (.ref hdA) (.ref caA) (.ref ffA) (.ref bsA) (.ref pwA) (.ref foA) (.ref oaA))) :: (foA, IaC Z xs) :: F)) :
    Con l Z n0 ⟨"com/example/lanewright/lanewright/Network", "endOut", "(I)I"⟩ [] prog_29_method_9_code 2 (some .int) ({ frames := 0, cells := 0, slots := 0, locals := 0 } : Room) #[.ref nt, .int kk] h0 (fun v h => v = some (.int x) ∧ Hp Z n0 h ((nt, ObC Z "com/example/lanewright/lanewright/Network" (fs_Network (.int (4 : Int32)) (.int ftI) (.ref tlA) (.ref hdA) (.ref caA) (.ref ffA) (.ref bsA) (.ref pwA) (.ref foA) (.ref oaA))) :: (foA, IaC Z xs) :: F)) := by
  refine con_of (plainFor_of_name pn_Network) ?_
  intro p e s m below meth c T0 W0 e0
  subst e0
  have H0 := H00
  refine g_cast (ef_ri2 m nt kk) ?_
  refine g_aloadN W0 d35_0 (pc' := 1) rfl rfl rfl ?_
  refine g_getf W0 (wd_123 hw) Via.refl H0 (i := 0) rfl (jx := 8) rfl d35_1 (pc' := 4) rfl ?_
  intro T1 W1 H1
  refine g_iloadN W1 d35_4 (pc' := 5) rfl rfl ?_
  refine g_iconst W1 d35_5 (pc' := 6) rfl (v := (1 : Int32)) (by decide) ?_
  refine g_iadd W1 d35_6 (pc' := 7) rfl rfl ?_
  refine g_ialoadI W1 H1 (i := 1) rfl (jx := (i0 + 1)) (i_p1 hk (by omega)) (u := x) hx d35_7 (pc' := 8) rfl ?_
  exact g_ireturn W1 d35_8 ⟨rfl, H1⟩ (by decide) (by decide)
theorem c_oarc (l : Launch) (Z : State) (a0 : Array Value) (hw : ∀ d ∈ tables_1, d.before a0 Z = true) (n0 : Nat) (nt tlA hdA caA ffA bsA pwA foA oaA : Addr) (ftI : Int32) (xs : List Int32) (kk : Int32) (i0 : Nat) (hk : kk.toInt = (i0 : Int)) (x : Int32) (hx : xs[i0]? = some x) (h0 : Heap) (F : List HRow) (H00 : Hp Z n0 h0 ((nt, ObC Z "com/example/lanewright/lanewright/Network" (fs_Network (.int (4 : Int32)) (.int ftI) (.ref tlA) (.ref hdA) (.ref caA) (.ref ffA) (.ref bsA) (.ref pwA) (.ref foA) (.ref oaA))) :: (oaA, IaC Z xs) :: F)) :
    Con l Z n0 ⟨"com/example/lanewright/lanewright/Network", "outArc", "(I)I"⟩ [] prog_29_method_10_code 2 (some .int) ({ frames := 0, cells := 0, slots := 0, locals := 0 } : Room) #[.ref nt, .int kk] h0 (fun v h => v = some (.int x) ∧ Hp Z n0 h ((nt, ObC Z "com/example/lanewright/lanewright/Network" (fs_Network (.int (4 : Int32)) (.int ftI) (.ref tlA) (.ref hdA) (.ref caA) (.ref ffA) (.ref bsA) (.ref pwA) (.ref foA) (.ref oaA))) :: (oaA, IaC Z xs) :: F)) := by
  refine con_of (plainFor_of_name pn_Network) ?_
  intro p e s m below meth c T0 W0 e0
  subst e0
  have H0 := H00
  refine g_cast (ef_ri2 m nt kk) ?_
  refine g_aloadN W0 d37_0 (pc' := 1) rfl rfl rfl ?_
  refine g_getf W0 (wd_178 hw) Via.refl H0 (i := 0) rfl (jx := 9) rfl d37_1 (pc' := 4) rfl ?_
  intro T1 W1 H1
  refine g_iloadN W1 d37_4 (pc' := 5) rfl rfl ?_
  refine g_ialoadI W1 H1 (i := 1) rfl (jx := i0) hk (u := x) hx d37_5 (pc' := 6) rfl ?_
  exact g_ireturn W1 d37_6 ⟨rfl, H1⟩ (by decide) (by decide)
theorem c_nhead (l : Launch) (Z : State) (a0 : Array Value) (hw : ∀ d ∈ tables_1, d.before a0 Z = true) (n0 : Nat) (nt tlA hdA caA ffA bsA pwA foA oaA : Addr) (ftI : Int32) (xs : List Int32) (kk : Int32) (i0 : Nat) (hk : kk.toInt = (i0 : Int)) (x : Int32) (hx : xs[i0]? = some x) (h0 : Heap) (F : List HRow) (H00 : Hp Z n0 h0 ((nt, ObC Z "com/example/lanewright/lanewright/Network" (fs_Network (.int (4 : Int32)) (.int ftI) (.ref tlA) (.ref hdA) (.ref caA) (.ref ffA) (.ref bsA) (.ref pwA) (.ref foA) (.ref oaA))) :: (hdA, IaC Z xs) :: F)) :
    Con l Z n0 ⟨"com/example/lanewright/lanewright/Network", "head", "(I)I"⟩ [] prog_29_method_6_code 2 (some .int) ({ frames := 0, cells := 0, slots := 0, locals := 0 } : Room) #[.ref nt, .int kk] h0 (fun v h => v = some (.int x) ∧ Hp Z n0 h ((nt, ObC Z "com/example/lanewright/lanewright/Network" (fs_Network (.int (4 : Int32)) (.int ftI) (.ref tlA) (.ref hdA) (.ref caA) (.ref ffA) (.ref bsA) (.ref pwA) (.ref foA) (.ref oaA))) :: (hdA, IaC Z xs) :: F)) := by
  refine con_of (plainFor_of_name pn_Network) ?_
  intro p e s m below meth c T0 W0 e0
  subst e0
  have H0 := H00
  refine g_cast (ef_ri2 m nt kk) ?_
  refine g_aloadN W0 d38_0 (pc' := 1) rfl rfl rfl ?_
  refine g_getf W0 (wd_113 hw) Via.refl H0 (i := 0) rfl (jx := 3) rfl d38_1 (pc' := 4) rfl ?_
  intro T1 W1 H1
  refine g_iloadN W1 d38_4 (pc' := 5) rfl rfl ?_
  refine g_ialoadI W1 H1 (i := 1) rfl (jx := i0) hk (u := x) hx d38_5 (pc' := 6) rfl ?_
  exact g_ireturn W1 d38_6 ⟨rfl, H1⟩ (by decide) (by decide)
theorem c_ntail (l : Launch) (Z : State) (a0 : Array Value) (hw : ∀ d ∈ tables_1, d.before a0 Z = true) (n0 : Nat) (nt tlA hdA caA ffA bsA pwA foA oaA : Addr) (ftI : Int32) (xs : List Int32) (kk : Int32) (i0 : Nat) (hk : kk.toInt = (i0 : Int)) (x : Int32) (hx : xs[i0]? = some x) (h0 : Heap) (F : List HRow) (H00 : Hp Z n0 h0 ((nt, ObC Z "com/example/lanewright/lanewright/Network" (fs_Network (.int (4 : Int32)) (.int ftI) (.ref tlA) (.ref hdA) (.ref caA) (.ref ffA) (.ref bsA) (.ref pwA) (.ref foA) (.ref oaA))) :: (tlA, IaC Z xs) :: F)) :
    Con l Z n0 ⟨"com/example/lanewright/lanewright/Network", "tail", "(I)I"⟩ [] prog_29_method_5_code 2 (some .int) ({ frames := 0, cells := 0, slots := 0, locals := 0 } : Room) #[.ref nt, .int kk] h0 (fun v h => v = some (.int x) ∧ Hp Z n0 h ((nt, ObC Z "com/example/lanewright/lanewright/Network" (fs_Network (.int (4 : Int32)) (.int ftI) (.ref tlA) (.ref hdA) (.ref caA) (.ref ffA) (.ref bsA) (.ref pwA) (.ref foA) (.ref oaA))) :: (tlA, IaC Z xs) :: F)) := by
  refine con_of (plainFor_of_name pn_Network) ?_
  intro p e s m below meth c T0 W0 e0
  subst e0
  have H0 := H00
  refine g_cast (ef_ri2 m nt kk) ?_
  refine g_aloadN W0 d43_0 (pc' := 1) rfl rfl rfl ?_
  refine g_getf W0 (wd_111 hw) Via.refl H0 (i := 0) rfl (jx := 2) rfl d43_1 (pc' := 4) rfl ?_
  intro T1 W1 H1
  refine g_iloadN W1 d43_4 (pc' := 5) rfl rfl ?_
  refine g_ialoadI W1 H1 (i := 1) rfl (jx := i0) hk (u := x) hx d43_5 (pc' := 6) rfl ?_
  exact g_ireturn W1 d43_6 ⟨rfl, H1⟩ (by decide) (by decide)
theorem c_dist (l : Launch) (Z : State) (a0 : Array Value) (hw : ∀ d ∈ tables_1, d.before a0 Z = true) (n0 : Nat) (tr nt dsA prA hpA psA : Addr) (hz : Int32) (DL : List UInt64) (kk : Int32) (i0 : Nat) (hk : kk.toInt = (i0 : Int)) (x : UInt64) (hx : DL[i0]? = some x) (h0 : Heap) (F : List HRow) (H00 : Hp Z n0 h0 ((tr, ObC Z "com/example/lanewright/lanewright/ShortestPathTree" (fs_ShortestPathTree (.ref nt) (.ref dsA) (.ref prA) (.ref hpA) (.ref psA) (.int hz))) :: (dsA, DaC Z DL) :: F)) :
    Con l Z n0 ⟨"com/example/lanewright/lanewright/ShortestPathTree", "distance", "(I)D"⟩ [] prog_57_method_3_code 2 (some .double) ({ frames := 0, cells := 0, slots := 0, locals := 0 } : Room) #[.ref tr, .int kk] h0 (fun v h => v = some (.double x) ∧ Hp Z n0 h ((tr, ObC Z "com/example/lanewright/lanewright/ShortestPathTree" (fs_ShortestPathTree (.ref nt) (.ref dsA) (.ref prA) (.ref hpA) (.ref psA) (.int hz))) :: (dsA, DaC Z DL) :: F)) := by
  refine con_of (plainFor_of_name pn_ShortestPathTree) ?_
  intro p e s m below meth c T0 W0 e0
  subst e0
  have H0 := H00
  refine g_cast (ef_ri2 m tr kk) ?_
  refine g_aloadN W0 d36_0 (pc' := 1) rfl rfl rfl ?_
  refine g_getf W0 (wd_203 hw) Via.refl H0 (i := 0) rfl (jx := 1) rfl d36_1 (pc' := 4) rfl ?_
  intro T1 W1 H1
  refine g_iloadN W1 d36_4 (pc' := 5) rfl rfl ?_
  refine g_daloadD W1 H1 (i := 1) rfl (jx := i0) hk (u := x) hx d36_5 (pc' := 6) rfl ?_
  exact g_dreturn W1 d36_6 ⟨rfl, H1⟩ (by decide) (by decide)
theorem c_tini (l : Launch) (Z : State) (a0 : Array Value) (hw : ∀ d ∈ tables_1, d.before a0 Z = true) (n0 : Nat) (tr : Addr) (nt tlA hdA caA ffA bsA pwA foA oaA : Addr) (ftI : Int32)  (h0 : Heap) (F : List HRow) (H00 : Hp Z n0 h0 ((tr, ObC Z "com/example/lanewright/lanewright/ShortestPathTree" (fs_ShortestPathTree .null .null .null .null .null (.int (0 : Int32)))) :: (nt, ObC Z "com/example/lanewright/lanewright/Network" (fs_Network (.int (4 : Int32)) (.int ftI) (.ref tlA) (.ref hdA) (.ref caA) (.ref ffA) (.ref bsA) (.ref pwA) (.ref foA) (.ref oaA))) :: F)) :
    Con l Z n0 ⟨"com/example/lanewright/lanewright/ShortestPathTree", "<init>", "(Lcom/example/lanewright/lanewright/Network;)V"⟩ [] prog_57_method_1_code 3 none ({ frames := 1, cells := 4, slots := 20, locals := 12 } : Room) #[.ref tr, .ref nt] h0 (fun v h => ∃ dsA prA hpA psA : Addr, v = none ∧ Hp Z n0 h ((tr, ObC Z "com/example/lanewright/lanewright/ShortestPathTree" (fs_ShortestPathTree (.ref nt) (.ref dsA) (.ref prA) (.ref hpA) (.ref psA) (.int (0 : Int32)))) :: (dsA, DaC Z ([0, 0, 0, 0, 0] : List UInt64)) :: (prA, IaC Z (List.replicate 5 0)) :: (hpA, IaC Z (List.replicate 5 0)) :: (psA, IaC Z (List.replicate 5 0)) :: (nt, ObC Z "com/example/lanewright/lanewright/Network" (fs_Network (.int (4 : Int32)) (.int ftI) (.ref tlA) (.ref hdA) (.ref caA) (.ref ffA) (.ref bsA) (.ref pwA) (.ref foA) (.ref oaA))) :: F)) := by
  refine con_of (plainFor_of_name pn_ShortestPathTree) ?_
  intro p e s m below meth c T0 W0 e0
  subst e0
  have H0 := H00
  refine g_cast (ef_rr3 m tr nt) ?_
  refine g_aloadN W0 d26_0 (pc' := 1) rfl rfl rfl ?_
  refine g_initO W0 (wd_195 hw) (wd_29 hw) (wd_30 hw) H0 rfl d26_1 (pc' := 4) rfl (by decide) (Wn := 0) (Nat.le_of_eq rfl) (by decide) ?_
  intro T1 W1 H1
  refine g_aloadN W1 d26_4 (pc' := 5) rfl rfl rfl ?_
  refine g_aloadN W1 d26_5 (pc' := 6) rfl rfl rfl ?_
  refine g_putf W1 (wd_196 hw) Via.refl (Or.inr ⟨(wd_197 hw), rfl, rfl⟩) (wd_190 hw) (ty := (.object "com/example/lanewright/lanewright/Network")) (by decide) rfl rfl H1 (i := 0) rfl (jx := 0) rfl d26_6 (pc' := 9) rfl (L' := ((tr, ObC Z "com/example/lanewright/lanewright/ShortestPathTree" (fs_ShortestPathTree (.ref nt) .null .null .null .null (.int (0 : Int32)))) :: (nt, ObC Z "com/example/lanewright/lanewright/Network" (fs_Network (.int (4 : Int32)) (.int ftI) (.ref tlA) (.ref hdA) (.ref caA) (.ref ffA) (.ref bsA) (.ref pwA) (.ref foA) (.ref oaA))) :: F)) rfl ?_
  intro T2 W2 H2
  refine g_aloadN W2 d26_9 (pc' := 10) rfl rfl rfl ?_
  have H3f := Hp.fr1 H2
  refine g_callV W2 (argsL := []) (st := []) (wd_198 hw) (wd_199 hw) (wd_201 hw) (wd_200 hw) (wd_93 hw) (wd_202 hw) (by decide) (a := nt) H3f (i := 0) rfl (c_ncnt l Z a0 hw n0 nt tlA hdA caA ffA bsA pwA foA oaA ftI _ _ H3f) pd_7 rfl rfl rfl d26_10 (pc' := 13) rfl (by decide) (Wn := 0) (Nat.le_of_eq rfl) (by decide) (kc' := 0) (ks' := 0) rfl rfl (by decide) (by decide) ?_
  intro T4 v4 W4 hp4
  obtain ⟨rfl, H4⟩ := hp4
  show Goes _ _ _ _ (State.setTop _ (mkF _ _ _ [.int (4 : Int32)]))
  refine g_iconst W4 d26_13 (pc' := 14) rfl (v := (1 : Int32)) (by decide) ?_
  refine g_iadd W4 d26_14 (pc' := 15) rfl (v := (5 : Int32)) (by decide) ?_
  refine g_istoreN W4 d26_15 (pc' := 16) rfl (ls' := #[.val (.ref tr), .val (.ref nt), .val (.int (5 : Int32))]) rfl ?_
  refine g_aloadN W4 d26_16 (pc' := 17) rfl rfl rfl ?_
  refine g_iloadN W4 d26_17 (pc' := 18) rfl rfl ?_
  refine g_newarr (aty := .double) W4 (wd_2 hw) H4 (by decide) (vs := [.double 0, .double 0, .double 0, .double 0, .double 0]) rfl (cap := 5) (Nat.le_of_eq rfl) (by decide) d26_18 (pc' := 20) rfl (kc' := 1) (ks' := 5) rfl rfl (by decide) (by decide) ?_
  intro T5 a5 W5 H5
  replace H5 : Hp Z n0 T5.heap ((a5, ArC Z .double [.double 0, .double 0, .double 0, .double 0, .double 0]) :: (nt, ObC Z "com/example/lanewright/lanewright/Network" (fs_Network (.int (4 : Int32)) (.int ftI) (.ref tlA) (.ref hdA) (.ref caA) (.ref ffA) (.ref bsA) (.ref pwA) (.ref foA) (.ref oaA))) :: (tr, ObC Z "com/example/lanewright/lanewright/ShortestPathTree" (fs_ShortestPathTree (.ref nt) .null .null .null .null (.int (0 : Int32)))) :: F) := H5
  refine g_putf W5 (wd_203 hw) Via.refl (Or.inr ⟨(wd_204 hw), rfl, rfl⟩) (wd_190 hw) (ty := (.array .double)) (by decide) rfl rfl H5 (i := 2) rfl (jx := 1) rfl d26_20 (pc' := 23) rfl (L' := ((a5, ArC Z .double [.double 0, .double 0, .double 0, .double 0, .double 0]) :: (nt, ObC Z "com/example/lanewright/lanewright/Network" (fs_Network (.int (4 : Int32)) (.int ftI) (.ref tlA) (.ref hdA) (.ref caA) (.ref ffA) (.ref bsA) (.ref pwA) (.ref foA) (.ref oaA))) :: (tr, ObC Z "com/example/lanewright/lanewright/ShortestPathTree" (fs_ShortestPathTree (.ref nt) (.ref a5) .null .null .null (.int (0 : Int32)))) :: F)) rfl ?_
  intro T6 W6 H6
  refine g_aloadN W6 d26_23 (pc' := 24) rfl rfl rfl ?_
  refine g_iloadN W6 d26_24 (pc' := 25) rfl rfl ?_
  refine g_newarrI W6 (wd_1 hw) H6 (by decide) (n := 5) (by decide) (cap := 5) (by decide) (by decide) d26_25 (pc' := 27) rfl (kc' := 2) (ks' := 10) rfl rfl (by decide) (by decide) ?_
  intro T7 a7 W7 H7
  refine g_putf W7 (wd_205 hw) Via.refl (Or.inr ⟨(wd_206 hw), rfl, rfl⟩) (wd_190 hw) (ty := (.array .int)) (by decide) rfl rfl H7 (i := 3) rfl (jx := 2) rfl d26_27 (pc' := 30) rfl (L' := ((a7, IaC Z (List.replicate 5 0)) :: (a5, ArC Z .double [.double 0, .double 0, .double 0, .double 0, .double 0]) :: (nt, ObC Z "com/example/lanewright/lanewright/Network" (fs_Network (.int (4 : Int32)) (.int ftI) (.ref tlA) (.ref hdA) (.ref caA) (.ref ffA) (.ref bsA) (.ref pwA) (.ref foA) (.ref oaA))) :: (tr, ObC Z "com/example/lanewright/lanewright/ShortestPathTree" (fs_ShortestPathTree (.ref nt) (.ref a5) (.ref a7) .null .null (.int (0 : Int32)))) :: F)) rfl ?_
  intro T8 W8 H8
  refine g_aloadN W8 d26_30 (pc' := 31) rfl rfl rfl ?_
  refine g_iloadN W8 d26_31 (pc' := 32) rfl rfl ?_
  refine g_newarrI W8 (wd_1 hw) H8 (by decide) (n := 5) (by decide) (cap := 5) (by decide) (by decide) d26_32 (pc' := 34) rfl (kc' := 3) (ks' := 15) rfl rfl (by decide) (by decide) ?_
  intro T9 a9 W9 H9
  refine g_putf W9 (wd_207 hw) Via.refl (Or.inr ⟨(wd_208 hw), rfl, rfl⟩) (wd_190 hw) (ty := (.array .int)) (by decide) rfl rfl H9 (i := 4) rfl (jx := 3) rfl d26_34 (pc' := 37) rfl (L' := ((a9, IaC Z (List.replicate 5 0)) :: (a7, IaC Z (List.replicate 5 0)) :: (a5, ArC Z .double [.double 0, .double 0, .double 0, .double 0, .double 0]) :: (nt, ObC Z "com/example/lanewright/lanewright/Network" (fs_Network (.int (4 : Int32)) (.int ftI) (.ref tlA) (.ref hdA) (.ref caA) (.ref ffA) (.ref bsA) (.ref pwA) (.ref foA) (.ref oaA))) :: (tr, ObC Z "com/example/lanewright/lanewright/ShortestPathTree" (fs_ShortestPathTree (.ref nt) (.ref a5) (.ref a7) (.ref a9) .null (.int (0 : Int32)))) :: F)) rfl ?_
  intro T10 W10 H10
  refine g_aloadN W10 d26_37 (pc' := 38) rfl rfl rfl ?_
  refine g_iloadN W10 d26_38 (pc' := 39) rfl rfl ?_
  refine g_newarrI W10 (wd_1 hw) H10 (by decide) (n := 5) (by decide) (cap := 5) (by decide) (by decide) d26_39 (pc' := 41) rfl (kc' := 4) (ks' := 20) rfl rfl (by decide) (by decide) ?_
  intro T11 a11 W11 H11
  refine g_putf W11 (wd_209 hw) Via.refl (Or.inr ⟨(wd_210 hw), rfl, rfl⟩) (wd_190 hw) (ty := (.array .int)) (by decide) rfl rfl H11 (i := 5) rfl (jx := 4) rfl d26_41 (pc' := 44) rfl (L' := ((a11, IaC Z (List.replicate 5 0)) :: (a9, IaC Z (List.replicate 5 0)) :: (a7, IaC Z (List.replicate 5 0)) :: (a5, ArC Z .double [.double 0, .double 0, .double 0, .double 0, .double 0]) :: (nt, ObC Z "com/example/lanewright/lanewright/Network" (fs_Network (.int (4 : Int32)) (.int ftI) (.ref tlA) (.ref hdA) (.ref caA) (.ref ffA) (.ref bsA) (.ref pwA) (.ref foA) (.ref oaA))) :: (tr, ObC Z "com/example/lanewright/lanewright/ShortestPathTree" (fs_ShortestPathTree (.ref nt) (.ref a5) (.ref a7) (.ref a9) (.ref a11) (.int (0 : Int32)))) :: F)) rfl ?_
  intro T12 W12 H12
  have H13f := Hp.fr4 H12
  have H14f := Hp.fr1 H13f
  have H15f := Hp.fr2 H14f
  have H16f := Hp.fr3 H15f
  have H17f := Hp.fr4 H16f
  have H18f := Hp.fr5 H17f
  exact g_return W12 d26_44 ⟨_, _, _, _, rfl, H18f⟩ (by decide) (by decide)
theorem c_filld (l : Launch) (Z : State) (a0 : Array Value) (hw : ∀ d ∈ tables_1, d.before a0 Z = true) (n0 : Nat) (a : Addr) (h0 : Heap) (F : List HRow) (H00 : Hp Z n0 h0 ((a, DaC Z ([0, 0, 0, 0, 0] : List UInt64)) :: F)) :
    Con l Z n0 ⟨"java/util/Arrays", "fill", "([DD)V"⟩ [] jdk_65_method_113_code 5 none ({ frames := 0, cells := 0, slots := 0, locals := 0 } : Room) #[.ref a, .double (9218868437227405312 : UInt64)] h0 (fun v h => v = none ∧ Hp Z n0 h ((a, DaC Z ([(9218868437227405312 : UInt64), (9218868437227405312 : UInt64), (9218868437227405312 : UInt64), (9218868437227405312 : UInt64), (9218868437227405312 : UInt64)] : List UInt64)) :: F)) := by
  refine con_of pf_29 ?_
  intro p e s m below meth c T0 W0 e0
  subst e0
  have H0 := H00
  refine g_cast (ef_rd5 m a (9218868437227405312 : UInt64)) ?_
  refine g_iconst W0 d29_0 (pc' := 1) rfl (v := (0 : Int32)) (by decide) ?_
  refine g_istoreN W0 d29_1 (pc' := 2) rfl (ls' := #[.val (.ref a), .val (.double (9218868437227405312 : UInt64)), .second, .val (.int (0 : Int32)), .unset]) rfl ?_
  refine g_aloadN W0 d29_2 (pc' := 3) rfl rfl rfl ?_
  refine g_arrlenD W0 H0 (i := 0) rfl (x := (5 : Int32)) rfl d29_3 (pc' := 4) rfl ?_
  refine g_istore W0 d29_4 (pc' := 6) rfl (ls' := #[.val (.ref a), .val (.double (9218868437227405312 : UInt64)), .second, .val (.int (0 : Int32)), .val (.int (5 : Int32))]) rfl ?_
  refine g_iloadN W0 d29_6 (pc' := 7) rfl rfl ?_
  refine g_iload W0 d29_7 (pc' := 9) rfl rfl ?_
  refine g_icmp W0 d29_9 (pcy := 22) (by decide) (pc' := 12) rfl (fun (h : ¬ (0 : Int32) < (5 : Int32)) => absurd h (by decide)) (fun _ => ?_)
  refine g_aloadN W0 d29_12 (pc' := 13) rfl rfl rfl ?_
  refine g_iloadN W0 d29_13 (pc' := 14) rfl rfl ?_
  refine g_dloadN W0 d29_14 (pc' := 15) rfl rfl ?_
  refine g_dastoreD W0 H0 (i := 0) rfl (jx := 0) (by decide) (by exact (by decide : 0 < 5)) d29_15 (pc' := 16) rfl (L' := ((a, DaC Z ([(9218868437227405312 : UInt64), 0, 0, 0, 0] : List UInt64)) :: F)) rfl ?_
  intro T1 W1 H1
  refine g_iinc W1 d29_16 (pc' := 19) rfl rfl (v := (1 : Int32)) (by decide) (ls' := #[.val (.ref a), .val (.double (9218868437227405312 : UInt64)), .second, .val (.int (1 : Int32)), .val (.int (5 : Int32))]) rfl ?_
  refine g_goto W1 d29_19 (pc' := 6) (by decide) ?_
  refine g_iloadN W1 d29_6 (pc' := 7) rfl rfl ?_
  refine g_iload W1 d29_7 (pc' := 9) rfl rfl ?_
  refine g_icmp W1 d29_9 (pcy := 22) (by decide) (pc' := 12) rfl (fun (h : ¬ (1 : Int32) < (5 : Int32)) => absurd h (by decide)) (fun _ => ?_)
  refine g_aloadN W1 d29_12 (pc' := 13) rfl rfl rfl ?_
  refine g_iloadN W1 d29_13 (pc' := 14) rfl rfl ?_
  refine g_dloadN W1 d29_14 (pc' := 15) rfl rfl ?_
  refine g_dastoreD W1 H1 (i := 0) rfl (jx := 1) (by decide) (by exact (by decide : 1 < 5)) d29_15 (pc' := 16) rfl (L' := ((a, DaC Z ([(9218868437227405312 : UInt64), (9218868437227405312 : UInt64), 0, 0, 0] : List UInt64)) :: F)) rfl ?_
  intro T2 W2 H2
  refine g_iinc W2 d29_16 (pc' := 19) rfl rfl (v := (2 : Int32)) (by decide) (ls' := #[.val (.ref a), .val (.double (9218868437227405312 : UInt64)), .second, .val (.int (2 : Int32)), .val (.int (5 : Int32))]) rfl ?_
  refine g_goto W2 d29_19 (pc' := 6) (by decide) ?_
  refine g_iloadN W2 d29_6 (pc' := 7) rfl rfl ?_
  refine g_iload W2 d29_7 (pc' := 9) rfl rfl ?_
  refine g_icmp W2 d29_9 (pcy := 22) (by decide) (pc' := 12) rfl (fun (h : ¬ (2 : Int32) < (5 : Int32)) => absurd h (by decide)) (fun _ => ?_)
  refine g_aloadN W2 d29_12 (pc' := 13) rfl rfl rfl ?_
  refine g_iloadN W2 d29_13 (pc' := 14) rfl rfl ?_
  refine g_dloadN W2 d29_14 (pc' := 15) rfl rfl ?_
  refine g_dastoreD W2 H2 (i := 0) rfl (jx := 2) (by decide) (by exact (by decide : 2 < 5)) d29_15 (pc' := 16) rfl (L' := ((a, DaC Z ([(9218868437227405312 : UInt64), (9218868437227405312 : UInt64), (9218868437227405312 : UInt64), 0, 0] : List UInt64)) :: F)) rfl ?_
  intro T3 W3 H3
  refine g_iinc W3 d29_16 (pc' := 19) rfl rfl (v := (3 : Int32)) (by decide) (ls' := #[.val (.ref a), .val (.double (9218868437227405312 : UInt64)), .second, .val (.int (3 : Int32)), .val (.int (5 : Int32))]) rfl ?_
  refine g_goto W3 d29_19 (pc' := 6) (by decide) ?_
  refine g_iloadN W3 d29_6 (pc' := 7) rfl rfl ?_
  refine g_iload W3 d29_7 (pc' := 9) rfl rfl ?_
  refine g_icmp W3 d29_9 (pcy := 22) (by decide) (pc' := 12) rfl (fun (h : ¬ (3 : Int32) < (5 : Int32)) => absurd h (by decide)) (fun _ => ?_)
  refine g_aloadN W3 d29_12 (pc' := 13) rfl rfl rfl ?_
  refine g_iloadN W3 d29_13 (pc' := 14) rfl rfl ?_
  refine g_dloadN W3 d29_14 (pc' := 15) rfl rfl ?_
  refine g_dastoreD W3 H3 (i := 0) rfl (jx := 3) (by decide) (by exact (by decide : 3 < 5)) d29_15 (pc' := 16) rfl (L' := ((a, DaC Z ([(9218868437227405312 : UInt64), (9218868437227405312 : UInt64), (9218868437227405312 : UInt64), (9218868437227405312 : UInt64), 0] : List UInt64)) :: F)) rfl ?_
  intro T4 W4 H4
  refine g_iinc W4 d29_16 (pc' := 19) rfl rfl (v := (4 : Int32)) (by decide) (ls' := #[.val (.ref a), .val (.double (9218868437227405312 : UInt64)), .second, .val (.int (4 : Int32)), .val (.int (5 : Int32))]) rfl ?_
  refine g_goto W4 d29_19 (pc' := 6) (by decide) ?_
  refine g_iloadN W4 d29_6 (pc' := 7) rfl rfl ?_
  refine g_iload W4 d29_7 (pc' := 9) rfl rfl ?_
  refine g_icmp W4 d29_9 (pcy := 22) (by decide) (pc' := 12) rfl (fun (h : ¬ (4 : Int32) < (5 : Int32)) => absurd h (by decide)) (fun _ => ?_)
  refine g_aloadN W4 d29_12 (pc' := 13) rfl rfl rfl ?_
  refine g_iloadN W4 d29_13 (pc' := 14) rfl rfl ?_
  refine g_dloadN W4 d29_14 (pc' := 15) rfl rfl ?_
  refine g_dastoreD W4 H4 (i := 0) rfl (jx := 4) (by decide) (by exact (by decide : 4 < 5)) d29_15 (pc' := 16) rfl (L' := ((a, DaC Z ([(9218868437227405312 : UInt64), (9218868437227405312 : UInt64), (9218868437227405312 : UInt64), (9218868437227405312 : UInt64), (9218868437227405312 : UInt64)] : List UInt64)) :: F)) rfl ?_
  intro T5 W5 H5
  refine g_iinc W5 d29_16 (pc' := 19) rfl rfl (v := (5 : Int32)) (by decide) (ls' := #[.val (.ref a), .val (.double (9218868437227405312 : UInt64)), .second, .val (.int (5 : Int32)), .val (.int (5 : Int32))]) rfl ?_
  refine g_goto W5 d29_19 (pc' := 6) (by decide) ?_
  refine g_iloadN W5 d29_6 (pc' := 7) rfl rfl ?_
  refine g_iload W5 d29_7 (pc' := 9) rfl rfl ?_
  refine g_icmp W5 d29_9 (pcy := 22) (by decide) (pc' := 12) rfl (fun _ => ?_) (fun (h : ¬ ¬ (5 : Int32) < (5 : Int32)) => absurd h (by decide))
  exact g_return W5 d29_22 ⟨rfl, H5⟩ (by decide) (by decide)
theorem c_filli (l : Launch) (Z : State) (a0 : Array Value) (hw : ∀ d ∈ tables_1, d.before a0 Z = true) (n0 : Nat) (a : Addr) (h0 : Heap) (F : List HRow) (H00 : Hp Z n0 h0 ((a, IaC Z (List.replicate 5 0)) :: F)) :
    Con l Z n0 ⟨"java/util/Arrays", "fill", "([II)V"⟩ [] jdk_65_method_103_code 4 none ({ frames := 0, cells := 0, slots := 0, locals := 0 } : Room) #[.ref a, .int (-1 : Int32)] h0 (fun v h => v = none ∧ Hp Z n0 h ((a, IaC Z ([(-1 : Int32), (-1 : Int32), (-1 : Int32), (-1 : Int32), (-1 : Int32)] : List Int32)) :: F)) := by
  refine con_of pf_30 ?_
  intro p e s m below meth c T0 W0 e0
  subst e0
  have H0 := H00
  refine g_cast (ef_ri4 m a (-1 : Int32)) ?_
  refine g_iconst W0 d30_0 (pc' := 1) rfl (v := (0 : Int32)) (by decide) ?_
  refine g_istoreN W0 d30_1 (pc' := 2) rfl (ls' := #[.val (.ref a), .val (.int (-1 : Int32)), .val (.int (0 : Int32)), .unset]) rfl ?_
  refine g_aloadN W0 d30_2 (pc' := 3) rfl rfl rfl ?_
  refine g_arrlenI W0 H0 (i := 0) rfl (x := (5 : Int32)) rfl d30_3 (pc' := 4) rfl ?_
  refine g_istoreN W0 d30_4 (pc' := 5) rfl (ls' := #[.val (.ref a), .val (.int (-1 : Int32)), .val (.int (0 : Int32)), .val (.int (5 : Int32))]) rfl ?_
  refine g_iloadN W0 d30_5 (pc' := 6) rfl rfl ?_
  refine g_iloadN W0 d30_6 (pc' := 7) rfl rfl ?_
  refine g_icmp W0 d30_7 (pcy := 20) (by decide) (pc' := 10) rfl (fun (h : ¬ (0 : Int32) < (5 : Int32)) => absurd h (by decide)) (fun _ => ?_)
  refine g_aloadN W0 d30_10 (pc' := 11) rfl rfl rfl ?_
  refine g_iloadN W0 d30_11 (pc' := 12) rfl rfl ?_
  refine g_iloadN W0 d30_12 (pc' := 13) rfl rfl ?_
  refine g_iastoreI W0 H0 (i := 0) rfl (jx := 0) (by decide) (by exact (by decide : 0 < 5)) d30_13 (pc' := 14) rfl (L' := ((a, IaC Z ([(-1 : Int32), 0, 0, 0, 0] : List Int32)) :: F)) rfl ?_
  intro T1 W1 H1
  refine g_iinc W1 d30_14 (pc' := 17) rfl rfl (v := (1 : Int32)) (by decide) (ls' := #[.val (.ref a), .val (.int (-1 : Int32)), .val (.int (1 : Int32)), .val (.int (5 : Int32))]) rfl ?_
  refine g_goto W1 d30_17 (pc' := 5) (by decide) ?_
  refine g_iloadN W1 d30_5 (pc' := 6) rfl rfl ?_
  refine g_iloadN W1 d30_6 (pc' := 7) rfl rfl ?_
  refine g_icmp W1 d30_7 (pcy := 20) (by decide) (pc' := 10) rfl (fun (h : ¬ (1 : Int32) < (5 : Int32)) => absurd h (by decide)) (fun _ => ?_)
  refine g_aloadN W1 d30_10 (pc' := 11) rfl rfl rfl ?_
  refine g_iloadN W1 d30_11 (pc' := 12) rfl rfl ?_
  refine g_iloadN W1 d30_12 (pc' := 13) rfl rfl ?_
  refine g_iastoreI W1 H1 (i := 0) rfl (jx := 1) (by decide) (by exact (by decide : 1 < 5)) d30_13 (pc' := 14) rfl (L' := ((a, IaC Z ([(-1 : Int32), (-1 : Int32), 0, 0, 0] : List Int32)) :: F)) rfl ?_
  intro T2 W2 H2
  refine g_iinc W2 d30_14 (pc' := 17) rfl rfl (v := (2 : Int32)) (by decide) (ls' := #[.val (.ref a), .val (.int (-1 : Int32)), .val (.int (2 : Int32)), .val (.int (5 : Int32))]) rfl ?_
  refine g_goto W2 d30_17 (pc' := 5) (by decide) ?_
  refine g_iloadN W2 d30_5 (pc' := 6) rfl rfl ?_
  refine g_iloadN W2 d30_6 (pc' := 7) rfl rfl ?_
  refine g_icmp W2 d30_7 (pcy := 20) (by decide) (pc' := 10) rfl (fun (h : ¬ (2 : Int32) < (5 : Int32)) => absurd h (by decide)) (fun _ => ?_)
  refine g_aloadN W2 d30_10 (pc' := 11) rfl rfl rfl ?_
  refine g_iloadN W2 d30_11 (pc' := 12) rfl rfl ?_
  refine g_iloadN W2 d30_12 (pc' := 13) rfl rfl ?_
  refine g_iastoreI W2 H2 (i := 0) rfl (jx := 2) (by decide) (by exact (by decide : 2 < 5)) d30_13 (pc' := 14) rfl (L' := ((a, IaC Z ([(-1 : Int32), (-1 : Int32), (-1 : Int32), 0, 0] : List Int32)) :: F)) rfl ?_
  intro T3 W3 H3
  refine g_iinc W3 d30_14 (pc' := 17) rfl rfl (v := (3 : Int32)) (by decide) (ls' := #[.val (.ref a), .val (.int (-1 : Int32)), .val (.int (3 : Int32)), .val (.int (5 : Int32))]) rfl ?_
  refine g_goto W3 d30_17 (pc' := 5) (by decide) ?_
  refine g_iloadN W3 d30_5 (pc' := 6) rfl rfl ?_
  refine g_iloadN W3 d30_6 (pc' := 7) rfl rfl ?_
  refine g_icmp W3 d30_7 (pcy := 20) (by decide) (pc' := 10) rfl (fun (h : ¬ (3 : Int32) < (5 : Int32)) => absurd h (by decide)) (fun _ => ?_)
  refine g_aloadN W3 d30_10 (pc' := 11) rfl rfl rfl ?_
  refine g_iloadN W3 d30_11 (pc' := 12) rfl rfl ?_
  refine g_iloadN W3 d30_12 (pc' := 13) rfl rfl ?_
  refine g_iastoreI W3 H3 (i := 0) rfl (jx := 3) (by decide) (by exact (by decide : 3 < 5)) d30_13 (pc' := 14) rfl (L' := ((a, IaC Z ([(-1 : Int32), (-1 : Int32), (-1 : Int32), (-1 : Int32), 0] : List Int32)) :: F)) rfl ?_
  intro T4 W4 H4
  refine g_iinc W4 d30_14 (pc' := 17) rfl rfl (v := (4 : Int32)) (by decide) (ls' := #[.val (.ref a), .val (.int (-1 : Int32)), .val (.int (4 : Int32)), .val (.int (5 : Int32))]) rfl ?_
  refine g_goto W4 d30_17 (pc' := 5) (by decide) ?_
  refine g_iloadN W4 d30_5 (pc' := 6) rfl rfl ?_
  refine g_iloadN W4 d30_6 (pc' := 7) rfl rfl ?_
  refine g_icmp W4 d30_7 (pcy := 20) (by decide) (pc' := 10) rfl (fun (h : ¬ (4 : Int32) < (5 : Int32)) => absurd h (by decide)) (fun _ => ?_)
  refine g_aloadN W4 d30_10 (pc' := 11) rfl rfl rfl ?_
  refine g_iloadN W4 d30_11 (pc' := 12) rfl rfl ?_
  refine g_iloadN W4 d30_12 (pc' := 13) rfl rfl ?_
  refine g_iastoreI W4 H4 (i := 0) rfl (jx := 4) (by decide) (by exact (by decide : 4 < 5)) d30_13 (pc' := 14) rfl (L' := ((a, IaC Z ([(-1 : Int32), (-1 : Int32), (-1 : Int32), (-1 : Int32), (-1 : Int32)] : List Int32)) :: F)) rfl ?_
  intro T5 W5 H5
  refine g_iinc W5 d30_14 (pc' := 17) rfl rfl (v := (5 : Int32)) (by decide) (ls' := #[.val (.ref a), .val (.int (-1 : Int32)), .val (.int (5 : Int32)), .val (.int (5 : Int32))]) rfl ?_
  refine g_goto W5 d30_17 (pc' := 5) (by decide) ?_
  refine g_iloadN W5 d30_5 (pc' := 6) rfl rfl ?_
  refine g_iloadN W5 d30_6 (pc' := 7) rfl rfl ?_
  refine g_icmp W5 d30_7 (pcy := 20) (by decide) (pc' := 10) rfl (fun _ => ?_) (fun (h : ¬ ¬ (5 : Int32) < (5 : Int32)) => absurd h (by decide))
  exact g_return W5 d30_20 ⟨rfl, H5⟩ (by decide) (by decide)

def NetF (FO OA : List Int32) (T : Nat → Nat) : Prop := ∀ v, 1 ≤ v → v ≤ 4 → ∃ (x y : Int32) (fx fy : Nat), FO[v]? = some x ∧ FO[v + 1]? = some y ∧ x.toInt = (fx : Int) ∧ y.toInt = (fy : Int) ∧ fx ≤ fy ∧ fy ≤ 4 ∧ ∀ i, fx ≤ i → i < fy → ∃ (a : Int32) (n : Nat), OA[i]? = some a ∧ a.toInt = (n : Int) ∧ n < 4 ∧ T n = v
def HdF (l : List Int32) (f : Nat → Nat) : Prop := ∀ a, a < 4 → ∃ x, l[a]? = some x ∧ x.toInt = (f a : Int)
def TmF (l : List UInt64) (f : Nat → Nat) : Prop := ∀ a, a < 4 → ∃ x, l[a]? = some x ∧ Jvm.OwnKit.Dy (f a : Int) 0 x
def SI (s : Slot) : Prop := s = .unset ∨ ∃ v, s = .val (.int v)
def SD2 (s t : Slot) : Prop := (s = .unset ∧ t = .unset) ∨ ∃ x, s = .val (.double x) ∧ t = .second
theorem DV.dy {x : UInt64} {n : Nat} (h : DV x n) (hn : n < 1000) : Jvm.OwnKit.Dy (n : Int) 0 x := by
  rcases h with ⟨q, -⟩ | ⟨-, q⟩
  · omega
  · exact q
theorem dv_add {x t : UInt64} {n k : Nat} (h : DV x n) (hn : n < 1000) (ht : Jvm.OwnKit.Dy (k : Int) 0 t) (hk : n + k < 1000) : DV (FP.dadd x t) (n + k) := by
  refine Or.inr ⟨hk, ?_⟩
  have := dy_add (h.dy hn) ht (by omega) (by decide) (by decide)
  rwa [show ((n : Int) + (k : Int)) = ((n + k : Nat) : Int) by omega] at this
theorem DV.nn {x : UInt64} {n : Nat} (h : DV x n) : NoNaN64 x := by
  rcases h with ⟨-, rfl⟩ | ⟨-, q⟩
  · unfold NoNaN64; decide
  · exact q.nn
theorem hok_upd {D h : Nat → Nat} {Q : Nat → Int} {hs v t : Nat} (H : HOk D h Q hs) (hv : Q v < 0) : HOk (up D v t) h Q hs := by
  have o : ∀ i, i < hs → h i ≠ v := fun i hi q => by have := (H.1.1 i hi).2.2; rw [q] at this; omega
  refine ⟨H.1, fun i a b => ?_⟩
  rw [up_o (o i b), up_o (o 0 (by omega))]; exact H.2 i a b

theorem in_loop (l : Launch) (Z : State) (a0 : Array Value) (hw : HW Z a0) (n0 : Nat) (tr nt dsA prA hpA psA tlA hdA caA ffA bsA pwA foA oaA tmA : Addr) (ftI og : Int32) (FO OA HDl : List Int32) (TM : List UInt64) (ogn ftn : Nat) (T Hd tm : Nat → Nat) (hog : og.toInt = (ogn : Int)) (hft : ftI.toInt = (ftn : Int)) (arcs : Arcs T Hd tm) (netF : NetF FO OA T) (hdF : HdF HDl Hd) (tmF : TmF TM tm) (F : List HRow) (as0 : Array Value)
    (p : Program) (e : Env) (R : Room) (s : State) (m : MethodId) (below : List Frame) (meth : Method) (c : Code) (E : Option Value → State → List Loc → Prop) (hRf : 2 ≤ R.frames) (hRl : 28 ≤ R.locals) (k : Nat) (S : Nat → Bool) (nd yy : Int32) (ndn fx fy : Nat) (hnd : nd.toInt = (ndn : Int)) (hn5 : ndn < 5) (hy : FO[ndn + 1]? = some yy) (hyf : yy.toInt = (fy : Int)) (hfy : fy ≤ 4) (hout : ∀ i, fx ≤ i → i < fy → ∃ (a : Int32) (n : Nat), OA[i]? = some a ∧ a.toInt = (n : Int) ∧ n < 4 ∧ T n = ndn)
    (K : ∀ (T0 : State) (hz : Int32) (hs : Nat) (DL : List UInt64) (PL HL QL : List Int32) (D : Nat → Nat) (P : Nat → Int) (h : Nat → Nat) (Q : Nat → Int) (Rk : Nat → Nat) (s3 s4 s5 s6 s7 s8 : Slot), hz.toInt = (hs : Int) → RD DL D → RI PL P → RN HL h → RI QL Q → Inv ogn ftn T Hd tm k S D P h Q hs Rk → SI s3 → SI s4 → SI s5 → SI s6 → SD2 s7 s8 → Wk Z ⟨"com/example/lanewright/lanewright/ShortestPathTree", "build", "(I[D)V"⟩ prog_57_method_2_code 9 none n0 p l e R s m as0 below meth c T0 0 0 → Hp Z n0 T0.heap ((tr, ObC Z "com/example/lanewright/lanewright/ShortestPathTree" (fs_ShortestPathTree (.ref nt) (.ref dsA) (.ref prA) (.ref hpA) (.ref psA) (.int hz))) :: (dsA, DaC Z DL) :: (prA, IaC Z PL) :: (hpA, IaC Z HL) :: (psA, IaC Z QL) :: (nt, ObC Z "com/example/lanewright/lanewright/Network" (fs_Network (.int (4 : Int32)) (.int ftI) (.ref tlA) (.ref hdA) (.ref caA) (.ref ffA) (.ref bsA) (.ref pwA) (.ref foA) (.ref oaA))) :: (foA, IaC Z FO) :: (oaA, IaC Z OA) :: (hdA, IaC Z HDl) :: (tmA, DaC Z TM) :: F) → Goes p e below E (T0.setTop (mkF m 43 #[.val (.ref tr), .val (.int og), .val (.ref tmA), s3, s4, s5, s6, s7, s8] []))) :
    ∀ (n : Nat) (i : Int32) (i0 : Nat) (hz : Int32) (hs : Nat) (DL : List UInt64) (PL HL QL : List Int32) (D : Nat → Nat) (P : Nat → Int) (h : Nat → Nat) (Q : Nat → Int) (Rk : Nat → Nat) (s5 s6 s7 s8 : Slot) (T0 : State), i.toInt = (i0 : Int) → i0 + n = fy → fx ≤ i0 → hz.toInt = (hs : Int) → RD DL D → RI PL P → RN HL h → RI QL Q → JInv ogn ftn T Hd tm k S D P h Q hs Rk ndn → SI s5 → SI s6 → SD2 s7 s8 → Wk Z ⟨"com/example/lanewright/lanewright/ShortestPathTree", "build", "(I[D)V"⟩ prog_57_method_2_code 9 none n0 p l e R s m as0 below meth c T0 0 0 → Hp Z n0 T0.heap ((tr, ObC Z "com/example/lanewright/lanewright/ShortestPathTree" (fs_ShortestPathTree (.ref nt) (.ref dsA) (.ref prA) (.ref hpA) (.ref psA) (.int hz))) :: (dsA, DaC Z DL) :: (prA, IaC Z PL) :: (hpA, IaC Z HL) :: (psA, IaC Z QL) :: (nt, ObC Z "com/example/lanewright/lanewright/Network" (fs_Network (.int (4 : Int32)) (.int ftI) (.ref tlA) (.ref hdA) (.ref caA) (.ref ffA) (.ref bsA) (.ref pwA) (.ref foA) (.ref oaA))) :: (foA, IaC Z FO) :: (oaA, IaC Z OA) :: (hdA, IaC Z HDl) :: (tmA, DaC Z TM) :: F) → Goes p e below E (T0.setTop (mkF m 84 #[.val (.ref tr), .val (.int og), .val (.ref tmA), .val (.int nd), .val (.int i), s5, s6, s7, s8] [])) := by
  intro n
  induction n with
  | zero =>
    intro i i0 hz hs DL PL HL QL D P h Q Rk s5 s6 s7 s8 T0 hi hin hfx hhz rd rp rh rq J hs5 hs6 hs7 W H
    refine g_iload W d28_84 (pc' := 86) rfl rfl ?_
    refine g_aloadN W d28_86 (pc' := 87) rfl rfl rfl ?_
    refine g_getf W (wd_196 hw) Via.refl H (i := 0) rfl (jx := 0) rfl d28_87 (pc' := 90) rfl ?_
    intro T1 W1 H1
    refine g_iloadN W1 d28_90 (pc' := 91) rfl rfl ?_
    have H2f := Hp.fr6 H1
    have H3f := Hp.fr6 H2f
    refine g_callV W1 (argsL := [.int nd]) (st := [.int i]) (wd_243 hw) (wd_244 hw) (wd_246 hw) (wd_245 hw) (wd_93 hw) (wd_247 hw) (by decide) (a := nt) H3f (i := 0) rfl (c_eout l Z a0 hw n0 nt tlA hdA caA ffA bsA pwA foA oaA ftI FO nd ndn hnd yy hy (by omega) _ _ H3f) pd_10 rfl rfl rfl d28_91 (pc' := 94) rfl (Nat.le_trans (by decide) hRf) (Wn := 1) (Nat.le_of_eq rfl) (Nat.le_trans (by decide) hRl) (kc' := 0) (ks' := 0) rfl rfl (by omega) (by omega) ?_
    intro T4 v4 W4 hp4
    obtain ⟨rfl, H4⟩ := hp4
    show Goes _ _ _ _ (State.setTop _ (mkF _ _ _ [.int yy, .int i]))
    refine g_icmp W4 d28_94 (pcy := 199) (by decide) (pc' := 97) rfl (fun (_ : ¬ i < yy) => ?_) (fun (h : ¬ ¬ i < yy) => absurd (Classical.not_not.mp h) (by rw [Int32.lt_iff_toInt_lt, hi, hyf]; omega))
    refine g_goto W4 d28_199 (pc' := 43) (by decide) ?_
    have H5f := Hp.fr9 H4
    have H6f := Hp.fr9 H5f
    have H7f := Hp.fr9 H6f
    have H8f := Hp.fr4 H7f
    have H9f := Hp.fr4 H8f
    have H10f := Hp.fr9 H9f
    have H11f := Hp.fr9 H10f
    have H12f := Hp.fr9 H11f
    have H13f := Hp.fr9 H12f
    have H14f := Hp.fr9 H13f
    exact K _ hz hs DL PL HL QL D P h Q Rk _ _ s5 s6 s7 s8 hhz rd rp rh rq J.1 (Or.inr ⟨_, rfl⟩) (Or.inr ⟨_, rfl⟩) hs5 hs6 hs7 W4 H14f
  | succ n ih =>
    intro i i0 hz hs DL PL HL QL D P h Q Rk s5 s6 s7 s8 T0 hi hin hfx hhz rd rp rh rq J hs5 hs6 hs7 W H
    have J2 := J.2
    refine g_iload W d28_84 (pc' := 86) rfl rfl ?_
    refine g_aloadN W d28_86 (pc' := 87) rfl rfl rfl ?_
    refine g_getf W (wd_196 hw) Via.refl H (i := 0) rfl (jx := 0) rfl d28_87 (pc' := 90) rfl ?_
    intro T15 W15 H15
    refine g_iloadN W15 d28_90 (pc' := 91) rfl rfl ?_
    have H16f := Hp.fr6 H15
    have H17f := Hp.fr6 H16f
    refine g_callV W15 (argsL := [.int nd]) (st := [.int i]) (wd_243 hw) (wd_244 hw) (wd_246 hw) (wd_245 hw) (wd_93 hw) (wd_247 hw) (by decide) (a := nt) H17f (i := 0) rfl (c_eout l Z a0 hw n0 nt tlA hdA caA ffA bsA pwA foA oaA ftI FO nd ndn hnd yy hy (by omega) _ _ H17f) pd_10 rfl rfl rfl d28_91 (pc' := 94) rfl (Nat.le_trans (by decide) hRf) (Wn := 1) (Nat.le_of_eq rfl) (Nat.le_trans (by decide) hRl) (kc' := 0) (ks' := 0) rfl rfl (by omega) (by omega) ?_
    intro T18 v18 W18 hp18
    obtain ⟨rfl, H18⟩ := hp18
    show Goes _ _ _ _ (State.setTop _ (mkF _ _ _ [.int yy, .int i]))
    refine g_icmp W18 d28_94 (pcy := 199) (by decide) (pc' := 97) rfl (fun (h : ¬ i < yy) => absurd (show i < yy by rw [Int32.lt_iff_toInt_lt, hi, hyf]; omega) h) (fun (_ : ¬ ¬ i < yy) => ?_)
    obtain ⟨a, an, ga, han, hlt, hTa⟩ := hout i0 hfx (by omega)
    obtain ⟨g, gg, hg⟩ := hdF an hlt
    obtain ⟨-, -, d1, d2, d3⟩ := arcs an hlt
    obtain ⟨dn, dng, dnh⟩ := rd.2 ndn (by omega)
    obtain ⟨tx, txg, txh⟩ := tmF an hlt
    obtain ⟨dg, dgg, dgh⟩ := rd.2 (Hd an) (by omega)
    have dle : D ndn ≤ 7 * Rk ndn := J.1.2.2.2.2.2.2.2.2.2.1 ndn J2.1 J2.2.1 J2.2.2.2.1
    have rle : Rk ndn + 1 ≤ k := J.1.2.2.2.2.2.2.2.1 ndn J2.1 J2.2.1 J2.2.2.1
    have kle := inv_hs J.1
    have dvt := dv_add dnh J2.2.2.2.1 txh (by omega)
    refine g_aloadN W18 d28_97 (pc' := 98) rfl rfl rfl ?_
    refine g_getf W18 (wd_196 hw) Via.refl H18 (i := 2) rfl (jx := 0) rfl d28_98 (pc' := 101) rfl ?_
    intro T19 W19 H19
    refine g_iload W19 d28_101 (pc' := 103) rfl rfl ?_
    have H20f := Hp.fr7 H19
    have H21f := Hp.fr1 H20f
    refine g_callV W19 (argsL := [.int i]) (st := []) (wd_254 hw) (wd_255 hw) (wd_257 hw) (wd_256 hw) (wd_93 hw) (wd_258 hw) (by decide) (a := nt) H21f (i := 0) rfl (c_oarc l Z a0 hw n0 nt tlA hdA caA ffA bsA pwA foA oaA ftI OA i i0 hi a ga _ _ H21f) pd_10 rfl rfl rfl d28_103 (pc' := 106) rfl (Nat.le_trans (by decide) hRf) (Wn := 0) (Nat.le_of_eq rfl) (Nat.le_trans (by decide) hRl) (kc' := 0) (ks' := 0) rfl rfl (by omega) (by omega) ?_
    intro T22 v22 W22 hp22
    obtain ⟨rfl, H22⟩ := hp22
    show Goes _ _ _ _ (State.setTop _ (mkF _ _ _ [.int a]))
    refine g_istore W22 d28_106 (pc' := 108) rfl (ls' := #[.val (.ref tr), .val (.int og), .val (.ref tmA), .val (.int nd), .val (.int i), .val (.int a), s6, s7, s8]) (by rcases hs5 with rfl | ⟨_, rfl⟩ <;> rfl) ?_
    refine g_aloadN W22 d28_108 (pc' := 109) rfl rfl rfl ?_
    refine g_getf W22 (wd_196 hw) Via.refl H22 (i := 3) rfl (jx := 0) rfl d28_109 (pc' := 112) rfl ?_
    intro T23 W23 H23
    refine g_iload W23 d28_112 (pc' := 114) rfl rfl ?_
    have H24f := Hp.fr8 H23
    have H25f := Hp.fr1 H24f
    refine g_callV W23 (argsL := [.int a]) (st := []) (wd_259 hw) (wd_260 hw) (wd_262 hw) (wd_261 hw) (wd_93 hw) (wd_263 hw) (by decide) (a := nt) H25f (i := 0) rfl (c_nhead l Z a0 hw n0 nt tlA hdA caA ffA bsA pwA foA oaA ftI HDl a an han g gg _ _ H25f) pd_10 rfl rfl rfl d28_114 (pc' := 117) rfl (Nat.le_trans (by decide) hRf) (Wn := 0) (Nat.le_of_eq rfl) (Nat.le_trans (by decide) hRl) (kc' := 0) (ks' := 0) rfl rfl (by omega) (by omega) ?_
    intro T26 v26 W26 hp26
    obtain ⟨rfl, H26⟩ := hp26
    show Goes _ _ _ _ (State.setTop _ (mkF _ _ _ [.int g]))
    refine g_istore W26 d28_117 (pc' := 119) rfl (ls' := #[.val (.ref tr), .val (.int og), .val (.ref tmA), .val (.int nd), .val (.int i), .val (.int a), .val (.int g), s7, s8]) (by rcases hs6 with rfl | ⟨_, rfl⟩ <;> rfl) ?_
    refine g_aloadN W26 d28_119 (pc' := 120) rfl rfl rfl ?_
    refine g_getf W26 (wd_203 hw) Via.refl H26 (i := 4) rfl (jx := 1) rfl d28_120 (pc' := 123) rfl ?_
    intro T27 W27 H27
    refine g_iloadN W27 d28_123 (pc' := 124) rfl rfl ?_
    refine g_daloadD W27 H27 (i := 5) rfl (jx := ndn) hnd (u := dn) dng d28_124 (pc' := 125) rfl ?_
    refine g_aloadN W27 d28_125 (pc' := 126) rfl rfl rfl ?_
    refine g_iload W27 d28_126 (pc' := 128) rfl rfl ?_
    refine g_daloadD W27 H27 (i := 9) rfl (jx := an) han (u := tx) txg d28_128 (pc' := 129) rfl ?_
    refine g_dadd W27 d28_129 (pc' := 130) rfl rfl dvt.nn ?_
    refine g_dstore W27 d28_130 (pc' := 132) rfl (ls' := #[.val (.ref tr), .val (.int og), .val (.ref tmA), .val (.int nd), .val (.int i), .val (.int a), .val (.int g), .val (.double (FP.dadd dn tx)), .second]) (by rcases hs7 with ⟨rfl, rfl⟩ | ⟨_, rfl, rfl⟩ <;> rfl) ?_
    refine g_dload W27 d28_132 (pc' := 134) rfl rfl ?_
    refine g_aloadN W27 d28_134 (pc' := 135) rfl rfl rfl ?_
    refine g_getf W27 (wd_203 hw) Via.refl H27 (i := 4) rfl (jx := 1) rfl d28_135 (pc' := 138) rfl ?_
    intro T28 W28 H28
    refine g_iload W28 d28_138 (pc' := 140) rfl rfl ?_
    refine g_daloadD W28 H28 (i := 5) rfl (jx := (Hd an)) hg (u := dg) dgg d28_140 (pc' := 141) rfl ?_
    refine g_dcmp W28 d28_141 (pc' := 142) rfl rfl ?_
    refine g_if W28 d28_142 (pcy := 193) (by decide) (pc' := 145) rfl (fun (c29 : ¬ (cmpValue (FP.dcmp (FP.dadd dn tx) dg) .g) < (0 : Int32)) => ?_) (fun (c29 : ¬ ¬ (cmpValue (FP.dcmp (FP.dadd dn tx) dg) .g) < (0 : Int32)) => ?_)
    · refine g_iinc W28 d28_193 (pc' := 196) rfl rfl (v := (i + (1 : Int32))) (by rfl) (ls' := #[.val (.ref tr), .val (.int og), .val (.ref tmA), .val (.int nd), .val (.int (i + (1 : Int32))), .val (.int a), .val (.int g), .val (.double (FP.dadd dn tx)), .second]) rfl ?_
      refine g_goto W28 d28_196 (pc' := 84) (by decide) ?_
      have H30f := Hp.fr9 H28
      have H31f := Hp.fr2 H30f
      have H32f := Hp.fr3 H31f
      have H33f := Hp.fr4 H32f
      have H34f := Hp.fr4 H33f
      have H35f := Hp.fr9 H34f
      have H36f := Hp.fr9 H35f
      have H37f := Hp.fr9 H36f
      have H38f := Hp.fr9 H37f
      have H39f := Hp.fr9 H38f
      exact ih (i + (1 : Int32)) (i0 + 1) hz hs DL PL HL QL D P h Q Rk _ _ _ _ _ (i_p1 hi (by omega)) (by omega) (by omega) hhz rd rp rh rq J (Or.inr ⟨_, rfl⟩) (Or.inr ⟨_, rfl⟩) (Or.inr ⟨_, rfl, rfl⟩) W28 H39f
    · replace c29 := Classical.not_not.mp c29
      have lt := (dv_lt dvt dgh _).mp c29
      obtain ⟨pg, pgg, pgh⟩ := rq.2 (Hd an) (by omega)
      have rd2 := rd.set (v := Hd an) (by omega) dvt
      have rp2 := rp.set (v := Hd an) (by omega) han
      refine g_aloadN W28 d28_145 (pc' := 146) rfl rfl rfl ?_
      refine g_getf W28 (wd_203 hw) Via.refl H28 (i := 4) rfl (jx := 1) rfl d28_146 (pc' := 149) rfl ?_
      intro T40 W40 H40
      refine g_iload W40 d28_149 (pc' := 151) rfl rfl ?_
      refine g_dload W40 d28_151 (pc' := 153) rfl rfl ?_
      refine g_dastoreD W40 H40 (i := 5) rfl (jx := (Hd an)) hg (by rw [rd.1]; omega) d28_153 (pc' := 154) rfl (L' := ((nt, ObC Z "com/example/lanewright/lanewright/Network" (fs_Network (.int (4 : Int32)) (.int ftI) (.ref tlA) (.ref hdA) (.ref caA) (.ref ffA) (.ref bsA) (.ref pwA) (.ref foA) (.ref oaA))) :: (hdA, IaC Z HDl) :: (oaA, IaC Z OA) :: (foA, IaC Z FO) :: (tr, ObC Z "com/example/lanewright/lanewright/ShortestPathTree" (fs_ShortestPathTree (.ref nt) (.ref dsA) (.ref prA) (.ref hpA) (.ref psA) (.int hz))) :: (dsA, DaC Z (DL.set (Hd an) (FP.dadd dn tx))) :: (prA, IaC Z PL) :: (hpA, IaC Z HL) :: (psA, IaC Z QL) :: (tmA, DaC Z TM) :: F)) rfl ?_
      intro T41 W41 H41
      refine g_aloadN W41 d28_154 (pc' := 155) rfl rfl rfl ?_
      refine g_getf W41 (wd_205 hw) Via.refl H41 (i := 4) rfl (jx := 2) rfl d28_155 (pc' := 158) rfl ?_
      intro T42 W42 H42
      refine g_iload W42 d28_158 (pc' := 160) rfl rfl ?_
      refine g_iload W42 d28_160 (pc' := 162) rfl rfl ?_
      refine g_iastoreI W42 H42 (i := 6) rfl (jx := (Hd an)) hg (by rw [rp.1]; omega) d28_162 (pc' := 163) rfl (L' := ((nt, ObC Z "com/example/lanewright/lanewright/Network" (fs_Network (.int (4 : Int32)) (.int ftI) (.ref tlA) (.ref hdA) (.ref caA) (.ref ffA) (.ref bsA) (.ref pwA) (.ref foA) (.ref oaA))) :: (hdA, IaC Z HDl) :: (oaA, IaC Z OA) :: (foA, IaC Z FO) :: (tr, ObC Z "com/example/lanewright/lanewright/ShortestPathTree" (fs_ShortestPathTree (.ref nt) (.ref dsA) (.ref prA) (.ref hpA) (.ref psA) (.int hz))) :: (dsA, DaC Z (DL.set (Hd an) (FP.dadd dn tx))) :: (prA, IaC Z (PL.set (Hd an) a)) :: (hpA, IaC Z HL) :: (psA, IaC Z QL) :: (tmA, DaC Z TM) :: F)) rfl ?_
      intro T43 W43 H43
      refine g_aloadN W43 d28_163 (pc' := 164) rfl rfl rfl ?_
      refine g_getf W43 (wd_209 hw) Via.refl H43 (i := 4) rfl (jx := 4) rfl d28_164 (pc' := 167) rfl ?_
      intro T44 W44 H44
      refine g_iload W44 d28_167 (pc' := 169) rfl rfl ?_
      refine g_ialoadI W44 H44 (i := 8) rfl (jx := (Hd an)) hg (u := pg) pgg d28_169 (pc' := 170) rfl ?_
      refine g_if W44 d28_170 (pcy := 182) (by decide) (pc' := 173) rfl (fun (c45 : ¬ pg < (0 : Int32)) => ?_) (fun (c45 : ¬ ¬ pg < (0 : Int32)) => ?_)
      · have q0 : 0 ≤ Q (Hd an) := by rw [← pgh]; have z := c45; rw [Int32.lt_iff_toInt_lt, show (0 : Int32).toInt = 0 by decide] at z; omega
        obtain ⟨j, hj, ej⟩ := J.1.1.1.2.1 (Hd an) d1 d2 q0
        have qj := (J.1.1.1.1 j hj).2.2
        rw [ej, ← pgh] at qj
        have b0 := J.1.1.1.1 0 (by omega)
        have hj3 : j = 0 ∨ j = 1 ∨ j = 2 := by omega
        rcases hj3 with rfl | rfl | rfl
        · obtain rfl : pg = (0 : Int32) := i32_lit qj (by decide)
          refine g_aloadN W44 d28_182 (pc' := 183) rfl rfl rfl ?_
          refine g_aloadN W44 d28_183 (pc' := 184) rfl rfl rfl ?_
          refine g_getf W44 (wd_209 hw) Via.refl H44 (i := 4) rfl (jx := 4) rfl d28_184 (pc' := 187) rfl ?_
          intro T46 W46 H46
          refine g_iload W46 d28_187 (pc' := 189) rfl rfl ?_
          refine g_ialoadI W46 H46 (i := 8) rfl (jx := (Hd an)) hg (u := (0 : Int32)) pgg d28_189 (pc' := 190) rfl ?_
          have H47f := Hp.fr8 H46
          have H48f := Hp.fr8 H47f
          have H49f := Hp.fr7 H48f
          have H50f := Hp.fr7 H49f
          refine g_callP W46 (argsL := [.int (0 : Int32)]) (st := []) (wd_230 hw) (wd_231 hw) (wd_232 hw) (wd_190 hw) (wd_191 hw) (wd_233 hw) (by decide) (a := tr) H50f (i := 0) rfl (c_su0 l Z a0 hw n0 tr nt dsA prA hpA psA hz _ HL QL (up D (Hd an) (D ndn + tm an)) h Q rd2 rh rq (by omega) (by omega) _ _ H50f) pd_9 rfl rfl rfl d28_190 (pc' := 193) rfl (Nat.le_trans (by decide) hRf) (Wn := 0) (Nat.le_of_eq rfl) (Nat.le_trans (by decide) hRl) (kc' := 0) (ks' := 0) rfl rfl (by omega) (by omega) ?_
          intro T51 v51 W51 hp51
          obtain ⟨HL2, QL2, h2, Q2, rfl, r1, r2, r3, H51⟩ := hp51
          show Goes _ _ _ _ (State.setTop _ (mkF _ _ _ []))
          have dk := dec_ok (i := 0) (t := D ndn + tm an) J.1.1 hj (by rw [ej]; omega) (Or.inl ⟨rfl, r3⟩)
          rw [ej] at dk
          refine g_iinc W51 d28_193 (pc' := 196) rfl rfl (v := (i + (1 : Int32))) (by rfl) (ls' := #[.val (.ref tr), .val (.int og), .val (.ref tmA), .val (.int nd), .val (.int (i + (1 : Int32))), .val (.int a), .val (.int g), .val (.double (FP.dadd dn tx)), .second]) rfl ?_
          refine g_goto W51 d28_196 (pc' := 84) (by decide) ?_
          have H52f := Hp.fr9 H51
          have H53f := Hp.fr6 H52f
          have H54f := Hp.fr7 H53f
          have H55f := Hp.fr8 H54f
          have H56f := Hp.fr8 H55f
          have H57f := Hp.fr8 H56f
          have H58f := Hp.fr8 H57f
          have H59f := Hp.fr9 H58f
          have H60f := Hp.fr9 H59f
          have H61f := Hp.fr9 H60f
          have J3 := inv_relax J arcs hlt hTa lt dk.1 (J.1.2.1.trans (cntQ_eq dk.2).symm) (fun v v1 v2 => (dk.2 v v1 v2).trans ⟨Or.inl, fun z => z.elim id (fun z => by rw [z]; exact q0)⟩)
          exact ih (i + (1 : Int32)) (i0 + 1) hz hs _ _ HL2 QL2 (up D (Hd an) (D ndn + tm an)) (up P (Hd an) (an : Int)) h2 Q2 (up Rk (Hd an) (Rk ndn + 1)) _ _ _ _ _ (i_p1 hi (by omega)) (by omega) (by omega) hhz rd2 rp2 r1 r2 J3 (Or.inr ⟨_, rfl⟩) (Or.inr ⟨_, rfl⟩) (Or.inr ⟨_, rfl, rfl⟩) W51 H61f
        · obtain rfl : pg = (1 : Int32) := i32_lit qj (by decide)
          refine g_aloadN W44 d28_182 (pc' := 183) rfl rfl rfl ?_
          refine g_aloadN W44 d28_183 (pc' := 184) rfl rfl rfl ?_
          refine g_getf W44 (wd_209 hw) Via.refl H44 (i := 4) rfl (jx := 4) rfl d28_184 (pc' := 187) rfl ?_
          intro T62 W62 H62
          refine g_iload W62 d28_187 (pc' := 189) rfl rfl ?_
          refine g_ialoadI W62 H62 (i := 8) rfl (jx := (Hd an)) hg (u := (1 : Int32)) pgg d28_189 (pc' := 190) rfl ?_
          have H63f := Hp.fr8 H62
          have H64f := Hp.fr8 H63f
          have H65f := Hp.fr7 H64f
          have H66f := Hp.fr7 H65f
          refine g_callP W62 (argsL := [.int (1 : Int32)]) (st := []) (wd_230 hw) (wd_231 hw) (wd_232 hw) (wd_190 hw) (wd_191 hw) (wd_233 hw) (by decide) (a := tr) H66f (i := 0) rfl (c_su1 l Z a0 hw n0 tr nt dsA prA hpA psA hz _ HL QL (up D (Hd an) (D ndn + tm an)) h Q rd2 rh rq (by omega) (by rw [ej]; omega) _ _ H66f) pd_9 rfl rfl rfl d28_190 (pc' := 193) rfl (Nat.le_trans (by decide) hRf) (Wn := 0) (Nat.le_of_eq rfl) (Nat.le_trans (by decide) hRl) (kc' := 0) (ks' := 0) rfl rfl (by omega) (by omega) ?_
          intro T67 v67 W67 hp67
          obtain ⟨HL2, QL2, h2, Q2, rfl, r1, r2, r3, H67⟩ := hp67
          show Goes _ _ _ _ (State.setTop _ (mkF _ _ _ []))
          rw [ej] at r3
          have dk := dec_ok (i := 1) (t := D ndn + tm an) (h2 := h2) (Q2 := Q2) J.1.1 hj (by rw [ej]; omega) (by rw [ej]; exact Or.inr ⟨by omega, r3⟩)
          rw [ej] at dk
          refine g_iinc W67 d28_193 (pc' := 196) rfl rfl (v := (i + (1 : Int32))) (by rfl) (ls' := #[.val (.ref tr), .val (.int og), .val (.ref tmA), .val (.int nd), .val (.int (i + (1 : Int32))), .val (.int a), .val (.int g), .val (.double (FP.dadd dn tx)), .second]) rfl ?_
          refine g_goto W67 d28_196 (pc' := 84) (by decide) ?_
          have H68f := Hp.fr9 H67
          have H69f := Hp.fr6 H68f
          have H70f := Hp.fr7 H69f
          have H71f := Hp.fr8 H70f
          have H72f := Hp.fr8 H71f
          have H73f := Hp.fr8 H72f
          have H74f := Hp.fr8 H73f
          have H75f := Hp.fr9 H74f
          have H76f := Hp.fr9 H75f
          have H77f := Hp.fr9 H76f
          have J3 := inv_relax J arcs hlt hTa lt dk.1 (J.1.2.1.trans (cntQ_eq dk.2).symm) (fun v v1 v2 => (dk.2 v v1 v2).trans ⟨Or.inl, fun z => z.elim id (fun z => by rw [z]; exact q0)⟩)
          exact ih (i + (1 : Int32)) (i0 + 1) hz hs _ _ HL2 QL2 (up D (Hd an) (D ndn + tm an)) (up P (Hd an) (an : Int)) h2 Q2 (up Rk (Hd an) (Rk ndn + 1)) _ _ _ _ _ (i_p1 hi (by omega)) (by omega) (by omega) hhz rd2 rp2 r1 r2 J3 (Or.inr ⟨_, rfl⟩) (Or.inr ⟨_, rfl⟩) (Or.inr ⟨_, rfl, rfl⟩) W67 H77f
        · obtain rfl : pg = (2 : Int32) := i32_lit qj (by decide)
          refine g_aloadN W44 d28_182 (pc' := 183) rfl rfl rfl ?_
          refine g_aloadN W44 d28_183 (pc' := 184) rfl rfl rfl ?_
          refine g_getf W44 (wd_209 hw) Via.refl H44 (i := 4) rfl (jx := 4) rfl d28_184 (pc' := 187) rfl ?_
          intro T78 W78 H78
          refine g_iload W78 d28_187 (pc' := 189) rfl rfl ?_
          refine g_ialoadI W78 H78 (i := 8) rfl (jx := (Hd an)) hg (u := (2 : Int32)) pgg d28_189 (pc' := 190) rfl ?_
          have H79f := Hp.fr8 H78
          have H80f := Hp.fr8 H79f
          have H81f := Hp.fr7 H80f
          have H82f := Hp.fr7 H81f
          refine g_callP W78 (argsL := [.int (2 : Int32)]) (st := []) (wd_230 hw) (wd_231 hw) (wd_232 hw) (wd_190 hw) (wd_191 hw) (wd_233 hw) (by decide) (a := tr) H82f (i := 0) rfl (c_su2 l Z a0 hw n0 tr nt dsA prA hpA psA hz _ HL QL (up D (Hd an) (D ndn + tm an)) h Q rd2 rh rq (by omega) (by rw [ej]; omega) _ _ H82f) pd_9 rfl rfl rfl d28_190 (pc' := 193) rfl (Nat.le_trans (by decide) hRf) (Wn := 0) (Nat.le_of_eq rfl) (Nat.le_trans (by decide) hRl) (kc' := 0) (ks' := 0) rfl rfl (by omega) (by omega) ?_
          intro T83 v83 W83 hp83
          obtain ⟨HL2, QL2, h2, Q2, rfl, r1, r2, r3, H83⟩ := hp83
          show Goes _ _ _ _ (State.setTop _ (mkF _ _ _ []))
          rw [ej] at r3
          have dk := dec_ok (i := 2) (t := D ndn + tm an) (h2 := h2) (Q2 := Q2) J.1.1 hj (by rw [ej]; omega) (by rw [ej]; exact Or.inr ⟨by omega, r3⟩)
          rw [ej] at dk
          refine g_iinc W83 d28_193 (pc' := 196) rfl rfl (v := (i + (1 : Int32))) (by rfl) (ls' := #[.val (.ref tr), .val (.int og), .val (.ref tmA), .val (.int nd), .val (.int (i + (1 : Int32))), .val (.int a), .val (.int g), .val (.double (FP.dadd dn tx)), .second]) rfl ?_
          refine g_goto W83 d28_196 (pc' := 84) (by decide) ?_
          have H84f := Hp.fr9 H83
          have H85f := Hp.fr6 H84f
          have H86f := Hp.fr7 H85f
          have H87f := Hp.fr8 H86f
          have H88f := Hp.fr8 H87f
          have H89f := Hp.fr8 H88f
          have H90f := Hp.fr8 H89f
          have H91f := Hp.fr9 H90f
          have H92f := Hp.fr9 H91f
          have H93f := Hp.fr9 H92f
          have J3 := inv_relax J arcs hlt hTa lt dk.1 (J.1.2.1.trans (cntQ_eq dk.2).symm) (fun v v1 v2 => (dk.2 v v1 v2).trans ⟨Or.inl, fun z => z.elim id (fun z => by rw [z]; exact q0)⟩)
          exact ih (i + (1 : Int32)) (i0 + 1) hz hs _ _ HL2 QL2 (up D (Hd an) (D ndn + tm an)) (up P (Hd an) (an : Int)) h2 Q2 (up Rk (Hd an) (Rk ndn + 1)) _ _ _ _ _ (i_p1 hi (by omega)) (by omega) (by omega) hhz rd2 rp2 r1 r2 J3 (Or.inr ⟨_, rfl⟩) (Or.inr ⟨_, rfl⟩) (Or.inr ⟨_, rfl, rfl⟩) W83 H93f
      · replace c45 := Classical.not_not.mp c45
        have q0 : Q (Hd an) < 0 := by rw [← pgh]; have z := c45; rw [Int32.lt_iff_toInt_lt, show (0 : Int32).toInt = 0 by decide] at z; omega
        have sf : S (Hd an) = false := by
          cases q : S (Hd an) with
          | false => rfl
          | true => have := J2.2.2.2.2.2 _ d1 d2 q; omega
        have hr := inv_room J.1 J2.1 J2.2.1 J2.2.2.1 d1 d2 q0 sf
        have h3 : hs = 0 ∨ hs = 1 ∨ hs = 2 := by omega
        rcases h3 with rfl | rfl | rfl
        · obtain rfl : hz = (0 : Int32) := i32_lit hhz (by decide)
          refine g_aloadN W44 d28_173 (pc' := 174) rfl rfl rfl ?_
          refine g_iload W44 d28_174 (pc' := 176) rfl rfl ?_
          have H94f := Hp.fr8 H44
          have H95f := Hp.fr8 H94f
          have H96f := Hp.fr7 H95f
          have H97f := Hp.fr7 H96f
          refine g_callP W44 (argsL := [.int g]) (st := []) (wd_226 hw) (wd_227 hw) (wd_228 hw) (wd_190 hw) (wd_191 hw) (wd_229 hw) (by decide) (a := tr) H97f (i := 0) rfl (c_push0 l Z a0 hw n0 tr nt dsA prA hpA psA _ HL QL (up D (Hd an) (D ndn + tm an)) h Q rd2 rh rq g (Hd an) hg (by omega) _ _ H97f) pd_9 rfl rfl rfl d28_176 (pc' := 179) rfl (Nat.le_trans (by decide) hRf) (Wn := 0) (Nat.le_of_eq rfl) (Nat.le_trans (by decide) hRl) (kc' := 0) (ks' := 0) rfl rfl (by omega) (by omega) ?_
          intro T98 v98 W98 hp98
          obtain ⟨HL2, QL2, h2, Q2, rfl, r1, r2, r3, H98⟩ := hp98
          show Goes _ _ _ _ (State.setTop _ (mkF _ _ _ []))
          have pk := push_ok (hok_upd (t := D ndn + tm an) J.1.1 q0) d1 d2 q0 (by omega) (Or.inl ⟨rfl, r3⟩)
          refine g_goto W98 d28_179 (pc' := 193) (by decide) ?_
          refine g_iinc W98 d28_193 (pc' := 196) rfl rfl (v := (i + (1 : Int32))) (by rfl) (ls' := #[.val (.ref tr), .val (.int og), .val (.ref tmA), .val (.int nd), .val (.int (i + (1 : Int32))), .val (.int a), .val (.int g), .val (.double (FP.dadd dn tx)), .second]) rfl ?_
          refine g_goto W98 d28_196 (pc' := 84) (by decide) ?_
          have H99f := Hp.fr9 H98
          have H100f := Hp.fr6 H99f
          have H101f := Hp.fr7 H100f
          have H102f := Hp.fr8 H101f
          have H103f := Hp.fr8 H102f
          have H104f := Hp.fr8 H103f
          have H105f := Hp.fr8 H104f
          have H106f := Hp.fr9 H105f
          have H107f := Hp.fr9 H106f
          have H108f := Hp.fr9 H107f
          have J3 := inv_relax J arcs hlt hTa lt pk.1 (by rw [cntQ_add d1 d2 q0 pk.2, ← J.1.2.1]) pk.2
          exact ih (i + (1 : Int32)) (i0 + 1) (1 : Int32) 1 _ _ HL2 QL2 (up D (Hd an) (D ndn + tm an)) (up P (Hd an) (an : Int)) h2 Q2 (up Rk (Hd an) (Rk ndn + 1)) _ _ _ _ _ (i_p1 hi (by omega)) (by omega) (by omega) (by decide) rd2 rp2 r1 r2 J3 (Or.inr ⟨_, rfl⟩) (Or.inr ⟨_, rfl⟩) (Or.inr ⟨_, rfl, rfl⟩) W98 H108f
        · obtain rfl : hz = (1 : Int32) := i32_lit hhz (by decide)
          refine g_aloadN W44 d28_173 (pc' := 174) rfl rfl rfl ?_
          refine g_iload W44 d28_174 (pc' := 176) rfl rfl ?_
          have H109f := Hp.fr8 H44
          have H110f := Hp.fr8 H109f
          have H111f := Hp.fr7 H110f
          have H112f := Hp.fr7 H111f
          refine g_callP W44 (argsL := [.int g]) (st := []) (wd_226 hw) (wd_227 hw) (wd_228 hw) (wd_190 hw) (wd_191 hw) (wd_229 hw) (by decide) (a := tr) H112f (i := 0) rfl (c_push1 l Z a0 hw n0 tr nt dsA prA hpA psA _ HL QL (up D (Hd an) (D ndn + tm an)) h Q rd2 rh rq g (Hd an) hg (by omega) (by have := J.1.1.1.1 0 (by omega); omega) _ _ H112f) pd_9 rfl rfl rfl d28_176 (pc' := 179) rfl (Nat.le_trans (by decide) hRf) (Wn := 0) (Nat.le_of_eq rfl) (Nat.le_trans (by decide) hRl) (kc' := 0) (ks' := 0) rfl rfl (by omega) (by omega) ?_
          intro T113 v113 W113 hp113
          obtain ⟨HL2, QL2, h2, Q2, rfl, r1, r2, r3, H113⟩ := hp113
          show Goes _ _ _ _ (State.setTop _ (mkF _ _ _ []))
          have pk := push_ok (hok_upd (t := D ndn + tm an) J.1.1 q0) d1 d2 q0 (by omega) (Or.inr ⟨by omega, r3⟩)
          refine g_goto W113 d28_179 (pc' := 193) (by decide) ?_
          refine g_iinc W113 d28_193 (pc' := 196) rfl rfl (v := (i + (1 : Int32))) (by rfl) (ls' := #[.val (.ref tr), .val (.int og), .val (.ref tmA), .val (.int nd), .val (.int (i + (1 : Int32))), .val (.int a), .val (.int g), .val (.double (FP.dadd dn tx)), .second]) rfl ?_
          refine g_goto W113 d28_196 (pc' := 84) (by decide) ?_
          have H114f := Hp.fr9 H113
          have H115f := Hp.fr6 H114f
          have H116f := Hp.fr7 H115f
          have H117f := Hp.fr8 H116f
          have H118f := Hp.fr8 H117f
          have H119f := Hp.fr8 H118f
          have H120f := Hp.fr8 H119f
          have H121f := Hp.fr9 H120f
          have H122f := Hp.fr9 H121f
          have H123f := Hp.fr9 H122f
          have J3 := inv_relax J arcs hlt hTa lt pk.1 (by rw [cntQ_add d1 d2 q0 pk.2, ← J.1.2.1]) pk.2
          exact ih (i + (1 : Int32)) (i0 + 1) (2 : Int32) 2 _ _ HL2 QL2 (up D (Hd an) (D ndn + tm an)) (up P (Hd an) (an : Int)) h2 Q2 (up Rk (Hd an) (Rk ndn + 1)) _ _ _ _ _ (i_p1 hi (by omega)) (by omega) (by omega) (by decide) rd2 rp2 r1 r2 J3 (Or.inr ⟨_, rfl⟩) (Or.inr ⟨_, rfl⟩) (Or.inr ⟨_, rfl, rfl⟩) W113 H123f
        · obtain rfl : hz = (2 : Int32) := i32_lit hhz (by decide)
          refine g_aloadN W44 d28_173 (pc' := 174) rfl rfl rfl ?_
          refine g_iload W44 d28_174 (pc' := 176) rfl rfl ?_
          have H124f := Hp.fr8 H44
          have H125f := Hp.fr8 H124f
          have H126f := Hp.fr7 H125f
          have H127f := Hp.fr7 H126f
          refine g_callP W44 (argsL := [.int g]) (st := []) (wd_226 hw) (wd_227 hw) (wd_228 hw) (wd_190 hw) (wd_191 hw) (wd_229 hw) (by decide) (a := tr) H127f (i := 0) rfl (c_push2 l Z a0 hw n0 tr nt dsA prA hpA psA _ HL QL (up D (Hd an) (D ndn + tm an)) h Q rd2 rh rq g (Hd an) hg (by omega) (by have := J.1.1.1.1 0 (by omega); omega) _ _ H127f) pd_9 rfl rfl rfl d28_176 (pc' := 179) rfl (Nat.le_trans (by decide) hRf) (Wn := 0) (Nat.le_of_eq rfl) (Nat.le_trans (by decide) hRl) (kc' := 0) (ks' := 0) rfl rfl (by omega) (by omega) ?_
          intro T128 v128 W128 hp128
          obtain ⟨HL2, QL2, h2, Q2, rfl, r1, r2, r3, H128⟩ := hp128
          show Goes _ _ _ _ (State.setTop _ (mkF _ _ _ []))
          have pk := push_ok (hok_upd (t := D ndn + tm an) J.1.1 q0) d1 d2 q0 (by omega) (Or.inr ⟨by omega, r3⟩)
          refine g_goto W128 d28_179 (pc' := 193) (by decide) ?_
          refine g_iinc W128 d28_193 (pc' := 196) rfl rfl (v := (i + (1 : Int32))) (by rfl) (ls' := #[.val (.ref tr), .val (.int og), .val (.ref tmA), .val (.int nd), .val (.int (i + (1 : Int32))), .val (.int a), .val (.int g), .val (.double (FP.dadd dn tx)), .second]) rfl ?_
          refine g_goto W128 d28_196 (pc' := 84) (by decide) ?_
          have H129f := Hp.fr9 H128
          have H130f := Hp.fr6 H129f
          have H131f := Hp.fr7 H130f
          have H132f := Hp.fr8 H131f
          have H133f := Hp.fr8 H132f
          have H134f := Hp.fr8 H133f
          have H135f := Hp.fr8 H134f
          have H136f := Hp.fr9 H135f
          have H137f := Hp.fr9 H136f
          have H138f := Hp.fr9 H137f
          have J3 := inv_relax J arcs hlt hTa lt pk.1 (by rw [cntQ_add d1 d2 q0 pk.2, ← J.1.2.1]) pk.2
          exact ih (i + (1 : Int32)) (i0 + 1) (3 : Int32) 3 _ _ HL2 QL2 (up D (Hd an) (D ndn + tm an)) (up P (Hd an) (an : Int)) h2 Q2 (up Rk (Hd an) (Rk ndn + 1)) _ _ _ _ _ (i_p1 hi (by omega)) (by omega) (by omega) (by decide) rd2 rp2 r1 r2 J3 (Or.inr ⟨_, rfl⟩) (Or.inr ⟨_, rfl⟩) (Or.inr ⟨_, rfl, rfl⟩) W128 H138f
theorem out_loop (l : Launch) (Z : State) (a0 : Array Value) (hw : HW Z a0) (n0 : Nat) (tr nt dsA prA hpA psA tlA hdA caA ffA bsA pwA foA oaA tmA : Addr) (ftI og : Int32) (FO OA HDl : List Int32) (TM : List UInt64) (ogn ftn : Nat) (T Hd tm : Nat → Nat) (hog : og.toInt = (ogn : Int)) (hft : ftI.toInt = (ftn : Int)) (arcs : Arcs T Hd tm) (netF : NetF FO OA T) (hdF : HdF HDl Hd) (tmF : TmF TM tm) (F : List HRow) (as0 : Array Value)
    (p : Program) (e : Env) (R : Room) (s : State) (m : MethodId) (below : List Frame) (meth : Method) (c : Code) (hRf : 2 ≤ R.frames) (hRl : 28 ≤ R.locals) :
    ∀ (n k : Nat) (S : Nat → Bool) (hz : Int32) (hs : Nat) (DL : List UInt64) (PL HL QL : List Int32) (D : Nat → Nat) (P : Nat → Int) (h : Nat → Nat) (Q : Nat → Int) (Rk : Nat → Nat) (s3 s4 s5 s6 s7 s8 : Slot) (T0 : State), k + n = 4 → (k = 0 → hs ≤ 1) → hz.toInt = (hs : Int) → RD DL D → RI PL P → RN HL h → RI QL Q → Inv ogn ftn T Hd tm k S D P h Q hs Rk → SI s3 → SI s4 → SI s5 → SI s6 → SD2 s7 s8 → Wk Z ⟨"com/example/lanewright/lanewright/ShortestPathTree", "build", "(I[D)V"⟩ prog_57_method_2_code 9 none n0 p l e R s m as0 below meth c T0 0 0 → Hp Z n0 T0.heap ((tr, ObC Z "com/example/lanewright/lanewright/ShortestPathTree" (fs_ShortestPathTree (.ref nt) (.ref dsA) (.ref prA) (.ref hpA) (.ref psA) (.int hz))) :: (dsA, DaC Z DL) :: (prA, IaC Z PL) :: (hpA, IaC Z HL) :: (psA, IaC Z QL) :: (nt, ObC Z "com/example/lanewright/lanewright/Network" (fs_Network (.int (4 : Int32)) (.int ftI) (.ref tlA) (.ref hdA) (.ref caA) (.ref ffA) (.ref bsA) (.ref pwA) (.ref foA) (.ref oaA))) :: (foA, IaC Z FO) :: (oaA, IaC Z OA) :: (hdA, IaC Z HDl) :: (tmA, DaC Z TM) :: F) → Goes p e below (En s n0 R.cells R.slots (fun v hp => ∃ (hz : Int32) (DL : List UInt64) (PL HL QL : List Int32) (D : Nat → Nat) (P : Nat → Int) (h : Nat → Nat) (Q : Nat → Int) (Rk : Nat → Nat) (S : Nat → Bool) (k : Nat), v = none ∧ RD DL D ∧ RI PL P ∧ Inv ogn ftn T Hd tm k S D P h Q 0 Rk ∧ Hp Z n0 hp ((tr, ObC Z "com/example/lanewright/lanewright/ShortestPathTree" (fs_ShortestPathTree (.ref nt) (.ref dsA) (.ref prA) (.ref hpA) (.ref psA) (.int hz))) :: (dsA, DaC Z DL) :: (prA, IaC Z PL) :: (hpA, IaC Z HL) :: (psA, IaC Z QL) :: (nt, ObC Z "com/example/lanewright/lanewright/Network" (fs_Network (.int (4 : Int32)) (.int ftI) (.ref tlA) (.ref hdA) (.ref caA) (.ref ffA) (.ref bsA) (.ref pwA) (.ref foA) (.ref oaA))) :: (foA, IaC Z FO) :: (oaA, IaC Z OA) :: (hdA, IaC Z HDl) :: (tmA, DaC Z TM) :: F))) (T0.setTop (mkF m 43 #[.val (.ref tr), .val (.int og), .val (.ref tmA), s3, s4, s5, s6, s7, s8] [])) := by
  intro n
  induction n with
  | zero =>
    intro k S hz hs DL PL HL QL D P h Q Rk s3 s4 s5 s6 s7 s8 T0 hkm hk0 hhz rd rp rh rq I hs3 hs4 hs5 hs6 hs7 W H
    have ih := inv_hs I
    obtain rfl : hs = 0 := by omega
    refine g_aloadN W d28_43 (pc' := 44) rfl rfl rfl ?_
    refine g_getf W (wd_224 hw) Via.refl H (i := 0) rfl (jx := 5) rfl d28_44 (pc' := 47) rfl ?_
    intro T1 W1 H1
    refine g_if W1 d28_47 (pcy := 202) (by decide) (pc' := 50) rfl (fun (_ : ¬ (0 : Int32) < hz) => ?_) (fun (h : ¬ ¬ (0 : Int32) < hz) => absurd (Classical.not_not.mp h) (by rw [Int32.lt_iff_toInt_lt, hhz, show (0 : Int32).toInt = 0 by decide]; omega))
    exact g_return W1 d28_202 ⟨hz, DL, PL, HL, QL, D, P, h, Q, Rk, S, k, rfl, rd, rp, I, H1⟩ (Nat.zero_le _) (Nat.zero_le _)
  | succ n ih =>
    intro k S hz hs DL PL HL QL D P h Q Rk s3 s4 s5 s6 s7 s8 T0 hkm hk0 hhz rd rp rh rq I hs3 hs4 hs5 hs6 hs7 W H
    have ihs := inv_hs I
    refine g_aloadN W d28_43 (pc' := 44) rfl rfl rfl ?_
    refine g_getf W (wd_224 hw) Via.refl H (i := 0) rfl (jx := 5) rfl d28_44 (pc' := 47) rfl ?_
    intro T2 W2 H2
    refine g_if W2 d28_47 (pcy := 202) (by decide) (pc' := 50) rfl (fun (c3 : ¬ (0 : Int32) < hz) => ?_) (fun (c3 : ¬ ¬ (0 : Int32) < hz) => ?_)
    · obtain rfl : hs = 0 := by have z := c3; rw [Int32.lt_iff_toInt_lt, hhz, show (0 : Int32).toInt = 0 by decide] at z; omega
      exact g_return W2 d28_202 ⟨hz, DL, PL, HL, QL, D, P, h, Q, Rk, S, k, rfl, rd, rp, I, H2⟩ (Nat.zero_le _) (Nat.zero_le _)
    · replace c3 := Classical.not_not.mp c3
      have hp0 : 0 < hs := by have z := c3; rw [Int32.lt_iff_toInt_lt, hhz, show (0 : Int32).toInt = 0 by decide] at z; omega
      have h3 : hs = 1 ∨ hs = 2 ∨ hs = 3 := by by_cases z : k = 0; have := hk0 z; omega; omega
      rcases h3 with rfl | rfl | rfl
      · obtain rfl : hz = (1 : Int32) := i32_lit hhz (by decide)
        refine g_aloadN W2 d28_50 (pc' := 51) rfl rfl rfl ?_
        have H4f := Hp.fr4 H2
        have H5f := Hp.fr4 H4f
        have H6f := Hp.fr3 H5f
        have H7f := Hp.fr3 H6f
        refine g_callP W2 (argsL := []) (st := []) (wd_234 hw) (wd_235 hw) (wd_236 hw) (wd_190 hw) (wd_191 hw) (wd_237 hw) (by decide) (a := tr) H7f (i := 0) rfl (c_pop1 l Z a0 hw n0 tr nt dsA prA hpA psA DL HL QL D h Q rd rh rq (by have := I.1.1.1 0 (by omega); omega) _ _ H7f) pd_7 rfl rfl rfl d28_51 (pc' := 54) rfl (Nat.le_trans (by decide) hRf) (Wn := 0) (Nat.le_of_eq rfl) (Nat.le_trans (by decide) hRl) (kc' := 0) (ks' := 0) rfl rfl (by omega) (by omega) ?_
        intro T8 v8 W8 hp8
        obtain ⟨x, HL2, QL2, h2, Q2, rfl, hx, r1, r2, r3, H8⟩ := hp8
        show Goes _ _ _ _ (State.setTop _ (mkF _ _ _ [.int x]))
        have pk := pop1_ok I.1 r3
        have IP := inv_pop I (by omega) pk.1 pk.2
        refine g_istoreN W8 d28_54 (pc' := 55) rfl (ls' := #[.val (.ref tr), .val (.int og), .val (.ref tmA), .val (.int x), s4, s5, s6, s7, s8]) (by rcases hs3 with rfl | ⟨_, rfl⟩ <;> rfl) ?_
        refine g_iloadN W8 d28_55 (pc' := 56) rfl rfl ?_
        refine g_iloadN W8 d28_56 (pc' := 57) rfl rfl ?_
        refine g_icmp W8 d28_57 (pcy := 74) (by decide) (pc' := 60) rfl (fun (c9 : x = og) => ?_) (fun (c9 : ¬ x = og) => ?_)
        · refine g_aloadN W8 d28_74 (pc' := 75) rfl rfl rfl ?_
          refine g_getf W8 (wd_196 hw) Via.refl H8 (i := 0) rfl (jx := 0) rfl d28_75 (pc' := 78) rfl ?_
          intro T10 W10 H10
          refine g_iloadN W10 d28_78 (pc' := 79) rfl rfl ?_
          obtain ⟨fx1, yy, fx, fy, g1, g2, g3, g4, g5, g6, g7⟩ := netF (h 0) IP.2.1 IP.2.2.1
          have H11f := Hp.fr6 H10
          have H12f := Hp.fr6 H11f
          refine g_callV W10 (argsL := [.int x]) (st := []) (wd_238 hw) (wd_239 hw) (wd_241 hw) (wd_240 hw) (wd_93 hw) (wd_242 hw) (by decide) (a := nt) H12f (i := 0) rfl (c_fout l Z a0 hw n0 nt tlA hdA caA ffA bsA pwA foA oaA ftI FO x (h 0) hx fx1 g1 _ _ H12f) pd_10 rfl rfl rfl d28_79 (pc' := 82) rfl (Nat.le_trans (by decide) hRf) (Wn := 0) (Nat.le_of_eq rfl) (Nat.le_trans (by decide) hRl) (kc' := 0) (ks' := 0) rfl rfl (by omega) (by omega) ?_
          intro T13 v13 W13 hp13
          obtain ⟨rfl, H13⟩ := hp13
          show Goes _ _ _ _ (State.setTop _ (mkF _ _ _ [.int fx1]))
          refine g_istore W13 d28_82 (pc' := 84) rfl (ls' := #[.val (.ref tr), .val (.int og), .val (.ref tmA), .val (.int x), .val (.int fx1), s5, s6, s7, s8]) (by rcases hs4 with rfl | ⟨_, rfl⟩ <;> rfl) ?_
          have H14f := Hp.fr9 H13
          have H15f := Hp.fr9 H14f
          have H16f := Hp.fr9 H15f
          have H17f := Hp.fr4 H16f
          have H18f := Hp.fr4 H17f
          have H19f := Hp.fr8 H18f
          have H20f := Hp.fr8 H19f
          have H21f := Hp.fr9 H20f
          have H22f := Hp.fr9 H21f
          have H23f := Hp.fr9 H22f
          refine in_loop l Z a0 hw n0 tr nt dsA prA hpA psA tlA hdA caA ffA bsA pwA foA oaA tmA ftI og FO OA HDl TM ogn ftn T Hd tm hog hft arcs netF hdF tmF F as0 p e R s m below meth c _ (Nat.le_trans (by decide) hRf) (Nat.le_trans (by decide) hRl) (k + 1) (up S (h 0) true) x yy (h 0) fx fy hx (by have := IP.2.2.1; omega) g2 g4 g6 g7 ?_ (fy - fx) fx1 fx (0 : Int32) 0 DL PL HL2 QL2 D P h2 Q2 Rk s5 s6 s7 s8 _ g3 (by omega) (Nat.le_refl _) (by decide) rd rp r1 r2 ⟨IP.1, IP.2.1, IP.2.2.1, up_s, IP.2.2.2.1, Or.inl (by have z := congrArg Int32.toInt c9; rw [hx, hog] at z; omega), IP.2.2.2.2⟩ hs5 hs6 hs7 W13 H23f
          intro T9 z1 z2 z3 z4 z5 z6 z7 z8 z9 z10 z11 c3 c4 c5 c6 c7 c8 u1 u2 u3 u4 u5 u6 u7 u8 u9 u10 u11 W9 H9
          exact ih (k + 1) _ z1 z2 z3 z4 z5 z6 z7 z8 z9 z10 z11 c3 c4 c5 c6 c7 c8 T9 (by omega) (fun z => by omega) u1 u2 u3 u4 u5 u6 u7 u8 u9 u10 u11 W9 H9
        · refine g_iloadN W8 d28_60 (pc' := 61) rfl rfl ?_
          refine g_aloadN W8 d28_61 (pc' := 62) rfl rfl rfl ?_
          refine g_getf W8 (wd_196 hw) Via.refl H8 (i := 0) rfl (jx := 0) rfl d28_62 (pc' := 65) rfl ?_
          intro T24 W24 H24
          have H25f := Hp.fr5 H24
          refine g_callV W24 (argsL := []) (st := [.int x]) (wd_264 hw) (wd_265 hw) (wd_267 hw) (wd_266 hw) (wd_93 hw) (wd_268 hw) (by decide) (a := nt) H25f (i := 0) rfl (c_ftn l Z a0 hw n0 nt tlA hdA caA ffA bsA pwA foA oaA ftI _ _ H25f) pd_7 rfl rfl rfl d28_65 (pc' := 68) rfl (Nat.le_trans (by decide) hRf) (Wn := 1) (Nat.le_of_eq rfl) (Nat.le_trans (by decide) hRl) (kc' := 0) (ks' := 0) rfl rfl (by omega) (by omega) ?_
          intro T26 v26 W26 hp26
          obtain ⟨rfl, H26⟩ := hp26
          show Goes _ _ _ _ (State.setTop _ (mkF _ _ _ [.int ftI, .int x]))
          refine g_icmp W26 d28_68 (pcy := 74) (by decide) (pc' := 71) rfl (fun (c27 : ¬ x < ftI) => ?_) (fun (c27 : ¬ ¬ x < ftI) => ?_)
          · refine g_aloadN W26 d28_74 (pc' := 75) rfl rfl rfl ?_
            refine g_getf W26 (wd_196 hw) Via.refl H26 (i := 1) rfl (jx := 0) rfl d28_75 (pc' := 78) rfl ?_
            intro T28 W28 H28
            refine g_iloadN W28 d28_78 (pc' := 79) rfl rfl ?_
            obtain ⟨fx1, yy, fx, fy, g1, g2, g3, g4, g5, g6, g7⟩ := netF (h 0) IP.2.1 IP.2.2.1
            have H29f := Hp.fr6 H28
            have H30f := Hp.fr1 H29f
            refine g_callV W28 (argsL := [.int x]) (st := []) (wd_238 hw) (wd_239 hw) (wd_241 hw) (wd_240 hw) (wd_93 hw) (wd_242 hw) (by decide) (a := nt) H30f (i := 0) rfl (c_fout l Z a0 hw n0 nt tlA hdA caA ffA bsA pwA foA oaA ftI FO x (h 0) hx fx1 g1 _ _ H30f) pd_10 rfl rfl rfl d28_79 (pc' := 82) rfl (Nat.le_trans (by decide) hRf) (Wn := 0) (Nat.le_of_eq rfl) (Nat.le_trans (by decide) hRl) (kc' := 0) (ks' := 0) rfl rfl (by omega) (by omega) ?_
            intro T31 v31 W31 hp31
            obtain ⟨rfl, H31⟩ := hp31
            show Goes _ _ _ _ (State.setTop _ (mkF _ _ _ [.int fx1]))
            refine g_istore W31 d28_82 (pc' := 84) rfl (ls' := #[.val (.ref tr), .val (.int og), .val (.ref tmA), .val (.int x), .val (.int fx1), s5, s6, s7, s8]) (by rcases hs4 with rfl | ⟨_, rfl⟩ <;> rfl) ?_
            have H32f := Hp.fr9 H31
            have H33f := Hp.fr9 H32f
            have H34f := Hp.fr9 H33f
            have H35f := Hp.fr4 H34f
            have H36f := Hp.fr4 H35f
            have H37f := Hp.fr8 H36f
            have H38f := Hp.fr8 H37f
            have H39f := Hp.fr9 H38f
            have H40f := Hp.fr9 H39f
            have H41f := Hp.fr9 H40f
            refine in_loop l Z a0 hw n0 tr nt dsA prA hpA psA tlA hdA caA ffA bsA pwA foA oaA tmA ftI og FO OA HDl TM ogn ftn T Hd tm hog hft arcs netF hdF tmF F as0 p e R s m below meth c _ (Nat.le_trans (by decide) hRf) (Nat.le_trans (by decide) hRl) (k + 1) (up S (h 0) true) x yy (h 0) fx fy hx (by have := IP.2.2.1; omega) g2 g4 g6 g7 ?_ (fy - fx) fx1 fx (0 : Int32) 0 DL PL HL2 QL2 D P h2 Q2 Rk s5 s6 s7 s8 _ g3 (by omega) (Nat.le_refl _) (by decide) rd rp r1 r2 ⟨IP.1, IP.2.1, IP.2.2.1, up_s, IP.2.2.2.1, Or.inr (by have z := c27; rw [Int32.lt_iff_toInt_lt, hx, hft] at z; omega), IP.2.2.2.2⟩ hs5 hs6 hs7 W31 H41f
            intro T9 z1 z2 z3 z4 z5 z6 z7 z8 z9 z10 z11 c3 c4 c5 c6 c7 c8 u1 u2 u3 u4 u5 u6 u7 u8 u9 u10 u11 W9 H9
            exact ih (k + 1) _ z1 z2 z3 z4 z5 z6 z7 z8 z9 z10 z11 c3 c4 c5 c6 c7 c8 T9 (by omega) (fun z => by omega) u1 u2 u3 u4 u5 u6 u7 u8 u9 u10 u11 W9 H9
          · replace c27 := Classical.not_not.mp c27
            refine g_goto W26 d28_71 (pc' := 43) (by decide) ?_
            have H42f := Hp.fr9 H26
            have H43f := Hp.fr9 H42f
            have H44f := Hp.fr9 H43f
            have H45f := Hp.fr9 H44f
            have H46f := Hp.fr4 H45f
            have H47f := Hp.fr8 H46f
            have H48f := Hp.fr8 H47f
            have H49f := Hp.fr9 H48f
            have H50f := Hp.fr9 H49f
            have H51f := Hp.fr9 H50f
            exact ih (k + 1) _ (0 : Int32) 0 DL PL HL2 QL2 D P h2 Q2 Rk _ s4 s5 s6 s7 s8 _ (by omega) (fun z => by omega) (by decide) rd rp r1 r2 IP.1 (Or.inr ⟨_, rfl⟩) hs4 hs5 hs6 hs7 W26 H51f
      · obtain rfl : hz = (2 : Int32) := i32_lit hhz (by decide)
        refine g_aloadN W2 d28_50 (pc' := 51) rfl rfl rfl ?_
        have H52f := Hp.fr4 H2
        have H53f := Hp.fr4 H52f
        have H54f := Hp.fr3 H53f
        have H55f := Hp.fr3 H54f
        refine g_callP W2 (argsL := []) (st := []) (wd_234 hw) (wd_235 hw) (wd_236 hw) (wd_190 hw) (wd_191 hw) (wd_237 hw) (by decide) (a := tr) H55f (i := 0) rfl (c_pop2 l Z a0 hw n0 tr nt dsA prA hpA psA DL HL QL D h Q rd rh rq (by have := I.1.1.1 0 (by omega); omega) (by have := I.1.1.1 1 (by omega); omega) (by have := I.1.1.1 1 (by omega); omega) _ _ H55f) pd_7 rfl rfl rfl d28_51 (pc' := 54) rfl (Nat.le_trans (by decide) hRf) (Wn := 0) (Nat.le_of_eq rfl) (Nat.le_trans (by decide) hRl) (kc' := 0) (ks' := 0) rfl rfl (by omega) (by omega) ?_
        intro T56 v56 W56 hp56
        obtain ⟨x, HL2, QL2, h2, Q2, rfl, hx, r1, r2, r3, H56⟩ := hp56
        show Goes _ _ _ _ (State.setTop _ (mkF _ _ _ [.int x]))
        have pk := pop2_ok I.1 r3
        have IP := inv_pop I (by omega) pk.1 pk.2
        refine g_istoreN W56 d28_54 (pc' := 55) rfl (ls' := #[.val (.ref tr), .val (.int og), .val (.ref tmA), .val (.int x), s4, s5, s6, s7, s8]) (by rcases hs3 with rfl | ⟨_, rfl⟩ <;> rfl) ?_
        refine g_iloadN W56 d28_55 (pc' := 56) rfl rfl ?_
        refine g_iloadN W56 d28_56 (pc' := 57) rfl rfl ?_
        refine g_icmp W56 d28_57 (pcy := 74) (by decide) (pc' := 60) rfl (fun (c57 : x = og) => ?_) (fun (c57 : ¬ x = og) => ?_)
        · refine g_aloadN W56 d28_74 (pc' := 75) rfl rfl rfl ?_
          refine g_getf W56 (wd_196 hw) Via.refl H56 (i := 0) rfl (jx := 0) rfl d28_75 (pc' := 78) rfl ?_
          intro T58 W58 H58
          refine g_iloadN W58 d28_78 (pc' := 79) rfl rfl ?_
          obtain ⟨fx1, yy, fx, fy, g1, g2, g3, g4, g5, g6, g7⟩ := netF (h 0) IP.2.1 IP.2.2.1
          have H59f := Hp.fr6 H58
          have H60f := Hp.fr6 H59f
          refine g_callV W58 (argsL := [.int x]) (st := []) (wd_238 hw) (wd_239 hw) (wd_241 hw) (wd_240 hw) (wd_93 hw) (wd_242 hw) (by decide) (a := nt) H60f (i := 0) rfl (c_fout l Z a0 hw n0 nt tlA hdA caA ffA bsA pwA foA oaA ftI FO x (h 0) hx fx1 g1 _ _ H60f) pd_10 rfl rfl rfl d28_79 (pc' := 82) rfl (Nat.le_trans (by decide) hRf) (Wn := 0) (Nat.le_of_eq rfl) (Nat.le_trans (by decide) hRl) (kc' := 0) (ks' := 0) rfl rfl (by omega) (by omega) ?_
          intro T61 v61 W61 hp61
          obtain ⟨rfl, H61⟩ := hp61
          show Goes _ _ _ _ (State.setTop _ (mkF _ _ _ [.int fx1]))
          refine g_istore W61 d28_82 (pc' := 84) rfl (ls' := #[.val (.ref tr), .val (.int og), .val (.ref tmA), .val (.int x), .val (.int fx1), s5, s6, s7, s8]) (by rcases hs4 with rfl | ⟨_, rfl⟩ <;> rfl) ?_
          have H62f := Hp.fr9 H61
          have H63f := Hp.fr9 H62f
          have H64f := Hp.fr9 H63f
          have H65f := Hp.fr4 H64f
          have H66f := Hp.fr4 H65f
          have H67f := Hp.fr8 H66f
          have H68f := Hp.fr8 H67f
          have H69f := Hp.fr9 H68f
          have H70f := Hp.fr9 H69f
          have H71f := Hp.fr9 H70f
          refine in_loop l Z a0 hw n0 tr nt dsA prA hpA psA tlA hdA caA ffA bsA pwA foA oaA tmA ftI og FO OA HDl TM ogn ftn T Hd tm hog hft arcs netF hdF tmF F as0 p e R s m below meth c _ (Nat.le_trans (by decide) hRf) (Nat.le_trans (by decide) hRl) (k + 1) (up S (h 0) true) x yy (h 0) fx fy hx (by have := IP.2.2.1; omega) g2 g4 g6 g7 ?_ (fy - fx) fx1 fx (1 : Int32) 1 DL PL HL2 QL2 D P h2 Q2 Rk s5 s6 s7 s8 _ g3 (by omega) (Nat.le_refl _) (by decide) rd rp r1 r2 ⟨IP.1, IP.2.1, IP.2.2.1, up_s, IP.2.2.2.1, Or.inl (by have z := congrArg Int32.toInt c57; rw [hx, hog] at z; omega), IP.2.2.2.2⟩ hs5 hs6 hs7 W61 H71f
          intro T9 z1 z2 z3 z4 z5 z6 z7 z8 z9 z10 z11 c3 c4 c5 c6 c7 c8 u1 u2 u3 u4 u5 u6 u7 u8 u9 u10 u11 W9 H9
          exact ih (k + 1) _ z1 z2 z3 z4 z5 z6 z7 z8 z9 z10 z11 c3 c4 c5 c6 c7 c8 T9 (by omega) (fun z => by omega) u1 u2 u3 u4 u5 u6 u7 u8 u9 u10 u11 W9 H9
        · refine g_iloadN W56 d28_60 (pc' := 61) rfl rfl ?_
          refine g_aloadN W56 d28_61 (pc' := 62) rfl rfl rfl ?_
          refine g_getf W56 (wd_196 hw) Via.refl H56 (i := 0) rfl (jx := 0) rfl d28_62 (pc' := 65) rfl ?_
          intro T72 W72 H72
          have H73f := Hp.fr5 H72
          refine g_callV W72 (argsL := []) (st := [.int x]) (wd_264 hw) (wd_265 hw) (wd_267 hw) (wd_266 hw) (wd_93 hw) (wd_268 hw) (by decide) (a := nt) H73f (i := 0) rfl (c_ftn l Z a0 hw n0 nt tlA hdA caA ffA bsA pwA foA oaA ftI _ _ H73f) pd_7 rfl rfl rfl d28_65 (pc' := 68) rfl (Nat.le_trans (by decide) hRf) (Wn := 1) (Nat.le_of_eq rfl) (Nat.le_trans (by decide) hRl) (kc' := 0) (ks' := 0) rfl rfl (by omega) (by omega) ?_
          intro T74 v74 W74 hp74
          obtain ⟨rfl, H74⟩ := hp74
          show Goes _ _ _ _ (State.setTop _ (mkF _ _ _ [.int ftI, .int x]))
          refine g_icmp W74 d28_68 (pcy := 74) (by decide) (pc' := 71) rfl (fun (c75 : ¬ x < ftI) => ?_) (fun (c75 : ¬ ¬ x < ftI) => ?_)
          · refine g_aloadN W74 d28_74 (pc' := 75) rfl rfl rfl ?_
            refine g_getf W74 (wd_196 hw) Via.refl H74 (i := 1) rfl (jx := 0) rfl d28_75 (pc' := 78) rfl ?_
            intro T76 W76 H76
            refine g_iloadN W76 d28_78 (pc' := 79) rfl rfl ?_
            obtain ⟨fx1, yy, fx, fy, g1, g2, g3, g4, g5, g6, g7⟩ := netF (h 0) IP.2.1 IP.2.2.1
            have H77f := Hp.fr6 H76
            have H78f := Hp.fr1 H77f
            refine g_callV W76 (argsL := [.int x]) (st := []) (wd_238 hw) (wd_239 hw) (wd_241 hw) (wd_240 hw) (wd_93 hw) (wd_242 hw) (by decide) (a := nt) H78f (i := 0) rfl (c_fout l Z a0 hw n0 nt tlA hdA caA ffA bsA pwA foA oaA ftI FO x (h 0) hx fx1 g1 _ _ H78f) pd_10 rfl rfl rfl d28_79 (pc' := 82) rfl (Nat.le_trans (by decide) hRf) (Wn := 0) (Nat.le_of_eq rfl) (Nat.le_trans (by decide) hRl) (kc' := 0) (ks' := 0) rfl rfl (by omega) (by omega) ?_
            intro T79 v79 W79 hp79
            obtain ⟨rfl, H79⟩ := hp79
            show Goes _ _ _ _ (State.setTop _ (mkF _ _ _ [.int fx1]))
            refine g_istore W79 d28_82 (pc' := 84) rfl (ls' := #[.val (.ref tr), .val (.int og), .val (.ref tmA), .val (.int x), .val (.int fx1), s5, s6, s7, s8]) (by rcases hs4 with rfl | ⟨_, rfl⟩ <;> rfl) ?_
            have H80f := Hp.fr9 H79
            have H81f := Hp.fr9 H80f
            have H82f := Hp.fr9 H81f
            have H83f := Hp.fr4 H82f
            have H84f := Hp.fr4 H83f
            have H85f := Hp.fr8 H84f
            have H86f := Hp.fr8 H85f
            have H87f := Hp.fr9 H86f
            have H88f := Hp.fr9 H87f
            have H89f := Hp.fr9 H88f
            refine in_loop l Z a0 hw n0 tr nt dsA prA hpA psA tlA hdA caA ffA bsA pwA foA oaA tmA ftI og FO OA HDl TM ogn ftn T Hd tm hog hft arcs netF hdF tmF F as0 p e R s m below meth c _ (Nat.le_trans (by decide) hRf) (Nat.le_trans (by decide) hRl) (k + 1) (up S (h 0) true) x yy (h 0) fx fy hx (by have := IP.2.2.1; omega) g2 g4 g6 g7 ?_ (fy - fx) fx1 fx (1 : Int32) 1 DL PL HL2 QL2 D P h2 Q2 Rk s5 s6 s7 s8 _ g3 (by omega) (Nat.le_refl _) (by decide) rd rp r1 r2 ⟨IP.1, IP.2.1, IP.2.2.1, up_s, IP.2.2.2.1, Or.inr (by have z := c75; rw [Int32.lt_iff_toInt_lt, hx, hft] at z; omega), IP.2.2.2.2⟩ hs5 hs6 hs7 W79 H89f
            intro T9 z1 z2 z3 z4 z5 z6 z7 z8 z9 z10 z11 c3 c4 c5 c6 c7 c8 u1 u2 u3 u4 u5 u6 u7 u8 u9 u10 u11 W9 H9
            exact ih (k + 1) _ z1 z2 z3 z4 z5 z6 z7 z8 z9 z10 z11 c3 c4 c5 c6 c7 c8 T9 (by omega) (fun z => by omega) u1 u2 u3 u4 u5 u6 u7 u8 u9 u10 u11 W9 H9
          · replace c75 := Classical.not_not.mp c75
            refine g_goto W74 d28_71 (pc' := 43) (by decide) ?_
            have H90f := Hp.fr9 H74
            have H91f := Hp.fr9 H90f
            have H92f := Hp.fr9 H91f
            have H93f := Hp.fr9 H92f
            have H94f := Hp.fr4 H93f
            have H95f := Hp.fr8 H94f
            have H96f := Hp.fr8 H95f
            have H97f := Hp.fr9 H96f
            have H98f := Hp.fr9 H97f
            have H99f := Hp.fr9 H98f
            exact ih (k + 1) _ (1 : Int32) 1 DL PL HL2 QL2 D P h2 Q2 Rk _ s4 s5 s6 s7 s8 _ (by omega) (fun z => by omega) (by decide) rd rp r1 r2 IP.1 (Or.inr ⟨_, rfl⟩) hs4 hs5 hs6 hs7 W74 H99f
      · obtain rfl : hz = (3 : Int32) := i32_lit hhz (by decide)
        refine g_aloadN W2 d28_50 (pc' := 51) rfl rfl rfl ?_
        have H100f := Hp.fr4 H2
        have H101f := Hp.fr4 H100f
        have H102f := Hp.fr3 H101f
        have H103f := Hp.fr3 H102f
        refine g_callP W2 (argsL := []) (st := []) (wd_234 hw) (wd_235 hw) (wd_236 hw) (wd_190 hw) (wd_191 hw) (wd_237 hw) (by decide) (a := tr) H103f (i := 0) rfl (c_pop3 l Z a0 hw n0 tr nt dsA prA hpA psA DL HL QL D h Q rd rh rq (by have := I.1.1.1 0 (by omega); omega) (by have := I.1.1.1 1 (by omega); omega) (by have := I.1.1.1 2 (by omega); omega) _ _ H103f) pd_7 rfl rfl rfl d28_51 (pc' := 54) rfl (Nat.le_trans (by decide) hRf) (Wn := 0) (Nat.le_of_eq rfl) (Nat.le_trans (by decide) hRl) (kc' := 0) (ks' := 0) rfl rfl (by omega) (by omega) ?_
        intro T104 v104 W104 hp104
        obtain ⟨x, HL2, QL2, h2, Q2, rfl, hx, r1, r2, r3, H104⟩ := hp104
        show Goes _ _ _ _ (State.setTop _ (mkF _ _ _ [.int x]))
        have pk := pop3_ok I.1 r3
        have IP := inv_pop I (by omega) pk.1 pk.2
        refine g_istoreN W104 d28_54 (pc' := 55) rfl (ls' := #[.val (.ref tr), .val (.int og), .val (.ref tmA), .val (.int x), s4, s5, s6, s7, s8]) (by rcases hs3 with rfl | ⟨_, rfl⟩ <;> rfl) ?_
        refine g_iloadN W104 d28_55 (pc' := 56) rfl rfl ?_
        refine g_iloadN W104 d28_56 (pc' := 57) rfl rfl ?_
        refine g_icmp W104 d28_57 (pcy := 74) (by decide) (pc' := 60) rfl (fun (c105 : x = og) => ?_) (fun (c105 : ¬ x = og) => ?_)
        · refine g_aloadN W104 d28_74 (pc' := 75) rfl rfl rfl ?_
          refine g_getf W104 (wd_196 hw) Via.refl H104 (i := 0) rfl (jx := 0) rfl d28_75 (pc' := 78) rfl ?_
          intro T106 W106 H106
          refine g_iloadN W106 d28_78 (pc' := 79) rfl rfl ?_
          obtain ⟨fx1, yy, fx, fy, g1, g2, g3, g4, g5, g6, g7⟩ := netF (h 0) IP.2.1 IP.2.2.1
          have H107f := Hp.fr6 H106
          have H108f := Hp.fr6 H107f
          refine g_callV W106 (argsL := [.int x]) (st := []) (wd_238 hw) (wd_239 hw) (wd_241 hw) (wd_240 hw) (wd_93 hw) (wd_242 hw) (by decide) (a := nt) H108f (i := 0) rfl (c_fout l Z a0 hw n0 nt tlA hdA caA ffA bsA pwA foA oaA ftI FO x (h 0) hx fx1 g1 _ _ H108f) pd_10 rfl rfl rfl d28_79 (pc' := 82) rfl (Nat.le_trans (by decide) hRf) (Wn := 0) (Nat.le_of_eq rfl) (Nat.le_trans (by decide) hRl) (kc' := 0) (ks' := 0) rfl rfl (by omega) (by omega) ?_
          intro T109 v109 W109 hp109
          obtain ⟨rfl, H109⟩ := hp109
          show Goes _ _ _ _ (State.setTop _ (mkF _ _ _ [.int fx1]))
          refine g_istore W109 d28_82 (pc' := 84) rfl (ls' := #[.val (.ref tr), .val (.int og), .val (.ref tmA), .val (.int x), .val (.int fx1), s5, s6, s7, s8]) (by rcases hs4 with rfl | ⟨_, rfl⟩ <;> rfl) ?_
          have H110f := Hp.fr9 H109
          have H111f := Hp.fr9 H110f
          have H112f := Hp.fr9 H111f
          have H113f := Hp.fr4 H112f
          have H114f := Hp.fr4 H113f
          have H115f := Hp.fr8 H114f
          have H116f := Hp.fr8 H115f
          have H117f := Hp.fr9 H116f
          have H118f := Hp.fr9 H117f
          have H119f := Hp.fr9 H118f
          refine in_loop l Z a0 hw n0 tr nt dsA prA hpA psA tlA hdA caA ffA bsA pwA foA oaA tmA ftI og FO OA HDl TM ogn ftn T Hd tm hog hft arcs netF hdF tmF F as0 p e R s m below meth c _ (Nat.le_trans (by decide) hRf) (Nat.le_trans (by decide) hRl) (k + 1) (up S (h 0) true) x yy (h 0) fx fy hx (by have := IP.2.2.1; omega) g2 g4 g6 g7 ?_ (fy - fx) fx1 fx (2 : Int32) 2 DL PL HL2 QL2 D P h2 Q2 Rk s5 s6 s7 s8 _ g3 (by omega) (Nat.le_refl _) (by decide) rd rp r1 r2 ⟨IP.1, IP.2.1, IP.2.2.1, up_s, IP.2.2.2.1, Or.inl (by have z := congrArg Int32.toInt c105; rw [hx, hog] at z; omega), IP.2.2.2.2⟩ hs5 hs6 hs7 W109 H119f
          intro T9 z1 z2 z3 z4 z5 z6 z7 z8 z9 z10 z11 c3 c4 c5 c6 c7 c8 u1 u2 u3 u4 u5 u6 u7 u8 u9 u10 u11 W9 H9
          exact ih (k + 1) _ z1 z2 z3 z4 z5 z6 z7 z8 z9 z10 z11 c3 c4 c5 c6 c7 c8 T9 (by omega) (fun z => by omega) u1 u2 u3 u4 u5 u6 u7 u8 u9 u10 u11 W9 H9
        · refine g_iloadN W104 d28_60 (pc' := 61) rfl rfl ?_
          refine g_aloadN W104 d28_61 (pc' := 62) rfl rfl rfl ?_
          refine g_getf W104 (wd_196 hw) Via.refl H104 (i := 0) rfl (jx := 0) rfl d28_62 (pc' := 65) rfl ?_
          intro T120 W120 H120
          have H121f := Hp.fr5 H120
          refine g_callV W120 (argsL := []) (st := [.int x]) (wd_264 hw) (wd_265 hw) (wd_267 hw) (wd_266 hw) (wd_93 hw) (wd_268 hw) (by decide) (a := nt) H121f (i := 0) rfl (c_ftn l Z a0 hw n0 nt tlA hdA caA ffA bsA pwA foA oaA ftI _ _ H121f) pd_7 rfl rfl rfl d28_65 (pc' := 68) rfl (Nat.le_trans (by decide) hRf) (Wn := 1) (Nat.le_of_eq rfl) (Nat.le_trans (by decide) hRl) (kc' := 0) (ks' := 0) rfl rfl (by omega) (by omega) ?_
          intro T122 v122 W122 hp122
          obtain ⟨rfl, H122⟩ := hp122
          show Goes _ _ _ _ (State.setTop _ (mkF _ _ _ [.int ftI, .int x]))
          refine g_icmp W122 d28_68 (pcy := 74) (by decide) (pc' := 71) rfl (fun (c123 : ¬ x < ftI) => ?_) (fun (c123 : ¬ ¬ x < ftI) => ?_)
          · refine g_aloadN W122 d28_74 (pc' := 75) rfl rfl rfl ?_
            refine g_getf W122 (wd_196 hw) Via.refl H122 (i := 1) rfl (jx := 0) rfl d28_75 (pc' := 78) rfl ?_
            intro T124 W124 H124
            refine g_iloadN W124 d28_78 (pc' := 79) rfl rfl ?_
            obtain ⟨fx1, yy, fx, fy, g1, g2, g3, g4, g5, g6, g7⟩ := netF (h 0) IP.2.1 IP.2.2.1
            have H125f := Hp.fr6 H124
            have H126f := Hp.fr1 H125f
            refine g_callV W124 (argsL := [.int x]) (st := []) (wd_238 hw) (wd_239 hw) (wd_241 hw) (wd_240 hw) (wd_93 hw) (wd_242 hw) (by decide) (a := nt) H126f (i := 0) rfl (c_fout l Z a0 hw n0 nt tlA hdA caA ffA bsA pwA foA oaA ftI FO x (h 0) hx fx1 g1 _ _ H126f) pd_10 rfl rfl rfl d28_79 (pc' := 82) rfl (Nat.le_trans (by decide) hRf) (Wn := 0) (Nat.le_of_eq rfl) (Nat.le_trans (by decide) hRl) (kc' := 0) (ks' := 0) rfl rfl (by omega) (by omega) ?_
            intro T127 v127 W127 hp127
            obtain ⟨rfl, H127⟩ := hp127
            show Goes _ _ _ _ (State.setTop _ (mkF _ _ _ [.int fx1]))
            refine g_istore W127 d28_82 (pc' := 84) rfl (ls' := #[.val (.ref tr), .val (.int og), .val (.ref tmA), .val (.int x), .val (.int fx1), s5, s6, s7, s8]) (by rcases hs4 with rfl | ⟨_, rfl⟩ <;> rfl) ?_
            have H128f := Hp.fr9 H127
            have H129f := Hp.fr9 H128f
            have H130f := Hp.fr9 H129f
            have H131f := Hp.fr4 H130f
            have H132f := Hp.fr4 H131f
            have H133f := Hp.fr8 H132f
            have H134f := Hp.fr8 H133f
            have H135f := Hp.fr9 H134f
            have H136f := Hp.fr9 H135f
            have H137f := Hp.fr9 H136f
            refine in_loop l Z a0 hw n0 tr nt dsA prA hpA psA tlA hdA caA ffA bsA pwA foA oaA tmA ftI og FO OA HDl TM ogn ftn T Hd tm hog hft arcs netF hdF tmF F as0 p e R s m below meth c _ (Nat.le_trans (by decide) hRf) (Nat.le_trans (by decide) hRl) (k + 1) (up S (h 0) true) x yy (h 0) fx fy hx (by have := IP.2.2.1; omega) g2 g4 g6 g7 ?_ (fy - fx) fx1 fx (2 : Int32) 2 DL PL HL2 QL2 D P h2 Q2 Rk s5 s6 s7 s8 _ g3 (by omega) (Nat.le_refl _) (by decide) rd rp r1 r2 ⟨IP.1, IP.2.1, IP.2.2.1, up_s, IP.2.2.2.1, Or.inr (by have z := c123; rw [Int32.lt_iff_toInt_lt, hx, hft] at z; omega), IP.2.2.2.2⟩ hs5 hs6 hs7 W127 H137f
            intro T9 z1 z2 z3 z4 z5 z6 z7 z8 z9 z10 z11 c3 c4 c5 c6 c7 c8 u1 u2 u3 u4 u5 u6 u7 u8 u9 u10 u11 W9 H9
            exact ih (k + 1) _ z1 z2 z3 z4 z5 z6 z7 z8 z9 z10 z11 c3 c4 c5 c6 c7 c8 T9 (by omega) (fun z => by omega) u1 u2 u3 u4 u5 u6 u7 u8 u9 u10 u11 W9 H9
          · replace c123 := Classical.not_not.mp c123
            refine g_goto W122 d28_71 (pc' := 43) (by decide) ?_
            have H138f := Hp.fr9 H122
            have H139f := Hp.fr9 H138f
            have H140f := Hp.fr9 H139f
            have H141f := Hp.fr9 H140f
            have H142f := Hp.fr4 H141f
            have H143f := Hp.fr8 H142f
            have H144f := Hp.fr8 H143f
            have H145f := Hp.fr9 H144f
            have H146f := Hp.fr9 H145f
            have H147f := Hp.fr9 H146f
            exact ih (k + 1) _ (2 : Int32) 2 DL PL HL2 QL2 D P h2 Q2 Rk _ s4 s5 s6 s7 s8 _ (by omega) (fun z => by omega) (by decide) rd rp r1 r2 IP.1 (Or.inr ⟨_, rfl⟩) hs4 hs5 hs6 hs7 W122 H147f

theorem dy_z : Jvm.OwnKit.Dy ((0 : Nat) : Int) 0 0 := dy_zero
theorem rd_inf : RD ([(9218868437227405312 : UInt64), (9218868437227405312 : UInt64), (9218868437227405312 : UInt64), (9218868437227405312 : UInt64), (9218868437227405312 : UInt64)] : List UInt64) (fun _ => 1000) := by
  refine ⟨rfl, fun v hv => ?_⟩
  match v, hv with
  | 0, _ => exact ⟨_, rfl, Or.inl ⟨rfl, rfl⟩⟩
  | 1, _ => exact ⟨_, rfl, Or.inl ⟨rfl, rfl⟩⟩
  | 2, _ => exact ⟨_, rfl, Or.inl ⟨rfl, rfl⟩⟩
  | 3, _ => exact ⟨_, rfl, Or.inl ⟨rfl, rfl⟩⟩
  | 4, _ => exact ⟨_, rfl, Or.inl ⟨rfl, rfl⟩⟩
theorem rn_0 : RN (List.replicate 5 0) (fun _ => 0) := by
  refine ⟨rfl, fun v hv => ?_⟩
  match v, hv with
  | 0, _ => exact ⟨_, rfl, by decide⟩
  | 1, _ => exact ⟨_, rfl, by decide⟩
  | 2, _ => exact ⟨_, rfl, by decide⟩
  | 3, _ => exact ⟨_, rfl, by decide⟩
  | 4, _ => exact ⟨_, rfl, by decide⟩
theorem ri_m : RI ([(-1 : Int32), (-1 : Int32), (-1 : Int32), (-1 : Int32), (-1 : Int32)] : List Int32) (fun _ => -1) := by
  refine ⟨rfl, fun v hv => ?_⟩
  match v, hv with
  | 0, _ => exact ⟨_, rfl, by decide⟩
  | 1, _ => exact ⟨_, rfl, by decide⟩
  | 2, _ => exact ⟨_, rfl, by decide⟩
  | 3, _ => exact ⟨_, rfl, by decide⟩
  | 4, _ => exact ⟨_, rfl, by decide⟩
theorem hok_0 {D h : Nat → Nat} : HOk D h (fun _ => -1) 0 := ⟨⟨fun i hi => (by omega), fun v _ _ hv => absurd (show (0 : Int) ≤ -1 from hv) (by decide), fun v _ _ => (show (-1 : Int) ≤ -1 by decide)⟩, fun i a b => (by omega)⟩
theorem inv_init {og ft : Nat} {T Hd tm h2 : Nat → Nat} {Q2 : Nat → Int} (o1 : 1 ≤ og) (o2 : og ≤ 4) (H : HOk (up (fun _ => 1000) og 0) h2 Q2 1) (f : ∀ v, 1 ≤ v → v ≤ 4 → (0 ≤ Q2 v ↔ (0 : Int) ≤ (fun _ => -1) v ∨ v = og)) : Inv og ft T Hd tm 0 (fun _ => false) (up (fun _ => 1000) og 0) (fun _ => -1) h2 Q2 1 (fun _ => 0) := by
  have g : ∀ v, 1 ≤ v → v ≤ 4 → 0 ≤ Q2 v → v = og := fun v a b q => by
    rcases (f v a b).mp q with z | z
    · exact absurd (show (0 : Int) ≤ -1 from z) (by decide)
    · exact z
  have e : ∀ v, up (fun _ => 1000) og 0 v < 1000 → v = og := fun v q => by
    by_cases z : v = og
    · exact z
    · rw [up_o z] at q; omega
  refine ⟨H, ?_, rfl, fun v a b q => ?_, fun v a b q => ?_, fun u v _ _ _ _ q _ => (by cases (show false = true from q)), fun v a b q => ?_, fun v _ _ q => (by cases (show false = true from q)), fun v _ _ _ => Nat.zero_le _, fun v a b q => ?_, fun v a b => ?_, up_s⟩
  · have := cntQ_add (Q := fun _ => -1) o1 o2 (by decide) f
    rw [this]; rfl
  · rw [g v a b q, up_s]; exact ⟨rfl, by decide⟩
  · exact Or.inr ((f v a b).mpr (Or.inr (e v q)))
  · exact Or.inl ⟨e v q, rfl, by rw [e v q, up_s], rfl⟩
  · rw [e v q, up_s]; omega
  · by_cases z : v = og
    · rw [z, up_s]; omega
    · rw [up_o z]; exact Nat.le_refl _

theorem c_build (l : Launch) (Z : State) (a0 : Array Value) (hw : ∀ d ∈ tables_1, d.before a0 Z = true) (n0 : Nat) (tr nt dsA prA hpA psA tlA hdA caA ffA bsA pwA foA oaA tmA : Addr) (ftI og : Int32) (FO OA HDl : List Int32) (TM : List UInt64) (ogn ftn : Nat) (T Hd tm : Nat → Nat) (hog : og.toInt = (ogn : Int)) (hft : ftI.toInt = (ftn : Int)) (arcs : Arcs T Hd tm) (netF : NetF FO OA T) (hdF : HdF HDl Hd) (tmF : TmF TM tm) (o1 : 1 ≤ ogn) (o2 : ogn ≤ 4) (h0 : Heap) (F : List HRow) (H00 : Hp Z n0 h0 ((tr, ObC Z "com/example/lanewright/lanewright/ShortestPathTree" (fs_ShortestPathTree (.ref nt) (.ref dsA) (.ref prA) (.ref hpA) (.ref psA) (.int (0 : Int32)))) :: (dsA, DaC Z ([0, 0, 0, 0, 0] : List UInt64)) :: (prA, IaC Z (List.replicate 5 0)) :: (hpA, IaC Z (List.replicate 5 0)) :: (psA, IaC Z (List.replicate 5 0)) :: (nt, ObC Z "com/example/lanewright/lanewright/Network" (fs_Network (.int (4 : Int32)) (.int ftI) (.ref tlA) (.ref hdA) (.ref caA) (.ref ffA) (.ref bsA) (.ref pwA) (.ref foA) (.ref oaA))) :: (foA, IaC Z FO) :: (oaA, IaC Z OA) :: (hdA, IaC Z HDl) :: (tmA, DaC Z TM) :: F)) :
    Con l Z n0 ⟨"com/example/lanewright/lanewright/ShortestPathTree", "build", "(I[D)V"⟩ [] prog_57_method_2_code 9 none ({ frames := 2, cells := 0, slots := 0, locals := 28 } : Room) #[.ref tr, .int og, .ref tmA] h0 (fun v hp => ∃ (hz : Int32) (DL : List UInt64) (PL HL QL : List Int32) (D : Nat → Nat) (P : Nat → Int) (h : Nat → Nat) (Q : Nat → Int) (Rk : Nat → Nat) (S : Nat → Bool) (k : Nat), v = none ∧ RD DL D ∧ RI PL P ∧ Inv ogn ftn T Hd tm k S D P h Q 0 Rk ∧ Hp Z n0 hp ((tr, ObC Z "com/example/lanewright/lanewright/ShortestPathTree" (fs_ShortestPathTree (.ref nt) (.ref dsA) (.ref prA) (.ref hpA) (.ref psA) (.int hz))) :: (dsA, DaC Z DL) :: (prA, IaC Z PL) :: (hpA, IaC Z HL) :: (psA, IaC Z QL) :: (nt, ObC Z "com/example/lanewright/lanewright/Network" (fs_Network (.int (4 : Int32)) (.int ftI) (.ref tlA) (.ref hdA) (.ref caA) (.ref ffA) (.ref bsA) (.ref pwA) (.ref foA) (.ref oaA))) :: (foA, IaC Z FO) :: (oaA, IaC Z OA) :: (hdA, IaC Z HDl) :: (tmA, DaC Z TM) :: F)) := by
  refine con_of (plainFor_of_name pn_ShortestPathTree) ?_
  intro p e s m below meth c T0 W0 e0
  subst e0
  have H0 := H00
  refine g_cast (ef_rir9 m tr og tmA) ?_
  refine g_aloadN W0 d28_0 (pc' := 1) rfl rfl rfl ?_
  refine g_getf W0 (wd_203 hw) Via.refl H0 (i := 0) rfl (jx := 1) rfl d28_1 (pc' := 4) rfl ?_
  intro T1 W1 H1
  refine g_ldc2Double W1 (wd_216 hw) d28_4 (pc' := 7) rfl ?_
  have H2f := Hp.fr1 H1
  refine g_callS W1 (argsL := [.ref dsA, .double (9218868437227405312 : UInt64)]) (st := []) (wd_217 hw) (wd_218 hw) (wd_219 hw) (wd_220 hw) (by decide) (c_filld l Z a0 hw n0 dsA _ _ H2f) pd_11 rfl rfl rfl d28_7 (pc' := 10) rfl (by decide) (Wn := 0) (Nat.le_of_eq rfl) (by decide) (kc' := 0) (ks' := 0) rfl rfl (by decide) (by decide) ?_
  intro T3 v3 W3 hp3
  obtain ⟨rfl, H3⟩ := hp3
  show Goes _ _ _ _ (State.setTop _ (mkF _ _ _ []))
  refine g_aloadN W3 d28_10 (pc' := 11) rfl rfl rfl ?_
  refine g_getf W3 (wd_205 hw) Via.refl H3 (i := 1) rfl (jx := 2) rfl d28_11 (pc' := 14) rfl ?_
  intro T4 W4 H4
  refine g_iconst W4 d28_14 (pc' := 15) rfl (v := (-1 : Int32)) (by decide) ?_
  have H5f := Hp.fr2 H4
  refine g_callS W4 (argsL := [.ref prA, .int (-1 : Int32)]) (st := []) (wd_221 hw) (wd_222 hw) (wd_219 hw) (wd_223 hw) (by decide) (c_filli l Z a0 hw n0 prA _ _ H5f) pd_12 rfl rfl rfl d28_15 (pc' := 18) rfl (by decide) (Wn := 0) (Nat.le_of_eq rfl) (by decide) (kc' := 0) (ks' := 0) rfl rfl (by decide) (by decide) ?_
  intro T6 v6 W6 hp6
  obtain ⟨rfl, H6⟩ := hp6
  show Goes _ _ _ _ (State.setTop _ (mkF _ _ _ []))
  refine g_aloadN W6 d28_18 (pc' := 19) rfl rfl rfl ?_
  refine g_getf W6 (wd_209 hw) Via.refl H6 (i := 2) rfl (jx := 4) rfl d28_19 (pc' := 22) rfl ?_
  intro T7 W7 H7
  refine g_iconst W7 d28_22 (pc' := 23) rfl (v := (-1 : Int32)) (by decide) ?_
  have H8f := Hp.fr4 H7
  refine g_callS W7 (argsL := [.ref psA, .int (-1 : Int32)]) (st := []) (wd_221 hw) (wd_222 hw) (wd_219 hw) (wd_223 hw) (by decide) (c_filli l Z a0 hw n0 psA _ _ H8f) pd_12 rfl rfl rfl d28_23 (pc' := 26) rfl (by decide) (Wn := 0) (Nat.le_of_eq rfl) (by decide) (kc' := 0) (ks' := 0) rfl rfl (by decide) (by decide) ?_
  intro T9 v9 W9 hp9
  obtain ⟨rfl, H9⟩ := hp9
  show Goes _ _ _ _ (State.setTop _ (mkF _ _ _ []))
  refine g_aloadN W9 d28_26 (pc' := 27) rfl rfl rfl ?_
  refine g_iconst W9 d28_27 (pc' := 28) rfl (v := (0 : Int32)) (by decide) ?_
  refine g_putf W9 (wd_224 hw) Via.refl (Or.inl (wd_225 hw)) (wd_190 hw) (ty := .int) (by decide) rfl rfl H9 (i := 3) rfl (jx := 5) rfl d28_28 (pc' := 31) rfl (L' := ((psA, IaC Z ([(-1 : Int32), (-1 : Int32), (-1 : Int32), (-1 : Int32), (-1 : Int32)] : List Int32)) :: (prA, IaC Z ([(-1 : Int32), (-1 : Int32), (-1 : Int32), (-1 : Int32), (-1 : Int32)] : List Int32)) :: (dsA, DaC Z ([(9218868437227405312 : UInt64), (9218868437227405312 : UInt64), (9218868437227405312 : UInt64), (9218868437227405312 : UInt64), (9218868437227405312 : UInt64)] : List UInt64)) :: (tr, ObC Z "com/example/lanewright/lanewright/ShortestPathTree" (fs_ShortestPathTree (.ref nt) (.ref dsA) (.ref prA) (.ref hpA) (.ref psA) (.int (0 : Int32)))) :: (hpA, IaC Z (List.replicate 5 0)) :: (nt, ObC Z "com/example/lanewright/lanewright/Network" (fs_Network (.int (4 : Int32)) (.int ftI) (.ref tlA) (.ref hdA) (.ref caA) (.ref ffA) (.ref bsA) (.ref pwA) (.ref foA) (.ref oaA))) :: (foA, IaC Z FO) :: (oaA, IaC Z OA) :: (hdA, IaC Z HDl) :: (tmA, DaC Z TM) :: F)) rfl ?_
  intro T10 W10 H10
  refine g_aloadN W10 d28_31 (pc' := 32) rfl rfl rfl ?_
  refine g_getf W10 (wd_203 hw) Via.refl H10 (i := 3) rfl (jx := 1) rfl d28_32 (pc' := 35) rfl ?_
  intro T11 W11 H11
  refine g_iloadN W11 d28_35 (pc' := 36) rfl rfl ?_
  refine g_dconst0 W11 d28_36 (pc' := 37) rfl ?_
  refine g_dastoreD W11 H11 (i := 2) rfl (jx := ogn) hog (by have := rd_inf.1; omega) d28_37 (pc' := 38) rfl (L' := ((psA, IaC Z ([(-1 : Int32), (-1 : Int32), (-1 : Int32), (-1 : Int32), (-1 : Int32)] : List Int32)) :: (prA, IaC Z ([(-1 : Int32), (-1 : Int32), (-1 : Int32), (-1 : Int32), (-1 : Int32)] : List Int32)) :: (dsA, DaC Z (([(9218868437227405312 : UInt64), (9218868437227405312 : UInt64), (9218868437227405312 : UInt64), (9218868437227405312 : UInt64), (9218868437227405312 : UInt64)] : List UInt64).set ogn 0)) :: (tr, ObC Z "com/example/lanewright/lanewright/ShortestPathTree" (fs_ShortestPathTree (.ref nt) (.ref dsA) (.ref prA) (.ref hpA) (.ref psA) (.int (0 : Int32)))) :: (hpA, IaC Z (List.replicate 5 0)) :: (nt, ObC Z "com/example/lanewright/lanewright/Network" (fs_Network (.int (4 : Int32)) (.int ftI) (.ref tlA) (.ref hdA) (.ref caA) (.ref ffA) (.ref bsA) (.ref pwA) (.ref foA) (.ref oaA))) :: (foA, IaC Z FO) :: (oaA, IaC Z OA) :: (hdA, IaC Z HDl) :: (tmA, DaC Z TM) :: F)) rfl ?_
  intro T12 W12 H12
  refine g_aloadN W12 d28_38 (pc' := 39) rfl rfl rfl ?_
  refine g_iloadN W12 d28_39 (pc' := 40) rfl rfl ?_
  have H13f := Hp.fr4 H12
  have H14f := Hp.fr3 H13f
  have H15f := Hp.fr4 H14f
  have rd := rd_inf.set (v := ogn) (x := 0) (y := 0) (by omega) (Or.inr ⟨by decide, dy_z⟩)
  refine g_callP W12 (argsL := [.int og]) (st := []) (wd_226 hw) (wd_227 hw) (wd_228 hw) (wd_190 hw) (wd_191 hw) (wd_229 hw) (by decide) (a := tr) H15f (i := 0) rfl (c_push0 l Z a0 hw n0 tr nt dsA prA hpA psA _ _ _ (up (fun _ => 1000) ogn 0) (fun _ => 0) (fun _ => -1) rd rn_0 ri_m og ogn hog (by omega) _ _ H15f) pd_9 rfl rfl rfl d28_40 (pc' := 43) rfl (by decide) (Wn := 0) (Nat.le_of_eq rfl) (by decide) (kc' := 0) (ks' := 0) rfl rfl (by decide) (by decide) ?_
  intro T16 v16 W16 hp16
  obtain ⟨HL2, QL2, h2, Q2, rfl, r1, r2, r3, H16⟩ := hp16
  show Goes _ _ _ _ (State.setTop _ (mkF _ _ _ []))
  have pk := push_ok (D := up (fun _ => 1000) ogn 0) hok_0 o1 o2 (by decide) (by decide) (Or.inl ⟨rfl, r3⟩)
  have H17f := Hp.fr9 H16
  have H18f := Hp.fr9 H17f
  have H19f := Hp.fr9 H18f
  have H20f := Hp.fr9 H19f
  have H21f := Hp.fr9 H20f
  have H22f := Hp.fr8 H21f
  have H23f := Hp.fr8 H22f
  have H24f := Hp.fr9 H23f
  have H25f := Hp.fr9 H24f
  have H26f := Hp.fr9 H25f
  exact out_loop l Z a0 hw n0 tr nt dsA prA hpA psA tlA hdA caA ffA bsA pwA foA oaA tmA ftI og FO OA HDl TM ogn ftn T Hd tm hog hft arcs netF hdF tmF F _ p e _ s m below meth c (by decide) (by decide) 4 0 (fun _ => false) (1 : Int32) 1 _ _ HL2 QL2 _ (fun _ => -1) h2 Q2 (fun _ => 0) .unset .unset .unset .unset .unset .unset _ (by decide) (fun _ => by decide) (by decide) rd ri_m r1 r2 (inv_init o1 o2 pk.1 pk.2) (Or.inl rfl) (Or.inl rfl) (Or.inl rfl) (Or.inl rfl) (Or.inl ⟨rfl, rfl⟩) W16 H26f

theorem net_f {j0 j1 j2 j3 : Nat} (m0 : j0 ∈ ([1, 2, 3, 4] : List Nat)) (m1 : j1 ∈ ([1, 2, 3, 4] : List Nat)) (m2 : j2 ∈ ([1, 2, 3, 4] : List Nat)) (m3 : j3 ∈ ([1, 2, 3, 4] : List Nat)) : NetF (pf1 (pf1 (pf1 (pf1 (nf1 (nf1 (nf1 (nf1 (List.replicate 6 (0 : Int32)) j0) j1) j2) j3) 1) 2) 3) 4) (oa1 (oa1 (oa1 (oa1 (List.replicate 4 (0 : Int32)) (pf1 (pf1 (pf1 (pf1 (nf1 (nf1 (nf1 (nf1 (List.replicate 6 (0 : Int32)) j0) j1) j2) j3) 1) 2) 3) 4) j0 0) (nx1 (pf1 (pf1 (pf1 (pf1 (nf1 (nf1 (nf1 (nf1 (List.replicate 6 (0 : Int32)) j0) j1) j2) j3) 1) 2) 3) 4) j0) j1 1) (nx1 (nx1 (pf1 (pf1 (pf1 (pf1 (nf1 (nf1 (nf1 (nf1 (List.replicate 6 (0 : Int32)) j0) j1) j2) j3) 1) 2) 3) 4) j0) j1) j2 2) (nx1 (nx1 (nx1 (pf1 (pf1 (pf1 (pf1 (nf1 (nf1 (nf1 (nf1 (List.replicate 6 (0 : Int32)) j0) j1) j2) j3) 1) 2) 3) 4) j0) j1) j2) j3 3) (fun a => ([j0, j1, j2, j3] : List Nat).getD a 0) := by
  have q := (net_ok j0 m0 j1 m1 j2 m2 j3 m3).2
  intro v v1 v2
  obtain ⟨q1, q2, q3, q4⟩ := q v (by simp; omega)
  refine ⟨_, _, ((pf1 (pf1 (pf1 (pf1 (nf1 (nf1 (nf1 (nf1 (List.replicate 6 (0 : Int32)) j0) j1) j2) j3) 1) 2) 3) 4).getD v 0).toInt.toNat, ((pf1 (pf1 (pf1 (pf1 (nf1 (nf1 (nf1 (nf1 (List.replicate 6 (0 : Int32)) j0) j1) j2) j3) 1) 2) 3) 4).getD (v + 1) 0).toInt.toNat, getD_some (by simp only [nf1_len, pf1_len, nx1_len, oa1_len, List.length_replicate]; omega), getD_some (by simp only [nf1_len, pf1_len, nx1_len, oa1_len, List.length_replicate]; omega), (Int.toNat_of_nonneg q1).symm, (Int.toNat_of_nonneg (by omega)).symm, by omega, by omega, fun i i1 i2 => ?_⟩
  obtain ⟨z1, z2, z3⟩ := q4 i (by simp; omega) (by omega) (by omega)
  exact ⟨_, _, getD_some (by simp only [nf1_len, pf1_len, nx1_len, oa1_len, List.length_replicate]; omega), (Int.toNat_of_nonneg z1).symm, by omega, z3⟩
theorem hd_f {g0 g1 g2 g3 : Int32} {j0 j1 j2 j3 : Nat} (h0 : g0.toInt = (j0 : Int)) (h1 : g1.toInt = (j1 : Int)) (h2 : g2.toInt = (j2 : Int)) (h3 : g3.toInt = (j3 : Int)) : HdF [g0, g1, g2, g3] (fun a => ([j0, j1, j2, j3] : List Nat).getD a 0) := by
  intro a ha
  match a, ha with
  | 0, _ => exact ⟨_, rfl, h0⟩
  | 1, _ => exact ⟨_, rfl, h1⟩
  | 2, _ => exact ⟨_, rfl, h2⟩
  | 3, _ => exact ⟨_, rfl, h3⟩
theorem tm_f {g0 g1 g2 g3 : UInt64} {j0 j1 j2 j3 : Nat} (h0 : Jvm.OwnKit.Dy (j0 : Int) 0 g0) (h1 : Jvm.OwnKit.Dy (j1 : Int) 0 g1) (h2 : Jvm.OwnKit.Dy (j2 : Int) 0 g2) (h3 : Jvm.OwnKit.Dy (j3 : Int) 0 g3) : TmF [g0, g1, g2, g3] (fun a => ([j0, j1, j2, j3] : List Nat).getD a 0) := by
  intro a ha
  match a, ha with
  | 0, _ => exact ⟨_, rfl, h0⟩
  | 1, _ => exact ⟨_, rfl, h1⟩
  | 2, _ => exact ⟨_, rfl, h2⟩
  | 3, _ => exact ⟨_, rfl, h3⟩
theorem arcs_f {j0 j1 j2 j3 g0 g1 g2 g3 w0 w1 w2 w3 : Nat} (a0 : 1 ≤ j0 ∧ j0 ≤ 4) (b0 : 1 ≤ g0 ∧ g0 ≤ 4) (c0 : w0 ≤ 7) (a1 : 1 ≤ j1 ∧ j1 ≤ 4) (b1 : 1 ≤ g1 ∧ g1 ≤ 4) (c1 : w1 ≤ 7) (a2 : 1 ≤ j2 ∧ j2 ≤ 4) (b2 : 1 ≤ g2 ∧ g2 ≤ 4) (c2 : w2 ≤ 7) (a3 : 1 ≤ j3 ∧ j3 ≤ 4) (b3 : 1 ≤ g3 ∧ g3 ≤ 4) (c3 : w3 ≤ 7) : Arcs (fun a => ([j0, j1, j2, j3] : List Nat).getD a 0) (fun a => ([g0, g1, g2, g3] : List Nat).getD a 0) (fun a => ([w0, w1, w2, w3] : List Nat).getD a 0) := by
  intro a ha
  match a, ha with
  | 0, _ => exact ⟨a0.1, a0.2, b0.1, b0.2, c0⟩
  | 1, _ => exact ⟨a1.1, a1.2, b1.1, b1.2, c1⟩
  | 2, _ => exact ⟨a2.1, a2.2, b2.1, b2.2, c2⟩
  | 3, _ => exact ⟨a3.1, a3.2, b3.1, b3.2, c3⟩
theorem mem_r {n : Nat} (h1 : 1 ≤ n) (h2 : n ≤ 4) : n ∈ ([1, 2, 3, 4] : List Nat) := by simp; omega


def Chn (og ft : Nat) (T Hd tm D : Nat → Nat) (P : Nat → Int) : Nat → Nat → Prop
  | 0, v => v = og ∧ P v = -1 ∧ D v = 0
  | n + 1, v => v ≠ og ∧ ∃ a : Nat, a < 4 ∧ P v = (a : Int) ∧ Hd a = v ∧ (T a = og ∨ ft ≤ T a) ∧ D v = D (T a) + tm a ∧ Chn og ft T Hd tm D P n (T a)
theorem chn {og ft k : Nat} {T Hd tm D h R : Nat → Nat} {S : Nat → Bool} {P Q : Nat → Int} (I : Inv og ft T Hd tm k S D P h Q 0 R) (ar : Arcs T Hd tm) : ∀ n v, 1 ≤ v → v ≤ 4 → D v < 1000 → R v = n → Chn og ft T Hd tm D P n v := by
  intro n
  induction n with
  | zero =>
    intro v v1 v2 fv e
    rcases I.2.2.2.2.2.2.1 v v1 v2 fv with ⟨a1, a2, a3, a4⟩ | ⟨a1, a, a2, a3, a4, a5, a6, a7, a8⟩
    · exact ⟨a1, a2, a3⟩
    · omega
  | succ n ih =>
    intro v v1 v2 fv e
    rcases I.2.2.2.2.2.2.1 v v1 v2 fv with ⟨a1, a2, a3, a4⟩ | ⟨a1, a, a2, a3, a4, a5, a6, a7, a8⟩
    · omega
    · obtain ⟨t1, t2, -, -, -⟩ := ar a a2
      exact ⟨a1, a, a2, a3, a4, a6, a7, ih _ t1 t2 (by omega) (by omega)⟩
theorem chn_le {og ft k : Nat} {T Hd tm D h R : Nat → Nat} {S : Nat → Bool} {P Q : Nat → Int} (I : Inv og ft T Hd tm k S D P h Q 0 R) {v : Nat} (v1 : 1 ≤ v) (v2 : v ≤ 4) (fv : D v < 1000) : R v + 1 ≤ 4 := by
  have kk := inv_hs I
  rcases I.2.2.2.2.1 v v1 v2 fv with q | q
  · have := I.2.2.2.2.2.2.2.1 v v1 v2 q; omega
  · obtain ⟨i, hi, -⟩ := I.1.1.2.1 v v1 v2 q; omega
theorem own_nm1 {b : Int32} {n : Nat} (h : b.toInt = (n : Int)) : ¬ b = (-1 : Int32) := fun q => by
  rw [q, show ((-1 : Int32)).toInt = -1 by decide] at h; omega
theorem own_e4 {y x : Int32} (h : (y &&& (3 : Int32)) + (1 : Int32) = x) : ∃ n : Nat, x.toInt = (n : Int) ∧ 1 ≤ n ∧ n ≤ 4 := by
  subst h
  rcases and3 y with q | q | q | q <;> rw [q]
  · exact ⟨1, by decide, by decide, by decide⟩
  · exact ⟨2, by decide, by decide, by decide⟩
  · exact ⟨3, by decide, by decide, by decide⟩
  · exact ⟨4, by decide, by decide, by decide⟩
theorem own_e5 {y x : Int32} (h : ((y &&& (2147483647 : Int32)) - (y &&& (2147483647 : Int32)) / (5 : Int32) * (5 : Int32)) + (1 : Int32) = x) : ∃ n : Nat, x.toInt = (n : Int) := by
  subst h
  have q : 0 ≤ (y &&& (2147483647 : Int32)).toInt := by rw [Kit.i32_mask y 2147483647 (k := 31) (by decide) (by decide)]; omega
  have r := i32_remN (x := y &&& (2147483647 : Int32)) (y := (5 : Int32)) q
  rw [show (5 : Int32).toInt = 5 by decide] at r
  have b1 := Int.emod_nonneg (y &&& (2147483647 : Int32)).toInt (show (5 : Int) ≠ 0 by decide)
  have b2 := Int.emod_lt_of_pos (y &&& (2147483647 : Int32)).toInt (show (0 : Int) < 5 by decide)
  generalize (y &&& (2147483647 : Int32)) - (y &&& (2147483647 : Int32)) / (5 : Int32) * (5 : Int32) = z at r
  refine ⟨(z.toInt + 1).toNat, ?_⟩
  rw [Int32.toInt_add, show (1 : Int32).toInt = 1 by decide, Kit.bmod32 (by omega) (by omega)]; omega
theorem own_e7 {y : Int32} {x : UInt64} (h : FP.i2d (y &&& (7 : Int32)) = x) : ∃ n : Nat, Jvm.OwnKit.Dy (n : Int) 0 x ∧ n ≤ 7 := by
  subst h
  have q := Kit.i32_mask y 7 (k := 3) (by decide) (by decide)
  have q1 : 0 ≤ (y &&& (7 : Int32)).toInt := by omega
  refine ⟨(y &&& (7 : Int32)).toInt.toNat, ?_, by omega⟩
  rw [Int.toNat_of_nonneg q1]; exact dy_i2d _
theorem own_c100 : DV (4636737291354636288 : UInt64) 100 := Or.inr ⟨by decide, by rw [show (4636737291354636288 : UInt64) = FP.i2d 100 by decide +kernel]; exact dy_i2d 100⟩
theorem dv_eq0 {x y : UInt64} {n j : Nat} (hx : DV x n) (hy : DV y j) (e : n = j) (o : CmpOp) : cmpValue (FP.dcmp x y) o = (0 : Int32) := by
  subst e; rw [dv_cmp hx hy, show compare (n : Int) (n : Int) = .eq from Int.compare_eq_eq.mpr rfl]; cases o <;> rfl

theorem c_tailOf (l : Launch) (Z : State) (a0 : Array Value) (hw : ∀ d ∈ tables_1, d.before a0 Z = true) (n0 : Nat) (g kk : Int32) (h0 : Heap) (F : List HRow) (H00 : Hp Z n0 h0 F) :
    Con l Z n0 ⟨"com/example/lanewright/lanewright/ShortestPathTreeRoutePinLaw", "tailOf", "(II)I"⟩ [] method_2_code 2 (some .int) ({ frames := 0, cells := 0, slots := 0, locals := 0 } : Room) #[.int g, .int kk] h0 (fun v h => ∃ (x : Int32) (n : Nat), v = some (.int x) ∧ x.toInt = (n : Int) ∧ (1 ≤ n ∧ n ≤ 4) ∧ Hp Z n0 h F) := by
  refine con_of (plainFor_of_name pn_ShortestPathTreeRoutePinLaw) ?_
  intro p e s m below meth c T0 W0 e0
  subst e0
  have H0 := H00
  refine g_cast (ef_ii2 m g kk) ?_
  refine g_iloadN W0 d1_0 (pc' := 1) rfl rfl ?_
  refine g_iconst W0 d1_1 (pc' := 2) rfl (v := (4 : Int32)) (by decide) ?_
  refine g_iloadN W0 d1_2 (pc' := 3) rfl rfl ?_
  refine g_imul W0 d1_3 (pc' := 4) rfl rfl ?_
  refine g_iushr W0 d1_4 (pc' := 5) rfl rfl ?_
  refine g_iconst W0 d1_5 (pc' := 6) rfl (v := (3 : Int32)) (by decide) ?_
  refine g_iand W0 d1_6 (pc' := 7) rfl rfl ?_
  refine g_iconst W0 d1_7 (pc' := 8) rfl (v := (1 : Int32)) (by decide) ?_
  refine g_iadd W0 d1_8 (pc' := 9) rfl rfl ?_
  generalize h_x : (((XT.ushr g ((4 : Int32) * kk)) &&& (3 : Int32)) + (1 : Int32)) = x
  obtain ⟨n, q1, q2⟩ := own_e4 h_x
  exact g_ireturn W0 d1_9 ⟨x, n, rfl, q1, q2, H0⟩ (by decide) (by decide)
theorem c_headOf (l : Launch) (Z : State) (a0 : Array Value) (hw : ∀ d ∈ tables_1, d.before a0 Z = true) (n0 : Nat) (g kk : Int32) (h0 : Heap) (F : List HRow) (H00 : Hp Z n0 h0 F) :
    Con l Z n0 ⟨"com/example/lanewright/lanewright/ShortestPathTreeRoutePinLaw", "headOf", "(II)I"⟩ [] method_3_code 2 (some .int) ({ frames := 0, cells := 0, slots := 0, locals := 0 } : Room) #[.int g, .int kk] h0 (fun v h => ∃ (x : Int32) (n : Nat), v = some (.int x) ∧ x.toInt = (n : Int) ∧ (1 ≤ n ∧ n ≤ 4) ∧ Hp Z n0 h F) := by
  refine con_of (plainFor_of_name pn_ShortestPathTreeRoutePinLaw) ?_
  intro p e s m below meth c T0 W0 e0
  subst e0
  have H0 := H00
  refine g_cast (ef_ii2 m g kk) ?_
  refine g_iloadN W0 d2_0 (pc' := 1) rfl rfl ?_
  refine g_iconst W0 d2_1 (pc' := 2) rfl (v := (4 : Int32)) (by decide) ?_
  refine g_iloadN W0 d2_2 (pc' := 3) rfl rfl ?_
  refine g_imul W0 d2_3 (pc' := 4) rfl rfl ?_
  refine g_iconst W0 d2_4 (pc' := 5) rfl (v := (2 : Int32)) (by decide) ?_
  refine g_iadd W0 d2_5 (pc' := 6) rfl rfl ?_
  refine g_iushr W0 d2_6 (pc' := 7) rfl rfl ?_
  refine g_iconst W0 d2_7 (pc' := 8) rfl (v := (3 : Int32)) (by decide) ?_
  refine g_iand W0 d2_8 (pc' := 9) rfl rfl ?_
  refine g_iconst W0 d2_9 (pc' := 10) rfl (v := (1 : Int32)) (by decide) ?_
  refine g_iadd W0 d2_10 (pc' := 11) rfl rfl ?_
  generalize h_x : (((XT.ushr g (((4 : Int32) * kk) + (2 : Int32))) &&& (3 : Int32)) + (1 : Int32)) = x
  obtain ⟨n, q1, q2⟩ := own_e4 h_x
  exact g_ireturn W0 d2_11 ⟨x, n, rfl, q1, q2, H0⟩ (by decide) (by decide)
theorem c_va (l : Launch) (Z : State) (a0 : Array Value) (hw : ∀ d ∈ tables_1, d.before a0 Z = true) (n0 : Nat) (kk : Int32) (i0 : Nat) (hk : kk.toInt = (i0 : Int)) (hb : i0 < 4) (h0 : Heap) (F : List HRow) (H00 : Hp Z n0 h0 F) :
    Con l Z n0 ⟨"com/example/lanewright/lanewright/ShortestPathTreeRoutePinLaw", "validArc", "(I)Z"⟩ [] method_4_code 1 (some .boolean) ({ frames := 0, cells := 0, slots := 0, locals := 0 } : Room) #[.int kk] h0 (fun v h => v = some (.int 1) ∧ Hp Z n0 h F) := by
  refine con_of (plainFor_of_name pn_ShortestPathTreeRoutePinLaw) ?_
  intro p e s m below meth c T0 W0 e0
  subst e0
  have H0 := H00
  refine g_cast (ef_i1 m kk) ?_
  refine g_iloadN W0 d44_0 (pc' := 1) rfl rfl ?_
  refine g_if W0 d44_1 (pcy := 13) (by decide) (pc' := 4) rfl (fun (h : kk < (0 : Int32)) => absurd h (by rw [Int32.lt_iff_toInt_lt, hk, show (0 : Int32).toInt = 0 by decide]; omega)) (fun (_ : ¬ kk < (0 : Int32)) => ?_)
  refine g_iloadN W0 d44_4 (pc' := 5) rfl rfl ?_
  refine g_iconst W0 d44_5 (pc' := 6) rfl (v := (3 : Int32)) (by decide) ?_
  refine g_icmp W0 d44_6 (pcy := 13) (by decide) (pc' := 9) rfl (fun (h : (3 : Int32) < kk) => absurd h (by rw [Int32.lt_iff_toInt_lt, hk, show (3 : Int32).toInt = 3 by decide]; omega)) (fun (_ : ¬ (3 : Int32) < kk) => ?_)
  refine g_iconst W0 d44_9 (pc' := 10) rfl (v := (1 : Int32)) (by decide) ?_
  refine g_goto W0 d44_10 (pc' := 14) (by decide) ?_
  exact g_zreturn W0 (by decide) d44_14 ⟨rfl, H0⟩ (by decide) (by decide)
theorem c_route0 (l : Launch) (Z : State) (a0 : Array Value) (hw : ∀ d ∈ tables_1, d.before a0 Z = true) (n0 : Nat) (tr nt dsA prA hpA psA : Addr) (tlA hdA caA ffA bsA pwA foA oaA : Addr) (ftI hz : Int32) (PL TL : List Int32) (q0 : Int32) (u0 : Nat) (hq0 : q0.toInt = (u0 : Int)) (hE : PL[u0]? = some (-1 : Int32)) (h0 : Heap) (F : List HRow) (H00 : Hp Z n0 h0 ((tr, ObC Z "com/example/lanewright/lanewright/ShortestPathTree" (fs_ShortestPathTree (.ref nt) (.ref dsA) (.ref prA) (.ref hpA) (.ref psA) (.int hz))) :: (prA, IaC Z PL) :: (nt, ObC Z "com/example/lanewright/lanewright/Network" (fs_Network (.int (4 : Int32)) (.int ftI) (.ref tlA) (.ref hdA) (.ref caA) (.ref ffA) (.ref bsA) (.ref pwA) (.ref foA) (.ref oaA))) :: (tlA, IaC Z TL) :: F)) :
    Con l Z n0 ⟨"com/example/lanewright/lanewright/ShortestPathTree", "route", "(I)[I"⟩ [] prog_57_method_4_code 6 (some (.array .int)) ({ frames := 0, cells := 1, slots := 0, locals := 0 } : Room) #[.ref tr, .int q0] h0 (fun v h => ∃ r, v = some (.ref r) ∧ Hp Z n0 h ((tr, ObC Z "com/example/lanewright/lanewright/ShortestPathTree" (fs_ShortestPathTree (.ref nt) (.ref dsA) (.ref prA) (.ref hpA) (.ref psA) (.int hz))) :: (prA, IaC Z PL) :: (nt, ObC Z "com/example/lanewright/lanewright/Network" (fs_Network (.int (4 : Int32)) (.int ftI) (.ref tlA) (.ref hdA) (.ref caA) (.ref ffA) (.ref bsA) (.ref pwA) (.ref foA) (.ref oaA))) :: (tlA, IaC Z TL) :: (r, IaC Z ([] : List Int32)) :: F)) := by
  refine con_of (plainFor_of_name pn_ShortestPathTree) ?_
  intro p e s m below meth c T0 W0 e0
  subst e0
  have H0 := H00
  refine g_cast (ef_ri6 m tr q0) ?_
  refine g_iconst W0 d40_0 (pc' := 1) rfl (v := (0 : Int32)) (by decide) ?_
  refine g_istoreN W0 d40_1 (pc' := 2) rfl (ls' := #[.val (.ref tr), .val (.int q0), .val (.int (0 : Int32)), .unset, .unset, .unset]) rfl ?_
  refine g_iloadN W0 d40_2 (pc' := 3) rfl rfl ?_
  refine g_istoreN W0 d40_3 (pc' := 4) rfl (ls' := #[.val (.ref tr), .val (.int q0), .val (.int (0 : Int32)), .val (.int q0), .unset, .unset]) rfl ?_
  refine g_aloadN W0 d40_4 (pc' := 5) rfl rfl rfl ?_
  refine g_getf W0 (wd_205 hw) Via.refl H0 (i := 0) rfl (jx := 2) rfl d40_5 (pc' := 8) rfl ?_
  intro T1 W1 H1
  refine g_iloadN W1 d40_8 (pc' := 9) rfl rfl ?_
  refine g_ialoadI W1 H1 (i := 1) rfl (jx := u0) hq0 (u := (-1 : Int32)) hE d40_9 (pc' := 10) rfl ?_
  refine g_iconst W1 d40_10 (pc' := 11) rfl (v := (-1 : Int32)) (by decide) ?_
  refine g_icmp W1 d40_11 (pcy := 34) (by decide) (pc' := 14) rfl (fun _ => ?_) (fun (h : ¬ (-1 : Int32) = (-1 : Int32)) => absurd h (by decide))
  refine g_iloadN W1 d40_34 (pc' := 35) rfl rfl ?_
  refine g_newarrI W1 (wd_1 hw) H1 (by decide) (n := 0) (by decide) (cap := 0) (by decide) (by decide) d40_35 (pc' := 37) rfl (kc' := 1) (ks' := 0) rfl rfl (by decide) (by decide) ?_
  intro T2 a2 W2 H2
  refine g_astoreN W2 d40_37 (pc' := 38) rfl rfl (ls' := #[.val (.ref tr), .val (.int q0), .val (.int (0 : Int32)), .val (.ref a2), .unset, .unset]) rfl ?_
  refine g_iloadN W2 d40_38 (pc' := 39) rfl rfl ?_
  refine g_istore W2 d40_39 (pc' := 41) rfl (ls' := #[.val (.ref tr), .val (.int q0), .val (.int (0 : Int32)), .val (.ref a2), .val (.int q0), .unset]) rfl ?_
  refine g_iloadN W2 d40_41 (pc' := 42) rfl rfl ?_
  refine g_iconst W2 d40_42 (pc' := 43) rfl (v := (1 : Int32)) (by decide) ?_
  refine g_isub W2 d40_43 (pc' := 44) rfl (v := (-1 : Int32)) (by decide) ?_
  refine g_istore W2 d40_44 (pc' := 46) rfl (ls' := #[.val (.ref tr), .val (.int q0), .val (.int (0 : Int32)), .val (.ref a2), .val (.int q0), .val (.int (-1 : Int32))]) rfl ?_
  refine g_iload W2 d40_46 (pc' := 48) rfl rfl ?_
  refine g_if W2 d40_48 (pcy := 81) (by decide) (pc' := 51) rfl (fun _ => ?_) (fun (h : ¬ (-1 : Int32) < (0 : Int32)) => absurd h (by decide))
  refine g_aloadN W2 d40_81 (pc' := 82) rfl rfl rfl ?_
  have H3f := Hp.fr4 H2
  have H4f := Hp.fr4 H3f
  have H5f := Hp.fr4 H4f
  have H6f := Hp.fr4 H5f
  exact g_areturn W2 rfl rfl d40_82 ⟨_, rfl, H6f⟩ (by decide) (by decide)
theorem c_isr0 (l : Launch) (Z : State) (a0 : Array Value) (hw : ∀ d ∈ tables_1, d.before a0 Z = true) (n0 : Nat) (tr nt dsA prA hpA psA : Addr) (tlA hdA caA ffA bsA pwA foA oaA : Addr) (ftI hz : Int32) (PL TL : List Int32) (q0 : Int32) (u0 : Nat) (hq0 : q0.toInt = (u0 : Int)) (hE : PL[u0]? = some (-1 : Int32)) (r : Addr) (h0 : Heap) (F : List HRow) (H00 : Hp Z n0 h0 ((tr, ObC Z "com/example/lanewright/lanewright/ShortestPathTree" (fs_ShortestPathTree (.ref nt) (.ref dsA) (.ref prA) (.ref hpA) (.ref psA) (.int hz))) :: (prA, IaC Z PL) :: (nt, ObC Z "com/example/lanewright/lanewright/Network" (fs_Network (.int (4 : Int32)) (.int ftI) (.ref tlA) (.ref hdA) (.ref caA) (.ref ffA) (.ref bsA) (.ref pwA) (.ref foA) (.ref oaA))) :: (tlA, IaC Z TL) :: (r, IaC Z ([] : List Int32)) :: F)) :
    Con l Z n0 ⟨"com/example/lanewright/lanewright/ShortestPathTree", "isRoute", "(I[I)Z"⟩ [] prog_57_method_5_code 5 (some .boolean) ({ frames := 0, cells := 0, slots := 0, locals := 0 } : Room) #[.ref tr, .int q0, .ref r] h0 (fun v h => v = some (.int 1) ∧ Hp Z n0 h ((tr, ObC Z "com/example/lanewright/lanewright/ShortestPathTree" (fs_ShortestPathTree (.ref nt) (.ref dsA) (.ref prA) (.ref hpA) (.ref psA) (.int hz))) :: (prA, IaC Z PL) :: (nt, ObC Z "com/example/lanewright/lanewright/Network" (fs_Network (.int (4 : Int32)) (.int ftI) (.ref tlA) (.ref hdA) (.ref caA) (.ref ffA) (.ref bsA) (.ref pwA) (.ref foA) (.ref oaA))) :: (tlA, IaC Z TL) :: (r, IaC Z ([] : List Int32)) :: F)) := by
  refine con_of (plainFor_of_name pn_ShortestPathTree) ?_
  intro p e s m below meth c T0 W0 e0
  subst e0
  have H0 := H00
  refine g_cast (ef_rir5 m tr q0 r) ?_
  refine g_iloadN W0 d41_0 (pc' := 1) rfl rfl ?_
  refine g_istoreN W0 d41_1 (pc' := 2) rfl (ls' := #[.val (.ref tr), .val (.int q0), .val (.ref r), .val (.int q0), .unset]) rfl ?_
  refine g_aloadN W0 d41_2 (pc' := 3) rfl rfl rfl ?_
  refine g_arrlenI W0 H0 (i := 4) rfl (x := (0 : Int32)) rfl d41_3 (pc' := 4) rfl ?_
  refine g_iconst W0 d41_4 (pc' := 5) rfl (v := (1 : Int32)) (by decide) ?_
  refine g_isub W0 d41_5 (pc' := 6) rfl (v := (-1 : Int32)) (by decide) ?_
  refine g_istore W0 d41_6 (pc' := 8) rfl (ls' := #[.val (.ref tr), .val (.int q0), .val (.ref r), .val (.int q0), .val (.int (-1 : Int32))]) rfl ?_
  refine g_iload W0 d41_8 (pc' := 10) rfl rfl ?_
  refine g_if W0 d41_10 (pcy := 46) (by decide) (pc' := 13) rfl (fun _ => ?_) (fun (h : ¬ (-1 : Int32) < (0 : Int32)) => absurd h (by decide))
  refine g_aloadN W0 d41_46 (pc' := 47) rfl rfl rfl ?_
  refine g_getf W0 (wd_205 hw) Via.refl H0 (i := 0) rfl (jx := 2) rfl d41_47 (pc' := 50) rfl ?_
  intro T1 W1 H1
  refine g_iloadN W1 d41_50 (pc' := 51) rfl rfl ?_
  refine g_ialoadI W1 H1 (i := 1) rfl (jx := u0) hq0 (u := (-1 : Int32)) hE d41_51 (pc' := 52) rfl ?_
  refine g_iconst W1 d41_52 (pc' := 53) rfl (v := (-1 : Int32)) (by decide) ?_
  refine g_icmp W1 d41_53 (pcy := 60) (by decide) (pc' := 56) rfl (fun (h : ¬ (-1 : Int32) = (-1 : Int32)) => absurd h (by decide)) (fun _ => ?_)
  refine g_iconst W1 d41_56 (pc' := 57) rfl (v := (1 : Int32)) (by decide) ?_
  refine g_goto W1 d41_57 (pc' := 61) (by decide) ?_
  have H2f := Hp.fr4 H1
  have H3f := Hp.fr4 H2f
  have H4f := Hp.fr4 H3f
  have H5f := Hp.fr4 H4f
  have H6f := Hp.fr4 H5f
  exact g_zreturn W1 (by decide) d41_61 ⟨rfl, H6f⟩ (by decide) (by decide)
theorem c_route1 (l : Launch) (Z : State) (a0 : Array Value) (hw : ∀ d ∈ tables_1, d.before a0 Z = true) (n0 : Nat) (tr nt dsA prA hpA psA : Addr) (tlA hdA caA ffA bsA pwA foA oaA : Addr) (ftI hz : Int32) (PL TL : List Int32) (q0 : Int32) (u0 : Nat) (hq0 : q0.toInt = (u0 : Int)) (q1 : Int32) (u1 : Nat) (hq1 : q1.toInt = (u1 : Int)) (b0 : Int32) (w0 : Nat) (hb0 : b0.toInt = (w0 : Int)) (hP0 : PL[u0]? = some b0) (hT0 : TL[w0]? = some q1) (hE : PL[u1]? = some (-1 : Int32)) (h0 : Heap) (F : List HRow) (H00 : Hp Z n0 h0 ((tr, ObC Z "com/example/lanewright/lanewright/ShortestPathTree" (fs_ShortestPathTree (.ref nt) (.ref dsA) (.ref prA) (.ref hpA) (.ref psA) (.int hz))) :: (prA, IaC Z PL) :: (nt, ObC Z "com/example/lanewright/lanewright/Network" (fs_Network (.int (4 : Int32)) (.int ftI) (.ref tlA) (.ref hdA) (.ref caA) (.ref ffA) (.ref bsA) (.ref pwA) (.ref foA) (.ref oaA))) :: (tlA, IaC Z TL) :: F)) :
    Con l Z n0 ⟨"com/example/lanewright/lanewright/ShortestPathTree", "route", "(I)[I"⟩ [] prog_57_method_4_code 6 (some (.array .int)) ({ frames := 1, cells := 1, slots := 1, locals := 13 } : Room) #[.ref tr, .int q0] h0 (fun v h => ∃ r, v = some (.ref r) ∧ Hp Z n0 h ((tr, ObC Z "com/example/lanewright/lanewright/ShortestPathTree" (fs_ShortestPathTree (.ref nt) (.ref dsA) (.ref prA) (.ref hpA) (.ref psA) (.int hz))) :: (prA, IaC Z PL) :: (nt, ObC Z "com/example/lanewright/lanewright/Network" (fs_Network (.int (4 : Int32)) (.int ftI) (.ref tlA) (.ref hdA) (.ref caA) (.ref ffA) (.ref bsA) (.ref pwA) (.ref foA) (.ref oaA))) :: (tlA, IaC Z TL) :: (r, IaC Z ([b0] : List Int32)) :: F)) := by
  refine con_of (plainFor_of_name pn_ShortestPathTree) ?_
  intro p e s m below meth c T0 W0 e0
  subst e0
  have H0 := H00
  refine g_cast (ef_ri6 m tr q0) ?_
  refine g_iconst W0 d40_0 (pc' := 1) rfl (v := (0 : Int32)) (by decide) ?_
  refine g_istoreN W0 d40_1 (pc' := 2) rfl (ls' := #[.val (.ref tr), .val (.int q0), .val (.int (0 : Int32)), .unset, .unset, .unset]) rfl ?_
  refine g_iloadN W0 d40_2 (pc' := 3) rfl rfl ?_
  refine g_istoreN W0 d40_3 (pc' := 4) rfl (ls' := #[.val (.ref tr), .val (.int q0), .val (.int (0 : Int32)), .val (.int q0), .unset, .unset]) rfl ?_
  refine g_aloadN W0 d40_4 (pc' := 5) rfl rfl rfl ?_
  refine g_getf W0 (wd_205 hw) Via.refl H0 (i := 0) rfl (jx := 2) rfl d40_5 (pc' := 8) rfl ?_
  intro T1 W1 H1
  refine g_iloadN W1 d40_8 (pc' := 9) rfl rfl ?_
  refine g_ialoadI W1 H1 (i := 1) rfl (jx := u0) hq0 (u := b0) hP0 d40_9 (pc' := 10) rfl ?_
  refine g_iconst W1 d40_10 (pc' := 11) rfl (v := (-1 : Int32)) (by decide) ?_
  refine g_icmp W1 d40_11 (pcy := 34) (by decide) (pc' := 14) rfl (fun (h : b0 = (-1 : Int32)) => absurd h (own_nm1 hb0)) (fun (_ : ¬ b0 = (-1 : Int32)) => ?_)
  refine g_iinc W1 d40_14 (pc' := 17) rfl rfl (v := (1 : Int32)) (by decide) (ls' := #[.val (.ref tr), .val (.int q0), .val (.int (1 : Int32)), .val (.int q0), .unset, .unset]) rfl ?_
  refine g_aloadN W1 d40_17 (pc' := 18) rfl rfl rfl ?_
  refine g_getf W1 (wd_196 hw) Via.refl H1 (i := 0) rfl (jx := 0) rfl d40_18 (pc' := 21) rfl ?_
  intro T2 W2 H2
  refine g_aloadN W2 d40_21 (pc' := 22) rfl rfl rfl ?_
  refine g_getf W2 (wd_205 hw) Via.refl H2 (i := 0) rfl (jx := 2) rfl d40_22 (pc' := 25) rfl ?_
  intro T3 W3 H3
  refine g_iloadN W3 d40_25 (pc' := 26) rfl rfl ?_
  refine g_ialoadI W3 H3 (i := 1) rfl (jx := u0) hq0 (u := b0) hP0 d40_26 (pc' := 27) rfl ?_
  have H4f := Hp.fr3 H3
  have H5f := Hp.fr3 H4f
  refine g_callV W3 (argsL := [.int b0]) (st := []) (wd_283 hw) (wd_284 hw) (wd_286 hw) (wd_285 hw) (wd_93 hw) (wd_287 hw) (by decide) (a := nt) H5f (i := 0) rfl (c_ntail l Z a0 hw n0 nt tlA hdA caA ffA bsA pwA foA oaA ftI TL b0 w0 hb0 q1 hT0 _ _ H5f) pd_10 rfl rfl rfl d40_27 (pc' := 30) rfl (by decide) (Wn := 0) (Nat.le_of_eq rfl) (by decide) (kc' := 0) (ks' := 0) rfl rfl (by decide) (by decide) ?_
  intro T6 v6 W6 hp6
  obtain ⟨rfl, H6⟩ := hp6
  show Goes _ _ _ _ (State.setTop _ (mkF _ _ _ [.int q1]))
  refine g_istoreN W6 d40_30 (pc' := 31) rfl (ls' := #[.val (.ref tr), .val (.int q0), .val (.int (1 : Int32)), .val (.int q1), .unset, .unset]) rfl ?_
  refine g_goto W6 d40_31 (pc' := 4) (by decide) ?_
  refine g_aloadN W6 d40_4 (pc' := 5) rfl rfl rfl ?_
  refine g_getf W6 (wd_205 hw) Via.refl H6 (i := 2) rfl (jx := 2) rfl d40_5 (pc' := 8) rfl ?_
  intro T7 W7 H7
  refine g_iloadN W7 d40_8 (pc' := 9) rfl rfl ?_
  refine g_ialoadI W7 H7 (i := 3) rfl (jx := u1) hq1 (u := (-1 : Int32)) hE d40_9 (pc' := 10) rfl ?_
  refine g_iconst W7 d40_10 (pc' := 11) rfl (v := (-1 : Int32)) (by decide) ?_
  refine g_icmp W7 d40_11 (pcy := 34) (by decide) (pc' := 14) rfl (fun _ => ?_) (fun (h : ¬ (-1 : Int32) = (-1 : Int32)) => absurd h (by decide))
  refine g_iloadN W7 d40_34 (pc' := 35) rfl rfl ?_
  refine g_newarrI W7 (wd_1 hw) H7 (by decide) (n := 1) (by decide) (cap := 1) (by decide) (by decide) d40_35 (pc' := 37) rfl (kc' := 1) (ks' := 1) rfl rfl (by decide) (by decide) ?_
  intro T8 a8 W8 H8
  refine g_astoreN W8 d40_37 (pc' := 38) rfl rfl (ls' := #[.val (.ref tr), .val (.int q0), .val (.int (1 : Int32)), .val (.ref a8), .unset, .unset]) rfl ?_
  refine g_iloadN W8 d40_38 (pc' := 39) rfl rfl ?_
  refine g_istore W8 d40_39 (pc' := 41) rfl (ls' := #[.val (.ref tr), .val (.int q0), .val (.int (1 : Int32)), .val (.ref a8), .val (.int q0), .unset]) rfl ?_
  refine g_iloadN W8 d40_41 (pc' := 42) rfl rfl ?_
  refine g_iconst W8 d40_42 (pc' := 43) rfl (v := (1 : Int32)) (by decide) ?_
  refine g_isub W8 d40_43 (pc' := 44) rfl (v := (0 : Int32)) (by decide) ?_
  refine g_istore W8 d40_44 (pc' := 46) rfl (ls' := #[.val (.ref tr), .val (.int q0), .val (.int (1 : Int32)), .val (.ref a8), .val (.int q0), .val (.int (0 : Int32))]) rfl ?_
  refine g_iload W8 d40_46 (pc' := 48) rfl rfl ?_
  refine g_if W8 d40_48 (pcy := 81) (by decide) (pc' := 51) rfl (fun (h : (0 : Int32) < (0 : Int32)) => absurd h (by decide)) (fun _ => ?_)
  refine g_aloadN W8 d40_51 (pc' := 52) rfl rfl rfl ?_
  refine g_iload W8 d40_52 (pc' := 54) rfl rfl ?_
  refine g_aloadN W8 d40_54 (pc' := 55) rfl rfl rfl ?_
  refine g_getf W8 (wd_205 hw) Via.refl H8 (i := 3) rfl (jx := 2) rfl d40_55 (pc' := 58) rfl ?_
  intro T9 W9 H9
  refine g_iload W9 d40_58 (pc' := 60) rfl rfl ?_
  refine g_ialoadI W9 H9 (i := 4) rfl (jx := u0) hq0 (u := b0) hP0 d40_60 (pc' := 61) rfl ?_
  refine g_iastoreI W9 H9 (i := 0) rfl (jx := 0) (by decide) (by exact (by decide : 0 < 1)) d40_61 (pc' := 62) rfl (L' := ((a8, IaC Z ([b0] : List Int32)) :: (nt, ObC Z "com/example/lanewright/lanewright/Network" (fs_Network (.int (4 : Int32)) (.int ftI) (.ref tlA) (.ref hdA) (.ref caA) (.ref ffA) (.ref bsA) (.ref pwA) (.ref foA) (.ref oaA))) :: (tlA, IaC Z TL) :: (tr, ObC Z "com/example/lanewright/lanewright/ShortestPathTree" (fs_ShortestPathTree (.ref nt) (.ref dsA) (.ref prA) (.ref hpA) (.ref psA) (.int hz))) :: (prA, IaC Z PL) :: F)) rfl ?_
  intro T10 W10 H10
  refine g_aloadN W10 d40_62 (pc' := 63) rfl rfl rfl ?_
  refine g_getf W10 (wd_196 hw) Via.refl H10 (i := 3) rfl (jx := 0) rfl d40_63 (pc' := 66) rfl ?_
  intro T11 W11 H11
  refine g_aloadN W11 d40_66 (pc' := 67) rfl rfl rfl ?_
  refine g_iload W11 d40_67 (pc' := 69) rfl rfl ?_
  refine g_ialoadI W11 H11 (i := 0) rfl (jx := 0) (by decide) (u := b0) rfl d40_69 (pc' := 70) rfl ?_
  have H12f := Hp.fr2 H11
  have H13f := Hp.fr2 H12f
  refine g_callV W11 (argsL := [.int b0]) (st := []) (wd_283 hw) (wd_284 hw) (wd_286 hw) (wd_285 hw) (wd_93 hw) (wd_287 hw) (by decide) (a := nt) H13f (i := 0) rfl (c_ntail l Z a0 hw n0 nt tlA hdA caA ffA bsA pwA foA oaA ftI TL b0 w0 hb0 q1 hT0 _ _ H13f) pd_10 rfl rfl rfl d40_70 (pc' := 73) rfl (by decide) (Wn := 0) (Nat.le_of_eq rfl) (by decide) (kc' := 1) (ks' := 1) rfl rfl (by decide) (by decide) ?_
  intro T14 v14 W14 hp14
  obtain ⟨rfl, H14⟩ := hp14
  show Goes _ _ _ _ (State.setTop _ (mkF _ _ _ [.int q1]))
  refine g_istore W14 d40_73 (pc' := 75) rfl (ls' := #[.val (.ref tr), .val (.int q0), .val (.int (1 : Int32)), .val (.ref a8), .val (.int q1), .val (.int (0 : Int32))]) rfl ?_
  refine g_iinc W14 d40_75 (pc' := 78) rfl rfl (v := (-1 : Int32)) (by decide) (ls' := #[.val (.ref tr), .val (.int q0), .val (.int (1 : Int32)), .val (.ref a8), .val (.int q1), .val (.int (-1 : Int32))]) rfl ?_
  refine g_goto W14 d40_78 (pc' := 46) (by decide) ?_
  refine g_iload W14 d40_46 (pc' := 48) rfl rfl ?_
  refine g_if W14 d40_48 (pcy := 81) (by decide) (pc' := 51) rfl (fun _ => ?_) (fun (h : ¬ (-1 : Int32) < (0 : Int32)) => absurd h (by decide))
  refine g_aloadN W14 d40_81 (pc' := 82) rfl rfl rfl ?_
  have H15f := Hp.fr2 H14
  have H16f := Hp.fr2 H15f
  have H17f := Hp.fr2 H16f
  have H18f := Hp.fr4 H17f
  have H19f := Hp.fr4 H18f
  exact g_areturn W14 rfl rfl d40_82 ⟨_, rfl, H19f⟩ (by decide) (by decide)
theorem c_isr1 (l : Launch) (Z : State) (a0 : Array Value) (hw : ∀ d ∈ tables_1, d.before a0 Z = true) (n0 : Nat) (tr nt dsA prA hpA psA : Addr) (tlA hdA caA ffA bsA pwA foA oaA : Addr) (ftI hz : Int32) (PL TL : List Int32) (q0 : Int32) (u0 : Nat) (hq0 : q0.toInt = (u0 : Int)) (q1 : Int32) (u1 : Nat) (hq1 : q1.toInt = (u1 : Int)) (b0 : Int32) (w0 : Nat) (hb0 : b0.toInt = (w0 : Int)) (hP0 : PL[u0]? = some b0) (hT0 : TL[w0]? = some q1) (hE : PL[u1]? = some (-1 : Int32)) (r : Addr) (h0 : Heap) (F : List HRow) (H00 : Hp Z n0 h0 ((tr, ObC Z "com/example/lanewright/lanewright/ShortestPathTree" (fs_ShortestPathTree (.ref nt) (.ref dsA) (.ref prA) (.ref hpA) (.ref psA) (.int hz))) :: (prA, IaC Z PL) :: (nt, ObC Z "com/example/lanewright/lanewright/Network" (fs_Network (.int (4 : Int32)) (.int ftI) (.ref tlA) (.ref hdA) (.ref caA) (.ref ffA) (.ref bsA) (.ref pwA) (.ref foA) (.ref oaA))) :: (tlA, IaC Z TL) :: (r, IaC Z ([b0] : List Int32)) :: F)) :
    Con l Z n0 ⟨"com/example/lanewright/lanewright/ShortestPathTree", "isRoute", "(I[I)Z"⟩ [] prog_57_method_5_code 5 (some .boolean) ({ frames := 1, cells := 0, slots := 0, locals := 13 } : Room) #[.ref tr, .int q0, .ref r] h0 (fun v h => v = some (.int 1) ∧ Hp Z n0 h ((tr, ObC Z "com/example/lanewright/lanewright/ShortestPathTree" (fs_ShortestPathTree (.ref nt) (.ref dsA) (.ref prA) (.ref hpA) (.ref psA) (.int hz))) :: (prA, IaC Z PL) :: (nt, ObC Z "com/example/lanewright/lanewright/Network" (fs_Network (.int (4 : Int32)) (.int ftI) (.ref tlA) (.ref hdA) (.ref caA) (.ref ffA) (.ref bsA) (.ref pwA) (.ref foA) (.ref oaA))) :: (tlA, IaC Z TL) :: (r, IaC Z ([b0] : List Int32)) :: F)) := by
  refine con_of (plainFor_of_name pn_ShortestPathTree) ?_
  intro p e s m below meth c T0 W0 e0
  subst e0
  have H0 := H00
  refine g_cast (ef_rir5 m tr q0 r) ?_
  refine g_iloadN W0 d41_0 (pc' := 1) rfl rfl ?_
  refine g_istoreN W0 d41_1 (pc' := 2) rfl (ls' := #[.val (.ref tr), .val (.int q0), .val (.ref r), .val (.int q0), .unset]) rfl ?_
  refine g_aloadN W0 d41_2 (pc' := 3) rfl rfl rfl ?_
  refine g_arrlenI W0 H0 (i := 4) rfl (x := (1 : Int32)) rfl d41_3 (pc' := 4) rfl ?_
  refine g_iconst W0 d41_4 (pc' := 5) rfl (v := (1 : Int32)) (by decide) ?_
  refine g_isub W0 d41_5 (pc' := 6) rfl (v := (0 : Int32)) (by decide) ?_
  refine g_istore W0 d41_6 (pc' := 8) rfl (ls' := #[.val (.ref tr), .val (.int q0), .val (.ref r), .val (.int q0), .val (.int (0 : Int32))]) rfl ?_
  refine g_iload W0 d41_8 (pc' := 10) rfl rfl ?_
  refine g_if W0 d41_10 (pcy := 46) (by decide) (pc' := 13) rfl (fun (h : (0 : Int32) < (0 : Int32)) => absurd h (by decide)) (fun _ => ?_)
  refine g_aloadN W0 d41_13 (pc' := 14) rfl rfl rfl ?_
  refine g_getf W0 (wd_205 hw) Via.refl H0 (i := 0) rfl (jx := 2) rfl d41_14 (pc' := 17) rfl ?_
  intro T1 W1 H1
  refine g_iloadN W1 d41_17 (pc' := 18) rfl rfl ?_
  refine g_ialoadI W1 H1 (i := 1) rfl (jx := u0) hq0 (u := b0) hP0 d41_18 (pc' := 19) rfl ?_
  refine g_aloadN W1 d41_19 (pc' := 20) rfl rfl rfl ?_
  refine g_iload W1 d41_20 (pc' := 22) rfl rfl ?_
  refine g_ialoadI W1 H1 (i := 4) rfl (jx := 0) (by decide) (u := b0) rfl d41_22 (pc' := 23) rfl ?_
  refine g_icmp W1 d41_23 (pcy := 28) (by decide) (pc' := 26) rfl (fun (_ : b0 = b0) => ?_) (fun (h : ¬ b0 = b0) => absurd rfl h)
  refine g_aloadN W1 d41_28 (pc' := 29) rfl rfl rfl ?_
  refine g_getf W1 (wd_196 hw) Via.refl H1 (i := 0) rfl (jx := 0) rfl d41_29 (pc' := 32) rfl ?_
  intro T2 W2 H2
  refine g_aloadN W2 d41_32 (pc' := 33) rfl rfl rfl ?_
  refine g_iload W2 d41_33 (pc' := 35) rfl rfl ?_
  refine g_ialoadI W2 H2 (i := 4) rfl (jx := 0) (by decide) (u := b0) rfl d41_35 (pc' := 36) rfl ?_
  have H3f := Hp.fr3 H2
  have H4f := Hp.fr3 H3f
  refine g_callV W2 (argsL := [.int b0]) (st := []) (wd_283 hw) (wd_284 hw) (wd_286 hw) (wd_285 hw) (wd_93 hw) (wd_287 hw) (by decide) (a := nt) H4f (i := 0) rfl (c_ntail l Z a0 hw n0 nt tlA hdA caA ffA bsA pwA foA oaA ftI TL b0 w0 hb0 q1 hT0 _ _ H4f) pd_10 rfl rfl rfl d41_36 (pc' := 39) rfl (by decide) (Wn := 0) (Nat.le_of_eq rfl) (by decide) (kc' := 0) (ks' := 0) rfl rfl (by decide) (by decide) ?_
  intro T5 v5 W5 hp5
  obtain ⟨rfl, H5⟩ := hp5
  show Goes _ _ _ _ (State.setTop _ (mkF _ _ _ [.int q1]))
  refine g_istoreN W5 d41_39 (pc' := 40) rfl (ls' := #[.val (.ref tr), .val (.int q0), .val (.ref r), .val (.int q1), .val (.int (0 : Int32))]) rfl ?_
  refine g_iinc W5 d41_40 (pc' := 43) rfl rfl (v := (-1 : Int32)) (by decide) (ls' := #[.val (.ref tr), .val (.int q0), .val (.ref r), .val (.int q1), .val (.int (-1 : Int32))]) rfl ?_
  refine g_goto W5 d41_43 (pc' := 8) (by decide) ?_
  refine g_iload W5 d41_8 (pc' := 10) rfl rfl ?_
  refine g_if W5 d41_10 (pcy := 46) (by decide) (pc' := 13) rfl (fun _ => ?_) (fun (h : ¬ (-1 : Int32) < (0 : Int32)) => absurd h (by decide))
  refine g_aloadN W5 d41_46 (pc' := 47) rfl rfl rfl ?_
  refine g_getf W5 (wd_205 hw) Via.refl H5 (i := 2) rfl (jx := 2) rfl d41_47 (pc' := 50) rfl ?_
  intro T6 W6 H6
  refine g_iloadN W6 d41_50 (pc' := 51) rfl rfl ?_
  refine g_ialoadI W6 H6 (i := 3) rfl (jx := u1) hq1 (u := (-1 : Int32)) hE d41_51 (pc' := 52) rfl ?_
  refine g_iconst W6 d41_52 (pc' := 53) rfl (v := (-1 : Int32)) (by decide) ?_
  refine g_icmp W6 d41_53 (pcy := 60) (by decide) (pc' := 56) rfl (fun (h : ¬ (-1 : Int32) = (-1 : Int32)) => absurd h (by decide)) (fun _ => ?_)
  refine g_iconst W6 d41_56 (pc' := 57) rfl (v := (1 : Int32)) (by decide) ?_
  refine g_goto W6 d41_57 (pc' := 61) (by decide) ?_
  have H7f := Hp.fr4 H6
  have H8f := Hp.fr2 H7f
  have H9f := Hp.fr2 H8f
  have H10f := Hp.fr4 H9f
  have H11f := Hp.fr4 H10f
  exact g_zreturn W6 (by decide) d41_61 ⟨rfl, H11f⟩ (by decide) (by decide)
theorem c_route2 (l : Launch) (Z : State) (a0 : Array Value) (hw : ∀ d ∈ tables_1, d.before a0 Z = true) (n0 : Nat) (tr nt dsA prA hpA psA : Addr) (tlA hdA caA ffA bsA pwA foA oaA : Addr) (ftI hz : Int32) (PL TL : List Int32) (q0 : Int32) (u0 : Nat) (hq0 : q0.toInt = (u0 : Int)) (q1 : Int32) (u1 : Nat) (hq1 : q1.toInt = (u1 : Int)) (q2 : Int32) (u2 : Nat) (hq2 : q2.toInt = (u2 : Int)) (b0 : Int32) (w0 : Nat) (hb0 : b0.toInt = (w0 : Int)) (hP0 : PL[u0]? = some b0) (hT0 : TL[w0]? = some q1) (b1 : Int32) (w1 : Nat) (hb1 : b1.toInt = (w1 : Int)) (hP1 : PL[u1]? = some b1) (hT1 : TL[w1]? = some q2) (hE : PL[u2]? = some (-1 : Int32)) (h0 : Heap) (F : List HRow) (H00 : Hp Z n0 h0 ((tr, ObC Z "com/example/lanewright/lanewright/ShortestPathTree" (fs_ShortestPathTree (.ref nt) (.ref dsA) (.ref prA) (.ref hpA) (.ref psA) (.int hz))) :: (prA, IaC Z PL) :: (nt, ObC Z "com/example/lanewright/lanewright/Network" (fs_Network (.int (4 : Int32)) (.int ftI) (.ref tlA) (.ref hdA) (.ref caA) (.ref ffA) (.ref bsA) (.ref pwA) (.ref foA) (.ref oaA))) :: (tlA, IaC Z TL) :: F)) :
    Con l Z n0 ⟨"com/example/lanewright/lanewright/ShortestPathTree", "route", "(I)[I"⟩ [] prog_57_method_4_code 6 (some (.array .int)) ({ frames := 1, cells := 1, slots := 2, locals := 13 } : Room) #[.ref tr, .int q0] h0 (fun v h => ∃ r, v = some (.ref r) ∧ Hp Z n0 h ((tr, ObC Z "com/example/lanewright/lanewright/ShortestPathTree" (fs_ShortestPathTree (.ref nt) (.ref dsA) (.ref prA) (.ref hpA) (.ref psA) (.int hz))) :: (prA, IaC Z PL) :: (nt, ObC Z "com/example/lanewright/lanewright/Network" (fs_Network (.int (4 : Int32)) (.int ftI) (.ref tlA) (.ref hdA) (.ref caA) (.ref ffA) (.ref bsA) (.ref pwA) (.ref foA) (.ref oaA))) :: (tlA, IaC Z TL) :: (r, IaC Z ([b1, b0] : List Int32)) :: F)) := by
  refine con_of (plainFor_of_name pn_ShortestPathTree) ?_
  intro p e s m below meth c T0 W0 e0
  subst e0
  have H0 := H00
  refine g_cast (ef_ri6 m tr q0) ?_
  refine g_iconst W0 d40_0 (pc' := 1) rfl (v := (0 : Int32)) (by decide) ?_
  refine g_istoreN W0 d40_1 (pc' := 2) rfl (ls' := #[.val (.ref tr), .val (.int q0), .val (.int (0 : Int32)), .unset, .unset, .unset]) rfl ?_
  refine g_iloadN W0 d40_2 (pc' := 3) rfl rfl ?_
  refine g_istoreN W0 d40_3 (pc' := 4) rfl (ls' := #[.val (.ref tr), .val (.int q0), .val (.int (0 : Int32)), .val (.int q0), .unset, .unset]) rfl ?_
  refine g_aloadN W0 d40_4 (pc' := 5) rfl rfl rfl ?_
  refine g_getf W0 (wd_205 hw) Via.refl H0 (i := 0) rfl (jx := 2) rfl d40_5 (pc' := 8) rfl ?_
  intro T1 W1 H1
  refine g_iloadN W1 d40_8 (pc' := 9) rfl rfl ?_
  refine g_ialoadI W1 H1 (i := 1) rfl (jx := u0) hq0 (u := b0) hP0 d40_9 (pc' := 10) rfl ?_
  refine g_iconst W1 d40_10 (pc' := 11) rfl (v := (-1 : Int32)) (by decide) ?_
  refine g_icmp W1 d40_11 (pcy := 34) (by decide) (pc' := 14) rfl (fun (h : b0 = (-1 : Int32)) => absurd h (own_nm1 hb0)) (fun (_ : ¬ b0 = (-1 : Int32)) => ?_)
  refine g_iinc W1 d40_14 (pc' := 17) rfl rfl (v := (1 : Int32)) (by decide) (ls' := #[.val (.ref tr), .val (.int q0), .val (.int (1 : Int32)), .val (.int q0), .unset, .unset]) rfl ?_
  refine g_aloadN W1 d40_17 (pc' := 18) rfl rfl rfl ?_
  refine g_getf W1 (wd_196 hw) Via.refl H1 (i := 0) rfl (jx := 0) rfl d40_18 (pc' := 21) rfl ?_
  intro T2 W2 H2
  refine g_aloadN W2 d40_21 (pc' := 22) rfl rfl rfl ?_
  refine g_getf W2 (wd_205 hw) Via.refl H2 (i := 0) rfl (jx := 2) rfl d40_22 (pc' := 25) rfl ?_
  intro T3 W3 H3
  refine g_iloadN W3 d40_25 (pc' := 26) rfl rfl ?_
  refine g_ialoadI W3 H3 (i := 1) rfl (jx := u0) hq0 (u := b0) hP0 d40_26 (pc' := 27) rfl ?_
  have H4f := Hp.fr3 H3
  have H5f := Hp.fr3 H4f
  refine g_callV W3 (argsL := [.int b0]) (st := []) (wd_283 hw) (wd_284 hw) (wd_286 hw) (wd_285 hw) (wd_93 hw) (wd_287 hw) (by decide) (a := nt) H5f (i := 0) rfl (c_ntail l Z a0 hw n0 nt tlA hdA caA ffA bsA pwA foA oaA ftI TL b0 w0 hb0 q1 hT0 _ _ H5f) pd_10 rfl rfl rfl d40_27 (pc' := 30) rfl (by decide) (Wn := 0) (Nat.le_of_eq rfl) (by decide) (kc' := 0) (ks' := 0) rfl rfl (by decide) (by decide) ?_
  intro T6 v6 W6 hp6
  obtain ⟨rfl, H6⟩ := hp6
  show Goes _ _ _ _ (State.setTop _ (mkF _ _ _ [.int q1]))
  refine g_istoreN W6 d40_30 (pc' := 31) rfl (ls' := #[.val (.ref tr), .val (.int q0), .val (.int (1 : Int32)), .val (.int q1), .unset, .unset]) rfl ?_
  refine g_goto W6 d40_31 (pc' := 4) (by decide) ?_
  refine g_aloadN W6 d40_4 (pc' := 5) rfl rfl rfl ?_
  refine g_getf W6 (wd_205 hw) Via.refl H6 (i := 2) rfl (jx := 2) rfl d40_5 (pc' := 8) rfl ?_
  intro T7 W7 H7
  refine g_iloadN W7 d40_8 (pc' := 9) rfl rfl ?_
  refine g_ialoadI W7 H7 (i := 3) rfl (jx := u1) hq1 (u := b1) hP1 d40_9 (pc' := 10) rfl ?_
  refine g_iconst W7 d40_10 (pc' := 11) rfl (v := (-1 : Int32)) (by decide) ?_
  refine g_icmp W7 d40_11 (pcy := 34) (by decide) (pc' := 14) rfl (fun (h : b1 = (-1 : Int32)) => absurd h (own_nm1 hb1)) (fun (_ : ¬ b1 = (-1 : Int32)) => ?_)
  refine g_iinc W7 d40_14 (pc' := 17) rfl rfl (v := (2 : Int32)) (by decide) (ls' := #[.val (.ref tr), .val (.int q0), .val (.int (2 : Int32)), .val (.int q1), .unset, .unset]) rfl ?_
  refine g_aloadN W7 d40_17 (pc' := 18) rfl rfl rfl ?_
  refine g_getf W7 (wd_196 hw) Via.refl H7 (i := 2) rfl (jx := 0) rfl d40_18 (pc' := 21) rfl ?_
  intro T8 W8 H8
  refine g_aloadN W8 d40_21 (pc' := 22) rfl rfl rfl ?_
  refine g_getf W8 (wd_205 hw) Via.refl H8 (i := 2) rfl (jx := 2) rfl d40_22 (pc' := 25) rfl ?_
  intro T9 W9 H9
  refine g_iloadN W9 d40_25 (pc' := 26) rfl rfl ?_
  refine g_ialoadI W9 H9 (i := 3) rfl (jx := u1) hq1 (u := b1) hP1 d40_26 (pc' := 27) rfl ?_
  have H10f := Hp.fr1 H9
  have H11f := Hp.fr1 H10f
  refine g_callV W9 (argsL := [.int b1]) (st := []) (wd_283 hw) (wd_284 hw) (wd_286 hw) (wd_285 hw) (wd_93 hw) (wd_287 hw) (by decide) (a := nt) H11f (i := 0) rfl (c_ntail l Z a0 hw n0 nt tlA hdA caA ffA bsA pwA foA oaA ftI TL b1 w1 hb1 q2 hT1 _ _ H11f) pd_10 rfl rfl rfl d40_27 (pc' := 30) rfl (by decide) (Wn := 0) (Nat.le_of_eq rfl) (by decide) (kc' := 0) (ks' := 0) rfl rfl (by decide) (by decide) ?_
  intro T12 v12 W12 hp12
  obtain ⟨rfl, H12⟩ := hp12
  show Goes _ _ _ _ (State.setTop _ (mkF _ _ _ [.int q2]))
  refine g_istoreN W12 d40_30 (pc' := 31) rfl (ls' := #[.val (.ref tr), .val (.int q0), .val (.int (2 : Int32)), .val (.int q2), .unset, .unset]) rfl ?_
  refine g_goto W12 d40_31 (pc' := 4) (by decide) ?_
  refine g_aloadN W12 d40_4 (pc' := 5) rfl rfl rfl ?_
  refine g_getf W12 (wd_205 hw) Via.refl H12 (i := 2) rfl (jx := 2) rfl d40_5 (pc' := 8) rfl ?_
  intro T13 W13 H13
  refine g_iloadN W13 d40_8 (pc' := 9) rfl rfl ?_
  refine g_ialoadI W13 H13 (i := 3) rfl (jx := u2) hq2 (u := (-1 : Int32)) hE d40_9 (pc' := 10) rfl ?_
  refine g_iconst W13 d40_10 (pc' := 11) rfl (v := (-1 : Int32)) (by decide) ?_
  refine g_icmp W13 d40_11 (pcy := 34) (by decide) (pc' := 14) rfl (fun _ => ?_) (fun (h : ¬ (-1 : Int32) = (-1 : Int32)) => absurd h (by decide))
  refine g_iloadN W13 d40_34 (pc' := 35) rfl rfl ?_
  refine g_newarrI W13 (wd_1 hw) H13 (by decide) (n := 2) (by decide) (cap := 2) (by decide) (by decide) d40_35 (pc' := 37) rfl (kc' := 1) (ks' := 2) rfl rfl (by decide) (by decide) ?_
  intro T14 a14 W14 H14
  refine g_astoreN W14 d40_37 (pc' := 38) rfl rfl (ls' := #[.val (.ref tr), .val (.int q0), .val (.int (2 : Int32)), .val (.ref a14), .unset, .unset]) rfl ?_
  refine g_iloadN W14 d40_38 (pc' := 39) rfl rfl ?_
  refine g_istore W14 d40_39 (pc' := 41) rfl (ls' := #[.val (.ref tr), .val (.int q0), .val (.int (2 : Int32)), .val (.ref a14), .val (.int q0), .unset]) rfl ?_
  refine g_iloadN W14 d40_41 (pc' := 42) rfl rfl ?_
  refine g_iconst W14 d40_42 (pc' := 43) rfl (v := (1 : Int32)) (by decide) ?_
  refine g_isub W14 d40_43 (pc' := 44) rfl (v := (1 : Int32)) (by decide) ?_
  refine g_istore W14 d40_44 (pc' := 46) rfl (ls' := #[.val (.ref tr), .val (.int q0), .val (.int (2 : Int32)), .val (.ref a14), .val (.int q0), .val (.int (1 : Int32))]) rfl ?_
  refine g_iload W14 d40_46 (pc' := 48) rfl rfl ?_
  refine g_if W14 d40_48 (pcy := 81) (by decide) (pc' := 51) rfl (fun (h : (1 : Int32) < (0 : Int32)) => absurd h (by decide)) (fun _ => ?_)
  refine g_aloadN W14 d40_51 (pc' := 52) rfl rfl rfl ?_
  refine g_iload W14 d40_52 (pc' := 54) rfl rfl ?_
  refine g_aloadN W14 d40_54 (pc' := 55) rfl rfl rfl ?_
  refine g_getf W14 (wd_205 hw) Via.refl H14 (i := 3) rfl (jx := 2) rfl d40_55 (pc' := 58) rfl ?_
  intro T15 W15 H15
  refine g_iload W15 d40_58 (pc' := 60) rfl rfl ?_
  refine g_ialoadI W15 H15 (i := 4) rfl (jx := u0) hq0 (u := b0) hP0 d40_60 (pc' := 61) rfl ?_
  refine g_iastoreI W15 H15 (i := 0) rfl (jx := 1) (by decide) (by exact (by decide : 1 < 2)) d40_61 (pc' := 62) rfl (L' := ((a14, IaC Z ([0, b0] : List Int32)) :: (nt, ObC Z "com/example/lanewright/lanewright/Network" (fs_Network (.int (4 : Int32)) (.int ftI) (.ref tlA) (.ref hdA) (.ref caA) (.ref ffA) (.ref bsA) (.ref pwA) (.ref foA) (.ref oaA))) :: (tlA, IaC Z TL) :: (tr, ObC Z "com/example/lanewright/lanewright/ShortestPathTree" (fs_ShortestPathTree (.ref nt) (.ref dsA) (.ref prA) (.ref hpA) (.ref psA) (.int hz))) :: (prA, IaC Z PL) :: F)) rfl ?_
  intro T16 W16 H16
  refine g_aloadN W16 d40_62 (pc' := 63) rfl rfl rfl ?_
  refine g_getf W16 (wd_196 hw) Via.refl H16 (i := 3) rfl (jx := 0) rfl d40_63 (pc' := 66) rfl ?_
  intro T17 W17 H17
  refine g_aloadN W17 d40_66 (pc' := 67) rfl rfl rfl ?_
  refine g_iload W17 d40_67 (pc' := 69) rfl rfl ?_
  refine g_ialoadI W17 H17 (i := 0) rfl (jx := 1) (by decide) (u := b0) rfl d40_69 (pc' := 70) rfl ?_
  have H18f := Hp.fr2 H17
  have H19f := Hp.fr2 H18f
  refine g_callV W17 (argsL := [.int b0]) (st := []) (wd_283 hw) (wd_284 hw) (wd_286 hw) (wd_285 hw) (wd_93 hw) (wd_287 hw) (by decide) (a := nt) H19f (i := 0) rfl (c_ntail l Z a0 hw n0 nt tlA hdA caA ffA bsA pwA foA oaA ftI TL b0 w0 hb0 q1 hT0 _ _ H19f) pd_10 rfl rfl rfl d40_70 (pc' := 73) rfl (by decide) (Wn := 0) (Nat.le_of_eq rfl) (by decide) (kc' := 1) (ks' := 2) rfl rfl (by decide) (by decide) ?_
  intro T20 v20 W20 hp20
  obtain ⟨rfl, H20⟩ := hp20
  show Goes _ _ _ _ (State.setTop _ (mkF _ _ _ [.int q1]))
  refine g_istore W20 d40_73 (pc' := 75) rfl (ls' := #[.val (.ref tr), .val (.int q0), .val (.int (2 : Int32)), .val (.ref a14), .val (.int q1), .val (.int (1 : Int32))]) rfl ?_
  refine g_iinc W20 d40_75 (pc' := 78) rfl rfl (v := (0 : Int32)) (by decide) (ls' := #[.val (.ref tr), .val (.int q0), .val (.int (2 : Int32)), .val (.ref a14), .val (.int q1), .val (.int (0 : Int32))]) rfl ?_
  refine g_goto W20 d40_78 (pc' := 46) (by decide) ?_
  refine g_iload W20 d40_46 (pc' := 48) rfl rfl ?_
  refine g_if W20 d40_48 (pcy := 81) (by decide) (pc' := 51) rfl (fun (h : (0 : Int32) < (0 : Int32)) => absurd h (by decide)) (fun _ => ?_)
  refine g_aloadN W20 d40_51 (pc' := 52) rfl rfl rfl ?_
  refine g_iload W20 d40_52 (pc' := 54) rfl rfl ?_
  refine g_aloadN W20 d40_54 (pc' := 55) rfl rfl rfl ?_
  refine g_getf W20 (wd_205 hw) Via.refl H20 (i := 3) rfl (jx := 2) rfl d40_55 (pc' := 58) rfl ?_
  intro T21 W21 H21
  refine g_iload W21 d40_58 (pc' := 60) rfl rfl ?_
  refine g_ialoadI W21 H21 (i := 4) rfl (jx := u1) hq1 (u := b1) hP1 d40_60 (pc' := 61) rfl ?_
  refine g_iastoreI W21 H21 (i := 2) rfl (jx := 0) (by decide) (by exact (by decide : 0 < 2)) d40_61 (pc' := 62) rfl (L' := ((nt, ObC Z "com/example/lanewright/lanewright/Network" (fs_Network (.int (4 : Int32)) (.int ftI) (.ref tlA) (.ref hdA) (.ref caA) (.ref ffA) (.ref bsA) (.ref pwA) (.ref foA) (.ref oaA))) :: (tlA, IaC Z TL) :: (a14, IaC Z ([b1, b0] : List Int32)) :: (tr, ObC Z "com/example/lanewright/lanewright/ShortestPathTree" (fs_ShortestPathTree (.ref nt) (.ref dsA) (.ref prA) (.ref hpA) (.ref psA) (.int hz))) :: (prA, IaC Z PL) :: F)) rfl ?_
  intro T22 W22 H22
  refine g_aloadN W22 d40_62 (pc' := 63) rfl rfl rfl ?_
  refine g_getf W22 (wd_196 hw) Via.refl H22 (i := 3) rfl (jx := 0) rfl d40_63 (pc' := 66) rfl ?_
  intro T23 W23 H23
  refine g_aloadN W23 d40_66 (pc' := 67) rfl rfl rfl ?_
  refine g_iload W23 d40_67 (pc' := 69) rfl rfl ?_
  refine g_ialoadI W23 H23 (i := 2) rfl (jx := 0) (by decide) (u := b1) rfl d40_69 (pc' := 70) rfl ?_
  have H24f := Hp.fr1 H23
  have H25f := Hp.fr1 H24f
  refine g_callV W23 (argsL := [.int b1]) (st := []) (wd_283 hw) (wd_284 hw) (wd_286 hw) (wd_285 hw) (wd_93 hw) (wd_287 hw) (by decide) (a := nt) H25f (i := 0) rfl (c_ntail l Z a0 hw n0 nt tlA hdA caA ffA bsA pwA foA oaA ftI TL b1 w1 hb1 q2 hT1 _ _ H25f) pd_10 rfl rfl rfl d40_70 (pc' := 73) rfl (by decide) (Wn := 0) (Nat.le_of_eq rfl) (by decide) (kc' := 1) (ks' := 2) rfl rfl (by decide) (by decide) ?_
  intro T26 v26 W26 hp26
  obtain ⟨rfl, H26⟩ := hp26
  show Goes _ _ _ _ (State.setTop _ (mkF _ _ _ [.int q2]))
  refine g_istore W26 d40_73 (pc' := 75) rfl (ls' := #[.val (.ref tr), .val (.int q0), .val (.int (2 : Int32)), .val (.ref a14), .val (.int q2), .val (.int (0 : Int32))]) rfl ?_
  refine g_iinc W26 d40_75 (pc' := 78) rfl rfl (v := (-1 : Int32)) (by decide) (ls' := #[.val (.ref tr), .val (.int q0), .val (.int (2 : Int32)), .val (.ref a14), .val (.int q2), .val (.int (-1 : Int32))]) rfl ?_
  refine g_goto W26 d40_78 (pc' := 46) (by decide) ?_
  refine g_iload W26 d40_46 (pc' := 48) rfl rfl ?_
  refine g_if W26 d40_48 (pcy := 81) (by decide) (pc' := 51) rfl (fun _ => ?_) (fun (h : ¬ (-1 : Int32) < (0 : Int32)) => absurd h (by decide))
  refine g_aloadN W26 d40_81 (pc' := 82) rfl rfl rfl ?_
  have H27f := Hp.fr2 H26
  have H28f := Hp.fr2 H27f
  have H29f := Hp.fr2 H28f
  have H30f := Hp.fr4 H29f
  have H31f := Hp.fr4 H30f
  exact g_areturn W26 rfl rfl d40_82 ⟨_, rfl, H31f⟩ (by decide) (by decide)
theorem c_isr2 (l : Launch) (Z : State) (a0 : Array Value) (hw : ∀ d ∈ tables_1, d.before a0 Z = true) (n0 : Nat) (tr nt dsA prA hpA psA : Addr) (tlA hdA caA ffA bsA pwA foA oaA : Addr) (ftI hz : Int32) (PL TL : List Int32) (q0 : Int32) (u0 : Nat) (hq0 : q0.toInt = (u0 : Int)) (q1 : Int32) (u1 : Nat) (hq1 : q1.toInt = (u1 : Int)) (q2 : Int32) (u2 : Nat) (hq2 : q2.toInt = (u2 : Int)) (b0 : Int32) (w0 : Nat) (hb0 : b0.toInt = (w0 : Int)) (hP0 : PL[u0]? = some b0) (hT0 : TL[w0]? = some q1) (b1 : Int32) (w1 : Nat) (hb1 : b1.toInt = (w1 : Int)) (hP1 : PL[u1]? = some b1) (hT1 : TL[w1]? = some q2) (hE : PL[u2]? = some (-1 : Int32)) (r : Addr) (h0 : Heap) (F : List HRow) (H00 : Hp Z n0 h0 ((tr, ObC Z "com/example/lanewright/lanewright/ShortestPathTree" (fs_ShortestPathTree (.ref nt) (.ref dsA) (.ref prA) (.ref hpA) (.ref psA) (.int hz))) :: (prA, IaC Z PL) :: (nt, ObC Z "com/example/lanewright/lanewright/Network" (fs_Network (.int (4 : Int32)) (.int ftI) (.ref tlA) (.ref hdA) (.ref caA) (.ref ffA) (.ref bsA) (.ref pwA) (.ref foA) (.ref oaA))) :: (tlA, IaC Z TL) :: (r, IaC Z ([b1, b0] : List Int32)) :: F)) :
    Con l Z n0 ⟨"com/example/lanewright/lanewright/ShortestPathTree", "isRoute", "(I[I)Z"⟩ [] prog_57_method_5_code 5 (some .boolean) ({ frames := 1, cells := 0, slots := 0, locals := 13 } : Room) #[.ref tr, .int q0, .ref r] h0 (fun v h => v = some (.int 1) ∧ Hp Z n0 h ((tr, ObC Z "com/example/lanewright/lanewright/ShortestPathTree" (fs_ShortestPathTree (.ref nt) (.ref dsA) (.ref prA) (.ref hpA) (.ref psA) (.int hz))) :: (prA, IaC Z PL) :: (nt, ObC Z "com/example/lanewright/lanewright/Network" (fs_Network (.int (4 : Int32)) (.int ftI) (.ref tlA) (.ref hdA) (.ref caA) (.ref ffA) (.ref bsA) (.ref pwA) (.ref foA) (.ref oaA))) :: (tlA, IaC Z TL) :: (r, IaC Z ([b1, b0] : List Int32)) :: F)) := by
  refine con_of (plainFor_of_name pn_ShortestPathTree) ?_
  intro p e s m below meth c T0 W0 e0
  subst e0
  have H0 := H00
  refine g_cast (ef_rir5 m tr q0 r) ?_
  refine g_iloadN W0 d41_0 (pc' := 1) rfl rfl ?_
  refine g_istoreN W0 d41_1 (pc' := 2) rfl (ls' := #[.val (.ref tr), .val (.int q0), .val (.ref r), .val (.int q0), .unset]) rfl ?_
  refine g_aloadN W0 d41_2 (pc' := 3) rfl rfl rfl ?_
  refine g_arrlenI W0 H0 (i := 4) rfl (x := (2 : Int32)) rfl d41_3 (pc' := 4) rfl ?_
  refine g_iconst W0 d41_4 (pc' := 5) rfl (v := (1 : Int32)) (by decide) ?_
  refine g_isub W0 d41_5 (pc' := 6) rfl (v := (1 : Int32)) (by decide) ?_
  refine g_istore W0 d41_6 (pc' := 8) rfl (ls' := #[.val (.ref tr), .val (.int q0), .val (.ref r), .val (.int q0), .val (.int (1 : Int32))]) rfl ?_
  refine g_iload W0 d41_8 (pc' := 10) rfl rfl ?_
  refine g_if W0 d41_10 (pcy := 46) (by decide) (pc' := 13) rfl (fun (h : (1 : Int32) < (0 : Int32)) => absurd h (by decide)) (fun _ => ?_)
  refine g_aloadN W0 d41_13 (pc' := 14) rfl rfl rfl ?_
  refine g_getf W0 (wd_205 hw) Via.refl H0 (i := 0) rfl (jx := 2) rfl d41_14 (pc' := 17) rfl ?_
  intro T1 W1 H1
  refine g_iloadN W1 d41_17 (pc' := 18) rfl rfl ?_
  refine g_ialoadI W1 H1 (i := 1) rfl (jx := u0) hq0 (u := b0) hP0 d41_18 (pc' := 19) rfl ?_
  refine g_aloadN W1 d41_19 (pc' := 20) rfl rfl rfl ?_
  refine g_iload W1 d41_20 (pc' := 22) rfl rfl ?_
  refine g_ialoadI W1 H1 (i := 4) rfl (jx := 1) (by decide) (u := b0) rfl d41_22 (pc' := 23) rfl ?_
  refine g_icmp W1 d41_23 (pcy := 28) (by decide) (pc' := 26) rfl (fun (_ : b0 = b0) => ?_) (fun (h : ¬ b0 = b0) => absurd rfl h)
  refine g_aloadN W1 d41_28 (pc' := 29) rfl rfl rfl ?_
  refine g_getf W1 (wd_196 hw) Via.refl H1 (i := 0) rfl (jx := 0) rfl d41_29 (pc' := 32) rfl ?_
  intro T2 W2 H2
  refine g_aloadN W2 d41_32 (pc' := 33) rfl rfl rfl ?_
  refine g_iload W2 d41_33 (pc' := 35) rfl rfl ?_
  refine g_ialoadI W2 H2 (i := 4) rfl (jx := 1) (by decide) (u := b0) rfl d41_35 (pc' := 36) rfl ?_
  have H3f := Hp.fr3 H2
  have H4f := Hp.fr3 H3f
  refine g_callV W2 (argsL := [.int b0]) (st := []) (wd_283 hw) (wd_284 hw) (wd_286 hw) (wd_285 hw) (wd_93 hw) (wd_287 hw) (by decide) (a := nt) H4f (i := 0) rfl (c_ntail l Z a0 hw n0 nt tlA hdA caA ffA bsA pwA foA oaA ftI TL b0 w0 hb0 q1 hT0 _ _ H4f) pd_10 rfl rfl rfl d41_36 (pc' := 39) rfl (by decide) (Wn := 0) (Nat.le_of_eq rfl) (by decide) (kc' := 0) (ks' := 0) rfl rfl (by decide) (by decide) ?_
  intro T5 v5 W5 hp5
  obtain ⟨rfl, H5⟩ := hp5
  show Goes _ _ _ _ (State.setTop _ (mkF _ _ _ [.int q1]))
  refine g_istoreN W5 d41_39 (pc' := 40) rfl (ls' := #[.val (.ref tr), .val (.int q0), .val (.ref r), .val (.int q1), .val (.int (1 : Int32))]) rfl ?_
  refine g_iinc W5 d41_40 (pc' := 43) rfl rfl (v := (0 : Int32)) (by decide) (ls' := #[.val (.ref tr), .val (.int q0), .val (.ref r), .val (.int q1), .val (.int (0 : Int32))]) rfl ?_
  refine g_goto W5 d41_43 (pc' := 8) (by decide) ?_
  refine g_iload W5 d41_8 (pc' := 10) rfl rfl ?_
  refine g_if W5 d41_10 (pcy := 46) (by decide) (pc' := 13) rfl (fun (h : (0 : Int32) < (0 : Int32)) => absurd h (by decide)) (fun _ => ?_)
  refine g_aloadN W5 d41_13 (pc' := 14) rfl rfl rfl ?_
  refine g_getf W5 (wd_205 hw) Via.refl H5 (i := 2) rfl (jx := 2) rfl d41_14 (pc' := 17) rfl ?_
  intro T6 W6 H6
  refine g_iloadN W6 d41_17 (pc' := 18) rfl rfl ?_
  refine g_ialoadI W6 H6 (i := 3) rfl (jx := u1) hq1 (u := b1) hP1 d41_18 (pc' := 19) rfl ?_
  refine g_aloadN W6 d41_19 (pc' := 20) rfl rfl rfl ?_
  refine g_iload W6 d41_20 (pc' := 22) rfl rfl ?_
  refine g_ialoadI W6 H6 (i := 4) rfl (jx := 0) (by decide) (u := b1) rfl d41_22 (pc' := 23) rfl ?_
  refine g_icmp W6 d41_23 (pcy := 28) (by decide) (pc' := 26) rfl (fun (_ : b1 = b1) => ?_) (fun (h : ¬ b1 = b1) => absurd rfl h)
  refine g_aloadN W6 d41_28 (pc' := 29) rfl rfl rfl ?_
  refine g_getf W6 (wd_196 hw) Via.refl H6 (i := 2) rfl (jx := 0) rfl d41_29 (pc' := 32) rfl ?_
  intro T7 W7 H7
  refine g_aloadN W7 d41_32 (pc' := 33) rfl rfl rfl ?_
  refine g_iload W7 d41_33 (pc' := 35) rfl rfl ?_
  refine g_ialoadI W7 H7 (i := 4) rfl (jx := 0) (by decide) (u := b1) rfl d41_35 (pc' := 36) rfl ?_
  have H8f := Hp.fr1 H7
  have H9f := Hp.fr1 H8f
  refine g_callV W7 (argsL := [.int b1]) (st := []) (wd_283 hw) (wd_284 hw) (wd_286 hw) (wd_285 hw) (wd_93 hw) (wd_287 hw) (by decide) (a := nt) H9f (i := 0) rfl (c_ntail l Z a0 hw n0 nt tlA hdA caA ffA bsA pwA foA oaA ftI TL b1 w1 hb1 q2 hT1 _ _ H9f) pd_10 rfl rfl rfl d41_36 (pc' := 39) rfl (by decide) (Wn := 0) (Nat.le_of_eq rfl) (by decide) (kc' := 0) (ks' := 0) rfl rfl (by decide) (by decide) ?_
  intro T10 v10 W10 hp10
  obtain ⟨rfl, H10⟩ := hp10
  show Goes _ _ _ _ (State.setTop _ (mkF _ _ _ [.int q2]))
  refine g_istoreN W10 d41_39 (pc' := 40) rfl (ls' := #[.val (.ref tr), .val (.int q0), .val (.ref r), .val (.int q2), .val (.int (0 : Int32))]) rfl ?_
  refine g_iinc W10 d41_40 (pc' := 43) rfl rfl (v := (-1 : Int32)) (by decide) (ls' := #[.val (.ref tr), .val (.int q0), .val (.ref r), .val (.int q2), .val (.int (-1 : Int32))]) rfl ?_
  refine g_goto W10 d41_43 (pc' := 8) (by decide) ?_
  refine g_iload W10 d41_8 (pc' := 10) rfl rfl ?_
  refine g_if W10 d41_10 (pcy := 46) (by decide) (pc' := 13) rfl (fun _ => ?_) (fun (h : ¬ (-1 : Int32) < (0 : Int32)) => absurd h (by decide))
  refine g_aloadN W10 d41_46 (pc' := 47) rfl rfl rfl ?_
  refine g_getf W10 (wd_205 hw) Via.refl H10 (i := 2) rfl (jx := 2) rfl d41_47 (pc' := 50) rfl ?_
  intro T11 W11 H11
  refine g_iloadN W11 d41_50 (pc' := 51) rfl rfl ?_
  refine g_ialoadI W11 H11 (i := 3) rfl (jx := u2) hq2 (u := (-1 : Int32)) hE d41_51 (pc' := 52) rfl ?_
  refine g_iconst W11 d41_52 (pc' := 53) rfl (v := (-1 : Int32)) (by decide) ?_
  refine g_icmp W11 d41_53 (pcy := 60) (by decide) (pc' := 56) rfl (fun (h : ¬ (-1 : Int32) = (-1 : Int32)) => absurd h (by decide)) (fun _ => ?_)
  refine g_iconst W11 d41_56 (pc' := 57) rfl (v := (1 : Int32)) (by decide) ?_
  refine g_goto W11 d41_57 (pc' := 61) (by decide) ?_
  have H12f := Hp.fr4 H11
  have H13f := Hp.fr2 H12f
  have H14f := Hp.fr2 H13f
  have H15f := Hp.fr4 H14f
  have H16f := Hp.fr4 H15f
  exact g_zreturn W11 (by decide) d41_61 ⟨rfl, H16f⟩ (by decide) (by decide)
theorem c_route3 (l : Launch) (Z : State) (a0 : Array Value) (hw : ∀ d ∈ tables_1, d.before a0 Z = true) (n0 : Nat) (tr nt dsA prA hpA psA : Addr) (tlA hdA caA ffA bsA pwA foA oaA : Addr) (ftI hz : Int32) (PL TL : List Int32) (q0 : Int32) (u0 : Nat) (hq0 : q0.toInt = (u0 : Int)) (q1 : Int32) (u1 : Nat) (hq1 : q1.toInt = (u1 : Int)) (q2 : Int32) (u2 : Nat) (hq2 : q2.toInt = (u2 : Int)) (q3 : Int32) (u3 : Nat) (hq3 : q3.toInt = (u3 : Int)) (b0 : Int32) (w0 : Nat) (hb0 : b0.toInt = (w0 : Int)) (hP0 : PL[u0]? = some b0) (hT0 : TL[w0]? = some q1) (b1 : Int32) (w1 : Nat) (hb1 : b1.toInt = (w1 : Int)) (hP1 : PL[u1]? = some b1) (hT1 : TL[w1]? = some q2) (b2 : Int32) (w2 : Nat) (hb2 : b2.toInt = (w2 : Int)) (hP2 : PL[u2]? = some b2) (hT2 : TL[w2]? = some q3) (hE : PL[u3]? = some (-1 : Int32)) (h0 : Heap) (F : List HRow) (H00 : Hp Z n0 h0 ((tr, ObC Z "com/example/lanewright/lanewright/ShortestPathTree" (fs_ShortestPathTree (.ref nt) (.ref dsA) (.ref prA) (.ref hpA) (.ref psA) (.int hz))) :: (prA, IaC Z PL) :: (nt, ObC Z "com/example/lanewright/lanewright/Network" (fs_Network (.int (4 : Int32)) (.int ftI) (.ref tlA) (.ref hdA) (.ref caA) (.ref ffA) (.ref bsA) (.ref pwA) (.ref foA) (.ref oaA))) :: (tlA, IaC Z TL) :: F)) :
    Con l Z n0 ⟨"com/example/lanewright/lanewright/ShortestPathTree", "route", "(I)[I"⟩ [] prog_57_method_4_code 6 (some (.array .int)) ({ frames := 1, cells := 1, slots := 3, locals := 13 } : Room) #[.ref tr, .int q0] h0 (fun v h => ∃ r, v = some (.ref r) ∧ Hp Z n0 h ((tr, ObC Z "com/example/lanewright/lanewright/ShortestPathTree" (fs_ShortestPathTree (.ref nt) (.ref dsA) (.ref prA) (.ref hpA) (.ref psA) (.int hz))) :: (prA, IaC Z PL) :: (nt, ObC Z "com/example/lanewright/lanewright/Network" (fs_Network (.int (4 : Int32)) (.int ftI) (.ref tlA) (.ref hdA) (.ref caA) (.ref ffA) (.ref bsA) (.ref pwA) (.ref foA) (.ref oaA))) :: (tlA, IaC Z TL) :: (r, IaC Z ([b2, b1, b0] : List Int32)) :: F)) := by
  refine con_of (plainFor_of_name pn_ShortestPathTree) ?_
  intro p e s m below meth c T0 W0 e0
  subst e0
  have H0 := H00
  refine g_cast (ef_ri6 m tr q0) ?_
  refine g_iconst W0 d40_0 (pc' := 1) rfl (v := (0 : Int32)) (by decide) ?_
  refine g_istoreN W0 d40_1 (pc' := 2) rfl (ls' := #[.val (.ref tr), .val (.int q0), .val (.int (0 : Int32)), .unset, .unset, .unset]) rfl ?_
  refine g_iloadN W0 d40_2 (pc' := 3) rfl rfl ?_
  refine g_istoreN W0 d40_3 (pc' := 4) rfl (ls' := #[.val (.ref tr), .val (.int q0), .val (.int (0 : Int32)), .val (.int q0), .unset, .unset]) rfl ?_
  refine g_aloadN W0 d40_4 (pc' := 5) rfl rfl rfl ?_
  refine g_getf W0 (wd_205 hw) Via.refl H0 (i := 0) rfl (jx := 2) rfl d40_5 (pc' := 8) rfl ?_
  intro T1 W1 H1
  refine g_iloadN W1 d40_8 (pc' := 9) rfl rfl ?_
  refine g_ialoadI W1 H1 (i := 1) rfl (jx := u0) hq0 (u := b0) hP0 d40_9 (pc' := 10) rfl ?_
  refine g_iconst W1 d40_10 (pc' := 11) rfl (v := (-1 : Int32)) (by decide) ?_
  refine g_icmp W1 d40_11 (pcy := 34) (by decide) (pc' := 14) rfl (fun (h : b0 = (-1 : Int32)) => absurd h (own_nm1 hb0)) (fun (_ : ¬ b0 = (-1 : Int32)) => ?_)
  refine g_iinc W1 d40_14 (pc' := 17) rfl rfl (v := (1 : Int32)) (by decide) (ls' := #[.val (.ref tr), .val (.int q0), .val (.int (1 : Int32)), .val (.int q0), .unset, .unset]) rfl ?_
  refine g_aloadN W1 d40_17 (pc' := 18) rfl rfl rfl ?_
  refine g_getf W1 (wd_196 hw) Via.refl H1 (i := 0) rfl (jx := 0) rfl d40_18 (pc' := 21) rfl ?_
  intro T2 W2 H2
  refine g_aloadN W2 d40_21 (pc' := 22) rfl rfl rfl ?_
  refine g_getf W2 (wd_205 hw) Via.refl H2 (i := 0) rfl (jx := 2) rfl d40_22 (pc' := 25) rfl ?_
  intro T3 W3 H3
  refine g_iloadN W3 d40_25 (pc' := 26) rfl rfl ?_
  refine g_ialoadI W3 H3 (i := 1) rfl (jx := u0) hq0 (u := b0) hP0 d40_26 (pc' := 27) rfl ?_
  have H4f := Hp.fr3 H3
  have H5f := Hp.fr3 H4f
  refine g_callV W3 (argsL := [.int b0]) (st := []) (wd_283 hw) (wd_284 hw) (wd_286 hw) (wd_285 hw) (wd_93 hw) (wd_287 hw) (by decide) (a := nt) H5f (i := 0) rfl (c_ntail l Z a0 hw n0 nt tlA hdA caA ffA bsA pwA foA oaA ftI TL b0 w0 hb0 q1 hT0 _ _ H5f) pd_10 rfl rfl rfl d40_27 (pc' := 30) rfl (by decide) (Wn := 0) (Nat.le_of_eq rfl) (by decide) (kc' := 0) (ks' := 0) rfl rfl (by decide) (by decide) ?_
  intro T6 v6 W6 hp6
  obtain ⟨rfl, H6⟩ := hp6
  show Goes _ _ _ _ (State.setTop _ (mkF _ _ _ [.int q1]))
  refine g_istoreN W6 d40_30 (pc' := 31) rfl (ls' := #[.val (.ref tr), .val (.int q0), .val (.int (1 : Int32)), .val (.int q1), .unset, .unset]) rfl ?_
  refine g_goto W6 d40_31 (pc' := 4) (by decide) ?_
  refine g_aloadN W6 d40_4 (pc' := 5) rfl rfl rfl ?_
  refine g_getf W6 (wd_205 hw) Via.refl H6 (i := 2) rfl (jx := 2) rfl d40_5 (pc' := 8) rfl ?_
  intro T7 W7 H7
  refine g_iloadN W7 d40_8 (pc' := 9) rfl rfl ?_
  refine g_ialoadI W7 H7 (i := 3) rfl (jx := u1) hq1 (u := b1) hP1 d40_9 (pc' := 10) rfl ?_
  refine g_iconst W7 d40_10 (pc' := 11) rfl (v := (-1 : Int32)) (by decide) ?_
  refine g_icmp W7 d40_11 (pcy := 34) (by decide) (pc' := 14) rfl (fun (h : b1 = (-1 : Int32)) => absurd h (own_nm1 hb1)) (fun (_ : ¬ b1 = (-1 : Int32)) => ?_)
  refine g_iinc W7 d40_14 (pc' := 17) rfl rfl (v := (2 : Int32)) (by decide) (ls' := #[.val (.ref tr), .val (.int q0), .val (.int (2 : Int32)), .val (.int q1), .unset, .unset]) rfl ?_
  refine g_aloadN W7 d40_17 (pc' := 18) rfl rfl rfl ?_
  refine g_getf W7 (wd_196 hw) Via.refl H7 (i := 2) rfl (jx := 0) rfl d40_18 (pc' := 21) rfl ?_
  intro T8 W8 H8
  refine g_aloadN W8 d40_21 (pc' := 22) rfl rfl rfl ?_
  refine g_getf W8 (wd_205 hw) Via.refl H8 (i := 2) rfl (jx := 2) rfl d40_22 (pc' := 25) rfl ?_
  intro T9 W9 H9
  refine g_iloadN W9 d40_25 (pc' := 26) rfl rfl ?_
  refine g_ialoadI W9 H9 (i := 3) rfl (jx := u1) hq1 (u := b1) hP1 d40_26 (pc' := 27) rfl ?_
  have H10f := Hp.fr1 H9
  have H11f := Hp.fr1 H10f
  refine g_callV W9 (argsL := [.int b1]) (st := []) (wd_283 hw) (wd_284 hw) (wd_286 hw) (wd_285 hw) (wd_93 hw) (wd_287 hw) (by decide) (a := nt) H11f (i := 0) rfl (c_ntail l Z a0 hw n0 nt tlA hdA caA ffA bsA pwA foA oaA ftI TL b1 w1 hb1 q2 hT1 _ _ H11f) pd_10 rfl rfl rfl d40_27 (pc' := 30) rfl (by decide) (Wn := 0) (Nat.le_of_eq rfl) (by decide) (kc' := 0) (ks' := 0) rfl rfl (by decide) (by decide) ?_
  intro T12 v12 W12 hp12
  obtain ⟨rfl, H12⟩ := hp12
  show Goes _ _ _ _ (State.setTop _ (mkF _ _ _ [.int q2]))
  refine g_istoreN W12 d40_30 (pc' := 31) rfl (ls' := #[.val (.ref tr), .val (.int q0), .val (.int (2 : Int32)), .val (.int q2), .unset, .unset]) rfl ?_
  refine g_goto W12 d40_31 (pc' := 4) (by decide) ?_
  refine g_aloadN W12 d40_4 (pc' := 5) rfl rfl rfl ?_
  refine g_getf W12 (wd_205 hw) Via.refl H12 (i := 2) rfl (jx := 2) rfl d40_5 (pc' := 8) rfl ?_
  intro T13 W13 H13
  refine g_iloadN W13 d40_8 (pc' := 9) rfl rfl ?_
  refine g_ialoadI W13 H13 (i := 3) rfl (jx := u2) hq2 (u := b2) hP2 d40_9 (pc' := 10) rfl ?_
  refine g_iconst W13 d40_10 (pc' := 11) rfl (v := (-1 : Int32)) (by decide) ?_
  refine g_icmp W13 d40_11 (pcy := 34) (by decide) (pc' := 14) rfl (fun (h : b2 = (-1 : Int32)) => absurd h (own_nm1 hb2)) (fun (_ : ¬ b2 = (-1 : Int32)) => ?_)
  refine g_iinc W13 d40_14 (pc' := 17) rfl rfl (v := (3 : Int32)) (by decide) (ls' := #[.val (.ref tr), .val (.int q0), .val (.int (3 : Int32)), .val (.int q2), .unset, .unset]) rfl ?_
  refine g_aloadN W13 d40_17 (pc' := 18) rfl rfl rfl ?_
  refine g_getf W13 (wd_196 hw) Via.refl H13 (i := 2) rfl (jx := 0) rfl d40_18 (pc' := 21) rfl ?_
  intro T14 W14 H14
  refine g_aloadN W14 d40_21 (pc' := 22) rfl rfl rfl ?_
  refine g_getf W14 (wd_205 hw) Via.refl H14 (i := 2) rfl (jx := 2) rfl d40_22 (pc' := 25) rfl ?_
  intro T15 W15 H15
  refine g_iloadN W15 d40_25 (pc' := 26) rfl rfl ?_
  refine g_ialoadI W15 H15 (i := 3) rfl (jx := u2) hq2 (u := b2) hP2 d40_26 (pc' := 27) rfl ?_
  have H16f := Hp.fr1 H15
  have H17f := Hp.fr1 H16f
  refine g_callV W15 (argsL := [.int b2]) (st := []) (wd_283 hw) (wd_284 hw) (wd_286 hw) (wd_285 hw) (wd_93 hw) (wd_287 hw) (by decide) (a := nt) H17f (i := 0) rfl (c_ntail l Z a0 hw n0 nt tlA hdA caA ffA bsA pwA foA oaA ftI TL b2 w2 hb2 q3 hT2 _ _ H17f) pd_10 rfl rfl rfl d40_27 (pc' := 30) rfl (by decide) (Wn := 0) (Nat.le_of_eq rfl) (by decide) (kc' := 0) (ks' := 0) rfl rfl (by decide) (by decide) ?_
  intro T18 v18 W18 hp18
  obtain ⟨rfl, H18⟩ := hp18
  show Goes _ _ _ _ (State.setTop _ (mkF _ _ _ [.int q3]))
  refine g_istoreN W18 d40_30 (pc' := 31) rfl (ls' := #[.val (.ref tr), .val (.int q0), .val (.int (3 : Int32)), .val (.int q3), .unset, .unset]) rfl ?_
  refine g_goto W18 d40_31 (pc' := 4) (by decide) ?_
  refine g_aloadN W18 d40_4 (pc' := 5) rfl rfl rfl ?_
  refine g_getf W18 (wd_205 hw) Via.refl H18 (i := 2) rfl (jx := 2) rfl d40_5 (pc' := 8) rfl ?_
  intro T19 W19 H19
  refine g_iloadN W19 d40_8 (pc' := 9) rfl rfl ?_
  refine g_ialoadI W19 H19 (i := 3) rfl (jx := u3) hq3 (u := (-1 : Int32)) hE d40_9 (pc' := 10) rfl ?_
  refine g_iconst W19 d40_10 (pc' := 11) rfl (v := (-1 : Int32)) (by decide) ?_
  refine g_icmp W19 d40_11 (pcy := 34) (by decide) (pc' := 14) rfl (fun _ => ?_) (fun (h : ¬ (-1 : Int32) = (-1 : Int32)) => absurd h (by decide))
  refine g_iloadN W19 d40_34 (pc' := 35) rfl rfl ?_
  refine g_newarrI W19 (wd_1 hw) H19 (by decide) (n := 3) (by decide) (cap := 3) (by decide) (by decide) d40_35 (pc' := 37) rfl (kc' := 1) (ks' := 3) rfl rfl (by decide) (by decide) ?_
  intro T20 a20 W20 H20
  refine g_astoreN W20 d40_37 (pc' := 38) rfl rfl (ls' := #[.val (.ref tr), .val (.int q0), .val (.int (3 : Int32)), .val (.ref a20), .unset, .unset]) rfl ?_
  refine g_iloadN W20 d40_38 (pc' := 39) rfl rfl ?_
  refine g_istore W20 d40_39 (pc' := 41) rfl (ls' := #[.val (.ref tr), .val (.int q0), .val (.int (3 : Int32)), .val (.ref a20), .val (.int q0), .unset]) rfl ?_
  refine g_iloadN W20 d40_41 (pc' := 42) rfl rfl ?_
  refine g_iconst W20 d40_42 (pc' := 43) rfl (v := (1 : Int32)) (by decide) ?_
  refine g_isub W20 d40_43 (pc' := 44) rfl (v := (2 : Int32)) (by decide) ?_
  refine g_istore W20 d40_44 (pc' := 46) rfl (ls' := #[.val (.ref tr), .val (.int q0), .val (.int (3 : Int32)), .val (.ref a20), .val (.int q0), .val (.int (2 : Int32))]) rfl ?_
  refine g_iload W20 d40_46 (pc' := 48) rfl rfl ?_
  refine g_if W20 d40_48 (pcy := 81) (by decide) (pc' := 51) rfl (fun (h : (2 : Int32) < (0 : Int32)) => absurd h (by decide)) (fun _ => ?_)
  refine g_aloadN W20 d40_51 (pc' := 52) rfl rfl rfl ?_
  refine g_iload W20 d40_52 (pc' := 54) rfl rfl ?_
  refine g_aloadN W20 d40_54 (pc' := 55) rfl rfl rfl ?_
  refine g_getf W20 (wd_205 hw) Via.refl H20 (i := 3) rfl (jx := 2) rfl d40_55 (pc' := 58) rfl ?_
  intro T21 W21 H21
  refine g_iload W21 d40_58 (pc' := 60) rfl rfl ?_
  refine g_ialoadI W21 H21 (i := 4) rfl (jx := u0) hq0 (u := b0) hP0 d40_60 (pc' := 61) rfl ?_
  refine g_iastoreI W21 H21 (i := 0) rfl (jx := 2) (by decide) (by exact (by decide : 2 < 3)) d40_61 (pc' := 62) rfl (L' := ((a20, IaC Z ([0, 0, b0] : List Int32)) :: (nt, ObC Z "com/example/lanewright/lanewright/Network" (fs_Network (.int (4 : Int32)) (.int ftI) (.ref tlA) (.ref hdA) (.ref caA) (.ref ffA) (.ref bsA) (.ref pwA) (.ref foA) (.ref oaA))) :: (tlA, IaC Z TL) :: (tr, ObC Z "com/example/lanewright/lanewright/ShortestPathTree" (fs_ShortestPathTree (.ref nt) (.ref dsA) (.ref prA) (.ref hpA) (.ref psA) (.int hz))) :: (prA, IaC Z PL) :: F)) rfl ?_
  intro T22 W22 H22
  refine g_aloadN W22 d40_62 (pc' := 63) rfl rfl rfl ?_
  refine g_getf W22 (wd_196 hw) Via.refl H22 (i := 3) rfl (jx := 0) rfl d40_63 (pc' := 66) rfl ?_
  intro T23 W23 H23
  refine g_aloadN W23 d40_66 (pc' := 67) rfl rfl rfl ?_
  refine g_iload W23 d40_67 (pc' := 69) rfl rfl ?_
  refine g_ialoadI W23 H23 (i := 0) rfl (jx := 2) (by decide) (u := b0) rfl d40_69 (pc' := 70) rfl ?_
  have H24f := Hp.fr2 H23
  have H25f := Hp.fr2 H24f
  refine g_callV W23 (argsL := [.int b0]) (st := []) (wd_283 hw) (wd_284 hw) (wd_286 hw) (wd_285 hw) (wd_93 hw) (wd_287 hw) (by decide) (a := nt) H25f (i := 0) rfl (c_ntail l Z a0 hw n0 nt tlA hdA caA ffA bsA pwA foA oaA ftI TL b0 w0 hb0 q1 hT0 _ _ H25f) pd_10 rfl rfl rfl d40_70 (pc' := 73) rfl (by decide) (Wn := 0) (Nat.le_of_eq rfl) (by decide) (kc' := 1) (ks' := 3) rfl rfl (by decide) (by decide) ?_
  intro T26 v26 W26 hp26
  obtain ⟨rfl, H26⟩ := hp26
  show Goes _ _ _ _ (State.setTop _ (mkF _ _ _ [.int q1]))
  refine g_istore W26 d40_73 (pc' := 75) rfl (ls' := #[.val (.ref tr), .val (.int q0), .val (.int (3 : Int32)), .val (.ref a20), .val (.int q1), .val (.int (2 : Int32))]) rfl ?_
  refine g_iinc W26 d40_75 (pc' := 78) rfl rfl (v := (1 : Int32)) (by decide) (ls' := #[.val (.ref tr), .val (.int q0), .val (.int (3 : Int32)), .val (.ref a20), .val (.int q1), .val (.int (1 : Int32))]) rfl ?_
  refine g_goto W26 d40_78 (pc' := 46) (by decide) ?_
  refine g_iload W26 d40_46 (pc' := 48) rfl rfl ?_
  refine g_if W26 d40_48 (pcy := 81) (by decide) (pc' := 51) rfl (fun (h : (1 : Int32) < (0 : Int32)) => absurd h (by decide)) (fun _ => ?_)
  refine g_aloadN W26 d40_51 (pc' := 52) rfl rfl rfl ?_
  refine g_iload W26 d40_52 (pc' := 54) rfl rfl ?_
  refine g_aloadN W26 d40_54 (pc' := 55) rfl rfl rfl ?_
  refine g_getf W26 (wd_205 hw) Via.refl H26 (i := 3) rfl (jx := 2) rfl d40_55 (pc' := 58) rfl ?_
  intro T27 W27 H27
  refine g_iload W27 d40_58 (pc' := 60) rfl rfl ?_
  refine g_ialoadI W27 H27 (i := 4) rfl (jx := u1) hq1 (u := b1) hP1 d40_60 (pc' := 61) rfl ?_
  refine g_iastoreI W27 H27 (i := 2) rfl (jx := 1) (by decide) (by exact (by decide : 1 < 3)) d40_61 (pc' := 62) rfl (L' := ((nt, ObC Z "com/example/lanewright/lanewright/Network" (fs_Network (.int (4 : Int32)) (.int ftI) (.ref tlA) (.ref hdA) (.ref caA) (.ref ffA) (.ref bsA) (.ref pwA) (.ref foA) (.ref oaA))) :: (tlA, IaC Z TL) :: (a20, IaC Z ([0, b1, b0] : List Int32)) :: (tr, ObC Z "com/example/lanewright/lanewright/ShortestPathTree" (fs_ShortestPathTree (.ref nt) (.ref dsA) (.ref prA) (.ref hpA) (.ref psA) (.int hz))) :: (prA, IaC Z PL) :: F)) rfl ?_
  intro T28 W28 H28
  refine g_aloadN W28 d40_62 (pc' := 63) rfl rfl rfl ?_
  refine g_getf W28 (wd_196 hw) Via.refl H28 (i := 3) rfl (jx := 0) rfl d40_63 (pc' := 66) rfl ?_
  intro T29 W29 H29
  refine g_aloadN W29 d40_66 (pc' := 67) rfl rfl rfl ?_
  refine g_iload W29 d40_67 (pc' := 69) rfl rfl ?_
  refine g_ialoadI W29 H29 (i := 2) rfl (jx := 1) (by decide) (u := b1) rfl d40_69 (pc' := 70) rfl ?_
  have H30f := Hp.fr1 H29
  have H31f := Hp.fr1 H30f
  refine g_callV W29 (argsL := [.int b1]) (st := []) (wd_283 hw) (wd_284 hw) (wd_286 hw) (wd_285 hw) (wd_93 hw) (wd_287 hw) (by decide) (a := nt) H31f (i := 0) rfl (c_ntail l Z a0 hw n0 nt tlA hdA caA ffA bsA pwA foA oaA ftI TL b1 w1 hb1 q2 hT1 _ _ H31f) pd_10 rfl rfl rfl d40_70 (pc' := 73) rfl (by decide) (Wn := 0) (Nat.le_of_eq rfl) (by decide) (kc' := 1) (ks' := 3) rfl rfl (by decide) (by decide) ?_
  intro T32 v32 W32 hp32
  obtain ⟨rfl, H32⟩ := hp32
  show Goes _ _ _ _ (State.setTop _ (mkF _ _ _ [.int q2]))
  refine g_istore W32 d40_73 (pc' := 75) rfl (ls' := #[.val (.ref tr), .val (.int q0), .val (.int (3 : Int32)), .val (.ref a20), .val (.int q2), .val (.int (1 : Int32))]) rfl ?_
  refine g_iinc W32 d40_75 (pc' := 78) rfl rfl (v := (0 : Int32)) (by decide) (ls' := #[.val (.ref tr), .val (.int q0), .val (.int (3 : Int32)), .val (.ref a20), .val (.int q2), .val (.int (0 : Int32))]) rfl ?_
  refine g_goto W32 d40_78 (pc' := 46) (by decide) ?_
  refine g_iload W32 d40_46 (pc' := 48) rfl rfl ?_
  refine g_if W32 d40_48 (pcy := 81) (by decide) (pc' := 51) rfl (fun (h : (0 : Int32) < (0 : Int32)) => absurd h (by decide)) (fun _ => ?_)
  refine g_aloadN W32 d40_51 (pc' := 52) rfl rfl rfl ?_
  refine g_iload W32 d40_52 (pc' := 54) rfl rfl ?_
  refine g_aloadN W32 d40_54 (pc' := 55) rfl rfl rfl ?_
  refine g_getf W32 (wd_205 hw) Via.refl H32 (i := 3) rfl (jx := 2) rfl d40_55 (pc' := 58) rfl ?_
  intro T33 W33 H33
  refine g_iload W33 d40_58 (pc' := 60) rfl rfl ?_
  refine g_ialoadI W33 H33 (i := 4) rfl (jx := u2) hq2 (u := b2) hP2 d40_60 (pc' := 61) rfl ?_
  refine g_iastoreI W33 H33 (i := 2) rfl (jx := 0) (by decide) (by exact (by decide : 0 < 3)) d40_61 (pc' := 62) rfl (L' := ((nt, ObC Z "com/example/lanewright/lanewright/Network" (fs_Network (.int (4 : Int32)) (.int ftI) (.ref tlA) (.ref hdA) (.ref caA) (.ref ffA) (.ref bsA) (.ref pwA) (.ref foA) (.ref oaA))) :: (tlA, IaC Z TL) :: (a20, IaC Z ([b2, b1, b0] : List Int32)) :: (tr, ObC Z "com/example/lanewright/lanewright/ShortestPathTree" (fs_ShortestPathTree (.ref nt) (.ref dsA) (.ref prA) (.ref hpA) (.ref psA) (.int hz))) :: (prA, IaC Z PL) :: F)) rfl ?_
  intro T34 W34 H34
  refine g_aloadN W34 d40_62 (pc' := 63) rfl rfl rfl ?_
  refine g_getf W34 (wd_196 hw) Via.refl H34 (i := 3) rfl (jx := 0) rfl d40_63 (pc' := 66) rfl ?_
  intro T35 W35 H35
  refine g_aloadN W35 d40_66 (pc' := 67) rfl rfl rfl ?_
  refine g_iload W35 d40_67 (pc' := 69) rfl rfl ?_
  refine g_ialoadI W35 H35 (i := 2) rfl (jx := 0) (by decide) (u := b2) rfl d40_69 (pc' := 70) rfl ?_
  have H36f := Hp.fr1 H35
  have H37f := Hp.fr1 H36f
  refine g_callV W35 (argsL := [.int b2]) (st := []) (wd_283 hw) (wd_284 hw) (wd_286 hw) (wd_285 hw) (wd_93 hw) (wd_287 hw) (by decide) (a := nt) H37f (i := 0) rfl (c_ntail l Z a0 hw n0 nt tlA hdA caA ffA bsA pwA foA oaA ftI TL b2 w2 hb2 q3 hT2 _ _ H37f) pd_10 rfl rfl rfl d40_70 (pc' := 73) rfl (by decide) (Wn := 0) (Nat.le_of_eq rfl) (by decide) (kc' := 1) (ks' := 3) rfl rfl (by decide) (by decide) ?_
  intro T38 v38 W38 hp38
  obtain ⟨rfl, H38⟩ := hp38
  show Goes _ _ _ _ (State.setTop _ (mkF _ _ _ [.int q3]))
  refine g_istore W38 d40_73 (pc' := 75) rfl (ls' := #[.val (.ref tr), .val (.int q0), .val (.int (3 : Int32)), .val (.ref a20), .val (.int q3), .val (.int (0 : Int32))]) rfl ?_
  refine g_iinc W38 d40_75 (pc' := 78) rfl rfl (v := (-1 : Int32)) (by decide) (ls' := #[.val (.ref tr), .val (.int q0), .val (.int (3 : Int32)), .val (.ref a20), .val (.int q3), .val (.int (-1 : Int32))]) rfl ?_
  refine g_goto W38 d40_78 (pc' := 46) (by decide) ?_
  refine g_iload W38 d40_46 (pc' := 48) rfl rfl ?_
  refine g_if W38 d40_48 (pcy := 81) (by decide) (pc' := 51) rfl (fun _ => ?_) (fun (h : ¬ (-1 : Int32) < (0 : Int32)) => absurd h (by decide))
  refine g_aloadN W38 d40_81 (pc' := 82) rfl rfl rfl ?_
  have H39f := Hp.fr2 H38
  have H40f := Hp.fr2 H39f
  have H41f := Hp.fr2 H40f
  have H42f := Hp.fr4 H41f
  have H43f := Hp.fr4 H42f
  exact g_areturn W38 rfl rfl d40_82 ⟨_, rfl, H43f⟩ (by decide) (by decide)
theorem c_isr3 (l : Launch) (Z : State) (a0 : Array Value) (hw : ∀ d ∈ tables_1, d.before a0 Z = true) (n0 : Nat) (tr nt dsA prA hpA psA : Addr) (tlA hdA caA ffA bsA pwA foA oaA : Addr) (ftI hz : Int32) (PL TL : List Int32) (q0 : Int32) (u0 : Nat) (hq0 : q0.toInt = (u0 : Int)) (q1 : Int32) (u1 : Nat) (hq1 : q1.toInt = (u1 : Int)) (q2 : Int32) (u2 : Nat) (hq2 : q2.toInt = (u2 : Int)) (q3 : Int32) (u3 : Nat) (hq3 : q3.toInt = (u3 : Int)) (b0 : Int32) (w0 : Nat) (hb0 : b0.toInt = (w0 : Int)) (hP0 : PL[u0]? = some b0) (hT0 : TL[w0]? = some q1) (b1 : Int32) (w1 : Nat) (hb1 : b1.toInt = (w1 : Int)) (hP1 : PL[u1]? = some b1) (hT1 : TL[w1]? = some q2) (b2 : Int32) (w2 : Nat) (hb2 : b2.toInt = (w2 : Int)) (hP2 : PL[u2]? = some b2) (hT2 : TL[w2]? = some q3) (hE : PL[u3]? = some (-1 : Int32)) (r : Addr) (h0 : Heap) (F : List HRow) (H00 : Hp Z n0 h0 ((tr, ObC Z "com/example/lanewright/lanewright/ShortestPathTree" (fs_ShortestPathTree (.ref nt) (.ref dsA) (.ref prA) (.ref hpA) (.ref psA) (.int hz))) :: (prA, IaC Z PL) :: (nt, ObC Z "com/example/lanewright/lanewright/Network" (fs_Network (.int (4 : Int32)) (.int ftI) (.ref tlA) (.ref hdA) (.ref caA) (.ref ffA) (.ref bsA) (.ref pwA) (.ref foA) (.ref oaA))) :: (tlA, IaC Z TL) :: (r, IaC Z ([b2, b1, b0] : List Int32)) :: F)) :
    Con l Z n0 ⟨"com/example/lanewright/lanewright/ShortestPathTree", "isRoute", "(I[I)Z"⟩ [] prog_57_method_5_code 5 (some .boolean) ({ frames := 1, cells := 0, slots := 0, locals := 13 } : Room) #[.ref tr, .int q0, .ref r] h0 (fun v h => v = some (.int 1) ∧ Hp Z n0 h ((tr, ObC Z "com/example/lanewright/lanewright/ShortestPathTree" (fs_ShortestPathTree (.ref nt) (.ref dsA) (.ref prA) (.ref hpA) (.ref psA) (.int hz))) :: (prA, IaC Z PL) :: (nt, ObC Z "com/example/lanewright/lanewright/Network" (fs_Network (.int (4 : Int32)) (.int ftI) (.ref tlA) (.ref hdA) (.ref caA) (.ref ffA) (.ref bsA) (.ref pwA) (.ref foA) (.ref oaA))) :: (tlA, IaC Z TL) :: (r, IaC Z ([b2, b1, b0] : List Int32)) :: F)) := by
  refine con_of (plainFor_of_name pn_ShortestPathTree) ?_
  intro p e s m below meth c T0 W0 e0
  subst e0
  have H0 := H00
  refine g_cast (ef_rir5 m tr q0 r) ?_
  refine g_iloadN W0 d41_0 (pc' := 1) rfl rfl ?_
  refine g_istoreN W0 d41_1 (pc' := 2) rfl (ls' := #[.val (.ref tr), .val (.int q0), .val (.ref r), .val (.int q0), .unset]) rfl ?_
  refine g_aloadN W0 d41_2 (pc' := 3) rfl rfl rfl ?_
  refine g_arrlenI W0 H0 (i := 4) rfl (x := (3 : Int32)) rfl d41_3 (pc' := 4) rfl ?_
  refine g_iconst W0 d41_4 (pc' := 5) rfl (v := (1 : Int32)) (by decide) ?_
  refine g_isub W0 d41_5 (pc' := 6) rfl (v := (2 : Int32)) (by decide) ?_
  refine g_istore W0 d41_6 (pc' := 8) rfl (ls' := #[.val (.ref tr), .val (.int q0), .val (.ref r), .val (.int q0), .val (.int (2 : Int32))]) rfl ?_
  refine g_iload W0 d41_8 (pc' := 10) rfl rfl ?_
  refine g_if W0 d41_10 (pcy := 46) (by decide) (pc' := 13) rfl (fun (h : (2 : Int32) < (0 : Int32)) => absurd h (by decide)) (fun _ => ?_)
  refine g_aloadN W0 d41_13 (pc' := 14) rfl rfl rfl ?_
  refine g_getf W0 (wd_205 hw) Via.refl H0 (i := 0) rfl (jx := 2) rfl d41_14 (pc' := 17) rfl ?_
  intro T1 W1 H1
  refine g_iloadN W1 d41_17 (pc' := 18) rfl rfl ?_
  refine g_ialoadI W1 H1 (i := 1) rfl (jx := u0) hq0 (u := b0) hP0 d41_18 (pc' := 19) rfl ?_
  refine g_aloadN W1 d41_19 (pc' := 20) rfl rfl rfl ?_
  refine g_iload W1 d41_20 (pc' := 22) rfl rfl ?_
  refine g_ialoadI W1 H1 (i := 4) rfl (jx := 2) (by decide) (u := b0) rfl d41_22 (pc' := 23) rfl ?_
  refine g_icmp W1 d41_23 (pcy := 28) (by decide) (pc' := 26) rfl (fun (_ : b0 = b0) => ?_) (fun (h : ¬ b0 = b0) => absurd rfl h)
  refine g_aloadN W1 d41_28 (pc' := 29) rfl rfl rfl ?_
  refine g_getf W1 (wd_196 hw) Via.refl H1 (i := 0) rfl (jx := 0) rfl d41_29 (pc' := 32) rfl ?_
  intro T2 W2 H2
  refine g_aloadN W2 d41_32 (pc' := 33) rfl rfl rfl ?_
  refine g_iload W2 d41_33 (pc' := 35) rfl rfl ?_
  refine g_ialoadI W2 H2 (i := 4) rfl (jx := 2) (by decide) (u := b0) rfl d41_35 (pc' := 36) rfl ?_
  have H3f := Hp.fr3 H2
  have H4f := Hp.fr3 H3f
  refine g_callV W2 (argsL := [.int b0]) (st := []) (wd_283 hw) (wd_284 hw) (wd_286 hw) (wd_285 hw) (wd_93 hw) (wd_287 hw) (by decide) (a := nt) H4f (i := 0) rfl (c_ntail l Z a0 hw n0 nt tlA hdA caA ffA bsA pwA foA oaA ftI TL b0 w0 hb0 q1 hT0 _ _ H4f) pd_10 rfl rfl rfl d41_36 (pc' := 39) rfl (by decide) (Wn := 0) (Nat.le_of_eq rfl) (by decide) (kc' := 0) (ks' := 0) rfl rfl (by decide) (by decide) ?_
  intro T5 v5 W5 hp5
  obtain ⟨rfl, H5⟩ := hp5
  show Goes _ _ _ _ (State.setTop _ (mkF _ _ _ [.int q1]))
  refine g_istoreN W5 d41_39 (pc' := 40) rfl (ls' := #[.val (.ref tr), .val (.int q0), .val (.ref r), .val (.int q1), .val (.int (2 : Int32))]) rfl ?_
  refine g_iinc W5 d41_40 (pc' := 43) rfl rfl (v := (1 : Int32)) (by decide) (ls' := #[.val (.ref tr), .val (.int q0), .val (.ref r), .val (.int q1), .val (.int (1 : Int32))]) rfl ?_
  refine g_goto W5 d41_43 (pc' := 8) (by decide) ?_
  refine g_iload W5 d41_8 (pc' := 10) rfl rfl ?_
  refine g_if W5 d41_10 (pcy := 46) (by decide) (pc' := 13) rfl (fun (h : (1 : Int32) < (0 : Int32)) => absurd h (by decide)) (fun _ => ?_)
  refine g_aloadN W5 d41_13 (pc' := 14) rfl rfl rfl ?_
  refine g_getf W5 (wd_205 hw) Via.refl H5 (i := 2) rfl (jx := 2) rfl d41_14 (pc' := 17) rfl ?_
  intro T6 W6 H6
  refine g_iloadN W6 d41_17 (pc' := 18) rfl rfl ?_
  refine g_ialoadI W6 H6 (i := 3) rfl (jx := u1) hq1 (u := b1) hP1 d41_18 (pc' := 19) rfl ?_
  refine g_aloadN W6 d41_19 (pc' := 20) rfl rfl rfl ?_
  refine g_iload W6 d41_20 (pc' := 22) rfl rfl ?_
  refine g_ialoadI W6 H6 (i := 4) rfl (jx := 1) (by decide) (u := b1) rfl d41_22 (pc' := 23) rfl ?_
  refine g_icmp W6 d41_23 (pcy := 28) (by decide) (pc' := 26) rfl (fun (_ : b1 = b1) => ?_) (fun (h : ¬ b1 = b1) => absurd rfl h)
  refine g_aloadN W6 d41_28 (pc' := 29) rfl rfl rfl ?_
  refine g_getf W6 (wd_196 hw) Via.refl H6 (i := 2) rfl (jx := 0) rfl d41_29 (pc' := 32) rfl ?_
  intro T7 W7 H7
  refine g_aloadN W7 d41_32 (pc' := 33) rfl rfl rfl ?_
  refine g_iload W7 d41_33 (pc' := 35) rfl rfl ?_
  refine g_ialoadI W7 H7 (i := 4) rfl (jx := 1) (by decide) (u := b1) rfl d41_35 (pc' := 36) rfl ?_
  have H8f := Hp.fr1 H7
  have H9f := Hp.fr1 H8f
  refine g_callV W7 (argsL := [.int b1]) (st := []) (wd_283 hw) (wd_284 hw) (wd_286 hw) (wd_285 hw) (wd_93 hw) (wd_287 hw) (by decide) (a := nt) H9f (i := 0) rfl (c_ntail l Z a0 hw n0 nt tlA hdA caA ffA bsA pwA foA oaA ftI TL b1 w1 hb1 q2 hT1 _ _ H9f) pd_10 rfl rfl rfl d41_36 (pc' := 39) rfl (by decide) (Wn := 0) (Nat.le_of_eq rfl) (by decide) (kc' := 0) (ks' := 0) rfl rfl (by decide) (by decide) ?_
  intro T10 v10 W10 hp10
  obtain ⟨rfl, H10⟩ := hp10
  show Goes _ _ _ _ (State.setTop _ (mkF _ _ _ [.int q2]))
  refine g_istoreN W10 d41_39 (pc' := 40) rfl (ls' := #[.val (.ref tr), .val (.int q0), .val (.ref r), .val (.int q2), .val (.int (1 : Int32))]) rfl ?_
  refine g_iinc W10 d41_40 (pc' := 43) rfl rfl (v := (0 : Int32)) (by decide) (ls' := #[.val (.ref tr), .val (.int q0), .val (.ref r), .val (.int q2), .val (.int (0 : Int32))]) rfl ?_
  refine g_goto W10 d41_43 (pc' := 8) (by decide) ?_
  refine g_iload W10 d41_8 (pc' := 10) rfl rfl ?_
  refine g_if W10 d41_10 (pcy := 46) (by decide) (pc' := 13) rfl (fun (h : (0 : Int32) < (0 : Int32)) => absurd h (by decide)) (fun _ => ?_)
  refine g_aloadN W10 d41_13 (pc' := 14) rfl rfl rfl ?_
  refine g_getf W10 (wd_205 hw) Via.refl H10 (i := 2) rfl (jx := 2) rfl d41_14 (pc' := 17) rfl ?_
  intro T11 W11 H11
  refine g_iloadN W11 d41_17 (pc' := 18) rfl rfl ?_
  refine g_ialoadI W11 H11 (i := 3) rfl (jx := u2) hq2 (u := b2) hP2 d41_18 (pc' := 19) rfl ?_
  refine g_aloadN W11 d41_19 (pc' := 20) rfl rfl rfl ?_
  refine g_iload W11 d41_20 (pc' := 22) rfl rfl ?_
  refine g_ialoadI W11 H11 (i := 4) rfl (jx := 0) (by decide) (u := b2) rfl d41_22 (pc' := 23) rfl ?_
  refine g_icmp W11 d41_23 (pcy := 28) (by decide) (pc' := 26) rfl (fun (_ : b2 = b2) => ?_) (fun (h : ¬ b2 = b2) => absurd rfl h)
  refine g_aloadN W11 d41_28 (pc' := 29) rfl rfl rfl ?_
  refine g_getf W11 (wd_196 hw) Via.refl H11 (i := 2) rfl (jx := 0) rfl d41_29 (pc' := 32) rfl ?_
  intro T12 W12 H12
  refine g_aloadN W12 d41_32 (pc' := 33) rfl rfl rfl ?_
  refine g_iload W12 d41_33 (pc' := 35) rfl rfl ?_
  refine g_ialoadI W12 H12 (i := 4) rfl (jx := 0) (by decide) (u := b2) rfl d41_35 (pc' := 36) rfl ?_
  have H13f := Hp.fr1 H12
  have H14f := Hp.fr1 H13f
  refine g_callV W12 (argsL := [.int b2]) (st := []) (wd_283 hw) (wd_284 hw) (wd_286 hw) (wd_285 hw) (wd_93 hw) (wd_287 hw) (by decide) (a := nt) H14f (i := 0) rfl (c_ntail l Z a0 hw n0 nt tlA hdA caA ffA bsA pwA foA oaA ftI TL b2 w2 hb2 q3 hT2 _ _ H14f) pd_10 rfl rfl rfl d41_36 (pc' := 39) rfl (by decide) (Wn := 0) (Nat.le_of_eq rfl) (by decide) (kc' := 0) (ks' := 0) rfl rfl (by decide) (by decide) ?_
  intro T15 v15 W15 hp15
  obtain ⟨rfl, H15⟩ := hp15
  show Goes _ _ _ _ (State.setTop _ (mkF _ _ _ [.int q3]))
  refine g_istoreN W15 d41_39 (pc' := 40) rfl (ls' := #[.val (.ref tr), .val (.int q0), .val (.ref r), .val (.int q3), .val (.int (0 : Int32))]) rfl ?_
  refine g_iinc W15 d41_40 (pc' := 43) rfl rfl (v := (-1 : Int32)) (by decide) (ls' := #[.val (.ref tr), .val (.int q0), .val (.ref r), .val (.int q3), .val (.int (-1 : Int32))]) rfl ?_
  refine g_goto W15 d41_43 (pc' := 8) (by decide) ?_
  refine g_iload W15 d41_8 (pc' := 10) rfl rfl ?_
  refine g_if W15 d41_10 (pcy := 46) (by decide) (pc' := 13) rfl (fun _ => ?_) (fun (h : ¬ (-1 : Int32) < (0 : Int32)) => absurd h (by decide))
  refine g_aloadN W15 d41_46 (pc' := 47) rfl rfl rfl ?_
  refine g_getf W15 (wd_205 hw) Via.refl H15 (i := 2) rfl (jx := 2) rfl d41_47 (pc' := 50) rfl ?_
  intro T16 W16 H16
  refine g_iloadN W16 d41_50 (pc' := 51) rfl rfl ?_
  refine g_ialoadI W16 H16 (i := 3) rfl (jx := u3) hq3 (u := (-1 : Int32)) hE d41_51 (pc' := 52) rfl ?_
  refine g_iconst W16 d41_52 (pc' := 53) rfl (v := (-1 : Int32)) (by decide) ?_
  refine g_icmp W16 d41_53 (pcy := 60) (by decide) (pc' := 56) rfl (fun (h : ¬ (-1 : Int32) = (-1 : Int32)) => absurd h (by decide)) (fun _ => ?_)
  refine g_iconst W16 d41_56 (pc' := 57) rfl (v := (1 : Int32)) (by decide) ?_
  refine g_goto W16 d41_57 (pc' := 61) (by decide) ?_
  have H17f := Hp.fr4 H16
  have H18f := Hp.fr2 H17f
  have H19f := Hp.fr2 H18f
  have H20f := Hp.fr4 H19f
  have H21f := Hp.fr4 H20f
  exact g_zreturn W16 (by decide) d41_61 ⟨rfl, H21f⟩ (by decide) (by decide)
theorem law_con (l : Launch) (Z : State) (a0 : Array Value) (hw : ∀ d ∈ tables_1, d.before a0 Z = true) (n0 : Nat) (de : Addr) (dc : Cell) (hD : Sta Z Z.heap "java/util/ArrayList" "DEFAULTCAPACITY_EMPTY_ELEMENTDATA" "[Ljava/lang/Object;" (.ref de)) (hA : Arr Z Z.heap de dc (.object "java/lang/Object")) (hA0 : dc.slots.size.toInt32 = 0) (pg pt po pd pf : Int32) (h0 : Heap) (H00 : Hp Z n0 h0 []) :
    Con l Z n0 x tables_1 code maxLocals ret room_1 #[.int pg, .int pt, .int po, .int pd, .int pf] h0 (fun v _ => v = some (.int 1)) := by
  refine con_of (plainFor_of_name pn_ShortestPathTreeRoutePinLaw) ?_
  intro p e s m below meth c T0 W0 e0
  subst e0
  have H0 := H00
  refine g_cast (ef_0 m pg pt po pd pf) ?_
  refine g_iloadN W0 at_0 (pc' := 1) rfl rfl ?_
  refine g_iconst W0 at_1 (pc' := 2) rfl (v := (3 : Int32)) (by decide) ?_
  refine g_iand W0 at_2 (pc' := 3) rfl rfl ?_
  refine g_iconst W0 at_3 (pc' := 4) rfl (v := (1 : Int32)) (by decide) ?_
  refine g_iadd W0 at_4 (pc' := 5) rfl rfl ?_
  generalize h_og : ((po &&& (3 : Int32)) + (1 : Int32)) = og
  obtain ⟨ogn, hog, o1, o2⟩ := own_e4 h_og
  refine g_istore W0 at_5 (pc' := 7) rfl (ls' := #[.val (.int pg), .val (.int pt), .val (.int po), .val (.int pd), .val (.int pf), .val (.int og), .unset, .unset, .unset, .unset, .unset, .unset, .unset, .unset, .unset, .unset, .unset, .unset, .unset, .unset, .unset]) rfl ?_
  refine g_iloadN W0 at_7 (pc' := 8) rfl rfl ?_
  refine g_iconst W0 at_8 (pc' := 9) rfl (v := (3 : Int32)) (by decide) ?_
  refine g_iand W0 at_9 (pc' := 10) rfl rfl ?_
  refine g_iconst W0 at_10 (pc' := 11) rfl (v := (1 : Int32)) (by decide) ?_
  refine g_iadd W0 at_11 (pc' := 12) rfl rfl ?_
  generalize h_ds : ((pd &&& (3 : Int32)) + (1 : Int32)) = ds
  obtain ⟨dn, hds, d1, d2⟩ := own_e4 h_ds
  refine g_istore W0 at_12 (pc' := 14) rfl (ls' := #[.val (.int pg), .val (.int pt), .val (.int po), .val (.int pd), .val (.int pf), .val (.int og), .val (.int ds), .unset, .unset, .unset, .unset, .unset, .unset, .unset, .unset, .unset, .unset, .unset, .unset, .unset, .unset]) rfl ?_
  refine g_iload W0 at_14 (pc' := 16) rfl rfl ?_
  refine g_ldcInt W0 (wd_0 hw) at_16 (pc' := 18) rfl ?_
  refine g_iand W0 at_18 (pc' := 19) rfl rfl ?_
  refine g_iconst W0 at_19 (pc' := 20) rfl (v := (5 : Int32)) (by decide) ?_
  refine g_irem W0 at_20 (pc' := 21) rfl (by decide) rfl ?_
  refine g_iconst W0 at_21 (pc' := 22) rfl (v := (1 : Int32)) (by decide) ?_
  refine g_iadd W0 at_22 (pc' := 23) rfl rfl ?_
  generalize h_ft : (((pf &&& (2147483647 : Int32)) - (pf &&& (2147483647 : Int32)) / (5 : Int32) * (5 : Int32)) + (1 : Int32)) = ft
  obtain ⟨ftn, hft⟩ := own_e5 h_ft
  refine g_istore W0 at_23 (pc' := 25) rfl (ls' := #[.val (.int pg), .val (.int pt), .val (.int po), .val (.int pd), .val (.int pf), .val (.int og), .val (.int ds), .val (.int ft), .unset, .unset, .unset, .unset, .unset, .unset, .unset, .unset, .unset, .unset, .unset, .unset, .unset]) rfl ?_
  refine g_iconst W0 at_25 (pc' := 26) rfl (v := (4 : Int32)) (by decide) ?_
  refine g_newarrI W0 (wd_1 hw) H0 (by decide) (n := 4) (by decide) (cap := 4) (by decide) (by decide) at_26 (pc' := 28) rfl (kc' := 1) (ks' := 4) rfl rfl (by decide) (by decide) ?_
  intro T1 a1 W1 H1
  refine g_astore W1 at_28 (pc' := 30) rfl rfl (ls' := #[.val (.int pg), .val (.int pt), .val (.int po), .val (.int pd), .val (.int pf), .val (.int og), .val (.int ds), .val (.int ft), .val (.ref a1), .unset, .unset, .unset, .unset, .unset, .unset, .unset, .unset, .unset, .unset, .unset, .unset]) rfl ?_
  refine g_iconst W1 at_30 (pc' := 31) rfl (v := (4 : Int32)) (by decide) ?_
  refine g_newarrI W1 (wd_1 hw) H1 (by decide) (n := 4) (by decide) (cap := 4) (by decide) (by decide) at_31 (pc' := 33) rfl (kc' := 2) (ks' := 8) rfl rfl (by decide) (by decide) ?_
  intro T2 a2 W2 H2
  refine g_astore W2 at_33 (pc' := 35) rfl rfl (ls' := #[.val (.int pg), .val (.int pt), .val (.int po), .val (.int pd), .val (.int pf), .val (.int og), .val (.int ds), .val (.int ft), .val (.ref a1), .val (.ref a2), .unset, .unset, .unset, .unset, .unset, .unset, .unset, .unset, .unset, .unset, .unset]) rfl ?_
  refine g_iconst W2 at_35 (pc' := 36) rfl (v := (4 : Int32)) (by decide) ?_
  refine g_newarr (aty := .double) W2 (wd_2 hw) H2 (by decide) (vs := [.double 0, .double 0, .double 0, .double 0]) rfl (cap := 4) (Nat.le_of_eq rfl) (by decide) at_36 (pc' := 38) rfl (kc' := 3) (ks' := 12) rfl rfl (by decide) (by decide) ?_
  intro T3 a3 W3 H3
  replace H3 : Hp Z n0 T3.heap [(a3, ArC Z .double [.double 0, .double 0, .double 0, .double 0]), (a2, IaC Z (List.replicate 4 0)), (a1, IaC Z (List.replicate 4 0))] := H3
  refine g_astore W3 at_38 (pc' := 40) rfl rfl (ls' := #[.val (.int pg), .val (.int pt), .val (.int po), .val (.int pd), .val (.int pf), .val (.int og), .val (.int ds), .val (.int ft), .val (.ref a1), .val (.ref a2), .val (.ref a3), .unset, .unset, .unset, .unset, .unset, .unset, .unset, .unset, .unset, .unset]) rfl ?_
  refine g_aload W3 at_40 (pc' := 42) rfl rfl rfl ?_
  refine g_iconst W3 at_42 (pc' := 43) rfl (v := (0 : Int32)) (by decide) ?_
  refine g_iloadN W3 at_43 (pc' := 44) rfl rfl ?_
  refine g_iconst W3 at_44 (pc' := 45) rfl (v := (0 : Int32)) (by decide) ?_
  refine g_callS W3 (argsL := [.int pg, .int (0 : Int32)]) (st := [.int (0 : Int32), .ref a1]) (wd_3 hw) (wd_4 hw) (wd_5 hw) (wd_6 hw) (by decide) (c_tailOf l Z a0 hw n0 pg (0 : Int32) _ _ H3) pd_1 rfl rfl rfl at_45 (pc' := 48) rfl (by decide) (Wn := 2) (Nat.le_of_eq rfl) (by decide) (kc' := 3) (ks' := 12) rfl rfl (by decide) (by decide) ?_
  intro T4 v4 W4 hp4
  obtain ⟨t0, nt0, rfl, ht0, bt0, H4⟩ := hp4
  show Goes _ _ _ _ (State.setTop _ (mkF _ _ _ [.int t0, .int (0 : Int32), .ref a1]))
  refine g_iastoreI W4 H4 (i := 2) rfl (jx := 0) (by decide) (by exact (by decide : 0 < 4)) at_48 (pc' := 49) rfl (L' := [(a3, ArC Z .double [.double 0, .double 0, .double 0, .double 0]), (a2, IaC Z (List.replicate 4 0)), (a1, IaC Z ([t0, 0, 0, 0] : List Int32))]) rfl ?_
  intro T5 W5 H5
  refine g_aload W5 at_49 (pc' := 51) rfl rfl rfl ?_
  refine g_iconst W5 at_51 (pc' := 52) rfl (v := (0 : Int32)) (by decide) ?_
  refine g_iloadN W5 at_52 (pc' := 53) rfl rfl ?_
  refine g_iconst W5 at_53 (pc' := 54) rfl (v := (0 : Int32)) (by decide) ?_
  refine g_callS W5 (argsL := [.int pg, .int (0 : Int32)]) (st := [.int (0 : Int32), .ref a2]) (wd_7 hw) (wd_8 hw) (wd_5 hw) (wd_9 hw) (by decide) (c_headOf l Z a0 hw n0 pg (0 : Int32) _ _ H5) pd_1 rfl rfl rfl at_54 (pc' := 57) rfl (by decide) (Wn := 2) (Nat.le_of_eq rfl) (by decide) (kc' := 3) (ks' := 12) rfl rfl (by decide) (by decide) ?_
  intro T6 v6 W6 hp6
  obtain ⟨g0, ng0, rfl, hg0, bg0, H6⟩ := hp6
  show Goes _ _ _ _ (State.setTop _ (mkF _ _ _ [.int g0, .int (0 : Int32), .ref a2]))
  refine g_iastoreI W6 H6 (i := 1) rfl (jx := 0) (by decide) (by exact (by decide : 0 < 4)) at_57 (pc' := 58) rfl (L' := [(a3, ArC Z .double [.double 0, .double 0, .double 0, .double 0]), (a2, IaC Z ([g0, 0, 0, 0] : List Int32)), (a1, IaC Z ([t0, 0, 0, 0] : List Int32))]) rfl ?_
  intro T7 W7 H7
  refine g_aload W7 at_58 (pc' := 60) rfl rfl rfl ?_
  refine g_iconst W7 at_60 (pc' := 61) rfl (v := (0 : Int32)) (by decide) ?_
  refine g_iloadN W7 at_61 (pc' := 62) rfl rfl ?_
  refine g_bipush W7 at_62 (pc' := 64) rfl (v := (7 : Int32)) (by decide) ?_
  refine g_iand W7 at_64 (pc' := 65) rfl rfl ?_
  refine g_i2d W7 at_65 (pc' := 66) rfl rfl ?_
  generalize h_x0 : (FP.i2d (pt &&& (7 : Int32))) = x0
  obtain ⟨kx0, hx0, bx0⟩ := own_e7 h_x0
  refine g_dastore W7 H7 (i := 0) rfl (jx := 0) (by decide) (by exact (by decide : 0 < 4)) at_66 (pc' := 67) rfl (L' := [(a3, ArC Z .double [.double x0, .double 0, .double 0, .double 0]), (a2, IaC Z ([g0, 0, 0, 0] : List Int32)), (a1, IaC Z ([t0, 0, 0, 0] : List Int32))]) rfl ?_
  intro T8 W8 H8
  refine g_aload W8 at_67 (pc' := 69) rfl rfl rfl ?_
  refine g_iconst W8 at_69 (pc' := 70) rfl (v := (1 : Int32)) (by decide) ?_
  refine g_iloadN W8 at_70 (pc' := 71) rfl rfl ?_
  refine g_iconst W8 at_71 (pc' := 72) rfl (v := (1 : Int32)) (by decide) ?_
  refine g_callS W8 (argsL := [.int pg, .int (1 : Int32)]) (st := [.int (1 : Int32), .ref a1]) (wd_3 hw) (wd_4 hw) (wd_5 hw) (wd_6 hw) (by decide) (c_tailOf l Z a0 hw n0 pg (1 : Int32) _ _ H8) pd_1 rfl rfl rfl at_72 (pc' := 75) rfl (by decide) (Wn := 2) (Nat.le_of_eq rfl) (by decide) (kc' := 3) (ks' := 12) rfl rfl (by decide) (by decide) ?_
  intro T9 v9 W9 hp9
  obtain ⟨t1, nt1, rfl, ht1, bt1, H9⟩ := hp9
  show Goes _ _ _ _ (State.setTop _ (mkF _ _ _ [.int t1, .int (1 : Int32), .ref a1]))
  refine g_iastoreI W9 H9 (i := 2) rfl (jx := 1) (by decide) (by exact (by decide : 1 < 4)) at_75 (pc' := 76) rfl (L' := [(a3, ArC Z .double [.double x0, .double 0, .double 0, .double 0]), (a2, IaC Z ([g0, 0, 0, 0] : List Int32)), (a1, IaC Z ([t0, t1, 0, 0] : List Int32))]) rfl ?_
  intro T10 W10 H10
  refine g_aload W10 at_76 (pc' := 78) rfl rfl rfl ?_
  refine g_iconst W10 at_78 (pc' := 79) rfl (v := (1 : Int32)) (by decide) ?_
  refine g_iloadN W10 at_79 (pc' := 80) rfl rfl ?_
  refine g_iconst W10 at_80 (pc' := 81) rfl (v := (1 : Int32)) (by decide) ?_
  refine g_callS W10 (argsL := [.int pg, .int (1 : Int32)]) (st := [.int (1 : Int32), .ref a2]) (wd_7 hw) (wd_8 hw) (wd_5 hw) (wd_9 hw) (by decide) (c_headOf l Z a0 hw n0 pg (1 : Int32) _ _ H10) pd_1 rfl rfl rfl at_81 (pc' := 84) rfl (by decide) (Wn := 2) (Nat.le_of_eq rfl) (by decide) (kc' := 3) (ks' := 12) rfl rfl (by decide) (by decide) ?_
  intro T11 v11 W11 hp11
  obtain ⟨g1, ng1, rfl, hg1, bg1, H11⟩ := hp11
  show Goes _ _ _ _ (State.setTop _ (mkF _ _ _ [.int g1, .int (1 : Int32), .ref a2]))
  refine g_iastoreI W11 H11 (i := 1) rfl (jx := 1) (by decide) (by exact (by decide : 1 < 4)) at_84 (pc' := 85) rfl (L' := [(a3, ArC Z .double [.double x0, .double 0, .double 0, .double 0]), (a2, IaC Z ([g0, g1, 0, 0] : List Int32)), (a1, IaC Z ([t0, t1, 0, 0] : List Int32))]) rfl ?_
  intro T12 W12 H12
  refine g_aload W12 at_85 (pc' := 87) rfl rfl rfl ?_
  refine g_iconst W12 at_87 (pc' := 88) rfl (v := (1 : Int32)) (by decide) ?_
  refine g_iloadN W12 at_88 (pc' := 89) rfl rfl ?_
  refine g_iconst W12 at_89 (pc' := 90) rfl (v := (3 : Int32)) (by decide) ?_
  refine g_iushr W12 at_90 (pc' := 91) rfl rfl ?_
  refine g_bipush W12 at_91 (pc' := 93) rfl (v := (7 : Int32)) (by decide) ?_
  refine g_iand W12 at_93 (pc' := 94) rfl rfl ?_
  refine g_i2d W12 at_94 (pc' := 95) rfl rfl ?_
  generalize h_x1 : (FP.i2d ((XT.ushr pt (3 : Int32)) &&& (7 : Int32))) = x1
  obtain ⟨kx1, hx1, bx1⟩ := own_e7 h_x1
  refine g_dastore W12 H12 (i := 0) rfl (jx := 1) (by decide) (by exact (by decide : 1 < 4)) at_95 (pc' := 96) rfl (L' := [(a3, ArC Z .double [.double x0, .double x1, .double 0, .double 0]), (a2, IaC Z ([g0, g1, 0, 0] : List Int32)), (a1, IaC Z ([t0, t1, 0, 0] : List Int32))]) rfl ?_
  intro T13 W13 H13
  refine g_aload W13 at_96 (pc' := 98) rfl rfl rfl ?_
  refine g_iconst W13 at_98 (pc' := 99) rfl (v := (2 : Int32)) (by decide) ?_
  refine g_iloadN W13 at_99 (pc' := 100) rfl rfl ?_
  refine g_iconst W13 at_100 (pc' := 101) rfl (v := (2 : Int32)) (by decide) ?_
  refine g_callS W13 (argsL := [.int pg, .int (2 : Int32)]) (st := [.int (2 : Int32), .ref a1]) (wd_3 hw) (wd_4 hw) (wd_5 hw) (wd_6 hw) (by decide) (c_tailOf l Z a0 hw n0 pg (2 : Int32) _ _ H13) pd_1 rfl rfl rfl at_101 (pc' := 104) rfl (by decide) (Wn := 2) (Nat.le_of_eq rfl) (by decide) (kc' := 3) (ks' := 12) rfl rfl (by decide) (by decide) ?_
  intro T14 v14 W14 hp14
  obtain ⟨t2, nt2, rfl, ht2, bt2, H14⟩ := hp14
  show Goes _ _ _ _ (State.setTop _ (mkF _ _ _ [.int t2, .int (2 : Int32), .ref a1]))
  refine g_iastoreI W14 H14 (i := 2) rfl (jx := 2) (by decide) (by exact (by decide : 2 < 4)) at_104 (pc' := 105) rfl (L' := [(a3, ArC Z .double [.double x0, .double x1, .double 0, .double 0]), (a2, IaC Z ([g0, g1, 0, 0] : List Int32)), (a1, IaC Z ([t0, t1, t2, 0] : List Int32))]) rfl ?_
  intro T15 W15 H15
  refine g_aload W15 at_105 (pc' := 107) rfl rfl rfl ?_
  refine g_iconst W15 at_107 (pc' := 108) rfl (v := (2 : Int32)) (by decide) ?_
  refine g_iloadN W15 at_108 (pc' := 109) rfl rfl ?_
  refine g_iconst W15 at_109 (pc' := 110) rfl (v := (2 : Int32)) (by decide) ?_
  refine g_callS W15 (argsL := [.int pg, .int (2 : Int32)]) (st := [.int (2 : Int32), .ref a2]) (wd_7 hw) (wd_8 hw) (wd_5 hw) (wd_9 hw) (by decide) (c_headOf l Z a0 hw n0 pg (2 : Int32) _ _ H15) pd_1 rfl rfl rfl at_110 (pc' := 113) rfl (by decide) (Wn := 2) (Nat.le_of_eq rfl) (by decide) (kc' := 3) (ks' := 12) rfl rfl (by decide) (by decide) ?_
  intro T16 v16 W16 hp16
  obtain ⟨g2, ng2, rfl, hg2, bg2, H16⟩ := hp16
  show Goes _ _ _ _ (State.setTop _ (mkF _ _ _ [.int g2, .int (2 : Int32), .ref a2]))
  refine g_iastoreI W16 H16 (i := 1) rfl (jx := 2) (by decide) (by exact (by decide : 2 < 4)) at_113 (pc' := 114) rfl (L' := [(a3, ArC Z .double [.double x0, .double x1, .double 0, .double 0]), (a2, IaC Z ([g0, g1, g2, 0] : List Int32)), (a1, IaC Z ([t0, t1, t2, 0] : List Int32))]) rfl ?_
  intro T17 W17 H17
  refine g_aload W17 at_114 (pc' := 116) rfl rfl rfl ?_
  refine g_iconst W17 at_116 (pc' := 117) rfl (v := (2 : Int32)) (by decide) ?_
  refine g_iloadN W17 at_117 (pc' := 118) rfl rfl ?_
  refine g_bipush W17 at_118 (pc' := 120) rfl (v := (6 : Int32)) (by decide) ?_
  refine g_iushr W17 at_120 (pc' := 121) rfl rfl ?_
  refine g_bipush W17 at_121 (pc' := 123) rfl (v := (7 : Int32)) (by decide) ?_
  refine g_iand W17 at_123 (pc' := 124) rfl rfl ?_
  refine g_i2d W17 at_124 (pc' := 125) rfl rfl ?_
  generalize h_x2 : (FP.i2d ((XT.ushr pt (6 : Int32)) &&& (7 : Int32))) = x2
  obtain ⟨kx2, hx2, bx2⟩ := own_e7 h_x2
  refine g_dastore W17 H17 (i := 0) rfl (jx := 2) (by decide) (by exact (by decide : 2 < 4)) at_125 (pc' := 126) rfl (L' := [(a3, ArC Z .double [.double x0, .double x1, .double x2, .double 0]), (a2, IaC Z ([g0, g1, g2, 0] : List Int32)), (a1, IaC Z ([t0, t1, t2, 0] : List Int32))]) rfl ?_
  intro T18 W18 H18
  refine g_aload W18 at_126 (pc' := 128) rfl rfl rfl ?_
  refine g_iconst W18 at_128 (pc' := 129) rfl (v := (3 : Int32)) (by decide) ?_
  refine g_iloadN W18 at_129 (pc' := 130) rfl rfl ?_
  refine g_iconst W18 at_130 (pc' := 131) rfl (v := (3 : Int32)) (by decide) ?_
  refine g_callS W18 (argsL := [.int pg, .int (3 : Int32)]) (st := [.int (3 : Int32), .ref a1]) (wd_3 hw) (wd_4 hw) (wd_5 hw) (wd_6 hw) (by decide) (c_tailOf l Z a0 hw n0 pg (3 : Int32) _ _ H18) pd_1 rfl rfl rfl at_131 (pc' := 134) rfl (by decide) (Wn := 2) (Nat.le_of_eq rfl) (by decide) (kc' := 3) (ks' := 12) rfl rfl (by decide) (by decide) ?_
  intro T19 v19 W19 hp19
  obtain ⟨t3, nt3, rfl, ht3, bt3, H19⟩ := hp19
  show Goes _ _ _ _ (State.setTop _ (mkF _ _ _ [.int t3, .int (3 : Int32), .ref a1]))
  refine g_iastoreI W19 H19 (i := 2) rfl (jx := 3) (by decide) (by exact (by decide : 3 < 4)) at_134 (pc' := 135) rfl (L' := [(a3, ArC Z .double [.double x0, .double x1, .double x2, .double 0]), (a2, IaC Z ([g0, g1, g2, 0] : List Int32)), (a1, IaC Z ([t0, t1, t2, t3] : List Int32))]) rfl ?_
  intro T20 W20 H20
  refine g_aload W20 at_135 (pc' := 137) rfl rfl rfl ?_
  refine g_iconst W20 at_137 (pc' := 138) rfl (v := (3 : Int32)) (by decide) ?_
  refine g_iloadN W20 at_138 (pc' := 139) rfl rfl ?_
  refine g_iconst W20 at_139 (pc' := 140) rfl (v := (3 : Int32)) (by decide) ?_
  refine g_callS W20 (argsL := [.int pg, .int (3 : Int32)]) (st := [.int (3 : Int32), .ref a2]) (wd_7 hw) (wd_8 hw) (wd_5 hw) (wd_9 hw) (by decide) (c_headOf l Z a0 hw n0 pg (3 : Int32) _ _ H20) pd_1 rfl rfl rfl at_140 (pc' := 143) rfl (by decide) (Wn := 2) (Nat.le_of_eq rfl) (by decide) (kc' := 3) (ks' := 12) rfl rfl (by decide) (by decide) ?_
  intro T21 v21 W21 hp21
  obtain ⟨g3, ng3, rfl, hg3, bg3, H21⟩ := hp21
  show Goes _ _ _ _ (State.setTop _ (mkF _ _ _ [.int g3, .int (3 : Int32), .ref a2]))
  refine g_iastoreI W21 H21 (i := 1) rfl (jx := 3) (by decide) (by exact (by decide : 3 < 4)) at_143 (pc' := 144) rfl (L' := [(a3, ArC Z .double [.double x0, .double x1, .double x2, .double 0]), (a2, IaC Z ([g0, g1, g2, g3] : List Int32)), (a1, IaC Z ([t0, t1, t2, t3] : List Int32))]) rfl ?_
  intro T22 W22 H22
  refine g_aload W22 at_144 (pc' := 146) rfl rfl rfl ?_
  refine g_iconst W22 at_146 (pc' := 147) rfl (v := (3 : Int32)) (by decide) ?_
  refine g_iloadN W22 at_147 (pc' := 148) rfl rfl ?_
  refine g_bipush W22 at_148 (pc' := 150) rfl (v := (9 : Int32)) (by decide) ?_
  refine g_iushr W22 at_150 (pc' := 151) rfl rfl ?_
  refine g_bipush W22 at_151 (pc' := 153) rfl (v := (7 : Int32)) (by decide) ?_
  refine g_iand W22 at_153 (pc' := 154) rfl rfl ?_
  refine g_i2d W22 at_154 (pc' := 155) rfl rfl ?_
  generalize h_x3 : (FP.i2d ((XT.ushr pt (9 : Int32)) &&& (7 : Int32))) = x3
  obtain ⟨kx3, hx3, bx3⟩ := own_e7 h_x3
  refine g_dastore W22 H22 (i := 0) rfl (jx := 3) (by decide) (by exact (by decide : 3 < 4)) at_155 (pc' := 156) rfl (L' := [(a3, ArC Z .double [.double x0, .double x1, .double x2, .double x3]), (a2, IaC Z ([g0, g1, g2, g3] : List Int32)), (a1, IaC Z ([t0, t1, t2, t3] : List Int32))]) rfl ?_
  intro T23 W23 H23
  replace H23 : Hp Z n0 T23.heap [(a3, DaC Z ([x0, x1, x2, x3] : List UInt64)), (a2, IaC Z ([g0, g1, g2, g3] : List Int32)), (a1, IaC Z ([t0, t1, t2, t3] : List Int32))] := H23
  refine g_new W23 (wd_10 hw) (wd_11 hw) (wd_12 hw) (la_ArrayList hw) (by decide) H23 at_156 (pc' := 159) rfl (kc' := 4) (ks' := 15) rfl rfl (by decide) (by decide) ?_
  intro T24 a24 W24 H24
  refine g_dup W24 at_159 (pc' := 160) rfl rfl ?_
  refine g_callI W24 (argsL := []) (st := [.ref a24]) rfl (wd_13 hw) (wd_14 hw) (wd_12 hw) (wd_15 hw) (by decide) (a := a24) (c_alini l Z a0 hw n0 de dc hD hA hA0 a24 _ _ H24) pd_0 rfl rfl rfl at_160 (pc' := 163) rfl (by decide) (Wn := 1) (Nat.le_of_eq rfl) (by decide) (kc' := 4) (ks' := 15) rfl rfl (by decide) (by decide) ?_
  intro T25 v25 W25 hp25
  obtain ⟨rfl, H25⟩ := hp25
  show Goes _ _ _ _ (State.setTop _ (mkF _ _ _ [.ref a24]))
  refine g_astore W25 at_163 (pc' := 165) rfl rfl (ls' := #[.val (.int pg), .val (.int pt), .val (.int po), .val (.int pd), .val (.int pf), .val (.int og), .val (.int ds), .val (.int ft), .val (.ref a1), .val (.ref a2), .val (.ref a3), .val (.ref a24), .unset, .unset, .unset, .unset, .unset, .unset, .unset, .unset, .unset]) rfl ?_
  refine g_aload W25 at_165 (pc' := 167) rfl rfl rfl ?_
  refine g_new W25 (wd_36 hw) (wd_37 hw) (wd_38 hw) (la_Network_Arc hw) (by decide) H25 at_167 (pc' := 170) rfl (kc' := 5) (ks' := 21) rfl rfl (by decide) (by decide) ?_
  intro T26 a26 W26 H26
  refine g_dup W26 at_170 (pc' := 171) rfl rfl ?_
  refine g_aload W26 at_171 (pc' := 173) rfl rfl rfl ?_
  refine g_iconst W26 at_173 (pc' := 174) rfl (v := (0 : Int32)) (by decide) ?_
  refine g_ialoadI W26 H26 (i := 4) rfl (jx := 0) (by decide) (u := t0) rfl at_174 (pc' := 175) rfl ?_
  refine g_aload W26 at_175 (pc' := 177) rfl rfl rfl ?_
  refine g_iconst W26 at_177 (pc' := 178) rfl (v := (0 : Int32)) (by decide) ?_
  refine g_ialoadI W26 H26 (i := 3) rfl (jx := 0) (by decide) (u := g0) rfl at_178 (pc' := 179) rfl ?_
  refine g_dconst1 W26 at_179 (pc' := 180) rfl ?_
  refine g_dconst1 W26 at_180 (pc' := 181) rfl ?_
  refine g_dconst0 W26 at_181 (pc' := 182) rfl ?_
  refine g_dconst1 W26 at_182 (pc' := 183) rfl ?_
  refine g_callI W26 (argsL := [.int t0, .int g0, .double (4607182418800017408 : UInt64), .double (4607182418800017408 : UInt64), .double 0, .double (4607182418800017408 : UInt64)]) (st := [.ref a26, .ref a24]) rfl (wd_39 hw) (wd_40 hw) (wd_38 hw) (wd_41 hw) (by decide) (a := a26) (c_arci l Z a0 hw n0 a26 t0 g0 (4607182418800017408 : UInt64) (4607182418800017408 : UInt64) 0 (4607182418800017408 : UInt64) _ _ H26) pd_13 rfl rfl rfl at_183 (pc' := 186) rfl (by decide) (Wn := 2) (Nat.le_of_eq rfl) (by decide) (kc' := 5) (ks' := 21) rfl rfl (by decide) (by decide) ?_
  intro T27 v27 W27 hp27
  obtain ⟨rfl, H27⟩ := hp27
  show Goes _ _ _ _ (State.setTop _ (mkF _ _ _ [.ref a26, .ref a24]))
  have H28f := Hp.fr1 H27
  refine g_callV W27 (argsL := [.ref a26]) (st := []) (wd_60 hw) (wd_61 hw) (wd_63 hw) (wd_62 hw) (wd_12 hw) (wd_64 hw) (by decide) (a := a24) H28f (i := 0) rfl (c_add10 l Z a0 hw n0 de dc hD hA hA0 a24 (0 : Int32) _ a26 _ (List.mem_cons_self ..) _ H28f) pd_14 rfl rfl rfl at_186 (pc' := 189) rfl (by decide) (Wn := 0) (Nat.le_of_eq rfl) (by decide) (kc' := 6) (ks' := 31) rfl rfl (by decide) (by decide) ?_
  intro T29 v29 W29 hp29
  obtain ⟨el1, rfl, H29⟩ := hp29
  show Goes _ _ _ _ (State.setTop _ (mkF _ _ _ [.int (1 : Int32)]))
  refine g_pop W29 at_189 (pc' := 190) rfl rfl ?_
  refine g_aload W29 at_190 (pc' := 192) rfl rfl rfl ?_
  refine g_new W29 (wd_36 hw) (wd_37 hw) (wd_38 hw) (la_Network_Arc hw) (by decide) H29 at_192 (pc' := 195) rfl (kc' := 7) (ks' := 37) rfl rfl (by decide) (by decide) ?_
  intro T30 a30 W30 H30
  refine g_dup W30 at_195 (pc' := 196) rfl rfl ?_
  refine g_aload W30 at_196 (pc' := 198) rfl rfl rfl ?_
  refine g_iconst W30 at_198 (pc' := 199) rfl (v := (1 : Int32)) (by decide) ?_
  refine g_ialoadI W30 H30 (i := 6) rfl (jx := 1) (by decide) (u := t1) rfl at_199 (pc' := 200) rfl ?_
  refine g_aload W30 at_200 (pc' := 202) rfl rfl rfl ?_
  refine g_iconst W30 at_202 (pc' := 203) rfl (v := (1 : Int32)) (by decide) ?_
  refine g_ialoadI W30 H30 (i := 5) rfl (jx := 1) (by decide) (u := g1) rfl at_203 (pc' := 204) rfl ?_
  refine g_dconst1 W30 at_204 (pc' := 205) rfl ?_
  refine g_dconst1 W30 at_205 (pc' := 206) rfl ?_
  refine g_dconst0 W30 at_206 (pc' := 207) rfl ?_
  refine g_dconst1 W30 at_207 (pc' := 208) rfl ?_
  refine g_callI W30 (argsL := [.int t1, .int g1, .double (4607182418800017408 : UInt64), .double (4607182418800017408 : UInt64), .double 0, .double (4607182418800017408 : UInt64)]) (st := [.ref a30, .ref a24]) rfl (wd_39 hw) (wd_40 hw) (wd_38 hw) (wd_41 hw) (by decide) (a := a30) (c_arci l Z a0 hw n0 a30 t1 g1 (4607182418800017408 : UInt64) (4607182418800017408 : UInt64) 0 (4607182418800017408 : UInt64) _ _ H30) pd_13 rfl rfl rfl at_208 (pc' := 211) rfl (by decide) (Wn := 2) (Nat.le_of_eq rfl) (by decide) (kc' := 7) (ks' := 37) rfl rfl (by decide) (by decide) ?_
  intro T31 v31 W31 hp31
  obtain ⟨rfl, H31⟩ := hp31
  show Goes _ _ _ _ (State.setTop _ (mkF _ _ _ [.ref a30, .ref a24]))
  have H32f := Hp.fr1 H31
  have H33f := Hp.fr2 H32f
  refine g_callV W31 (argsL := [.ref a30]) (st := []) (wd_60 hw) (wd_61 hw) (wd_63 hw) (wd_62 hw) (wd_12 hw) (wd_64 hw) (by decide) (a := a24) H33f (i := 0) rfl (c_add11 l Z a0 hw n0 a24 ((0 : Int32) + (1 : Int32)) _ a30 _ (List.mem_cons_self ..) el1 ((List.replicate 10 Value.null).set 0 (.ref a26)) (1 : Int32) 1 (by rw [List.length_set]; decide) (by decide) (by decide) (by rw [List.length_set]; decide) _ H33f) pd_14 rfl rfl rfl at_211 (pc' := 214) rfl (by decide) (Wn := 0) (Nat.le_of_eq rfl) (by decide) (kc' := 7) (ks' := 37) rfl rfl (by decide) (by decide) ?_
  intro T34 v34 W34 hp34
  obtain ⟨rfl, H34⟩ := hp34
  show Goes _ _ _ _ (State.setTop _ (mkF _ _ _ [.int (1 : Int32)]))
  rw [show (1 : Int32) + (1 : Int32) = (2 : Int32) by decide] at H34
  refine g_pop W34 at_214 (pc' := 215) rfl rfl ?_
  refine g_aload W34 at_215 (pc' := 217) rfl rfl rfl ?_
  refine g_new W34 (wd_36 hw) (wd_37 hw) (wd_38 hw) (la_Network_Arc hw) (by decide) H34 at_217 (pc' := 220) rfl (kc' := 8) (ks' := 43) rfl rfl (by decide) (by decide) ?_
  intro T35 a35 W35 H35
  refine g_dup W35 at_220 (pc' := 221) rfl rfl ?_
  refine g_aload W35 at_221 (pc' := 223) rfl rfl rfl ?_
  refine g_iconst W35 at_223 (pc' := 224) rfl (v := (2 : Int32)) (by decide) ?_
  refine g_ialoadI W35 H35 (i := 7) rfl (jx := 2) (by decide) (u := t2) rfl at_224 (pc' := 225) rfl ?_
  refine g_aload W35 at_225 (pc' := 227) rfl rfl rfl ?_
  refine g_iconst W35 at_227 (pc' := 228) rfl (v := (2 : Int32)) (by decide) ?_
  refine g_ialoadI W35 H35 (i := 6) rfl (jx := 2) (by decide) (u := g2) rfl at_228 (pc' := 229) rfl ?_
  refine g_dconst1 W35 at_229 (pc' := 230) rfl ?_
  refine g_dconst1 W35 at_230 (pc' := 231) rfl ?_
  refine g_dconst0 W35 at_231 (pc' := 232) rfl ?_
  refine g_dconst1 W35 at_232 (pc' := 233) rfl ?_
  refine g_callI W35 (argsL := [.int t2, .int g2, .double (4607182418800017408 : UInt64), .double (4607182418800017408 : UInt64), .double 0, .double (4607182418800017408 : UInt64)]) (st := [.ref a35, .ref a24]) rfl (wd_39 hw) (wd_40 hw) (wd_38 hw) (wd_41 hw) (by decide) (a := a35) (c_arci l Z a0 hw n0 a35 t2 g2 (4607182418800017408 : UInt64) (4607182418800017408 : UInt64) 0 (4607182418800017408 : UInt64) _ _ H35) pd_13 rfl rfl rfl at_233 (pc' := 236) rfl (by decide) (Wn := 2) (Nat.le_of_eq rfl) (by decide) (kc' := 8) (ks' := 43) rfl rfl (by decide) (by decide) ?_
  intro T36 v36 W36 hp36
  obtain ⟨rfl, H36⟩ := hp36
  show Goes _ _ _ _ (State.setTop _ (mkF _ _ _ [.ref a35, .ref a24]))
  have H37f := Hp.fr2 H36
  have H38f := Hp.fr2 H37f
  refine g_callV W36 (argsL := [.ref a35]) (st := []) (wd_60 hw) (wd_61 hw) (wd_63 hw) (wd_62 hw) (wd_12 hw) (wd_64 hw) (by decide) (a := a24) H38f (i := 0) rfl (c_add11 l Z a0 hw n0 a24 (((0 : Int32) + (1 : Int32)) + (1 : Int32)) _ a35 _ (List.mem_cons_self ..) el1 (((List.replicate 10 Value.null).set 0 (.ref a26)).set 1 (.ref a30)) (2 : Int32) 2 (by rw [List.length_set, List.length_set]; decide) (by decide) (by decide) (by rw [List.length_set, List.length_set]; decide) _ H38f) pd_14 rfl rfl rfl at_236 (pc' := 239) rfl (by decide) (Wn := 0) (Nat.le_of_eq rfl) (by decide) (kc' := 8) (ks' := 43) rfl rfl (by decide) (by decide) ?_
  intro T39 v39 W39 hp39
  obtain ⟨rfl, H39⟩ := hp39
  show Goes _ _ _ _ (State.setTop _ (mkF _ _ _ [.int (1 : Int32)]))
  rw [show (2 : Int32) + (1 : Int32) = (3 : Int32) by decide] at H39
  refine g_pop W39 at_239 (pc' := 240) rfl rfl ?_
  refine g_aload W39 at_240 (pc' := 242) rfl rfl rfl ?_
  refine g_new W39 (wd_36 hw) (wd_37 hw) (wd_38 hw) (la_Network_Arc hw) (by decide) H39 at_242 (pc' := 245) rfl (kc' := 9) (ks' := 49) rfl rfl (by decide) (by decide) ?_
  intro T40 a40 W40 H40
  refine g_dup W40 at_245 (pc' := 246) rfl rfl ?_
  refine g_aload W40 at_246 (pc' := 248) rfl rfl rfl ?_
  refine g_iconst W40 at_248 (pc' := 249) rfl (v := (3 : Int32)) (by decide) ?_
  refine g_ialoadI W40 H40 (i := 8) rfl (jx := 3) (by decide) (u := t3) rfl at_249 (pc' := 250) rfl ?_
  refine g_aload W40 at_250 (pc' := 252) rfl rfl rfl ?_
  refine g_iconst W40 at_252 (pc' := 253) rfl (v := (3 : Int32)) (by decide) ?_
  refine g_ialoadI W40 H40 (i := 7) rfl (jx := 3) (by decide) (u := g3) rfl at_253 (pc' := 254) rfl ?_
  refine g_dconst1 W40 at_254 (pc' := 255) rfl ?_
  refine g_dconst1 W40 at_255 (pc' := 256) rfl ?_
  refine g_dconst0 W40 at_256 (pc' := 257) rfl ?_
  refine g_dconst1 W40 at_257 (pc' := 258) rfl ?_
  refine g_callI W40 (argsL := [.int t3, .int g3, .double (4607182418800017408 : UInt64), .double (4607182418800017408 : UInt64), .double 0, .double (4607182418800017408 : UInt64)]) (st := [.ref a40, .ref a24]) rfl (wd_39 hw) (wd_40 hw) (wd_38 hw) (wd_41 hw) (by decide) (a := a40) (c_arci l Z a0 hw n0 a40 t3 g3 (4607182418800017408 : UInt64) (4607182418800017408 : UInt64) 0 (4607182418800017408 : UInt64) _ _ H40) pd_13 rfl rfl rfl at_258 (pc' := 261) rfl (by decide) (Wn := 2) (Nat.le_of_eq rfl) (by decide) (kc' := 9) (ks' := 49) rfl rfl (by decide) (by decide) ?_
  intro T41 v41 W41 hp41
  obtain ⟨rfl, H41⟩ := hp41
  show Goes _ _ _ _ (State.setTop _ (mkF _ _ _ [.ref a40, .ref a24]))
  have H42f := Hp.fr2 H41
  have H43f := Hp.fr2 H42f
  refine g_callV W41 (argsL := [.ref a40]) (st := []) (wd_60 hw) (wd_61 hw) (wd_63 hw) (wd_62 hw) (wd_12 hw) (wd_64 hw) (by decide) (a := a24) H43f (i := 0) rfl (c_add11 l Z a0 hw n0 a24 ((((0 : Int32) + (1 : Int32)) + (1 : Int32)) + (1 : Int32)) _ a40 _ (List.mem_cons_self ..) el1 ((((List.replicate 10 Value.null).set 0 (.ref a26)).set 1 (.ref a30)).set 2 (.ref a35)) (3 : Int32) 3 (by rw [List.length_set, List.length_set, List.length_set]; decide) (by decide) (by decide) (by rw [List.length_set, List.length_set, List.length_set]; decide) _ H43f) pd_14 rfl rfl rfl at_261 (pc' := 264) rfl (by decide) (Wn := 0) (Nat.le_of_eq rfl) (by decide) (kc' := 9) (ks' := 49) rfl rfl (by decide) (by decide) ?_
  intro T44 v44 W44 hp44
  obtain ⟨rfl, H44⟩ := hp44
  show Goes _ _ _ _ (State.setTop _ (mkF _ _ _ [.int (1 : Int32)]))
  rw [show (3 : Int32) + (1 : Int32) = (4 : Int32) by decide] at H44
  refine g_pop W44 at_264 (pc' := 265) rfl rfl ?_
  refine g_new W44 (wd_91 hw) (wd_92 hw) (wd_93 hw) (la_Network hw) (by decide) H44 at_265 (pc' := 268) rfl (kc' := 10) (ks' := 59) rfl rfl (by decide) (by decide) ?_
  intro T45 a45 W45 H45
  refine g_dup W45 at_268 (pc' := 269) rfl rfl ?_
  refine g_iconst W45 at_269 (pc' := 270) rfl (v := (4 : Int32)) (by decide) ?_
  refine g_iload W45 at_270 (pc' := 272) rfl rfl ?_
  refine g_aload W45 at_272 (pc' := 274) rfl rfl rfl ?_
  have H46f := Hp.fr7 H45
  have H47f := Hp.fr8 H46f
  have H48f := Hp.fr9 H47f
  have H49f := Hp.fr5 H48f
  have H50f := Hp.fr5 H49f
  have H51f := Hp.fr5 H50f
  refine g_callI W45 (argsL := [.int (4 : Int32), .int ft, .ref a24]) (st := [.ref a45]) rfl (wd_94 hw) (wd_95 hw) (wd_93 hw) (wd_96 hw) (by decide) (a := a45) (c_net l Z a0 hw n0 a45 a24 el1 (((((0 : Int32) + (1 : Int32)) + (1 : Int32)) + (1 : Int32)) + (1 : Int32)) ft (((((List.replicate 10 Value.null).set 0 (.ref a26)).set 1 (.ref a30)).set 2 (.ref a35)).set 3 (.ref a40)) (4607182418800017408 : UInt64) (4607182418800017408 : UInt64) 0 (4607182418800017408 : UInt64) _ a26 t0 g0 nt0 rfl (mc6 (List.mem_cons_self ..)) ht0 (mem_r bt0.1 bt0.2) a30 t1 g1 nt1 rfl (mc5 (List.mem_cons_self ..)) ht1 (mem_r bt1.1 bt1.2) a35 t2 g2 nt2 rfl (mc4 (List.mem_cons_self ..)) ht2 (mem_r bt2.1 bt2.2) a40 t3 g3 nt3 rfl (mc3 (List.mem_cons_self ..)) ht3 (mem_r bt3.1 bt3.2) _ H51f) pd_15 rfl rfl rfl at_274 (pc' := 277) rfl (by decide) (Wn := 1) (Nat.le_of_eq rfl) (by decide) (kc' := 19) (ks' := 99) rfl rfl (by decide) (by decide) ?_
  intro T52 v52 W52 hp52
  obtain ⟨tlA, hdA, caA, ffA, bsA, pwA, foA, oaA, J, rfl, H52⟩ := hp52
  show Goes _ _ _ _ (State.setTop _ (mkF _ _ _ [.ref a45]))
  replace H52 := Hp.dg5 H52
  replace H52 := Hp.dg6 H52
  replace H52 := Hp.dg7 H52
  obtain ⟨T, Hd, tmn, arcs, netF, hdF, tmF, tlF⟩ : ∃ T Hd tmn : Nat → Nat, Arcs T Hd tmn ∧ NetF (pf1 (pf1 (pf1 (pf1 (nf1 (nf1 (nf1 (nf1 (List.replicate 6 (0 : Int32)) nt0) nt1) nt2) nt3) 1) 2) 3) 4) (oa1 (oa1 (oa1 (oa1 (List.replicate 4 (0 : Int32)) (pf1 (pf1 (pf1 (pf1 (nf1 (nf1 (nf1 (nf1 (List.replicate 6 (0 : Int32)) nt0) nt1) nt2) nt3) 1) 2) 3) 4) nt0 0) (nx1 (pf1 (pf1 (pf1 (pf1 (nf1 (nf1 (nf1 (nf1 (List.replicate 6 (0 : Int32)) nt0) nt1) nt2) nt3) 1) 2) 3) 4) nt0) nt1 1) (nx1 (nx1 (pf1 (pf1 (pf1 (pf1 (nf1 (nf1 (nf1 (nf1 (List.replicate 6 (0 : Int32)) nt0) nt1) nt2) nt3) 1) 2) 3) 4) nt0) nt1) nt2 2) (nx1 (nx1 (nx1 (pf1 (pf1 (pf1 (pf1 (nf1 (nf1 (nf1 (nf1 (List.replicate 6 (0 : Int32)) nt0) nt1) nt2) nt3) 1) 2) 3) 4) nt0) nt1) nt2) nt3 3) T ∧ HdF ([g0, g1, g2, g3] : List Int32) Hd ∧ TmF ([x0, x1, x2, x3] : List UInt64) tmn ∧ HdF ([t0, t1, t2, t3] : List Int32) T := ⟨_, _, _, arcs_f bt0 bg0 bx0 bt1 bg1 bx1 bt2 bg2 bx2 bt3 bg3 bx3, net_f (mem_r bt0.1 bt0.2) (mem_r bt1.1 bt1.2) (mem_r bt2.1 bt2.2) (mem_r bt3.1 bt3.2), hd_f hg0 hg1 hg2 hg3, tm_f hx0 hx1 hx2 hx3, hd_f ht0 ht1 ht2 ht3⟩
  refine g_astore W52 at_277 (pc' := 279) rfl rfl (ls' := #[.val (.int pg), .val (.int pt), .val (.int po), .val (.int pd), .val (.int pf), .val (.int og), .val (.int ds), .val (.int ft), .val (.ref a1), .val (.ref a2), .val (.ref a3), .val (.ref a24), .val (.ref a45), .unset, .unset, .unset, .unset, .unset, .unset, .unset, .unset]) rfl ?_
  refine g_new W52 (wd_189 hw) (wd_190 hw) (wd_191 hw) (la_ShortestPathTree hw) (by decide) H52 at_279 (pc' := 282) rfl (kc' := 20) (ks' := 105) rfl rfl (by decide) (by decide) ?_
  intro T53 a53 W53 H53
  refine g_dup W53 at_282 (pc' := 283) rfl rfl ?_
  refine g_aload W53 at_283 (pc' := 285) rfl rfl rfl ?_
  have H54f := Hp.fr4 H53
  have H55f := Hp.fr1 H54f
  refine g_callI W53 (argsL := [.ref a45]) (st := [.ref a53]) rfl (wd_192 hw) (wd_193 hw) (wd_191 hw) (wd_194 hw) (by decide) (a := a53) (c_tini l Z a0 hw n0 a53 a45 tlA hdA caA ffA bsA pwA foA oaA ft _ _ H55f) pd_16 rfl rfl rfl at_285 (pc' := 288) rfl (by decide) (Wn := 1) (Nat.le_of_eq rfl) (by decide) (kc' := 24) (ks' := 125) rfl rfl (by decide) (by decide) ?_
  intro T56 v56 W56 hp56
  obtain ⟨dsA, prA, hpA, psA, rfl, H56⟩ := hp56
  show Goes _ _ _ _ (State.setTop _ (mkF _ _ _ [.ref a53]))
  refine g_astore W56 at_288 (pc' := 290) rfl rfl (ls' := #[.val (.int pg), .val (.int pt), .val (.int po), .val (.int pd), .val (.int pf), .val (.int og), .val (.int ds), .val (.int ft), .val (.ref a1), .val (.ref a2), .val (.ref a3), .val (.ref a24), .val (.ref a45), .val (.ref a53), .unset, .unset, .unset, .unset, .unset, .unset, .unset]) rfl ?_
  refine g_aload W56 at_290 (pc' := 292) rfl rfl rfl ?_
  refine g_iload W56 at_292 (pc' := 294) rfl rfl ?_
  refine g_aload W56 at_294 (pc' := 296) rfl rfl rfl ?_
  have H57f := Hp.fr6 H56
  have H58f := Hp.fr10 H57f
  have H59f := Hp.fr12 H58f
  have H60f := Hp.fr12 H59f
  have H61f := Hp.fr9 H60f
  have H62f := Hp.fr9 H61f
  have H63f := Hp.fr9 H62f
  have H64f := Hp.fr9 H63f
  have H65f := Hp.fr9 H64f
  have H66f := Hp.fr9 H65f
  refine g_callV W56 (argsL := [.int og, .ref a3]) (st := []) (wd_211 hw) (wd_212 hw) (wd_214 hw) (wd_213 hw) (wd_191 hw) (wd_215 hw) (by decide) (a := a53) H66f (i := 0) rfl (c_build l Z a0 hw n0 a53 a45 dsA prA hpA psA tlA hdA caA ffA bsA pwA foA oaA a3 ft og (pf1 (pf1 (pf1 (pf1 (nf1 (nf1 (nf1 (nf1 (List.replicate 6 (0 : Int32)) nt0) nt1) nt2) nt3) 1) 2) 3) 4) (oa1 (oa1 (oa1 (oa1 (List.replicate 4 (0 : Int32)) (pf1 (pf1 (pf1 (pf1 (nf1 (nf1 (nf1 (nf1 (List.replicate 6 (0 : Int32)) nt0) nt1) nt2) nt3) 1) 2) 3) 4) nt0 0) (nx1 (pf1 (pf1 (pf1 (pf1 (nf1 (nf1 (nf1 (nf1 (List.replicate 6 (0 : Int32)) nt0) nt1) nt2) nt3) 1) 2) 3) 4) nt0) nt1 1) (nx1 (nx1 (pf1 (pf1 (pf1 (pf1 (nf1 (nf1 (nf1 (nf1 (List.replicate 6 (0 : Int32)) nt0) nt1) nt2) nt3) 1) 2) 3) 4) nt0) nt1) nt2 2) (nx1 (nx1 (nx1 (pf1 (pf1 (pf1 (pf1 (nf1 (nf1 (nf1 (nf1 (List.replicate 6 (0 : Int32)) nt0) nt1) nt2) nt3) 1) 2) 3) 4) nt0) nt1) nt2) nt3 3) ([g0, g1, g2, g3] : List Int32) ([x0, x1, x2, x3] : List UInt64) ogn ftn T Hd tmn hog hft arcs netF hdF tmF o1 o2 _ _ H66f) pd_17 rfl rfl rfl at_296 (pc' := 299) rfl (by decide) (Wn := 0) (Nat.le_of_eq rfl) (by decide) (kc' := 24) (ks' := 125) rfl rfl (by decide) (by decide) ?_
  intro T67 v67 W67 hp67
  obtain ⟨hz, DL, PL, HL2, QL, D, P, hh, Q, Rk, S, k, rfl, rd, rp, I, H67⟩ := hp67
  show Goes _ _ _ _ (State.setTop _ (mkF _ _ _ []))
  obtain ⟨dx, dxg, dxh⟩ := rd.2 dn (by omega)
  refine g_aload W67 at_299 (pc' := 301) rfl rfl rfl ?_
  refine g_iload W67 at_301 (pc' := 303) rfl rfl ?_
  have H68f := Hp.fr1 H67
  have H69f := Hp.fr1 H68f
  refine g_callV W67 (argsL := [.int ds]) (st := []) (wd_248 hw) (wd_249 hw) (wd_251 hw) (wd_250 hw) (wd_191 hw) (wd_252 hw) (by decide) (a := a53) H69f (i := 0) rfl (c_dist l Z a0 hw n0 a53 a45 dsA prA hpA psA hz DL ds dn hds dx dxg _ _ H69f) pd_18 rfl rfl rfl at_303 (pc' := 306) rfl (by decide) (Wn := 0) (Nat.le_of_eq rfl) (by decide) (kc' := 24) (ks' := 125) rfl rfl (by decide) (by decide) ?_
  intro T70 v70 W70 hp70
  obtain ⟨rfl, H70⟩ := hp70
  show Goes _ _ _ _ (State.setTop _ (mkF _ _ _ [.double dx]))
  refine g_dstore W70 at_306 (pc' := 308) rfl (ls' := #[.val (.int pg), .val (.int pt), .val (.int po), .val (.int pd), .val (.int pf), .val (.int og), .val (.int ds), .val (.int ft), .val (.ref a1), .val (.ref a2), .val (.ref a3), .val (.ref a24), .val (.ref a45), .val (.ref a53), .val (.double dx), .second, .unset, .unset, .unset, .unset, .unset]) rfl ?_
  refine g_dload W70 at_308 (pc' := 310) rfl rfl ?_
  refine g_ldc2Double W70 (wd_253 hw) at_310 (pc' := 313) rfl ?_
  refine g_dcmp W70 at_313 (pc' := 314) rfl rfl ?_
  refine g_if W70 at_314 (pcy := 319) (by decide) (pc' := 317) rfl (fun (c71 : (cmpValue (FP.dcmp dx (4636737291354636288 : UInt64)) .g) < (0 : Int32)) => ?_) (fun (c71 : ¬ (cmpValue (FP.dcmp dx (4636737291354636288 : UInt64)) .g) < (0 : Int32)) => ?_)
  · have lt := (dv_lt dxh own_c100 _).mp c71
    have ch := chn I arcs (Rk dn) dn d1 d2 (by omega) rfl
    have r4 := chn_le I d1 d2 (by omega)
    generalize Rk dn = rr at ch r4
    have r5 : rr = 0 ∨ rr = 1 ∨ rr = 2 ∨ rr = 3 := by omega
    rcases r5 with rfl | rfl | rfl | rfl
    · obtain ⟨e9, p9, z9⟩ := ch
      obtain ⟨bz, bzg, bzh⟩ := rp.2 dn (by omega)
      obtain rfl : bz = (-1 : Int32) := i32_lit (bzh.trans p9) (by decide)
      refine g_aload W70 at_319 (pc' := 321) rfl rfl rfl ?_
      refine g_iload W70 at_321 (pc' := 323) rfl rfl ?_
      have H72f := Hp.fr12 H70
      have H73f := Hp.fr6 H72f
      have H74f := Hp.fr4 H73f
      have H75f := Hp.fr3 H74f
      refine g_callV W70 (argsL := [.int ds]) (st := []) (wd_269 hw) (wd_270 hw) (wd_272 hw) (wd_271 hw) (wd_191 hw) (wd_273 hw) (by decide) (a := a53) H75f (i := 0) rfl (c_route0 l Z a0 hw n0 a53 a45 dsA prA hpA psA tlA hdA caA ffA bsA pwA foA oaA ft hz PL ([t0, t1, t2, t3] : List Int32) ds dn hds bzg _ _ H75f) pd_19 rfl rfl rfl at_323 (pc' := 326) rfl (by decide) (Wn := 0) (Nat.le_of_eq rfl) (by decide) (kc' := 25) (ks' := 125) rfl rfl (by decide) (by decide) ?_
      intro T76 v76 W76 hp76
      obtain ⟨r, rfl, H76⟩ := hp76
      show Goes _ _ _ _ (State.setTop _ (mkF _ _ _ [.ref r]))
      refine g_astore W76 at_326 (pc' := 328) rfl rfl (ls' := #[.val (.int pg), .val (.int pt), .val (.int po), .val (.int pd), .val (.int pf), .val (.int og), .val (.int ds), .val (.int ft), .val (.ref a1), .val (.ref a2), .val (.ref a3), .val (.ref a24), .val (.ref a45), .val (.ref a53), .val (.double dx), .second, .val (.ref r), .unset, .unset, .unset, .unset]) rfl ?_
      refine g_aload W76 at_328 (pc' := 330) rfl rfl rfl ?_
      refine g_arrlenI W76 H76 (i := 4) rfl (x := (0 : Int32)) rfl at_330 (pc' := 331) rfl ?_
      refine g_istore W76 at_331 (pc' := 333) rfl (ls' := #[.val (.int pg), .val (.int pt), .val (.int po), .val (.int pd), .val (.int pf), .val (.int og), .val (.int ds), .val (.int ft), .val (.ref a1), .val (.ref a2), .val (.ref a3), .val (.ref a24), .val (.ref a45), .val (.ref a53), .val (.double dx), .second, .val (.ref r), .val (.int (0 : Int32)), .unset, .unset, .unset]) rfl ?_
      refine g_iload W76 at_333 (pc' := 335) rfl rfl ?_
      refine g_iconst W76 at_335 (pc' := 336) rfl (v := (3 : Int32)) (by decide) ?_
      refine g_icmp W76 at_336 (pcy := 341) (by decide) (pc' := 339) rfl (fun _ => ?_) (fun (h : ¬ ¬ (3 : Int32) < (0 : Int32)) => absurd h (by decide))
      refine g_iload W76 at_341 (pc' := 343) rfl rfl ?_
      refine g_if W76 at_343 (pcy := 350) (by decide) (pc' := 346) rfl (fun (h : ¬ (0 : Int32) = (0 : Int32)) => absurd h (by decide)) (fun _ => ?_)
      refine g_iconst W76 at_346 (pc' := 347) rfl (v := (1 : Int32)) (by decide) ?_
      refine g_goto W76 at_347 (pc' := 351) (by decide) ?_
      refine g_iload W76 at_351 (pc' := 353) rfl rfl ?_
      refine g_iload W76 at_353 (pc' := 355) rfl rfl ?_
      refine g_icmp W76 at_355 (pcy := 362) (by decide) (pc' := 358) rfl (fun (h : ¬ ds = og) => absurd (i32_lit (hds.trans (by omega)) hog) h) (fun (_ : ¬ ¬ ds = og) => ?_)
      refine g_iconst W76 at_358 (pc' := 359) rfl (v := (1 : Int32)) (by decide) ?_
      refine g_goto W76 at_359 (pc' := 363) (by decide) ?_
      refine g_icmp W76 at_363 (pcy := 368) (by decide) (pc' := 366) rfl (fun _ => ?_) (fun (h : ¬ (1 : Int32) = (1 : Int32)) => absurd h (by decide))
      refine g_aload W76 at_368 (pc' := 370) rfl rfl rfl ?_
      refine g_iload W76 at_370 (pc' := 372) rfl rfl ?_
      refine g_aload W76 at_372 (pc' := 374) rfl rfl rfl ?_
      have H77f := Hp.fr4 H76
      have H78f := Hp.fr4 H77f
      have H79f := Hp.fr4 H78f
      have H80f := Hp.fr4 H79f
      have H81f := Hp.fr4 H80f
      refine g_callV W76 (argsL := [.int ds, .ref r]) (st := []) (wd_274 hw) (wd_275 hw) (wd_277 hw) (wd_276 hw) (wd_191 hw) (wd_278 hw) (by decide) (a := a53) H81f (i := 0) rfl (c_isr0 l Z a0 hw n0 a53 a45 dsA prA hpA psA tlA hdA caA ffA bsA pwA foA oaA ft hz PL ([t0, t1, t2, t3] : List Int32) ds dn hds bzg r _ _ H81f) pd_20 rfl rfl rfl at_374 (pc' := 377) rfl (by decide) (Wn := 0) (Nat.le_of_eq rfl) (by decide) (kc' := 25) (ks' := 125) rfl rfl (by decide) (by decide) ?_
      intro T82 v82 W82 hp82
      obtain ⟨rfl, H82⟩ := hp82
      show Goes _ _ _ _ (State.setTop _ (mkF _ _ _ [.int (1 : Int32)]))
      refine g_istore W82 at_377 (pc' := 379) rfl (ls' := #[.val (.int pg), .val (.int pt), .val (.int po), .val (.int pd), .val (.int pf), .val (.int og), .val (.int ds), .val (.int ft), .val (.ref a1), .val (.ref a2), .val (.ref a3), .val (.ref a24), .val (.ref a45), .val (.ref a53), .val (.double dx), .second, .val (.ref r), .val (.int (0 : Int32)), .val (.int (1 : Int32)), .unset, .unset]) rfl ?_
      refine g_iload W82 at_379 (pc' := 381) rfl rfl ?_
      refine g_if W82 at_381 (pcy := 386) (by decide) (pc' := 384) rfl (fun _ => ?_) (fun (h : ¬ ¬ (1 : Int32) = (0 : Int32)) => absurd h (by decide))
      refine g_iload W82 at_386 (pc' := 388) rfl rfl ?_
      refine g_if W82 at_388 (pcy := 404) (by decide) (pc' := 391) rfl (fun (h : ¬ (0 : Int32) = (0 : Int32)) => absurd h (by decide)) (fun _ => ?_)
      refine g_dload W82 at_391 (pc' := 393) rfl rfl ?_
      refine g_dconst0 W82 at_393 (pc' := 394) rfl ?_
      refine g_dcmp W82 at_394 (pc' := 395) rfl rfl ?_
      rw [show (cmpValue (FP.dcmp dx 0) .l) = (0 : Int32) from dv_eq0 dxh (Or.inr ⟨by decide, dy_z⟩) z9 _]
      refine g_if W82 at_395 (pcy := 402) (by decide) (pc' := 398) rfl (fun (h : ¬ (0 : Int32) = (0 : Int32)) => absurd h (by decide)) (fun _ => ?_)
      refine g_iconst W82 at_398 (pc' := 399) rfl (v := (1 : Int32)) (by decide) ?_
      refine g_goto W82 at_399 (pc' := 403) (by decide) ?_
      exact g_zreturn W82 (by decide) at_403 rfl (by decide) (by decide)
    · obtain ⟨ne0, w0, wl0, pp0, hh0, or0, dd0, e9, p9, z9⟩ := ch
      obtain ⟨s10, s20, -, -, s30⟩ := arcs w0 wl0
      obtain ⟨q1, tg0, th0⟩ := tlF w0 wl0
      obtain ⟨b0, eb0, fb0⟩ := rp.2 dn (by omega)
      rw [pp0] at fb0
      obtain ⟨y0, yg0, yh0⟩ := hdF w0 wl0
      rw [hh0] at yh0
      obtain ⟨tx0, xg0, xh0⟩ := tmF w0 wl0
      obtain ⟨bz, bzg, bzh⟩ := rp.2 (T w0) (by omega)
      obtain rfl : bz = (-1 : Int32) := i32_lit (bzh.trans p9) (by decide)
      refine g_aload W70 at_319 (pc' := 321) rfl rfl rfl ?_
      refine g_iload W70 at_321 (pc' := 323) rfl rfl ?_
      have H83f := Hp.fr12 H70
      have H84f := Hp.fr6 H83f
      have H85f := Hp.fr4 H84f
      have H86f := Hp.fr3 H85f
      refine g_callV W70 (argsL := [.int ds]) (st := []) (wd_269 hw) (wd_270 hw) (wd_272 hw) (wd_271 hw) (wd_191 hw) (wd_273 hw) (by decide) (a := a53) H86f (i := 0) rfl (c_route1 l Z a0 hw n0 a53 a45 dsA prA hpA psA tlA hdA caA ffA bsA pwA foA oaA ft hz PL ([t0, t1, t2, t3] : List Int32) ds dn hds q1 (T w0) th0 b0 w0 fb0 eb0 tg0 bzg _ _ H86f) pd_19 rfl rfl rfl at_323 (pc' := 326) rfl (by decide) (Wn := 0) (Nat.le_of_eq rfl) (by decide) (kc' := 25) (ks' := 126) rfl rfl (by decide) (by decide) ?_
      intro T87 v87 W87 hp87
      obtain ⟨r, rfl, H87⟩ := hp87
      show Goes _ _ _ _ (State.setTop _ (mkF _ _ _ [.ref r]))
      refine g_astore W87 at_326 (pc' := 328) rfl rfl (ls' := #[.val (.int pg), .val (.int pt), .val (.int po), .val (.int pd), .val (.int pf), .val (.int og), .val (.int ds), .val (.int ft), .val (.ref a1), .val (.ref a2), .val (.ref a3), .val (.ref a24), .val (.ref a45), .val (.ref a53), .val (.double dx), .second, .val (.ref r), .unset, .unset, .unset, .unset]) rfl ?_
      refine g_aload W87 at_328 (pc' := 330) rfl rfl rfl ?_
      refine g_arrlenI W87 H87 (i := 4) rfl (x := (1 : Int32)) rfl at_330 (pc' := 331) rfl ?_
      refine g_istore W87 at_331 (pc' := 333) rfl (ls' := #[.val (.int pg), .val (.int pt), .val (.int po), .val (.int pd), .val (.int pf), .val (.int og), .val (.int ds), .val (.int ft), .val (.ref a1), .val (.ref a2), .val (.ref a3), .val (.ref a24), .val (.ref a45), .val (.ref a53), .val (.double dx), .second, .val (.ref r), .val (.int (1 : Int32)), .unset, .unset, .unset]) rfl ?_
      refine g_iload W87 at_333 (pc' := 335) rfl rfl ?_
      refine g_iconst W87 at_335 (pc' := 336) rfl (v := (3 : Int32)) (by decide) ?_
      refine g_icmp W87 at_336 (pcy := 341) (by decide) (pc' := 339) rfl (fun _ => ?_) (fun (h : ¬ ¬ (3 : Int32) < (1 : Int32)) => absurd h (by decide))
      refine g_iload W87 at_341 (pc' := 343) rfl rfl ?_
      refine g_if W87 at_343 (pcy := 350) (by decide) (pc' := 346) rfl (fun _ => ?_) (fun (h : ¬ ¬ (1 : Int32) = (0 : Int32)) => absurd h (by decide))
      refine g_iconst W87 at_350 (pc' := 351) rfl (v := (0 : Int32)) (by decide) ?_
      refine g_iload W87 at_351 (pc' := 353) rfl rfl ?_
      refine g_iload W87 at_353 (pc' := 355) rfl rfl ?_
      refine g_icmp W87 at_355 (pcy := 362) (by decide) (pc' := 358) rfl (fun (_ : ¬ ds = og) => ?_) (fun (h : ¬ ¬ ds = og) => absurd (Classical.not_not.mp h) (fun q => ne0 (by have z := congrArg Int32.toInt q; omega)))
      refine g_iconst W87 at_362 (pc' := 363) rfl (v := (0 : Int32)) (by decide) ?_
      refine g_icmp W87 at_363 (pcy := 368) (by decide) (pc' := 366) rfl (fun _ => ?_) (fun (h : ¬ (0 : Int32) = (0 : Int32)) => absurd h (by decide))
      refine g_aload W87 at_368 (pc' := 370) rfl rfl rfl ?_
      refine g_iload W87 at_370 (pc' := 372) rfl rfl ?_
      refine g_aload W87 at_372 (pc' := 374) rfl rfl rfl ?_
      have H88f := Hp.fr4 H87
      have H89f := Hp.fr4 H88f
      have H90f := Hp.fr4 H89f
      have H91f := Hp.fr4 H90f
      have H92f := Hp.fr4 H91f
      refine g_callV W87 (argsL := [.int ds, .ref r]) (st := []) (wd_274 hw) (wd_275 hw) (wd_277 hw) (wd_276 hw) (wd_191 hw) (wd_278 hw) (by decide) (a := a53) H92f (i := 0) rfl (c_isr1 l Z a0 hw n0 a53 a45 dsA prA hpA psA tlA hdA caA ffA bsA pwA foA oaA ft hz PL ([t0, t1, t2, t3] : List Int32) ds dn hds q1 (T w0) th0 b0 w0 fb0 eb0 tg0 bzg r _ _ H92f) pd_20 rfl rfl rfl at_374 (pc' := 377) rfl (by decide) (Wn := 0) (Nat.le_of_eq rfl) (by decide) (kc' := 25) (ks' := 126) rfl rfl (by decide) (by decide) ?_
      intro T93 v93 W93 hp93
      obtain ⟨rfl, H93⟩ := hp93
      show Goes _ _ _ _ (State.setTop _ (mkF _ _ _ [.int (1 : Int32)]))
      refine g_istore W93 at_377 (pc' := 379) rfl (ls' := #[.val (.int pg), .val (.int pt), .val (.int po), .val (.int pd), .val (.int pf), .val (.int og), .val (.int ds), .val (.int ft), .val (.ref a1), .val (.ref a2), .val (.ref a3), .val (.ref a24), .val (.ref a45), .val (.ref a53), .val (.double dx), .second, .val (.ref r), .val (.int (1 : Int32)), .val (.int (1 : Int32)), .unset, .unset]) rfl ?_
      refine g_iload W93 at_379 (pc' := 381) rfl rfl ?_
      refine g_if W93 at_381 (pcy := 386) (by decide) (pc' := 384) rfl (fun _ => ?_) (fun (h : ¬ ¬ (1 : Int32) = (0 : Int32)) => absurd h (by decide))
      refine g_iload W93 at_386 (pc' := 388) rfl rfl ?_
      refine g_if W93 at_388 (pcy := 404) (by decide) (pc' := 391) rfl (fun _ => ?_) (fun (h : ¬ ¬ (1 : Int32) = (0 : Int32)) => absurd h (by decide))
      refine g_aload W93 at_404 (pc' := 406) rfl rfl rfl ?_
      refine g_iconst W93 at_406 (pc' := 407) rfl (v := (0 : Int32)) (by decide) ?_
      refine g_ialoadI W93 H93 (i := 4) rfl (jx := 0) (by decide) (u := b0) rfl at_407 (pc' := 408) rfl ?_
      refine g_callS W93 (argsL := [.int b0]) (st := []) (wd_288 hw) (wd_289 hw) (wd_5 hw) (wd_290 hw) (by decide) (c_va l Z a0 hw n0 b0 w0 fb0 wl0 _ _ H93) pd_21 rfl rfl rfl at_408 (pc' := 411) rfl (by decide) (Wn := 0) (Nat.le_of_eq rfl) (by decide) (kc' := 25) (ks' := 126) rfl rfl (by decide) (by decide) ?_
      intro T94 v94 W94 hp94
      obtain ⟨rfl, H94⟩ := hp94
      show Goes _ _ _ _ (State.setTop _ (mkF _ _ _ [.int (1 : Int32)]))
      refine g_if W94 at_411 (pcy := 416) (by decide) (pc' := 414) rfl (fun _ => ?_) (fun (h : ¬ ¬ (1 : Int32) = (0 : Int32)) => absurd h (by decide))
      refine g_iload W94 at_416 (pc' := 418) rfl rfl ?_
      refine g_iconst W94 at_418 (pc' := 419) rfl (v := (2 : Int32)) (by decide) ?_
      refine g_icmp W94 at_419 (pcy := 434) (by decide) (pc' := 422) rfl (fun _ => ?_) (fun (h : ¬ (1 : Int32) < (2 : Int32)) => absurd h (by decide))
      refine g_iload W94 at_434 (pc' := 436) rfl rfl ?_
      refine g_iconst W94 at_436 (pc' := 437) rfl (v := (3 : Int32)) (by decide) ?_
      refine g_icmp W94 at_437 (pcy := 452) (by decide) (pc' := 440) rfl (fun _ => ?_) (fun (h : ¬ (1 : Int32) < (3 : Int32)) => absurd h (by decide))
      refine g_aload W94 at_452 (pc' := 454) rfl rfl rfl ?_
      refine g_aload W94 at_454 (pc' := 456) rfl rfl rfl ?_
      refine g_iconst W94 at_456 (pc' := 457) rfl (v := (0 : Int32)) (by decide) ?_
      refine g_ialoadI W94 H94 (i := 4) rfl (jx := 0) (by decide) (u := b0) rfl at_457 (pc' := 458) rfl ?_
      refine g_ialoadI W94 H94 (i := 13) rfl (jx := w0) fb0 (u := q1) tg0 at_458 (pc' := 459) rfl ?_
      refine g_iload W94 at_459 (pc' := 461) rfl rfl ?_
      refine g_icmp W94 at_461 (pcy := 466) (by decide) (pc' := 464) rfl (fun (_ : q1 = og) => ?_) (fun (h : ¬ q1 = og) => absurd (i32_lit (th0.trans (by omega)) hog) h)
      refine g_aload W94 at_466 (pc' := 468) rfl rfl rfl ?_
      refine g_aload W94 at_468 (pc' := 470) rfl rfl rfl ?_
      refine g_iload W94 at_470 (pc' := 472) rfl rfl ?_
      refine g_iconst W94 at_472 (pc' := 473) rfl (v := (1 : Int32)) (by decide) ?_
      refine g_isub W94 at_473 (pc' := 474) rfl (v := (0 : Int32)) (by decide) ?_
      refine g_ialoadI W94 H94 (i := 4) rfl (jx := 0) (by decide) (u := b0) rfl at_474 (pc' := 475) rfl ?_
      refine g_ialoadI W94 H94 (i := 12) rfl (jx := w0) fb0 (u := y0) yg0 at_475 (pc' := 476) rfl ?_
      refine g_iload W94 at_476 (pc' := 478) rfl rfl ?_
      refine g_icmp W94 at_478 (pcy := 483) (by decide) (pc' := 481) rfl (fun (_ : y0 = ds) => ?_) (fun (h : ¬ y0 = ds) => absurd (i32_lit yh0 hds) h)
      have sm0 : DV tx0 (tmn w0) := Or.inr ⟨by omega, xh0⟩
      refine g_aload W94 at_483 (pc' := 485) rfl rfl rfl ?_
      refine g_aload W94 at_485 (pc' := 487) rfl rfl rfl ?_
      refine g_iconst W94 at_487 (pc' := 488) rfl (v := (0 : Int32)) (by decide) ?_
      refine g_ialoadI W94 H94 (i := 4) rfl (jx := 0) (by decide) (u := b0) rfl at_488 (pc' := 489) rfl ?_
      refine g_daloadD W94 H94 (i := 11) rfl (jx := w0) fb0 (u := tx0) xg0 at_489 (pc' := 490) rfl ?_
      refine g_dstore W94 at_490 (pc' := 492) rfl (ls' := #[.val (.int pg), .val (.int pt), .val (.int po), .val (.int pd), .val (.int pf), .val (.int og), .val (.int ds), .val (.int ft), .val (.ref a1), .val (.ref a2), .val (.ref a3), .val (.ref a24), .val (.ref a45), .val (.ref a53), .val (.double dx), .second, .val (.ref r), .val (.int (1 : Int32)), .val (.int (1 : Int32)), .val (.double tx0), .second]) rfl ?_
      refine g_iload W94 at_492 (pc' := 494) rfl rfl ?_
      refine g_iconst W94 at_494 (pc' := 495) rfl (v := (2 : Int32)) (by decide) ?_
      refine g_icmp W94 at_495 (pcy := 543) (by decide) (pc' := 498) rfl (fun _ => ?_) (fun (h : ¬ (1 : Int32) < (2 : Int32)) => absurd h (by decide))
      refine g_iload W94 at_543 (pc' := 545) rfl rfl ?_
      refine g_iconst W94 at_545 (pc' := 546) rfl (v := (3 : Int32)) (by decide) ?_
      refine g_icmp W94 at_546 (pcy := 594) (by decide) (pc' := 549) rfl (fun _ => ?_) (fun (h : ¬ (1 : Int32) < (3 : Int32)) => absurd h (by decide))
      refine g_dload W94 at_594 (pc' := 596) rfl rfl ?_
      refine g_dload W94 at_596 (pc' := 598) rfl rfl ?_
      refine g_dcmp W94 at_598 (pc' := 599) rfl rfl ?_
      rw [show (cmpValue (FP.dcmp tx0 dx) .l) = (0 : Int32) from dv_eq0 sm0 dxh (by omega) _]
      refine g_if W94 at_599 (pcy := 606) (by decide) (pc' := 602) rfl (fun (h : ¬ (0 : Int32) = (0 : Int32)) => absurd h (by decide)) (fun _ => ?_)
      refine g_iconst W94 at_602 (pc' := 603) rfl (v := (1 : Int32)) (by decide) ?_
      refine g_goto W94 at_603 (pc' := 607) (by decide) ?_
      exact g_zreturn W94 (by decide) at_607 rfl (by decide) (by decide)
    · obtain ⟨ne0, w0, wl0, pp0, hh0, or0, dd0, ne1, w1, wl1, pp1, hh1, or1, dd1, e9, p9, z9⟩ := ch
      obtain ⟨s10, s20, -, -, s30⟩ := arcs w0 wl0
      obtain ⟨q1, tg0, th0⟩ := tlF w0 wl0
      obtain ⟨b0, eb0, fb0⟩ := rp.2 dn (by omega)
      rw [pp0] at fb0
      obtain ⟨y0, yg0, yh0⟩ := hdF w0 wl0
      rw [hh0] at yh0
      obtain ⟨tx0, xg0, xh0⟩ := tmF w0 wl0
      obtain ⟨s11, s21, -, -, s31⟩ := arcs w1 wl1
      obtain ⟨q2, tg1, th1⟩ := tlF w1 wl1
      obtain ⟨b1, eb1, fb1⟩ := rp.2 (T w0) (by omega)
      rw [pp1] at fb1
      obtain ⟨y1, yg1, yh1⟩ := hdF w1 wl1
      rw [hh1] at yh1
      obtain ⟨tx1, xg1, xh1⟩ := tmF w1 wl1
      obtain ⟨bz, bzg, bzh⟩ := rp.2 (T w1) (by omega)
      obtain rfl : bz = (-1 : Int32) := i32_lit (bzh.trans p9) (by decide)
      refine g_aload W70 at_319 (pc' := 321) rfl rfl rfl ?_
      refine g_iload W70 at_321 (pc' := 323) rfl rfl ?_
      have H95f := Hp.fr12 H70
      have H96f := Hp.fr6 H95f
      have H97f := Hp.fr4 H96f
      have H98f := Hp.fr3 H97f
      refine g_callV W70 (argsL := [.int ds]) (st := []) (wd_269 hw) (wd_270 hw) (wd_272 hw) (wd_271 hw) (wd_191 hw) (wd_273 hw) (by decide) (a := a53) H98f (i := 0) rfl (c_route2 l Z a0 hw n0 a53 a45 dsA prA hpA psA tlA hdA caA ffA bsA pwA foA oaA ft hz PL ([t0, t1, t2, t3] : List Int32) ds dn hds q1 (T w0) th0 q2 (T w1) th1 b0 w0 fb0 eb0 tg0 b1 w1 fb1 eb1 tg1 bzg _ _ H98f) pd_19 rfl rfl rfl at_323 (pc' := 326) rfl (by decide) (Wn := 0) (Nat.le_of_eq rfl) (by decide) (kc' := 25) (ks' := 127) rfl rfl (by decide) (by decide) ?_
      intro T99 v99 W99 hp99
      obtain ⟨r, rfl, H99⟩ := hp99
      show Goes _ _ _ _ (State.setTop _ (mkF _ _ _ [.ref r]))
      refine g_astore W99 at_326 (pc' := 328) rfl rfl (ls' := #[.val (.int pg), .val (.int pt), .val (.int po), .val (.int pd), .val (.int pf), .val (.int og), .val (.int ds), .val (.int ft), .val (.ref a1), .val (.ref a2), .val (.ref a3), .val (.ref a24), .val (.ref a45), .val (.ref a53), .val (.double dx), .second, .val (.ref r), .unset, .unset, .unset, .unset]) rfl ?_
      refine g_aload W99 at_328 (pc' := 330) rfl rfl rfl ?_
      refine g_arrlenI W99 H99 (i := 4) rfl (x := (2 : Int32)) rfl at_330 (pc' := 331) rfl ?_
      refine g_istore W99 at_331 (pc' := 333) rfl (ls' := #[.val (.int pg), .val (.int pt), .val (.int po), .val (.int pd), .val (.int pf), .val (.int og), .val (.int ds), .val (.int ft), .val (.ref a1), .val (.ref a2), .val (.ref a3), .val (.ref a24), .val (.ref a45), .val (.ref a53), .val (.double dx), .second, .val (.ref r), .val (.int (2 : Int32)), .unset, .unset, .unset]) rfl ?_
      refine g_iload W99 at_333 (pc' := 335) rfl rfl ?_
      refine g_iconst W99 at_335 (pc' := 336) rfl (v := (3 : Int32)) (by decide) ?_
      refine g_icmp W99 at_336 (pcy := 341) (by decide) (pc' := 339) rfl (fun _ => ?_) (fun (h : ¬ ¬ (3 : Int32) < (2 : Int32)) => absurd h (by decide))
      refine g_iload W99 at_341 (pc' := 343) rfl rfl ?_
      refine g_if W99 at_343 (pcy := 350) (by decide) (pc' := 346) rfl (fun _ => ?_) (fun (h : ¬ ¬ (2 : Int32) = (0 : Int32)) => absurd h (by decide))
      refine g_iconst W99 at_350 (pc' := 351) rfl (v := (0 : Int32)) (by decide) ?_
      refine g_iload W99 at_351 (pc' := 353) rfl rfl ?_
      refine g_iload W99 at_353 (pc' := 355) rfl rfl ?_
      refine g_icmp W99 at_355 (pcy := 362) (by decide) (pc' := 358) rfl (fun (_ : ¬ ds = og) => ?_) (fun (h : ¬ ¬ ds = og) => absurd (Classical.not_not.mp h) (fun q => ne0 (by have z := congrArg Int32.toInt q; omega)))
      refine g_iconst W99 at_362 (pc' := 363) rfl (v := (0 : Int32)) (by decide) ?_
      refine g_icmp W99 at_363 (pcy := 368) (by decide) (pc' := 366) rfl (fun _ => ?_) (fun (h : ¬ (0 : Int32) = (0 : Int32)) => absurd h (by decide))
      refine g_aload W99 at_368 (pc' := 370) rfl rfl rfl ?_
      refine g_iload W99 at_370 (pc' := 372) rfl rfl ?_
      refine g_aload W99 at_372 (pc' := 374) rfl rfl rfl ?_
      have H100f := Hp.fr4 H99
      have H101f := Hp.fr4 H100f
      have H102f := Hp.fr4 H101f
      have H103f := Hp.fr4 H102f
      have H104f := Hp.fr4 H103f
      refine g_callV W99 (argsL := [.int ds, .ref r]) (st := []) (wd_274 hw) (wd_275 hw) (wd_277 hw) (wd_276 hw) (wd_191 hw) (wd_278 hw) (by decide) (a := a53) H104f (i := 0) rfl (c_isr2 l Z a0 hw n0 a53 a45 dsA prA hpA psA tlA hdA caA ffA bsA pwA foA oaA ft hz PL ([t0, t1, t2, t3] : List Int32) ds dn hds q1 (T w0) th0 q2 (T w1) th1 b0 w0 fb0 eb0 tg0 b1 w1 fb1 eb1 tg1 bzg r _ _ H104f) pd_20 rfl rfl rfl at_374 (pc' := 377) rfl (by decide) (Wn := 0) (Nat.le_of_eq rfl) (by decide) (kc' := 25) (ks' := 127) rfl rfl (by decide) (by decide) ?_
      intro T105 v105 W105 hp105
      obtain ⟨rfl, H105⟩ := hp105
      show Goes _ _ _ _ (State.setTop _ (mkF _ _ _ [.int (1 : Int32)]))
      refine g_istore W105 at_377 (pc' := 379) rfl (ls' := #[.val (.int pg), .val (.int pt), .val (.int po), .val (.int pd), .val (.int pf), .val (.int og), .val (.int ds), .val (.int ft), .val (.ref a1), .val (.ref a2), .val (.ref a3), .val (.ref a24), .val (.ref a45), .val (.ref a53), .val (.double dx), .second, .val (.ref r), .val (.int (2 : Int32)), .val (.int (1 : Int32)), .unset, .unset]) rfl ?_
      refine g_iload W105 at_379 (pc' := 381) rfl rfl ?_
      refine g_if W105 at_381 (pcy := 386) (by decide) (pc' := 384) rfl (fun _ => ?_) (fun (h : ¬ ¬ (1 : Int32) = (0 : Int32)) => absurd h (by decide))
      refine g_iload W105 at_386 (pc' := 388) rfl rfl ?_
      refine g_if W105 at_388 (pcy := 404) (by decide) (pc' := 391) rfl (fun _ => ?_) (fun (h : ¬ ¬ (2 : Int32) = (0 : Int32)) => absurd h (by decide))
      refine g_aload W105 at_404 (pc' := 406) rfl rfl rfl ?_
      refine g_iconst W105 at_406 (pc' := 407) rfl (v := (0 : Int32)) (by decide) ?_
      refine g_ialoadI W105 H105 (i := 4) rfl (jx := 0) (by decide) (u := b1) rfl at_407 (pc' := 408) rfl ?_
      refine g_callS W105 (argsL := [.int b1]) (st := []) (wd_288 hw) (wd_289 hw) (wd_5 hw) (wd_290 hw) (by decide) (c_va l Z a0 hw n0 b1 w1 fb1 wl1 _ _ H105) pd_21 rfl rfl rfl at_408 (pc' := 411) rfl (by decide) (Wn := 0) (Nat.le_of_eq rfl) (by decide) (kc' := 25) (ks' := 127) rfl rfl (by decide) (by decide) ?_
      intro T106 v106 W106 hp106
      obtain ⟨rfl, H106⟩ := hp106
      show Goes _ _ _ _ (State.setTop _ (mkF _ _ _ [.int (1 : Int32)]))
      refine g_if W106 at_411 (pcy := 416) (by decide) (pc' := 414) rfl (fun _ => ?_) (fun (h : ¬ ¬ (1 : Int32) = (0 : Int32)) => absurd h (by decide))
      refine g_iload W106 at_416 (pc' := 418) rfl rfl ?_
      refine g_iconst W106 at_418 (pc' := 419) rfl (v := (2 : Int32)) (by decide) ?_
      refine g_icmp W106 at_419 (pcy := 434) (by decide) (pc' := 422) rfl (fun (h : (2 : Int32) < (2 : Int32)) => absurd h (by decide)) (fun _ => ?_)
      refine g_aload W106 at_422 (pc' := 424) rfl rfl rfl ?_
      refine g_iconst W106 at_424 (pc' := 425) rfl (v := (1 : Int32)) (by decide) ?_
      refine g_ialoadI W106 H106 (i := 4) rfl (jx := 1) (by decide) (u := b0) rfl at_425 (pc' := 426) rfl ?_
      refine g_callS W106 (argsL := [.int b0]) (st := []) (wd_288 hw) (wd_289 hw) (wd_5 hw) (wd_290 hw) (by decide) (c_va l Z a0 hw n0 b0 w0 fb0 wl0 _ _ H106) pd_21 rfl rfl rfl at_426 (pc' := 429) rfl (by decide) (Wn := 0) (Nat.le_of_eq rfl) (by decide) (kc' := 25) (ks' := 127) rfl rfl (by decide) (by decide) ?_
      intro T107 v107 W107 hp107
      obtain ⟨rfl, H107⟩ := hp107
      show Goes _ _ _ _ (State.setTop _ (mkF _ _ _ [.int (1 : Int32)]))
      refine g_if W107 at_429 (pcy := 434) (by decide) (pc' := 432) rfl (fun _ => ?_) (fun (h : ¬ ¬ (1 : Int32) = (0 : Int32)) => absurd h (by decide))
      refine g_iload W107 at_434 (pc' := 436) rfl rfl ?_
      refine g_iconst W107 at_436 (pc' := 437) rfl (v := (3 : Int32)) (by decide) ?_
      refine g_icmp W107 at_437 (pcy := 452) (by decide) (pc' := 440) rfl (fun _ => ?_) (fun (h : ¬ (2 : Int32) < (3 : Int32)) => absurd h (by decide))
      refine g_aload W107 at_452 (pc' := 454) rfl rfl rfl ?_
      refine g_aload W107 at_454 (pc' := 456) rfl rfl rfl ?_
      refine g_iconst W107 at_456 (pc' := 457) rfl (v := (0 : Int32)) (by decide) ?_
      refine g_ialoadI W107 H107 (i := 4) rfl (jx := 0) (by decide) (u := b1) rfl at_457 (pc' := 458) rfl ?_
      refine g_ialoadI W107 H107 (i := 13) rfl (jx := w1) fb1 (u := q2) tg1 at_458 (pc' := 459) rfl ?_
      refine g_iload W107 at_459 (pc' := 461) rfl rfl ?_
      refine g_icmp W107 at_461 (pcy := 466) (by decide) (pc' := 464) rfl (fun (_ : q2 = og) => ?_) (fun (h : ¬ q2 = og) => absurd (i32_lit (th1.trans (by omega)) hog) h)
      refine g_aload W107 at_466 (pc' := 468) rfl rfl rfl ?_
      refine g_aload W107 at_468 (pc' := 470) rfl rfl rfl ?_
      refine g_iload W107 at_470 (pc' := 472) rfl rfl ?_
      refine g_iconst W107 at_472 (pc' := 473) rfl (v := (1 : Int32)) (by decide) ?_
      refine g_isub W107 at_473 (pc' := 474) rfl (v := (1 : Int32)) (by decide) ?_
      refine g_ialoadI W107 H107 (i := 4) rfl (jx := 1) (by decide) (u := b0) rfl at_474 (pc' := 475) rfl ?_
      refine g_ialoadI W107 H107 (i := 12) rfl (jx := w0) fb0 (u := y0) yg0 at_475 (pc' := 476) rfl ?_
      refine g_iload W107 at_476 (pc' := 478) rfl rfl ?_
      refine g_icmp W107 at_478 (pcy := 483) (by decide) (pc' := 481) rfl (fun (_ : y0 = ds) => ?_) (fun (h : ¬ y0 = ds) => absurd (i32_lit yh0 hds) h)
      have sm0 : DV tx1 (tmn w1) := Or.inr ⟨by omega, xh1⟩
      have sm1 := dv_add sm0 (by omega) xh0 (by omega)
      refine g_aload W107 at_483 (pc' := 485) rfl rfl rfl ?_
      refine g_aload W107 at_485 (pc' := 487) rfl rfl rfl ?_
      refine g_iconst W107 at_487 (pc' := 488) rfl (v := (0 : Int32)) (by decide) ?_
      refine g_ialoadI W107 H107 (i := 4) rfl (jx := 0) (by decide) (u := b1) rfl at_488 (pc' := 489) rfl ?_
      refine g_daloadD W107 H107 (i := 11) rfl (jx := w1) fb1 (u := tx1) xg1 at_489 (pc' := 490) rfl ?_
      refine g_dstore W107 at_490 (pc' := 492) rfl (ls' := #[.val (.int pg), .val (.int pt), .val (.int po), .val (.int pd), .val (.int pf), .val (.int og), .val (.int ds), .val (.int ft), .val (.ref a1), .val (.ref a2), .val (.ref a3), .val (.ref a24), .val (.ref a45), .val (.ref a53), .val (.double dx), .second, .val (.ref r), .val (.int (2 : Int32)), .val (.int (1 : Int32)), .val (.double tx1), .second]) rfl ?_
      refine g_iload W107 at_492 (pc' := 494) rfl rfl ?_
      refine g_iconst W107 at_494 (pc' := 495) rfl (v := (2 : Int32)) (by decide) ?_
      refine g_icmp W107 at_495 (pcy := 543) (by decide) (pc' := 498) rfl (fun (h : (2 : Int32) < (2 : Int32)) => absurd h (by decide)) (fun _ => ?_)
      refine g_aload W107 at_498 (pc' := 500) rfl rfl rfl ?_
      refine g_aload W107 at_500 (pc' := 502) rfl rfl rfl ?_
      refine g_iconst W107 at_502 (pc' := 503) rfl (v := (0 : Int32)) (by decide) ?_
      refine g_ialoadI W107 H107 (i := 4) rfl (jx := 0) (by decide) (u := b1) rfl at_503 (pc' := 504) rfl ?_
      refine g_ialoadI W107 H107 (i := 12) rfl (jx := w1) fb1 (u := y1) yg1 at_504 (pc' := 505) rfl ?_
      refine g_aload W107 at_505 (pc' := 507) rfl rfl rfl ?_
      refine g_aload W107 at_507 (pc' := 509) rfl rfl rfl ?_
      refine g_iconst W107 at_509 (pc' := 510) rfl (v := (1 : Int32)) (by decide) ?_
      refine g_ialoadI W107 H107 (i := 4) rfl (jx := 1) (by decide) (u := b0) rfl at_510 (pc' := 511) rfl ?_
      refine g_ialoadI W107 H107 (i := 13) rfl (jx := w0) fb0 (u := q1) tg0 at_511 (pc' := 512) rfl ?_
      refine g_icmp W107 at_512 (pcy := 517) (by decide) (pc' := 515) rfl (fun (_ : y1 = q1) => ?_) (fun (h : ¬ y1 = q1) => absurd (i32_lit yh1 th0) h)
      refine g_aload W107 at_517 (pc' := 519) rfl rfl rfl ?_
      refine g_aload W107 at_519 (pc' := 521) rfl rfl rfl ?_
      refine g_iconst W107 at_521 (pc' := 522) rfl (v := (1 : Int32)) (by decide) ?_
      refine g_ialoadI W107 H107 (i := 4) rfl (jx := 1) (by decide) (u := b0) rfl at_522 (pc' := 523) rfl ?_
      refine g_ialoadI W107 H107 (i := 13) rfl (jx := w0) fb0 (u := q1) tg0 at_523 (pc' := 524) rfl ?_
      refine g_iload W107 at_524 (pc' := 526) rfl rfl ?_
      refine g_icmp W107 at_526 (pcy := 531) (by decide) (pc' := 529) rfl (fun (_ : ¬ q1 < ft) => ?_) (fun (h : ¬ ¬ q1 < ft) => absurd (Classical.not_not.mp h) (by rw [Int32.lt_iff_toInt_lt, th0, hft]; omega))
      refine g_dload W107 at_531 (pc' := 533) rfl rfl ?_
      refine g_aload W107 at_533 (pc' := 535) rfl rfl rfl ?_
      refine g_aload W107 at_535 (pc' := 537) rfl rfl rfl ?_
      refine g_iconst W107 at_537 (pc' := 538) rfl (v := (1 : Int32)) (by decide) ?_
      refine g_ialoadI W107 H107 (i := 4) rfl (jx := 1) (by decide) (u := b0) rfl at_538 (pc' := 539) rfl ?_
      refine g_daloadD W107 H107 (i := 11) rfl (jx := w0) fb0 (u := tx0) xg0 at_539 (pc' := 540) rfl ?_
      refine g_dadd W107 at_540 (pc' := 541) rfl rfl sm1.nn ?_
      refine g_dstore W107 at_541 (pc' := 543) rfl (ls' := #[.val (.int pg), .val (.int pt), .val (.int po), .val (.int pd), .val (.int pf), .val (.int og), .val (.int ds), .val (.int ft), .val (.ref a1), .val (.ref a2), .val (.ref a3), .val (.ref a24), .val (.ref a45), .val (.ref a53), .val (.double dx), .second, .val (.ref r), .val (.int (2 : Int32)), .val (.int (1 : Int32)), .val (.double (FP.dadd tx1 tx0)), .second]) rfl ?_
      refine g_iload W107 at_543 (pc' := 545) rfl rfl ?_
      refine g_iconst W107 at_545 (pc' := 546) rfl (v := (3 : Int32)) (by decide) ?_
      refine g_icmp W107 at_546 (pcy := 594) (by decide) (pc' := 549) rfl (fun _ => ?_) (fun (h : ¬ (2 : Int32) < (3 : Int32)) => absurd h (by decide))
      refine g_dload W107 at_594 (pc' := 596) rfl rfl ?_
      refine g_dload W107 at_596 (pc' := 598) rfl rfl ?_
      refine g_dcmp W107 at_598 (pc' := 599) rfl rfl ?_
      rw [show (cmpValue (FP.dcmp (FP.dadd tx1 tx0) dx) .l) = (0 : Int32) from dv_eq0 sm1 dxh (by omega) _]
      refine g_if W107 at_599 (pcy := 606) (by decide) (pc' := 602) rfl (fun (h : ¬ (0 : Int32) = (0 : Int32)) => absurd h (by decide)) (fun _ => ?_)
      refine g_iconst W107 at_602 (pc' := 603) rfl (v := (1 : Int32)) (by decide) ?_
      refine g_goto W107 at_603 (pc' := 607) (by decide) ?_
      exact g_zreturn W107 (by decide) at_607 rfl (by decide) (by decide)
    · obtain ⟨ne0, w0, wl0, pp0, hh0, or0, dd0, ne1, w1, wl1, pp1, hh1, or1, dd1, ne2, w2, wl2, pp2, hh2, or2, dd2, e9, p9, z9⟩ := ch
      obtain ⟨s10, s20, -, -, s30⟩ := arcs w0 wl0
      obtain ⟨q1, tg0, th0⟩ := tlF w0 wl0
      obtain ⟨b0, eb0, fb0⟩ := rp.2 dn (by omega)
      rw [pp0] at fb0
      obtain ⟨y0, yg0, yh0⟩ := hdF w0 wl0
      rw [hh0] at yh0
      obtain ⟨tx0, xg0, xh0⟩ := tmF w0 wl0
      obtain ⟨s11, s21, -, -, s31⟩ := arcs w1 wl1
      obtain ⟨q2, tg1, th1⟩ := tlF w1 wl1
      obtain ⟨b1, eb1, fb1⟩ := rp.2 (T w0) (by omega)
      rw [pp1] at fb1
      obtain ⟨y1, yg1, yh1⟩ := hdF w1 wl1
      rw [hh1] at yh1
      obtain ⟨tx1, xg1, xh1⟩ := tmF w1 wl1
      obtain ⟨s12, s22, -, -, s32⟩ := arcs w2 wl2
      obtain ⟨q3, tg2, th2⟩ := tlF w2 wl2
      obtain ⟨b2, eb2, fb2⟩ := rp.2 (T w1) (by omega)
      rw [pp2] at fb2
      obtain ⟨y2, yg2, yh2⟩ := hdF w2 wl2
      rw [hh2] at yh2
      obtain ⟨tx2, xg2, xh2⟩ := tmF w2 wl2
      obtain ⟨bz, bzg, bzh⟩ := rp.2 (T w2) (by omega)
      obtain rfl : bz = (-1 : Int32) := i32_lit (bzh.trans p9) (by decide)
      refine g_aload W70 at_319 (pc' := 321) rfl rfl rfl ?_
      refine g_iload W70 at_321 (pc' := 323) rfl rfl ?_
      have H108f := Hp.fr12 H70
      have H109f := Hp.fr6 H108f
      have H110f := Hp.fr4 H109f
      have H111f := Hp.fr3 H110f
      refine g_callV W70 (argsL := [.int ds]) (st := []) (wd_269 hw) (wd_270 hw) (wd_272 hw) (wd_271 hw) (wd_191 hw) (wd_273 hw) (by decide) (a := a53) H111f (i := 0) rfl (c_route3 l Z a0 hw n0 a53 a45 dsA prA hpA psA tlA hdA caA ffA bsA pwA foA oaA ft hz PL ([t0, t1, t2, t3] : List Int32) ds dn hds q1 (T w0) th0 q2 (T w1) th1 q3 (T w2) th2 b0 w0 fb0 eb0 tg0 b1 w1 fb1 eb1 tg1 b2 w2 fb2 eb2 tg2 bzg _ _ H111f) pd_19 rfl rfl rfl at_323 (pc' := 326) rfl (by decide) (Wn := 0) (Nat.le_of_eq rfl) (by decide) (kc' := 25) (ks' := 128) rfl rfl (by decide) (by decide) ?_
      intro T112 v112 W112 hp112
      obtain ⟨r, rfl, H112⟩ := hp112
      show Goes _ _ _ _ (State.setTop _ (mkF _ _ _ [.ref r]))
      refine g_astore W112 at_326 (pc' := 328) rfl rfl (ls' := #[.val (.int pg), .val (.int pt), .val (.int po), .val (.int pd), .val (.int pf), .val (.int og), .val (.int ds), .val (.int ft), .val (.ref a1), .val (.ref a2), .val (.ref a3), .val (.ref a24), .val (.ref a45), .val (.ref a53), .val (.double dx), .second, .val (.ref r), .unset, .unset, .unset, .unset]) rfl ?_
      refine g_aload W112 at_328 (pc' := 330) rfl rfl rfl ?_
      refine g_arrlenI W112 H112 (i := 4) rfl (x := (3 : Int32)) rfl at_330 (pc' := 331) rfl ?_
      refine g_istore W112 at_331 (pc' := 333) rfl (ls' := #[.val (.int pg), .val (.int pt), .val (.int po), .val (.int pd), .val (.int pf), .val (.int og), .val (.int ds), .val (.int ft), .val (.ref a1), .val (.ref a2), .val (.ref a3), .val (.ref a24), .val (.ref a45), .val (.ref a53), .val (.double dx), .second, .val (.ref r), .val (.int (3 : Int32)), .unset, .unset, .unset]) rfl ?_
      refine g_iload W112 at_333 (pc' := 335) rfl rfl ?_
      refine g_iconst W112 at_335 (pc' := 336) rfl (v := (3 : Int32)) (by decide) ?_
      refine g_icmp W112 at_336 (pcy := 341) (by decide) (pc' := 339) rfl (fun _ => ?_) (fun (h : ¬ ¬ (3 : Int32) < (3 : Int32)) => absurd h (by decide))
      refine g_iload W112 at_341 (pc' := 343) rfl rfl ?_
      refine g_if W112 at_343 (pcy := 350) (by decide) (pc' := 346) rfl (fun _ => ?_) (fun (h : ¬ ¬ (3 : Int32) = (0 : Int32)) => absurd h (by decide))
      refine g_iconst W112 at_350 (pc' := 351) rfl (v := (0 : Int32)) (by decide) ?_
      refine g_iload W112 at_351 (pc' := 353) rfl rfl ?_
      refine g_iload W112 at_353 (pc' := 355) rfl rfl ?_
      refine g_icmp W112 at_355 (pcy := 362) (by decide) (pc' := 358) rfl (fun (_ : ¬ ds = og) => ?_) (fun (h : ¬ ¬ ds = og) => absurd (Classical.not_not.mp h) (fun q => ne0 (by have z := congrArg Int32.toInt q; omega)))
      refine g_iconst W112 at_362 (pc' := 363) rfl (v := (0 : Int32)) (by decide) ?_
      refine g_icmp W112 at_363 (pcy := 368) (by decide) (pc' := 366) rfl (fun _ => ?_) (fun (h : ¬ (0 : Int32) = (0 : Int32)) => absurd h (by decide))
      refine g_aload W112 at_368 (pc' := 370) rfl rfl rfl ?_
      refine g_iload W112 at_370 (pc' := 372) rfl rfl ?_
      refine g_aload W112 at_372 (pc' := 374) rfl rfl rfl ?_
      have H113f := Hp.fr4 H112
      have H114f := Hp.fr4 H113f
      have H115f := Hp.fr4 H114f
      have H116f := Hp.fr4 H115f
      have H117f := Hp.fr4 H116f
      refine g_callV W112 (argsL := [.int ds, .ref r]) (st := []) (wd_274 hw) (wd_275 hw) (wd_277 hw) (wd_276 hw) (wd_191 hw) (wd_278 hw) (by decide) (a := a53) H117f (i := 0) rfl (c_isr3 l Z a0 hw n0 a53 a45 dsA prA hpA psA tlA hdA caA ffA bsA pwA foA oaA ft hz PL ([t0, t1, t2, t3] : List Int32) ds dn hds q1 (T w0) th0 q2 (T w1) th1 q3 (T w2) th2 b0 w0 fb0 eb0 tg0 b1 w1 fb1 eb1 tg1 b2 w2 fb2 eb2 tg2 bzg r _ _ H117f) pd_20 rfl rfl rfl at_374 (pc' := 377) rfl (by decide) (Wn := 0) (Nat.le_of_eq rfl) (by decide) (kc' := 25) (ks' := 128) rfl rfl (by decide) (by decide) ?_
      intro T118 v118 W118 hp118
      obtain ⟨rfl, H118⟩ := hp118
      show Goes _ _ _ _ (State.setTop _ (mkF _ _ _ [.int (1 : Int32)]))
      refine g_istore W118 at_377 (pc' := 379) rfl (ls' := #[.val (.int pg), .val (.int pt), .val (.int po), .val (.int pd), .val (.int pf), .val (.int og), .val (.int ds), .val (.int ft), .val (.ref a1), .val (.ref a2), .val (.ref a3), .val (.ref a24), .val (.ref a45), .val (.ref a53), .val (.double dx), .second, .val (.ref r), .val (.int (3 : Int32)), .val (.int (1 : Int32)), .unset, .unset]) rfl ?_
      refine g_iload W118 at_379 (pc' := 381) rfl rfl ?_
      refine g_if W118 at_381 (pcy := 386) (by decide) (pc' := 384) rfl (fun _ => ?_) (fun (h : ¬ ¬ (1 : Int32) = (0 : Int32)) => absurd h (by decide))
      refine g_iload W118 at_386 (pc' := 388) rfl rfl ?_
      refine g_if W118 at_388 (pcy := 404) (by decide) (pc' := 391) rfl (fun _ => ?_) (fun (h : ¬ ¬ (3 : Int32) = (0 : Int32)) => absurd h (by decide))
      refine g_aload W118 at_404 (pc' := 406) rfl rfl rfl ?_
      refine g_iconst W118 at_406 (pc' := 407) rfl (v := (0 : Int32)) (by decide) ?_
      refine g_ialoadI W118 H118 (i := 4) rfl (jx := 0) (by decide) (u := b2) rfl at_407 (pc' := 408) rfl ?_
      refine g_callS W118 (argsL := [.int b2]) (st := []) (wd_288 hw) (wd_289 hw) (wd_5 hw) (wd_290 hw) (by decide) (c_va l Z a0 hw n0 b2 w2 fb2 wl2 _ _ H118) pd_21 rfl rfl rfl at_408 (pc' := 411) rfl (by decide) (Wn := 0) (Nat.le_of_eq rfl) (by decide) (kc' := 25) (ks' := 128) rfl rfl (by decide) (by decide) ?_
      intro T119 v119 W119 hp119
      obtain ⟨rfl, H119⟩ := hp119
      show Goes _ _ _ _ (State.setTop _ (mkF _ _ _ [.int (1 : Int32)]))
      refine g_if W119 at_411 (pcy := 416) (by decide) (pc' := 414) rfl (fun _ => ?_) (fun (h : ¬ ¬ (1 : Int32) = (0 : Int32)) => absurd h (by decide))
      refine g_iload W119 at_416 (pc' := 418) rfl rfl ?_
      refine g_iconst W119 at_418 (pc' := 419) rfl (v := (2 : Int32)) (by decide) ?_
      refine g_icmp W119 at_419 (pcy := 434) (by decide) (pc' := 422) rfl (fun (h : (3 : Int32) < (2 : Int32)) => absurd h (by decide)) (fun _ => ?_)
      refine g_aload W119 at_422 (pc' := 424) rfl rfl rfl ?_
      refine g_iconst W119 at_424 (pc' := 425) rfl (v := (1 : Int32)) (by decide) ?_
      refine g_ialoadI W119 H119 (i := 4) rfl (jx := 1) (by decide) (u := b1) rfl at_425 (pc' := 426) rfl ?_
      refine g_callS W119 (argsL := [.int b1]) (st := []) (wd_288 hw) (wd_289 hw) (wd_5 hw) (wd_290 hw) (by decide) (c_va l Z a0 hw n0 b1 w1 fb1 wl1 _ _ H119) pd_21 rfl rfl rfl at_426 (pc' := 429) rfl (by decide) (Wn := 0) (Nat.le_of_eq rfl) (by decide) (kc' := 25) (ks' := 128) rfl rfl (by decide) (by decide) ?_
      intro T120 v120 W120 hp120
      obtain ⟨rfl, H120⟩ := hp120
      show Goes _ _ _ _ (State.setTop _ (mkF _ _ _ [.int (1 : Int32)]))
      refine g_if W120 at_429 (pcy := 434) (by decide) (pc' := 432) rfl (fun _ => ?_) (fun (h : ¬ ¬ (1 : Int32) = (0 : Int32)) => absurd h (by decide))
      refine g_iload W120 at_434 (pc' := 436) rfl rfl ?_
      refine g_iconst W120 at_436 (pc' := 437) rfl (v := (3 : Int32)) (by decide) ?_
      refine g_icmp W120 at_437 (pcy := 452) (by decide) (pc' := 440) rfl (fun (h : (3 : Int32) < (3 : Int32)) => absurd h (by decide)) (fun _ => ?_)
      refine g_aload W120 at_440 (pc' := 442) rfl rfl rfl ?_
      refine g_iconst W120 at_442 (pc' := 443) rfl (v := (2 : Int32)) (by decide) ?_
      refine g_ialoadI W120 H120 (i := 4) rfl (jx := 2) (by decide) (u := b0) rfl at_443 (pc' := 444) rfl ?_
      refine g_callS W120 (argsL := [.int b0]) (st := []) (wd_288 hw) (wd_289 hw) (wd_5 hw) (wd_290 hw) (by decide) (c_va l Z a0 hw n0 b0 w0 fb0 wl0 _ _ H120) pd_21 rfl rfl rfl at_444 (pc' := 447) rfl (by decide) (Wn := 0) (Nat.le_of_eq rfl) (by decide) (kc' := 25) (ks' := 128) rfl rfl (by decide) (by decide) ?_
      intro T121 v121 W121 hp121
      obtain ⟨rfl, H121⟩ := hp121
      show Goes _ _ _ _ (State.setTop _ (mkF _ _ _ [.int (1 : Int32)]))
      refine g_if W121 at_447 (pcy := 452) (by decide) (pc' := 450) rfl (fun _ => ?_) (fun (h : ¬ ¬ (1 : Int32) = (0 : Int32)) => absurd h (by decide))
      refine g_aload W121 at_452 (pc' := 454) rfl rfl rfl ?_
      refine g_aload W121 at_454 (pc' := 456) rfl rfl rfl ?_
      refine g_iconst W121 at_456 (pc' := 457) rfl (v := (0 : Int32)) (by decide) ?_
      refine g_ialoadI W121 H121 (i := 4) rfl (jx := 0) (by decide) (u := b2) rfl at_457 (pc' := 458) rfl ?_
      refine g_ialoadI W121 H121 (i := 13) rfl (jx := w2) fb2 (u := q3) tg2 at_458 (pc' := 459) rfl ?_
      refine g_iload W121 at_459 (pc' := 461) rfl rfl ?_
      refine g_icmp W121 at_461 (pcy := 466) (by decide) (pc' := 464) rfl (fun (_ : q3 = og) => ?_) (fun (h : ¬ q3 = og) => absurd (i32_lit (th2.trans (by omega)) hog) h)
      refine g_aload W121 at_466 (pc' := 468) rfl rfl rfl ?_
      refine g_aload W121 at_468 (pc' := 470) rfl rfl rfl ?_
      refine g_iload W121 at_470 (pc' := 472) rfl rfl ?_
      refine g_iconst W121 at_472 (pc' := 473) rfl (v := (1 : Int32)) (by decide) ?_
      refine g_isub W121 at_473 (pc' := 474) rfl (v := (2 : Int32)) (by decide) ?_
      refine g_ialoadI W121 H121 (i := 4) rfl (jx := 2) (by decide) (u := b0) rfl at_474 (pc' := 475) rfl ?_
      refine g_ialoadI W121 H121 (i := 12) rfl (jx := w0) fb0 (u := y0) yg0 at_475 (pc' := 476) rfl ?_
      refine g_iload W121 at_476 (pc' := 478) rfl rfl ?_
      refine g_icmp W121 at_478 (pcy := 483) (by decide) (pc' := 481) rfl (fun (_ : y0 = ds) => ?_) (fun (h : ¬ y0 = ds) => absurd (i32_lit yh0 hds) h)
      have sm0 : DV tx2 (tmn w2) := Or.inr ⟨by omega, xh2⟩
      have sm1 := dv_add sm0 (by omega) xh1 (by omega)
      refine g_aload W121 at_483 (pc' := 485) rfl rfl rfl ?_
      refine g_aload W121 at_485 (pc' := 487) rfl rfl rfl ?_
      refine g_iconst W121 at_487 (pc' := 488) rfl (v := (0 : Int32)) (by decide) ?_
      refine g_ialoadI W121 H121 (i := 4) rfl (jx := 0) (by decide) (u := b2) rfl at_488 (pc' := 489) rfl ?_
      refine g_daloadD W121 H121 (i := 11) rfl (jx := w2) fb2 (u := tx2) xg2 at_489 (pc' := 490) rfl ?_
      refine g_dstore W121 at_490 (pc' := 492) rfl (ls' := #[.val (.int pg), .val (.int pt), .val (.int po), .val (.int pd), .val (.int pf), .val (.int og), .val (.int ds), .val (.int ft), .val (.ref a1), .val (.ref a2), .val (.ref a3), .val (.ref a24), .val (.ref a45), .val (.ref a53), .val (.double dx), .second, .val (.ref r), .val (.int (3 : Int32)), .val (.int (1 : Int32)), .val (.double tx2), .second]) rfl ?_
      refine g_iload W121 at_492 (pc' := 494) rfl rfl ?_
      refine g_iconst W121 at_494 (pc' := 495) rfl (v := (2 : Int32)) (by decide) ?_
      refine g_icmp W121 at_495 (pcy := 543) (by decide) (pc' := 498) rfl (fun (h : (3 : Int32) < (2 : Int32)) => absurd h (by decide)) (fun _ => ?_)
      refine g_aload W121 at_498 (pc' := 500) rfl rfl rfl ?_
      refine g_aload W121 at_500 (pc' := 502) rfl rfl rfl ?_
      refine g_iconst W121 at_502 (pc' := 503) rfl (v := (0 : Int32)) (by decide) ?_
      refine g_ialoadI W121 H121 (i := 4) rfl (jx := 0) (by decide) (u := b2) rfl at_503 (pc' := 504) rfl ?_
      refine g_ialoadI W121 H121 (i := 12) rfl (jx := w2) fb2 (u := y2) yg2 at_504 (pc' := 505) rfl ?_
      refine g_aload W121 at_505 (pc' := 507) rfl rfl rfl ?_
      refine g_aload W121 at_507 (pc' := 509) rfl rfl rfl ?_
      refine g_iconst W121 at_509 (pc' := 510) rfl (v := (1 : Int32)) (by decide) ?_
      refine g_ialoadI W121 H121 (i := 4) rfl (jx := 1) (by decide) (u := b1) rfl at_510 (pc' := 511) rfl ?_
      refine g_ialoadI W121 H121 (i := 13) rfl (jx := w1) fb1 (u := q2) tg1 at_511 (pc' := 512) rfl ?_
      refine g_icmp W121 at_512 (pcy := 517) (by decide) (pc' := 515) rfl (fun (_ : y2 = q2) => ?_) (fun (h : ¬ y2 = q2) => absurd (i32_lit yh2 th1) h)
      refine g_aload W121 at_517 (pc' := 519) rfl rfl rfl ?_
      refine g_aload W121 at_519 (pc' := 521) rfl rfl rfl ?_
      refine g_iconst W121 at_521 (pc' := 522) rfl (v := (1 : Int32)) (by decide) ?_
      refine g_ialoadI W121 H121 (i := 4) rfl (jx := 1) (by decide) (u := b1) rfl at_522 (pc' := 523) rfl ?_
      refine g_ialoadI W121 H121 (i := 13) rfl (jx := w1) fb1 (u := q2) tg1 at_523 (pc' := 524) rfl ?_
      refine g_iload W121 at_524 (pc' := 526) rfl rfl ?_
      refine g_icmp W121 at_526 (pcy := 531) (by decide) (pc' := 529) rfl (fun (_ : ¬ q2 < ft) => ?_) (fun (h : ¬ ¬ q2 < ft) => absurd (Classical.not_not.mp h) (by rw [Int32.lt_iff_toInt_lt, th1, hft]; omega))
      have sm2 := dv_add sm1 (by omega) xh0 (by omega)
      refine g_dload W121 at_531 (pc' := 533) rfl rfl ?_
      refine g_aload W121 at_533 (pc' := 535) rfl rfl rfl ?_
      refine g_aload W121 at_535 (pc' := 537) rfl rfl rfl ?_
      refine g_iconst W121 at_537 (pc' := 538) rfl (v := (1 : Int32)) (by decide) ?_
      refine g_ialoadI W121 H121 (i := 4) rfl (jx := 1) (by decide) (u := b1) rfl at_538 (pc' := 539) rfl ?_
      refine g_daloadD W121 H121 (i := 11) rfl (jx := w1) fb1 (u := tx1) xg1 at_539 (pc' := 540) rfl ?_
      refine g_dadd W121 at_540 (pc' := 541) rfl rfl sm1.nn ?_
      refine g_dstore W121 at_541 (pc' := 543) rfl (ls' := #[.val (.int pg), .val (.int pt), .val (.int po), .val (.int pd), .val (.int pf), .val (.int og), .val (.int ds), .val (.int ft), .val (.ref a1), .val (.ref a2), .val (.ref a3), .val (.ref a24), .val (.ref a45), .val (.ref a53), .val (.double dx), .second, .val (.ref r), .val (.int (3 : Int32)), .val (.int (1 : Int32)), .val (.double (FP.dadd tx2 tx1)), .second]) rfl ?_
      refine g_iload W121 at_543 (pc' := 545) rfl rfl ?_
      refine g_iconst W121 at_545 (pc' := 546) rfl (v := (3 : Int32)) (by decide) ?_
      refine g_icmp W121 at_546 (pcy := 594) (by decide) (pc' := 549) rfl (fun (h : (3 : Int32) < (3 : Int32)) => absurd h (by decide)) (fun _ => ?_)
      refine g_aload W121 at_549 (pc' := 551) rfl rfl rfl ?_
      refine g_aload W121 at_551 (pc' := 553) rfl rfl rfl ?_
      refine g_iconst W121 at_553 (pc' := 554) rfl (v := (1 : Int32)) (by decide) ?_
      refine g_ialoadI W121 H121 (i := 4) rfl (jx := 1) (by decide) (u := b1) rfl at_554 (pc' := 555) rfl ?_
      refine g_ialoadI W121 H121 (i := 12) rfl (jx := w1) fb1 (u := y1) yg1 at_555 (pc' := 556) rfl ?_
      refine g_aload W121 at_556 (pc' := 558) rfl rfl rfl ?_
      refine g_aload W121 at_558 (pc' := 560) rfl rfl rfl ?_
      refine g_iconst W121 at_560 (pc' := 561) rfl (v := (2 : Int32)) (by decide) ?_
      refine g_ialoadI W121 H121 (i := 4) rfl (jx := 2) (by decide) (u := b0) rfl at_561 (pc' := 562) rfl ?_
      refine g_ialoadI W121 H121 (i := 13) rfl (jx := w0) fb0 (u := q1) tg0 at_562 (pc' := 563) rfl ?_
      refine g_icmp W121 at_563 (pcy := 568) (by decide) (pc' := 566) rfl (fun (_ : y1 = q1) => ?_) (fun (h : ¬ y1 = q1) => absurd (i32_lit yh1 th0) h)
      refine g_aload W121 at_568 (pc' := 570) rfl rfl rfl ?_
      refine g_aload W121 at_570 (pc' := 572) rfl rfl rfl ?_
      refine g_iconst W121 at_572 (pc' := 573) rfl (v := (2 : Int32)) (by decide) ?_
      refine g_ialoadI W121 H121 (i := 4) rfl (jx := 2) (by decide) (u := b0) rfl at_573 (pc' := 574) rfl ?_
      refine g_ialoadI W121 H121 (i := 13) rfl (jx := w0) fb0 (u := q1) tg0 at_574 (pc' := 575) rfl ?_
      refine g_iload W121 at_575 (pc' := 577) rfl rfl ?_
      refine g_icmp W121 at_577 (pcy := 582) (by decide) (pc' := 580) rfl (fun (_ : ¬ q1 < ft) => ?_) (fun (h : ¬ ¬ q1 < ft) => absurd (Classical.not_not.mp h) (by rw [Int32.lt_iff_toInt_lt, th0, hft]; omega))
      refine g_dload W121 at_582 (pc' := 584) rfl rfl ?_
      refine g_aload W121 at_584 (pc' := 586) rfl rfl rfl ?_
      refine g_aload W121 at_586 (pc' := 588) rfl rfl rfl ?_
      refine g_iconst W121 at_588 (pc' := 589) rfl (v := (2 : Int32)) (by decide) ?_
      refine g_ialoadI W121 H121 (i := 4) rfl (jx := 2) (by decide) (u := b0) rfl at_589 (pc' := 590) rfl ?_
      refine g_daloadD W121 H121 (i := 11) rfl (jx := w0) fb0 (u := tx0) xg0 at_590 (pc' := 591) rfl ?_
      refine g_dadd W121 at_591 (pc' := 592) rfl rfl sm2.nn ?_
      refine g_dstore W121 at_592 (pc' := 594) rfl (ls' := #[.val (.int pg), .val (.int pt), .val (.int po), .val (.int pd), .val (.int pf), .val (.int og), .val (.int ds), .val (.int ft), .val (.ref a1), .val (.ref a2), .val (.ref a3), .val (.ref a24), .val (.ref a45), .val (.ref a53), .val (.double dx), .second, .val (.ref r), .val (.int (3 : Int32)), .val (.int (1 : Int32)), .val (.double (FP.dadd (FP.dadd tx2 tx1) tx0)), .second]) rfl ?_
      refine g_dload W121 at_594 (pc' := 596) rfl rfl ?_
      refine g_dload W121 at_596 (pc' := 598) rfl rfl ?_
      refine g_dcmp W121 at_598 (pc' := 599) rfl rfl ?_
      rw [show (cmpValue (FP.dcmp (FP.dadd (FP.dadd tx2 tx1) tx0) dx) .l) = (0 : Int32) from dv_eq0 sm2 dxh (by omega) _]
      refine g_if W121 at_599 (pcy := 606) (by decide) (pc' := 602) rfl (fun (h : ¬ (0 : Int32) = (0 : Int32)) => absurd h (by decide)) (fun _ => ?_)
      refine g_iconst W121 at_602 (pc' := 603) rfl (v := (1 : Int32)) (by decide) ?_
      refine g_goto W121 at_603 (pc' := 607) (by decide) ?_
      exact g_zreturn W121 (by decide) at_607 rfl (by decide) (by decide)
  · refine g_iconst W70 at_317 (pc' := 318) rfl (v := (1 : Int32)) (by decide) ?_
    exact g_zreturn W70 (by decide) at_318 rfl (by decide) (by decide)

theorem own_len {args : Array Value} {s : State} {t : Term} {a : Addr} {d : Cell} {z : Int32} {ty : FieldType} (et : t.eval args s none [] s = some (.ref a)) (hA : Arr s s.heap a d ty) (h : (Cond.eq (.length t) (.int z)).value args s none s [] = some true) : d.slots.size < 2 ^ 31 ∧ d.slots.size.toInt32 = z := by
  obtain ⟨b, d', f1, f2, f3, f4⟩ := Jvm.Lib.length_spec (eqv_i (Term.int_eval z) h)
  cases et.symm.trans f1
  cases (hA.fin (Vm.Alike.refl _)).symm.trans f2
  cases f4
  exact ⟨f3, rfl⟩

set_option maxRecDepth 65536 in
set_option maxHeartbeats 40000000 in
theorem comes_1 {Post : Tables → Env → Array Value → State → Outcome → State → Prop} (hpost : ∀ tb e args s v u, (limb_1_1.after args s (.returned v) u = true ∧ limb_1_2.after args s (.returned v) u = true ∧ True) → FrameEnd s (.returned v) u (Jvm.fieldLocs frame_1_writes args s ++ Jvm.arrayLocs frame_1_arrays args s ++ Jvm.staticLocs frame_1_statics s) 64 320 → Post tb e args s (.returned v) u) :
    ArmFor flags0 classFile x code maxLocals ret World_1 tables_1 room_1 Calls_1 rest_1 Pre_1 Post := by
  intro l hfl _ _ p e ha hc hk s m args below hf hA hF happ hP
  obtain ⟨hcalls, hrest, hpre⟩ := hP
  obtain ⟨-, -, -, hnamed, -, -, -, hat⟩ := (Spec.applies_iff hf).mp happ
  obtain ⟨hg, hn⟩ := and_e (Cond.before_iff.mp (show (Jvm.Cond.and given_1 narrow_1).before args s = true from hpre))
  obtain ⟨hcount, hg0⟩ := and_e hg
  obtain ⟨ha0, hg1⟩ := and_e hg0
  obtain ⟨ha1, hg2⟩ := and_e hg1
  obtain ⟨ha2, hg3⟩ := and_e hg2
  obtain ⟨ha3, hg4⟩ := and_e hg3
  obtain ⟨w0, w1, w2, w3, w4, rfl⟩ : ∃ w0 w1 w2 w3 w4 : Value, args = #[w0, w1, w2, w3, w4] := by
    have hs : args.size = 5 := by simpa [Cond.value, given_1] using hcount
    obtain ⟨L⟩ := args
    match L, hs with
    | [w0, w1, w2, w3, w4], _ => exact ⟨w0, w1, w2, w3, w4, rfl⟩
  have hw := fun d (hd : d ∈ tables_1) => atoms_spec (ws := Jvm.Cond.code x code maxLocals ret :: tables_1) hat d (List.mem_cons_of_mem _ hd)
  obtain ⟨pg, e0⟩ := is_v ha0
  obtain rfl : w0 = (.int pg) := Option.some.inj e0
  obtain ⟨pt, e1⟩ := is_v ha1
  obtain rfl : w1 = (.int pt) := Option.some.inj e1
  obtain ⟨po, e2⟩ := is_v ha2
  obtain rfl : w2 = (.int po) := Option.some.inj e2
  obtain ⟨pd, e3⟩ := is_v ha3
  obtain rfl : w3 = (.int pd) := Option.some.inj e3
  obtain ⟨pf, e4⟩ := is_v hg4
  obtain rfl : w4 = (.int pf) := Option.some.inj e4
  obtain ⟨hsets, hown0⟩ := atoms_of _ (rest_1_c_eq ▸ (show rest_1_c.before _ s = true from hrest))
  obtain ⟨de, ede⟩ := arr_v (Cond.before_iff.mp (hsets _ (List.mem_of_getElem? (i := 6) rfl)))
  obtain ⟨dc, hA⟩ := Arr.start ede (Cond.before_iff.mp (hsets _ (List.mem_of_getElem? (i := 6) rfl)))
  have hD : Sta s s.heap "java/util/ArrayList" "DEFAULTCAPACITY_EMPTY_ELEMENTDATA" "[Ljava/lang/Object;" (.ref de) := Sta.start ede (Or.inr ⟨hw _ (List.mem_of_getElem? (i := 12) rfl), hsets _ (List.mem_of_getElem? (i := 2) rfl)⟩)
  have hA0 := (own_len ede hA (Cond.before_iff.mp (hsets _ (List.mem_of_getElem? (i := 8) rfl)))).2
  obtain ⟨n, o, h1, h2, h3, _, L, rfl, ⟨N, rfl⟩, hq⟩ := law_con l s _ hw s.heap.size de dc hD hA hA0 pg pt po pd pf s.heap (Hp.nil Bs.start) p e ha hc hk s m _ below hf ((Spec.applies_iff_loose hf).mp happ).1 ⟨rfl, State.Warmed39.refl s, rfl⟩ trivial
  refine ⟨n, _, h1, h2, h3, hpost _ _ _ _ _ _ ⟨Cond.after_iff.mpr rfl, Cond.after_iff.mpr (eq_i res_at (Term.int_eval (1)) rfl), trivial⟩ ⟨hq.1, hq.2.1, (hq.2.2.sift fun y hy => Or.inr (N y hy)).mono (by decide) (by decide)⟩⟩
theorem main_1_1 : Claimed_1_1 := comes_1 fun _ _ _ _ _ _ h hF => ⟨h.1, hF⟩
theorem main_1_2 : Claimed_1_2 := comes_1 fun _ _ _ _ _ _ h hF => ⟨h.2.1, hF⟩
end Jvm.Pilot.@@N@@
namespace Jvm.Pilot.@@N@@
open Jvm Jvm.ClassFile Sem Op Lib Jvm.Free Jvm.Stand Jvm.Pilot.@@N@@.Jvm.D
/-! MADE BY PROGRAM (witnessworld.py) out of the Statement's table words and the real class files: 27 classes; the members and pool entries that the words name. The judged class is class 1, her method 4. -/
namespace start1
open Jvm.ClassFile
def u (s : String) : CpInfo := .utf8 (stringToUtf16 s)
/-- a pool by its gaps: so many unusable entries, then the entry; so many at the end -/
def gap : Nat → List CpInfo → List CpInfo
  | 0, r => r
  | n + 1, r => .unusable :: gap n r
def poolList (es : List (Nat × CpInfo)) (last : Nat) : List CpInfo := es.foldr (fun e r => gap e.1 (e.2 :: r)) (gap last [])
def pool (es : List (Nat × CpInfo)) (last : Nat) : Array CpInfo := ⟨poolList es last⟩
def fileOf (pool : Array CpInfo) (this : Nat) (attrs : Array Attribute := #[]) (ms : Array MethodInfo := #[]) (fl : Nat := 33) (sup : Nat := 0) (ifs : Array Nat := #[]) (fds : Array FieldInfo := #[]) : ClassFile where
  minorVersion := 0
  majorVersion := 65
  constantPool := pool
  accessFlags := fl
  thisClass := this
  superClass := sup
  interfaces := ifs
  fields := fds
  methods := ms
  attributes := attrs
def plain (name : String) (sup : Option ClassId) : Class where
  name := name
  kind := .ordinary
  loader := none
  accessFlags := 33
  super := sup
  interfaces := #[]
  cf := none
  fields := #[]
  methods := #[]
  instanceTypes := #[]
  staticTypes := #[]
  resolved := #[]
  callSites := []
  init := .initialized
  statics := none
  mirror := none

def pool0 : Array CpInfo := pool [(5, u "<init>"), (0, u "()V"), (1, .class_ 10), (1, u "java/lang/Object"), (85, u "clone"), (0, u "()Ljava/lang/Object;")] 26

def k0c0 : Code := { maxStack := 0, maxLocals := 1, code := object_method_1_code, exceptionTable := #[], attributes := #[] }
def k0m0 : Method := { name := "<init>", desc := "()V", sig := { parameters := [], returnType := none }, accessFlags := 1, code := some k0c0 }
def k0m1 : Method := { name := "clone", desc := "()Ljava/lang/Object;", sig := { parameters := [], returnType := some (.object "java/lang/Object") }, accessFlags := 260, code := none }
/-- java/lang/Object -/
def k0 : Class := { plain "java/lang/Object" none with
  accessFlags := 33
  interfaces := #[]
  cf := some (fileOf pool0 8 #[] #[{ accessFlags := 1, nameIndex := 5, descriptorIndex := 6, attributes := #[] }, { accessFlags := 260, nameIndex := 96, descriptorIndex := 97, attributes := #[] }] 33 0 #[] #[])
  fields := #[]
  methods := #[k0m0, k0m1]
  instanceTypes := #[]
  staticTypes := #[]
  resolved := Array.replicate 124 none
  statics := none }

def pool1 : Array CpInfo := pool [(2, .class_ 4), (0, .nameAndType 5 6), (0, u "java/lang/Object"), (0, u "<init>"), (0, u "()V"), (0, .integer 2147483647), (0, .methodref 9 10), (0, .class_ 11), (0, .nameAndType 12 13), (0, u "com/example/lanewright/lanewright/ShortestPathTreeRoutePinLaw"), (0, u "tailOf"), (0, u "(II)I"), (0, .methodref 9 15), (0, .nameAndType 16 13), (0, u "headOf"), (0, .class_ 18), (0, u "java/util/ArrayList"), (0, .methodref 17 3), (0, .class_ 21), (0, u "com/example/lanewright/lanewright/Network$Arc"), (0, .methodref 20 23), (0, .nameAndType 5 24), (0, u "(IIDDDD)V"), (0, .methodref 17 26), (0, .nameAndType 27 28), (0, u "add"), (0, u "(Ljava/lang/Object;)Z"), (0, .class_ 30), (0, u "com/example/lanewright/lanewright/Network"), (0, .methodref 29 32), (0, .nameAndType 5 33), (0, u "(IILjava/util/List;)V"), (0, .class_ 35), (0, u "com/example/lanewright/lanewright/ShortestPathTree"), (0, .methodref 34 37), (0, .nameAndType 5 38), (0, u "(Lcom/example/lanewright/lanewright/Network;)V"), (0, .methodref 34 40), (0, .nameAndType 41 42), (0, u "build"), (0, u "(I[D)V"), (0, .methodref 34 44), (0, .nameAndType 45 46), (0, u "distance"), (0, u "(I)D"), (0, .double 4636737291354636288), (1, .methodref 34 50), (0, .nameAndType 51 52), (0, u "route"), (0, u "(I)[I"), (0, .methodref 34 54), (0, .nameAndType 55 56), (0, u "isRoute"), (0, u "(I[I)Z"), (0, .methodref 9 58), (0, .nameAndType 59 60), (0, u "validArc"), (0, u "(I)Z"), (3, u "law"), (0, u "(IIIII)Z")] 8

def k1m0 : Method := { name := "<init>", desc := "()V", sig := { parameters := [], returnType := none }, accessFlags := 1, code := none }
def k1c1 : Code := { maxStack := 3, maxLocals := 2, code := method_2_code, exceptionTable := #[], attributes := #[] }
def k1m1 : Method := { name := "tailOf", desc := "(II)I", sig := { parameters := [.int, .int], returnType := some .int }, accessFlags := 10, code := some k1c1 }
def k1c2 : Code := { maxStack := 3, maxLocals := 2, code := method_3_code, exceptionTable := #[], attributes := #[] }
def k1m2 : Method := { name := "headOf", desc := "(II)I", sig := { parameters := [.int, .int], returnType := some .int }, accessFlags := 10, code := some k1c2 }
def k1c3 : Code := { maxStack := 2, maxLocals := 1, code := method_4_code, exceptionTable := #[], attributes := #[] }
def k1m3 : Method := { name := "validArc", desc := "(I)Z", sig := { parameters := [.int], returnType := some .boolean }, accessFlags := 10, code := some k1c3 }
def k1c4 : Code := { maxStack := 13, maxLocals := 21, code := code, exceptionTable := #[], attributes := #[] }
def k1m4 : Method := { name := "law", desc := "(IIIII)Z", sig := { parameters := [.int, .int, .int, .int, .int], returnType := some .boolean }, accessFlags := 9, code := some k1c4 }
/-- com/example/lanewright/lanewright/ShortestPathTreeRoutePinLaw -/
def k1 : Class := { plain "com/example/lanewright/lanewright/ShortestPathTreeRoutePinLaw" (some 0) with
  accessFlags := 49
  interfaces := #[]
  cf := some (fileOf pool1 9 #[] #[{ accessFlags := 1, nameIndex := 5, descriptorIndex := 6, attributes := #[] }, { accessFlags := 10, nameIndex := 12, descriptorIndex := 13, attributes := #[] }, { accessFlags := 10, nameIndex := 16, descriptorIndex := 13, attributes := #[] }, { accessFlags := 10, nameIndex := 59, descriptorIndex := 60, attributes := #[] }, { accessFlags := 9, nameIndex := 64, descriptorIndex := 65, attributes := #[] }] 49 2 #[] #[])
  fields := #[]
  methods := #[k1m0, k1m1, k1m2, k1m3, k1m4]
  instanceTypes := #[]
  staticTypes := #[]
  resolved := Array.replicate 74 none
  statics := none }

def pool2 : Array CpInfo := pool [(8, .class_ 10), (1, u "java/lang/Iterable"), (24, .class_ 36), (0, u "java/lang/Object")] 25

/-- java/lang/Iterable -/
def k2 : Class := { plain "java/lang/Iterable" (some 0) with
  accessFlags := 1537
  interfaces := #[]
  cf := some (fileOf pool2 8 #[] #[] 1537 35 #[] #[])
  fields := #[]
  methods := #[]
  instanceTypes := #[]
  staticTypes := #[]
  resolved := Array.replicate 62 none
  statics := none }

def pool3 : Array CpInfo := pool [(10, .class_ 12), (1, u "java/util/Collection"), (47, .class_ 61), (0, u "java/lang/Object"), (0, .class_ 63), (0, u "java/lang/Iterable")] 51

/-- java/util/Collection -/
def k3 : Class := { plain "java/util/Collection" (some 0) with
  accessFlags := 1537
  interfaces := #[2]
  cf := some (fileOf pool3 10 #[] #[] 1537 60 #[62] #[])
  fields := #[]
  methods := #[]
  instanceTypes := #[]
  staticTypes := #[]
  resolved := Array.replicate 115 none
  statics := none }

def pool4 : Array CpInfo := pool [(1, .methodref 2 3), (0, .class_ 4), (0, .nameAndType 5 6), (0, u "java/lang/Object"), (0, u "<init>"), (0, u "()V"), (1, .class_ 10), (1, u "java/util/AbstractCollection"), (66, .class_ 78), (0, u "java/util/Collection")] 81

def k4c0 : Code := { maxStack := 1, maxLocals := 1, code := jdk_22_method_1_code, exceptionTable := #[], attributes := #[] }
def k4m0 : Method := { name := "<init>", desc := "()V", sig := { parameters := [], returnType := none }, accessFlags := 4, code := some k4c0 }
/-- java/util/AbstractCollection -/
def k4 : Class := { plain "java/util/AbstractCollection" (some 0) with
  accessFlags := 1057
  interfaces := #[3]
  cf := some (fileOf pool4 8 #[] #[{ accessFlags := 4, nameIndex := 5, descriptorIndex := 6, attributes := #[] }] 1057 2 #[77] #[])
  fields := #[]
  methods := #[k4m0]
  instanceTypes := #[]
  staticTypes := #[]
  resolved := Array.replicate 160 none
  statics := none }

def pool5 : Array CpInfo := pool [(8, .class_ 10), (1, u "java/util/SequencedCollection"), (15, .class_ 27), (0, u "java/lang/Object"), (0, .class_ 29), (0, u "java/util/Collection")] 27

/-- java/util/SequencedCollection -/
def k5 : Class := { plain "java/util/SequencedCollection" (some 0) with
  accessFlags := 1537
  interfaces := #[3]
  cf := some (fileOf pool5 8 #[] #[] 1537 26 #[28] #[])
  fields := #[]
  methods := #[]
  instanceTypes := #[]
  staticTypes := #[]
  resolved := Array.replicate 57 none
  statics := none }

def pool6 : Array CpInfo := pool [(8, .class_ 10), (1, u "java/util/List"), (64, u "get"), (0, u "(I)Ljava/lang/Object;"), (2, u "size"), (0, u "()I"), (22, .class_ 104), (0, u "java/lang/Object"), (15, .class_ 121), (0, u "java/util/SequencedCollection")] 129

def k6m0 : Method := { name := "size", desc := "()I", sig := { parameters := [], returnType := some .int }, accessFlags := 1025, code := none }
def k6m1 : Method := { name := "get", desc := "(I)Ljava/lang/Object;", sig := { parameters := [.int], returnType := some (.object "java/lang/Object") }, accessFlags := 1025, code := none }
/-- java/util/List -/
def k6 : Class := { plain "java/util/List" (some 0) with
  accessFlags := 1537
  interfaces := #[5]
  cf := some (fileOf pool6 8 #[] #[{ accessFlags := 1025, nameIndex := 79, descriptorIndex := 80, attributes := #[] }, { accessFlags := 1025, nameIndex := 75, descriptorIndex := 76, attributes := #[] }] 1537 103 #[120] #[])
  fields := #[]
  methods := #[k6m0, k6m1]
  instanceTypes := #[]
  staticTypes := #[]
  resolved := Array.replicate 251 none
  statics := none }

def pool7 : Array CpInfo := pool [(1, .methodref 2 3), (0, .class_ 4), (0, .nameAndType 5 6), (0, u "java/util/AbstractCollection"), (0, u "<init>"), (0, u "()V"), (0, .fieldref 8 9), (0, .class_ 10), (0, .nameAndType 11 12), (0, u "java/util/AbstractList"), (0, u "modCount"), (0, u "I"), (64, .class_ 78), (0, u "java/util/AbstractList$Itr"), (3, .class_ 83), (0, u "java/util/AbstractList$ListItr"), (9, .class_ 94), (0, u "java/util/AbstractList$RandomAccessSubList"), (3, .class_ 99), (0, u "java/util/AbstractList$SubList"), (33, .class_ 134), (0, u "java/util/List"), (73, .class_ 209), (0, u "java/util/AbstractList$SubList$1"), (0, .class_ 211), (0, u "java/util/AbstractList$RandomAccessSpliterator")] 6

def k7c0 : Code := { maxStack := 2, maxLocals := 1, code := jdk_39_method_1_code, exceptionTable := #[], attributes := #[] }
def k7m0 : Method := { name := "<init>", desc := "()V", sig := { parameters := [], returnType := none }, accessFlags := 4, code := some k7c0 }
/-- java/util/AbstractList -/
def k7 : Class := { plain "java/util/AbstractList" (some 4) with
  accessFlags := 1057
  interfaces := #[6]
  cf := some (fileOf pool7 8 #[.nestMembers #[93, 98, 208, 210, 82, 77]] #[{ accessFlags := 4, nameIndex := 5, descriptorIndex := 6, attributes := #[] }] 1057 2 #[133] #[{ accessFlags := 132, nameIndex := 11, descriptorIndex := 12, attributes := #[] }])
  fields := #[{ name := "modCount", type := .int, accessFlags := 132, slot := 0, constantValue := 0 }]
  methods := #[k7m0]
  instanceTypes := #[.int]
  staticTypes := #[]
  resolved := Array.replicate 218 none
  statics := none }

def pool8 : Array CpInfo := pool [(1, .class_ 2), (0, u "java/util/RandomAccess"), (0, .class_ 4), (0, u "java/lang/Object")] 2

/-- java/util/RandomAccess -/
def k8 : Class := { plain "java/util/RandomAccess" (some 0) with
  accessFlags := 1537
  interfaces := #[]
  cf := some (fileOf pool8 1 #[] #[] 1537 3 #[] #[])
  fields := #[]
  methods := #[]
  instanceTypes := #[]
  staticTypes := #[]
  resolved := Array.replicate 7 none
  statics := none }

def pool9 : Array CpInfo := pool [(1, .class_ 2), (0, u "java/lang/Cloneable"), (0, .class_ 4), (0, u "java/lang/Object")] 2

/-- java/lang/Cloneable -/
def k9 : Class := { plain "java/lang/Cloneable" (some 0) with
  accessFlags := 1537
  interfaces := #[]
  cf := some (fileOf pool9 1 #[] #[] 1537 3 #[] #[])
  fields := #[]
  methods := #[]
  instanceTypes := #[]
  staticTypes := #[]
  resolved := Array.replicate 7 none
  statics := none }

def pool10 : Array CpInfo := pool [(1, .class_ 2), (0, u "java/io/Serializable"), (0, .class_ 4), (0, u "java/lang/Object")] 2

/-- java/io/Serializable -/
def k10 : Class := { plain "java/io/Serializable" (some 0) with
  accessFlags := 1537
  interfaces := #[]
  cf := some (fileOf pool10 1 #[] #[] 1537 3 #[] #[])
  fields := #[]
  methods := #[]
  instanceTypes := #[]
  staticTypes := #[]
  resolved := Array.replicate 7 none
  statics := none }

def pool11 : Array CpInfo := pool [(1, .methodref 2 3), (0, .class_ 4), (0, .nameAndType 5 6), (0, u "java/util/AbstractList"), (0, u "<init>"), (0, u "()V"), (0, .class_ 8), (0, u "java/lang/Object"), (0, .fieldref 10 11), (0, .class_ 12), (0, .nameAndType 13 14), (0, u "java/util/ArrayList"), (0, u "elementData"), (0, u "[Ljava/lang/Object;"), (2, u "EMPTY_ELEMENTDATA"), (21, .fieldref 10 40), (0, .nameAndType 41 14), (0, u "DEFAULTCAPACITY_EMPTY_ELEMENTDATA"), (5, u "()[Ljava/lang/Object;"), (0, .fieldref 10 49), (0, .nameAndType 50 51), (0, u "size"), (0, u "I"), (11, .fieldref 10 64), (0, .nameAndType 65 51), (0, u "modCount"), (3, .methodref 10 70), (0, .nameAndType 71 72), (0, u "grow"), (0, u "(I)[Ljava/lang/Object;"), (6, .methodref 80 81), (0, .class_ 82), (0, .nameAndType 83 84), (0, u "java/lang/Math"), (0, u "max"), (0, u "(II)I"), (11, u "(Ljava/lang/Object;)Z"), (21, .methodref 119 120), (0, .class_ 121), (0, .nameAndType 122 84), (0, u "java/util/Objects"), (0, u "checkIndex"), (0, .methodref 10 124), (0, .nameAndType 13 125), (0, u "(I)Ljava/lang/Object;"), (3, .methodref 10 130), (0, .nameAndType 71 47), (0, .methodref 10 132), (0, .nameAndType 133 134), (0, u "add"), (0, u "(Ljava/lang/Object;[Ljava/lang/Object;I)V"), (13, .class_ 149), (0, u "java/util/List"), (36, u "()I"), (75, .class_ 263), (0, u "java/util/ArrayList$ListItr"), (3, .class_ 268), (0, u "java/util/ArrayList$Itr"), (7, .class_ 277), (0, u "java/util/ArrayList$SubList"), (12, .class_ 291), (0, u "java/util/ArrayList$ArrayListSpliterator"), (37, .class_ 330), (0, u "java/util/RandomAccess"), (0, .class_ 332), (0, u "java/lang/Cloneable"), (0, .class_ 334), (0, u "java/io/Serializable"), (0, u "serialVersionUID"), (0, u "J"), (3, u "DEFAULT_CAPACITY"), (40, u "get"), (118, .class_ 501), (0, u "java/util/ArrayList$SubList$2"), (0, .class_ 503), (0, u "java/util/ArrayList$SubList$1")] 5

def k11c0 : Code := { maxStack := 2, maxLocals := 1, code := jdk_38_method_2_code, exceptionTable := #[], attributes := #[] }
def k11m0 : Method := { name := "<init>", desc := "()V", sig := { parameters := [], returnType := none }, accessFlags := 1, code := some k11c0 }
def k11c1 : Code := { maxStack := 4, maxLocals := 4, code := jdk_38_method_6_code, exceptionTable := #[], attributes := #[] }
def k11m1 : Method := { name := "grow", desc := "(I)[Ljava/lang/Object;", sig := { parameters := [.int], returnType := some (.array (.object "java/lang/Object")) }, accessFlags := 2, code := some k11c1 }
def k11c2 : Code := { maxStack := 3, maxLocals := 1, code := jdk_38_method_7_code, exceptionTable := #[], attributes := #[] }
def k11m2 : Method := { name := "grow", desc := "()[Ljava/lang/Object;", sig := { parameters := [], returnType := some (.array (.object "java/lang/Object")) }, accessFlags := 2, code := some k11c2 }
def k11c3 : Code := { maxStack := 1, maxLocals := 1, code := jdk_38_method_8_code, exceptionTable := #[], attributes := #[] }
def k11m3 : Method := { name := "size", desc := "()I", sig := { parameters := [], returnType := some .int }, accessFlags := 1, code := some k11c3 }
def k11c4 : Code := { maxStack := 2, maxLocals := 2, code := jdk_38_method_18_code, exceptionTable := #[], attributes := #[] }
def k11m4 : Method := { name := "elementData", desc := "(I)Ljava/lang/Object;", sig := { parameters := [.int], returnType := some (.object "java/lang/Object") }, accessFlags := 0, code := some k11c4 }
def k11c5 : Code := { maxStack := 2, maxLocals := 2, code := jdk_38_method_20_code, exceptionTable := #[], attributes := #[] }
def k11m5 : Method := { name := "get", desc := "(I)Ljava/lang/Object;", sig := { parameters := [.int], returnType := some (.object "java/lang/Object") }, accessFlags := 1, code := some k11c5 }
def k11c6 : Code := { maxStack := 3, maxLocals := 4, code := jdk_38_method_24_code, exceptionTable := #[], attributes := #[] }
def k11m6 : Method := { name := "add", desc := "(Ljava/lang/Object;[Ljava/lang/Object;I)V", sig := { parameters := [(.object "java/lang/Object"), (.array (.object "java/lang/Object")), .int], returnType := none }, accessFlags := 2, code := some k11c6 }
def k11c7 : Code := { maxStack := 4, maxLocals := 2, code := jdk_38_method_25_code, exceptionTable := #[], attributes := #[] }
def k11m7 : Method := { name := "add", desc := "(Ljava/lang/Object;)Z", sig := { parameters := [(.object "java/lang/Object")], returnType := some .boolean }, accessFlags := 1, code := some k11c7 }
/-- java/util/ArrayList -/
def k11 : Class := { plain "java/util/ArrayList" (some 7) with
  accessFlags := 33
  interfaces := #[6, 8, 9, 10]
  cf := some (fileOf pool11 10 #[.nestMembers #[290, 276, 500, 502, 262, 267]] #[{ accessFlags := 1, nameIndex := 5, descriptorIndex := 6, attributes := #[] }, { accessFlags := 2, nameIndex := 71, descriptorIndex := 72, attributes := #[] }, { accessFlags := 2, nameIndex := 71, descriptorIndex := 47, attributes := #[] }, { accessFlags := 1, nameIndex := 50, descriptorIndex := 186, attributes := #[] }, { accessFlags := 0, nameIndex := 13, descriptorIndex := 125, attributes := #[] }, { accessFlags := 1, nameIndex := 381, descriptorIndex := 125, attributes := #[] }, { accessFlags := 2, nameIndex := 133, descriptorIndex := 134, attributes := #[] }, { accessFlags := 1, nameIndex := 133, descriptorIndex := 96, attributes := #[] }] 33 2 #[148, 329, 331, 333] #[{ accessFlags := 26, nameIndex := 335, descriptorIndex := 336, attributes := #[] }, { accessFlags := 26, nameIndex := 340, descriptorIndex := 51, attributes := #[] }, { accessFlags := 26, nameIndex := 17, descriptorIndex := 14, attributes := #[] }, { accessFlags := 26, nameIndex := 41, descriptorIndex := 14, attributes := #[] }, { accessFlags := 128, nameIndex := 13, descriptorIndex := 14, attributes := #[] }, { accessFlags := 2, nameIndex := 50, descriptorIndex := 51, attributes := #[] }])
  fields := #[{ name := "serialVersionUID", type := .long, accessFlags := 26, slot := 0, constantValue := 0 }, { name := "DEFAULT_CAPACITY", type := .int, accessFlags := 26, slot := 1, constantValue := 0 }, { name := "EMPTY_ELEMENTDATA", type := (.array (.object "java/lang/Object")), accessFlags := 26, slot := 2, constantValue := 0 }, { name := "DEFAULTCAPACITY_EMPTY_ELEMENTDATA", type := (.array (.object "java/lang/Object")), accessFlags := 26, slot := 3, constantValue := 0 }, { name := "elementData", type := (.array (.object "java/lang/Object")), accessFlags := 128, slot := 1, constantValue := 0 }, { name := "size", type := .int, accessFlags := 2, slot := 2, constantValue := 0 }]
  methods := #[k11m0, k11m1, k11m2, k11m3, k11m4, k11m5, k11m6, k11m7]
  instanceTypes := #[.int, (.array (.object "java/lang/Object")), .int]
  staticTypes := #[.long, .int, (.array (.object "java/lang/Object")), (.array (.object "java/lang/Object"))]
  resolved := Array.replicate 509 none
  statics := some 0 }

def pool12 : Array CpInfo := pool [(1, .methodref 2 3), (0, .class_ 4), (0, .nameAndType 5 6), (0, u "java/lang/Object"), (0, u "<init>"), (0, u "()V"), (0, .class_ 8), (0, u "java/lang/Record")] 13

def k12c0 : Code := { maxStack := 1, maxLocals := 1, code := jdk_30_method_1_code, exceptionTable := #[], attributes := #[] }
def k12m0 : Method := { name := "<init>", desc := "()V", sig := { parameters := [], returnType := none }, accessFlags := 4, code := some k12c0 }
/-- java/lang/Record -/
def k12 : Class := { plain "java/lang/Record" (some 0) with
  accessFlags := 1057
  interfaces := #[]
  cf := some (fileOf pool12 7 #[] #[{ accessFlags := 4, nameIndex := 5, descriptorIndex := 6, attributes := #[] }] 1057 2 #[] #[])
  fields := #[]
  methods := #[k12m0]
  instanceTypes := #[]
  staticTypes := #[]
  resolved := Array.replicate 22 none
  statics := none }

def pool13 : Array CpInfo := pool [(1, .methodref 2 3), (0, .class_ 4), (0, .nameAndType 5 6), (0, u "java/lang/Record"), (0, u "<init>"), (0, u "()V"), (0, .fieldref 8 9), (0, .class_ 10), (0, .nameAndType 11 12), (0, u "com/example/lanewright/lanewright/Network$Arc"), (0, u "tail"), (0, u "I"), (0, .fieldref 8 14), (0, .nameAndType 15 12), (0, u "head"), (0, .fieldref 8 17), (0, .nameAndType 18 19), (0, u "capacity"), (0, u "D"), (0, .fieldref 8 21), (0, .nameAndType 22 19), (0, u "freeFlowTime"), (0, .fieldref 8 24), (0, .nameAndType 25 19), (0, u "b"), (0, .fieldref 8 27), (0, .nameAndType 28 19), (0, u "power"), (12, u "(IIDDDD)V"), (4, u "()I"), (1, u "()D"), (3, .class_ 53), (0, u "com/example/lanewright/lanewright/Network")] 24

def k13c0 : Code := { maxStack := 3, maxLocals := 11, code := prog_30_method_1_code, exceptionTable := #[], attributes := #[] }
def k13m0 : Method := { name := "<init>", desc := "(IIDDDD)V", sig := { parameters := [.int, .int, .double, .double, .double, .double], returnType := none }, accessFlags := 0, code := some k13c0 }
def k13c1 : Code := { maxStack := 1, maxLocals := 1, code := prog_30_method_5_code, exceptionTable := #[], attributes := #[] }
def k13m1 : Method := { name := "tail", desc := "()I", sig := { parameters := [], returnType := some .int }, accessFlags := 1, code := some k13c1 }
def k13c2 : Code := { maxStack := 1, maxLocals := 1, code := prog_30_method_6_code, exceptionTable := #[], attributes := #[] }
def k13m2 : Method := { name := "head", desc := "()I", sig := { parameters := [], returnType := some .int }, accessFlags := 1, code := some k13c2 }
def k13c3 : Code := { maxStack := 2, maxLocals := 1, code := prog_30_method_7_code, exceptionTable := #[], attributes := #[] }
def k13m3 : Method := { name := "capacity", desc := "()D", sig := { parameters := [], returnType := some .double }, accessFlags := 1, code := some k13c3 }
def k13c4 : Code := { maxStack := 2, maxLocals := 1, code := prog_30_method_8_code, exceptionTable := #[], attributes := #[] }
def k13m4 : Method := { name := "freeFlowTime", desc := "()D", sig := { parameters := [], returnType := some .double }, accessFlags := 1, code := some k13c4 }
def k13c5 : Code := { maxStack := 2, maxLocals := 1, code := prog_30_method_9_code, exceptionTable := #[], attributes := #[] }
def k13m5 : Method := { name := "b", desc := "()D", sig := { parameters := [], returnType := some .double }, accessFlags := 1, code := some k13c5 }
def k13c6 : Code := { maxStack := 2, maxLocals := 1, code := prog_30_method_10_code, exceptionTable := #[], attributes := #[] }
def k13m6 : Method := { name := "power", desc := "()D", sig := { parameters := [], returnType := some .double }, accessFlags := 1, code := some k13c6 }
/-- com/example/lanewright/lanewright/Network$Arc -/
def k13 : Class := { plain "com/example/lanewright/lanewright/Network$Arc" (some 12) with
  accessFlags := 48
  interfaces := #[]
  cf := some (fileOf pool13 8 #[.nestHost 52] #[{ accessFlags := 0, nameIndex := 5, descriptorIndex := 41, attributes := #[] }, { accessFlags := 1, nameIndex := 11, descriptorIndex := 46, attributes := #[] }, { accessFlags := 1, nameIndex := 15, descriptorIndex := 46, attributes := #[] }, { accessFlags := 1, nameIndex := 18, descriptorIndex := 48, attributes := #[] }, { accessFlags := 1, nameIndex := 22, descriptorIndex := 48, attributes := #[] }, { accessFlags := 1, nameIndex := 25, descriptorIndex := 48, attributes := #[] }, { accessFlags := 1, nameIndex := 28, descriptorIndex := 48, attributes := #[] }] 48 2 #[] #[{ accessFlags := 18, nameIndex := 11, descriptorIndex := 12, attributes := #[] }, { accessFlags := 18, nameIndex := 15, descriptorIndex := 12, attributes := #[] }, { accessFlags := 18, nameIndex := 18, descriptorIndex := 19, attributes := #[] }, { accessFlags := 18, nameIndex := 22, descriptorIndex := 19, attributes := #[] }, { accessFlags := 18, nameIndex := 25, descriptorIndex := 19, attributes := #[] }, { accessFlags := 18, nameIndex := 28, descriptorIndex := 19, attributes := #[] }])
  fields := #[{ name := "tail", type := .int, accessFlags := 18, slot := 0, constantValue := 0 }, { name := "head", type := .int, accessFlags := 18, slot := 1, constantValue := 0 }, { name := "capacity", type := .double, accessFlags := 18, slot := 2, constantValue := 0 }, { name := "freeFlowTime", type := .double, accessFlags := 18, slot := 3, constantValue := 0 }, { name := "b", type := .double, accessFlags := 18, slot := 4, constantValue := 0 }, { name := "power", type := .double, accessFlags := 18, slot := 5, constantValue := 0 }]
  methods := #[k13m0, k13m1, k13m2, k13m3, k13m4, k13m5, k13m6]
  instanceTypes := #[.int, .int, .double, .double, .double, .double]
  staticTypes := #[]
  resolved := Array.replicate 78 none
  statics := none }

def pool14 : Array CpInfo := pool [(1, .class_ 2), (0, u "java/lang/Math"), (1, .class_ 6), (1, u "java/lang/Object"), (0, u "<init>"), (0, u "()V"), (89, .class_ 100), (1, u "java/lang/Math$RandomNumberGeneratorHolder"), (71, u "negativeZeroFloatBits"), (0, u "J"), (2, u "negativeZeroDoubleBits"), (21, u "max"), (46, u "$assertionsDisabled"), (0, u "Z"), (88, u "(II)I"), (2, u "twoToTheDoubleScaleDown"), (0, u "D"), (4, u "twoToTheDoubleScaleUp"), (9, u "E"), (3, u "PI"), (2, u "TAU"), (2, u "DEGREES_TO_RADIANS"), (0, u "RADIANS_TO_DEGREES")] 94

def k14m0 : Method := { name := "<init>", desc := "()V", sig := { parameters := [], returnType := none }, accessFlags := 2, code := none }
def k14c1 : Code := { maxStack := 2, maxLocals := 2, code := jdk_29_method_65_code, exceptionTable := #[], attributes := #[] }
def k14m1 : Method := { name := "max", desc := "(II)I", sig := { parameters := [.int, .int], returnType := some .int }, accessFlags := 9, code := some k14c1 }
/-- java/lang/Math -/
def k14 : Class := { plain "java/lang/Math" (some 0) with
  accessFlags := 49
  interfaces := #[]
  cf := some (fileOf pool14 1 #[.nestMembers #[98]] #[{ accessFlags := 2, nameIndex := 7, descriptorIndex := 8, attributes := #[] }, { accessFlags := 9, nameIndex := 198, descriptorIndex := 335, attributes := #[] }] 49 4 #[] #[{ accessFlags := 25, nameIndex := 354, descriptorIndex := 339, attributes := #[] }, { accessFlags := 25, nameIndex := 358, descriptorIndex := 339, attributes := #[] }, { accessFlags := 25, nameIndex := 361, descriptorIndex := 339, attributes := #[] }, { accessFlags := 26, nameIndex := 364, descriptorIndex := 339, attributes := #[] }, { accessFlags := 26, nameIndex := 365, descriptorIndex := 339, attributes := #[] }, { accessFlags := 26, nameIndex := 172, descriptorIndex := 173, attributes := #[] }, { accessFlags := 26, nameIndex := 176, descriptorIndex := 173, attributes := #[] }, { accessFlags := 8, nameIndex := 344, descriptorIndex := 339, attributes := #[] }, { accessFlags := 8, nameIndex := 338, descriptorIndex := 339, attributes := #[] }, { accessFlags := 4120, nameIndex := 245, descriptorIndex := 246, attributes := #[] }])
  fields := #[{ name := "E", type := .double, accessFlags := 25, slot := 0, constantValue := 0 }, { name := "PI", type := .double, accessFlags := 25, slot := 1, constantValue := 0 }, { name := "TAU", type := .double, accessFlags := 25, slot := 2, constantValue := 0 }, { name := "DEGREES_TO_RADIANS", type := .double, accessFlags := 26, slot := 3, constantValue := 0 }, { name := "RADIANS_TO_DEGREES", type := .double, accessFlags := 26, slot := 4, constantValue := 0 }, { name := "negativeZeroFloatBits", type := .long, accessFlags := 26, slot := 5, constantValue := 0 }, { name := "negativeZeroDoubleBits", type := .long, accessFlags := 26, slot := 6, constantValue := 0 }, { name := "twoToTheDoubleScaleUp", type := .double, accessFlags := 8, slot := 7, constantValue := 0 }, { name := "twoToTheDoubleScaleDown", type := .double, accessFlags := 8, slot := 8, constantValue := 0 }, { name := "$assertionsDisabled", type := .boolean, accessFlags := 4120, slot := 9, constantValue := 0 }]
  methods := #[k14m0, k14m1]
  instanceTypes := #[]
  staticTypes := #[.double, .double, .double, .double, .double, .long, .long, .double, .double, .boolean]
  resolved := Array.replicate 460 none
  statics := none }

def pool15 : Array CpInfo := pool [(1, .methodref 2 3), (0, .class_ 4), (0, .nameAndType 5 6), (0, u "java/lang/Object"), (0, u "<init>"), (0, u "()V"), (0, .fieldref 8 9), (0, .class_ 10), (0, .nameAndType 11 12), (0, u "com/example/lanewright/lanewright/Network"), (0, u "nodeCount"), (0, u "I"), (0, .fieldref 8 14), (0, .nameAndType 15 12), (0, u "firstThruNode"), (0, .interfaceMethodref 17 18), (0, .class_ 19), (0, .nameAndType 20 21), (0, u "java/util/List"), (0, u "size"), (0, u "()I"), (0, .fieldref 8 23), (0, .nameAndType 24 25), (0, u "tails"), (0, u "[I"), (0, .fieldref 8 27), (0, .nameAndType 28 25), (0, u "heads"), (0, .fieldref 8 30), (0, .nameAndType 31 32), (0, u "capacities"), (0, u "[D"), (0, .fieldref 8 34), (0, .nameAndType 35 32), (0, u "freeFlowTimes"), (0, .fieldref 8 37), (0, .nameAndType 38 32), (0, u "bs"), (0, .fieldref 8 40), (0, .nameAndType 41 32), (0, u "powers"), (0, .fieldref 8 43), (0, .nameAndType 44 25), (0, u "firstOut"), (0, .interfaceMethodref 17 46), (0, .nameAndType 47 48), (0, u "get"), (0, u "(I)Ljava/lang/Object;"), (0, .class_ 50), (0, u "com/example/lanewright/lanewright/Network$Arc"), (0, .methodref 49 52), (0, .nameAndType 53 21), (0, u "tail"), (0, .methodref 49 55), (0, .nameAndType 56 21), (0, u "head"), (0, .methodref 49 58), (0, .nameAndType 59 60), (0, u "capacity"), (0, u "()D"), (0, .methodref 49 62), (0, .nameAndType 63 60), (0, u "freeFlowTime"), (0, .methodref 49 65), (0, .nameAndType 66 60), (0, u "b"), (0, .methodref 49 68), (0, .nameAndType 69 60), (0, u "power"), (0, .fieldref 8 71), (0, .nameAndType 72 25), (0, u "outArcs"), (0, .methodref 74 75), (0, .class_ 25), (0, .nameAndType 76 77), (0, u "clone"), (0, u "()Ljava/lang/Object;"), (13, u "(IILjava/util/List;)V"), (6, u "(I)I"), (1, u "endOut"), (0, u "outArc")] 10

def k15c0 : Code := { maxStack := 6, maxLocals := 7, code := prog_29_method_1_code, exceptionTable := #[], attributes := #[] }
def k15m0 : Method := { name := "<init>", desc := "(IILjava/util/List;)V", sig := { parameters := [.int, .int, (.object "java/util/List")], returnType := none }, accessFlags := 0, code := some k15c0 }
def k15c1 : Code := { maxStack := 1, maxLocals := 1, code := prog_29_method_2_code, exceptionTable := #[], attributes := #[] }
def k15m1 : Method := { name := "nodeCount", desc := "()I", sig := { parameters := [], returnType := some .int }, accessFlags := 0, code := some k15c1 }
def k15c2 : Code := { maxStack := 1, maxLocals := 1, code := prog_29_method_3_code, exceptionTable := #[], attributes := #[] }
def k15m2 : Method := { name := "firstThruNode", desc := "()I", sig := { parameters := [], returnType := some .int }, accessFlags := 0, code := some k15c2 }
def k15c3 : Code := { maxStack := 2, maxLocals := 2, code := prog_29_method_5_code, exceptionTable := #[], attributes := #[] }
def k15m3 : Method := { name := "tail", desc := "(I)I", sig := { parameters := [.int], returnType := some .int }, accessFlags := 0, code := some k15c3 }
def k15c4 : Code := { maxStack := 2, maxLocals := 2, code := prog_29_method_6_code, exceptionTable := #[], attributes := #[] }
def k15m4 : Method := { name := "head", desc := "(I)I", sig := { parameters := [.int], returnType := some .int }, accessFlags := 0, code := some k15c4 }
def k15c5 : Code := { maxStack := 2, maxLocals := 2, code := prog_29_method_8_code, exceptionTable := #[], attributes := #[] }
def k15m5 : Method := { name := "firstOut", desc := "(I)I", sig := { parameters := [.int], returnType := some .int }, accessFlags := 0, code := some k15c5 }
def k15c6 : Code := { maxStack := 3, maxLocals := 2, code := prog_29_method_9_code, exceptionTable := #[], attributes := #[] }
def k15m6 : Method := { name := "endOut", desc := "(I)I", sig := { parameters := [.int], returnType := some .int }, accessFlags := 0, code := some k15c6 }
def k15c7 : Code := { maxStack := 2, maxLocals := 2, code := prog_29_method_10_code, exceptionTable := #[], attributes := #[] }
def k15m7 : Method := { name := "outArc", desc := "(I)I", sig := { parameters := [.int], returnType := some .int }, accessFlags := 0, code := some k15c7 }
/-- com/example/lanewright/lanewright/Network -/
def k15 : Class := { plain "com/example/lanewright/lanewright/Network" (some 0) with
  accessFlags := 48
  interfaces := #[]
  cf := some (fileOf pool15 8 #[.nestMembers #[49]] #[{ accessFlags := 0, nameIndex := 5, descriptorIndex := 91, attributes := #[] }, { accessFlags := 0, nameIndex := 11, descriptorIndex := 21, attributes := #[] }, { accessFlags := 0, nameIndex := 15, descriptorIndex := 21, attributes := #[] }, { accessFlags := 0, nameIndex := 53, descriptorIndex := 98, attributes := #[] }, { accessFlags := 0, nameIndex := 56, descriptorIndex := 98, attributes := #[] }, { accessFlags := 0, nameIndex := 44, descriptorIndex := 98, attributes := #[] }, { accessFlags := 0, nameIndex := 100, descriptorIndex := 98, attributes := #[] }, { accessFlags := 0, nameIndex := 101, descriptorIndex := 98, attributes := #[] }] 48 2 #[] #[{ accessFlags := 18, nameIndex := 11, descriptorIndex := 12, attributes := #[] }, { accessFlags := 18, nameIndex := 15, descriptorIndex := 12, attributes := #[] }, { accessFlags := 18, nameIndex := 24, descriptorIndex := 25, attributes := #[] }, { accessFlags := 18, nameIndex := 28, descriptorIndex := 25, attributes := #[] }, { accessFlags := 18, nameIndex := 31, descriptorIndex := 32, attributes := #[] }, { accessFlags := 18, nameIndex := 35, descriptorIndex := 32, attributes := #[] }, { accessFlags := 18, nameIndex := 38, descriptorIndex := 32, attributes := #[] }, { accessFlags := 18, nameIndex := 41, descriptorIndex := 32, attributes := #[] }, { accessFlags := 18, nameIndex := 44, descriptorIndex := 25, attributes := #[] }, { accessFlags := 18, nameIndex := 72, descriptorIndex := 25, attributes := #[] }])
  fields := #[{ name := "nodeCount", type := .int, accessFlags := 18, slot := 0, constantValue := 0 }, { name := "firstThruNode", type := .int, accessFlags := 18, slot := 1, constantValue := 0 }, { name := "tails", type := (.array .int), accessFlags := 18, slot := 2, constantValue := 0 }, { name := "heads", type := (.array .int), accessFlags := 18, slot := 3, constantValue := 0 }, { name := "capacities", type := (.array .double), accessFlags := 18, slot := 4, constantValue := 0 }, { name := "freeFlowTimes", type := (.array .double), accessFlags := 18, slot := 5, constantValue := 0 }, { name := "bs", type := (.array .double), accessFlags := 18, slot := 6, constantValue := 0 }, { name := "powers", type := (.array .double), accessFlags := 18, slot := 7, constantValue := 0 }, { name := "firstOut", type := (.array .int), accessFlags := 18, slot := 8, constantValue := 0 }, { name := "outArcs", type := (.array .int), accessFlags := 18, slot := 9, constantValue := 0 }]
  methods := #[k15m0, k15m1, k15m2, k15m3, k15m4, k15m5, k15m6, k15m7]
  instanceTypes := #[.int, .int, (.array .int), (.array .int), (.array .double), (.array .double), (.array .double), (.array .double), (.array .int), (.array .int)]
  staticTypes := #[]
  resolved := Array.replicate 112 none
  statics := none }

def pool16 : Array CpInfo := pool [(2, .class_ 4), (1, u "java/lang/Object"), (0, u "<init>"), (0, u "()V"), (35, .class_ 44), (1, u "java/util/Objects"), (60, .methodref 106 107), (0, .class_ 108), (0, .nameAndType 109 110), (0, u "jdk/internal/util/Preconditions"), (0, u "checkIndex"), (0, u "(IILjava/util/function/BiFunction;)I"), (60, u "(II)I")] 12

def k16m0 : Method := { name := "<init>", desc := "()V", sig := { parameters := [], returnType := none }, accessFlags := 2, code := none }
def k16c1 : Code := { maxStack := 3, maxLocals := 2, code := jdk_31_method_17_code, exceptionTable := #[], attributes := #[] }
def k16m1 : Method := { name := "checkIndex", desc := "(II)I", sig := { parameters := [.int, .int], returnType := some .int }, accessFlags := 9, code := some k16c1 }
/-- java/util/Objects -/
def k16 : Class := { plain "java/util/Objects" (some 0) with
  accessFlags := 49
  interfaces := #[]
  cf := some (fileOf pool16 42 #[] #[{ accessFlags := 2, nameIndex := 5, descriptorIndex := 6, attributes := #[] }, { accessFlags := 9, nameIndex := 109, descriptorIndex := 171, attributes := #[] }] 49 2 #[] #[])
  fields := #[]
  methods := #[k16m0, k16m1]
  instanceTypes := #[]
  staticTypes := #[]
  resolved := Array.replicate 184 none
  statics := none }

def pool17 : Array CpInfo := pool [(2, .class_ 4), (1, u "java/lang/Object"), (0, u "<init>"), (0, u "()V"), (17, .class_ 26), (1, u "jdk/internal/util/Preconditions"), (6, u "checkIndex"), (21, .class_ 56), (0, u "jdk/internal/util/Preconditions$4"), (57, .class_ 115), (0, u "jdk/internal/util/Preconditions$1"), (7, u "SIOOBE_FORMATTER"), (0, u "Ljava/util/function/BiFunction;"), (0, .class_ 126), (0, u "jdk/internal/util/Preconditions$2"), (3, u "AIOOBE_FORMATTER"), (0, .class_ 132), (0, u "jdk/internal/util/Preconditions$3"), (3, u "IOOBE_FORMATTER"), (41, u "(IILjava/util/function/BiFunction;)I")] 15

def k17m0 : Method := { name := "<init>", desc := "()V", sig := { parameters := [], returnType := none }, accessFlags := 1, code := none }
def k17c1 : Code := { maxStack := 3, maxLocals := 3, code := jdk_41_method_11_code, exceptionTable := #[], attributes := #[] }
def k17m1 : Method := { name := "checkIndex", desc := "(IILjava/util/function/BiFunction;)I", sig := { parameters := [.int, .int, (.object "java/util/function/BiFunction")], returnType := some .int }, accessFlags := 9, code := some k17c1 }
/-- jdk/internal/util/Preconditions -/
def k17 : Class := { plain "jdk/internal/util/Preconditions" (some 0) with
  accessFlags := 33
  interfaces := #[]
  cf := some (fileOf pool17 24 #[.nestMembers #[55, 131, 125, 114]] #[{ accessFlags := 1, nameIndex := 5, descriptorIndex := 6, attributes := #[] }, { accessFlags := 9, nameIndex := 33, descriptorIndex := 178, attributes := #[] }] 33 2 #[] #[{ accessFlags := 25, nameIndex := 123, descriptorIndex := 124, attributes := #[] }, { accessFlags := 25, nameIndex := 130, descriptorIndex := 124, attributes := #[] }, { accessFlags := 25, nameIndex := 136, descriptorIndex := 124, attributes := #[] }])
  fields := #[{ name := "SIOOBE_FORMATTER", type := (.object "java/util/function/BiFunction"), accessFlags := 25, slot := 0, constantValue := 0 }, { name := "AIOOBE_FORMATTER", type := (.object "java/util/function/BiFunction"), accessFlags := 25, slot := 1, constantValue := 0 }, { name := "IOOBE_FORMATTER", type := (.object "java/util/function/BiFunction"), accessFlags := 25, slot := 2, constantValue := 0 }]
  methods := #[k17m0, k17m1]
  instanceTypes := #[]
  staticTypes := #[(.object "java/util/function/BiFunction"), (.object "java/util/function/BiFunction"), (.object "java/util/function/BiFunction")]
  resolved := Array.replicate 194 none
  statics := none }

def pool18 : Array CpInfo := pool [(1, .methodref 2 3), (0, .class_ 4), (0, .nameAndType 5 6), (0, u "java/lang/Object"), (0, u "<init>"), (0, u "()V"), (0, .fieldref 8 9), (0, .class_ 10), (0, .nameAndType 11 12), (0, u "com/example/lanewright/lanewright/ShortestPathTree"), (0, u "network"), (0, u "Lcom/example/lanewright/lanewright/Network;"), (0, .methodref 14 15), (0, .class_ 16), (0, .nameAndType 17 18), (0, u "com/example/lanewright/lanewright/Network"), (0, u "nodeCount"), (0, u "()I"), (0, .fieldref 8 20), (0, .nameAndType 21 22), (0, u "distance"), (0, u "[D"), (0, .fieldref 8 24), (0, .nameAndType 25 26), (0, u "predecessorArc"), (0, u "[I"), (0, .fieldref 8 28), (0, .nameAndType 29 26), (0, u "heap"), (0, .fieldref 8 31), (0, .nameAndType 32 26), (0, u "position"), (2, .double 9218868437227405312), (1, .methodref 38 39), (0, .class_ 40), (0, .nameAndType 41 42), (0, u "java/util/Arrays"), (0, u "fill"), (0, u "([DD)V"), (0, .methodref 38 44), (0, .nameAndType 41 45), (0, u "([II)V"), (0, .fieldref 8 47), (0, .nameAndType 48 49), (0, u "heapSize"), (0, u "I"), (0, .methodref 8 51), (0, .nameAndType 52 53), (0, u "push"), (0, u "(I)V"), (0, .methodref 8 55), (0, .nameAndType 56 18), (0, u "pop"), (0, .methodref 14 58), (0, .nameAndType 59 18), (0, u "firstThruNode"), (0, .methodref 14 61), (0, .nameAndType 62 63), (0, u "firstOut"), (0, u "(I)I"), (0, .methodref 14 65), (0, .nameAndType 66 63), (0, u "endOut"), (0, .methodref 14 68), (0, .nameAndType 69 63), (0, u "outArc"), (0, .methodref 14 71), (0, .nameAndType 72 63), (0, u "head"), (0, .methodref 8 74), (0, .nameAndType 75 53), (0, u "siftUp"), (0, .methodref 14 77), (0, .nameAndType 78 63), (0, u "tail"), (0, .methodref 8 80), (0, .nameAndType 81 53), (0, u "siftDown"), (0, u "NO_ARC"), (2, u "(Lcom/example/lanewright/lanewright/Network;)V"), (2, u "build"), (0, u "(I[D)V"), (1, u "(I)D"), (0, u "route"), (0, u "(I)[I"), (1, u "isRoute"), (0, u "(I[I)Z")] 2

def k18c0 : Code := { maxStack := 2, maxLocals := 3, code := prog_57_method_1_code, exceptionTable := #[], attributes := #[] }
def k18m0 : Method := { name := "<init>", desc := "(Lcom/example/lanewright/lanewright/Network;)V", sig := { parameters := [(.object "com/example/lanewright/lanewright/Network")], returnType := none }, accessFlags := 0, code := some k18c0 }
def k18c1 : Code := { maxStack := 4, maxLocals := 9, code := prog_57_method_2_code, exceptionTable := #[], attributes := #[] }
def k18m1 : Method := { name := "build", desc := "(I[D)V", sig := { parameters := [.int, (.array .double)], returnType := none }, accessFlags := 0, code := some k18c1 }
def k18c2 : Code := { maxStack := 2, maxLocals := 2, code := prog_57_method_3_code, exceptionTable := #[], attributes := #[] }
def k18m2 : Method := { name := "distance", desc := "(I)D", sig := { parameters := [.int], returnType := some .double }, accessFlags := 0, code := some k18c2 }
def k18c3 : Code := { maxStack := 4, maxLocals := 6, code := prog_57_method_4_code, exceptionTable := #[], attributes := #[] }
def k18m3 : Method := { name := "route", desc := "(I)[I", sig := { parameters := [.int], returnType := some (.array .int) }, accessFlags := 0, code := some k18c3 }
def k18c4 : Code := { maxStack := 3, maxLocals := 5, code := prog_57_method_5_code, exceptionTable := #[], attributes := #[] }
def k18m4 : Method := { name := "isRoute", desc := "(I[I)Z", sig := { parameters := [.int, (.array .int)], returnType := some .boolean }, accessFlags := 0, code := some k18c4 }
def k18c5 : Code := { maxStack := 3, maxLocals := 2, code := prog_57_method_6_code, exceptionTable := #[], attributes := #[] }
def k18m5 : Method := { name := "push", desc := "(I)V", sig := { parameters := [.int], returnType := none }, accessFlags := 2, code := some k18c5 }
def k18c6 : Code := { maxStack := 4, maxLocals := 2, code := prog_57_method_7_code, exceptionTable := #[], attributes := #[] }
def k18m6 : Method := { name := "pop", desc := "()I", sig := { parameters := [], returnType := some .int }, accessFlags := 2, code := some k18c6 }
def k18c7 : Code := { maxStack := 4, maxLocals := 4, code := prog_57_method_8_code, exceptionTable := #[], attributes := #[] }
def k18m7 : Method := { name := "siftUp", desc := "(I)V", sig := { parameters := [.int], returnType := none }, accessFlags := 2, code := some k18c7 }
def k18c8 : Code := { maxStack := 5, maxLocals := 4, code := prog_57_method_9_code, exceptionTable := #[], attributes := #[] }
def k18m8 : Method := { name := "siftDown", desc := "(I)V", sig := { parameters := [.int], returnType := none }, accessFlags := 2, code := some k18c8 }
/-- com/example/lanewright/lanewright/ShortestPathTree -/
def k18 : Class := { plain "com/example/lanewright/lanewright/ShortestPathTree" (some 0) with
  accessFlags := 48
  interfaces := #[]
  cf := some (fileOf pool18 8 #[] #[{ accessFlags := 0, nameIndex := 5, descriptorIndex := 85, attributes := #[] }, { accessFlags := 0, nameIndex := 88, descriptorIndex := 89, attributes := #[] }, { accessFlags := 0, nameIndex := 21, descriptorIndex := 91, attributes := #[] }, { accessFlags := 0, nameIndex := 92, descriptorIndex := 93, attributes := #[] }, { accessFlags := 0, nameIndex := 95, descriptorIndex := 96, attributes := #[] }, { accessFlags := 2, nameIndex := 52, descriptorIndex := 53, attributes := #[] }, { accessFlags := 2, nameIndex := 56, descriptorIndex := 18, attributes := #[] }, { accessFlags := 2, nameIndex := 75, descriptorIndex := 53, attributes := #[] }, { accessFlags := 2, nameIndex := 81, descriptorIndex := 53, attributes := #[] }] 48 2 #[] #[{ accessFlags := 26, nameIndex := 82, descriptorIndex := 49, attributes := #[] }, { accessFlags := 18, nameIndex := 11, descriptorIndex := 12, attributes := #[] }, { accessFlags := 18, nameIndex := 21, descriptorIndex := 22, attributes := #[] }, { accessFlags := 18, nameIndex := 25, descriptorIndex := 26, attributes := #[] }, { accessFlags := 18, nameIndex := 29, descriptorIndex := 26, attributes := #[] }, { accessFlags := 18, nameIndex := 32, descriptorIndex := 26, attributes := #[] }, { accessFlags := 2, nameIndex := 48, descriptorIndex := 49, attributes := #[] }])
  fields := #[{ name := "NO_ARC", type := .int, accessFlags := 26, slot := 0, constantValue := 0 }, { name := "network", type := (.object "com/example/lanewright/lanewright/Network"), accessFlags := 18, slot := 0, constantValue := 0 }, { name := "distance", type := (.array .double), accessFlags := 18, slot := 1, constantValue := 0 }, { name := "predecessorArc", type := (.array .int), accessFlags := 18, slot := 2, constantValue := 0 }, { name := "heap", type := (.array .int), accessFlags := 18, slot := 3, constantValue := 0 }, { name := "position", type := (.array .int), accessFlags := 18, slot := 4, constantValue := 0 }, { name := "heapSize", type := .int, accessFlags := 2, slot := 5, constantValue := 0 }]
  methods := #[k18m0, k18m1, k18m2, k18m3, k18m4, k18m5, k18m6, k18m7, k18m8]
  instanceTypes := #[(.object "com/example/lanewright/lanewright/Network"), (.array .double), (.array .int), (.array .int), (.array .int), .int]
  staticTypes := #[.int]
  resolved := Array.replicate 99 none
  statics := none }

def pool19 : Array CpInfo := pool [(2, .class_ 4), (1, u "java/lang/Object"), (0, u "<init>"), (0, u "()V"), (7, .class_ 16), (1, u "java/util/Arrays"), (57, .class_ 76), (1, u "java/util/Arrays$NaturalOrder"), (36, .class_ 115), (1, u "java/util/Arrays$LegacyMergeSort"), (1, u "Z"), (257, .class_ 376), (0, u "java/util/Arrays$ArrayList"), (68, u "$assertionsDisabled"), (269, u "MIN_ARRAY_SORT_GRAN"), (0, u "I"), (2, u "INSERTIONSORT_THRESHOLD"), (120, u "fill"), (4, u "([II)V"), (8, u "([DD)V"), (120, .class_ 976), (0, u "java/util/Arrays$ArrayItr")] 52

def k19m0 : Method := { name := "<init>", desc := "()V", sig := { parameters := [], returnType := none }, accessFlags := 2, code := none }
def k19c1 : Code := { maxStack := 3, maxLocals := 4, code := jdk_65_method_103_code, exceptionTable := #[], attributes := #[] }
def k19m1 : Method := { name := "fill", desc := "([II)V", sig := { parameters := [(.array .int), .int], returnType := none }, accessFlags := 9, code := some k19c1 }
def k19c2 : Code := { maxStack := 4, maxLocals := 5, code := jdk_65_method_113_code, exceptionTable := #[], attributes := #[] }
def k19m2 : Method := { name := "fill", desc := "([DD)V", sig := { parameters := [(.array .double), .double], returnType := none }, accessFlags := 9, code := some k19c2 }
/-- java/util/Arrays -/
def k19 : Class := { plain "java/util/Arrays" (some 0) with
  accessFlags := 49
  interfaces := #[]
  cf := some (fileOf pool19 14 #[.nestMembers #[975, 375, 113, 74]] #[{ accessFlags := 2, nameIndex := 5, descriptorIndex := 6, attributes := #[] }, { accessFlags := 9, nameIndex := 840, descriptorIndex := 845, attributes := #[] }, { accessFlags := 9, nameIndex := 840, descriptorIndex := 854, attributes := #[] }] 49 2 #[] #[{ accessFlags := 26, nameIndex := 715, descriptorIndex := 716, attributes := #[] }, { accessFlags := 26, nameIndex := 719, descriptorIndex := 716, attributes := #[] }, { accessFlags := 4120, nameIndex := 445, descriptorIndex := 117, attributes := #[] }])
  fields := #[{ name := "MIN_ARRAY_SORT_GRAN", type := .int, accessFlags := 26, slot := 0, constantValue := 0 }, { name := "INSERTIONSORT_THRESHOLD", type := .int, accessFlags := 26, slot := 1, constantValue := 0 }, { name := "$assertionsDisabled", type := .boolean, accessFlags := 4120, slot := 2, constantValue := 0 }]
  methods := #[k19m0, k19m1, k19m2]
  instanceTypes := #[]
  staticTypes := #[.int, .int, .boolean]
  resolved := Array.replicate 1029 none
  statics := none }

/-- the primitive byte -/
def k20 : Class := { plain "byte" none with kind := .primitive 'B', accessFlags := 0x411 }
/-- [B -/
def k21 : Class := { plain "[B" (some 0) with kind := .array 20 .byte, interfaces := #[9, 10], accessFlags := 1041 }

/-- the primitive double -/
def k22 : Class := { plain "double" none with kind := .primitive 'D', accessFlags := 0x411 }
/-- [D -/
def k23 : Class := { plain "[D" (some 0) with kind := .array 22 .double, interfaces := #[9, 10], accessFlags := 1041 }

/-- the primitive int -/
def k24 : Class := { plain "int" none with kind := .primitive 'I', accessFlags := 0x411 }
/-- [I -/
def k25 : Class := { plain "[I" (some 0) with kind := .array 24 .int, interfaces := #[9, 10], accessFlags := 1041 }

/-- [Ljava/lang/Object; -/
def k26 : Class := { plain "[Ljava/lang/Object;" (some 0) with kind := .array 0 (.object "java/lang/Object"), interfaces := #[9, 10], accessFlags := 1041 }

def heap : Heap := #[{ cls := 11, slots := #[.long 0, .int 0, .ref 1, .ref 2], vm := .statics 11 },
  { cls := 26, slots := #[], vm := .none },
  { cls := 26, slots := #[], vm := .none }]
def classes : Array Class := #[k0, k1, k2, k3, k4, k5, k6, k7, k8, k9, k10, k11, k12, k13, k14, k15, k16, k17, k18, k19, k20, k21, k22, k23, k24, k25, k26]
def interned : List (Array UInt16 × Addr) := []
def slotsUsed : Nat := 4
def theMethod : MethodId := ⟨1, 4⟩
def args0 : Array Value := #[.int 1, .int 1, .int 1, .int 1, .int 1]
def aboutOver (below : List Frame) : State where
  vm := { classes := classes, interned := interned.toArray }
  heap := heap
  slotsUsed := slotsUsed
  threads := #[{ frames := .invoking theMethod args0 :: below }]
def below0 : List Frame := [.native { method := ⟨0, 0⟩, args := #[] }]
def about1 : State := aboutOver below0
def p0 : Program := .bare "" "" ""
def e0 : Env := launch0.env 0 0 0
theorem w_frames : about1.frames = Frame.invoking theMethod args0 :: below0 := rfl
set_option maxRecDepth 65536 in
theorem w_args : argsFit about1.vm theMethod args0 = true := by decide +kernel
set_option maxRecDepth 65536 in
theorem w_heap : heapFits about1 = true := by decide +kernel
set_option maxRecDepth 65536 in
theorem w_runnable : about1.curStatus? = some .runnable := by decide +kernel
set_option maxRecDepth 65536 in
theorem w_alone : about1.alone = true := by decide +kernel
set_option maxRecDepth 65536 in
theorem w_named : about1.methodNamed? x = some theMethod := by decide +kernel
set_option maxRecDepth 65536 in
theorem w_hears : about1.hears theMethod below0 = true := by decide +kernel
set_option maxRecDepth 65536 in
theorem w_ripe : about1.ripe theMethod args0 below0 = true := by decide +kernel
theorem w_running : about1.status = .running := rfl
set_option maxRecDepth 65536 in
theorem w_room : about1.hasRoom e0.platform room_1 = true :=
  launch0.hasRoom_least _ room_1 (by decide +kernel) (by decide +kernel) (by decide +kernel) (by decide +kernel) (by decide +kernel) (by decide +kernel)
theorem allAtoms_all (ts : List Jvm.Cond) (a : Array Jvm.Value) (st : Jvm.State) : (allAtoms ts).before a st = ts.all (fun c => c.before a st) := by
  induction ts with
  | nil => rfl
  | cons c t ih =>
    show (Jvm.Cond.and c (allAtoms t)).before a st = _
    rw [Jvm.Cond.before_and, ih, List.all_cons]
def words1 : List Jvm.Cond := Jvm.Cond.code x code maxLocals ret :: tables_1
/-- a 'code' word, met by the world's own term for the bytes: nothing is compared byte by byte -/
theorem code_word {y : MethodName} {bytes : ByteArray} {mx : Nat} {rt : Option FieldType} {a : Array Value} {s : State} {m : MethodId} {meth : Method} {c : Code} (h1 : s.methodNamed? y = some m) (h2 : s.vm.method? m = some meth) (h3 : meth.code = some c) (h4 : c.code = bytes)
    (h5 : (c.maxLocals == mx && c.exceptionTable.isEmpty && decide (c.maxStack ≤ mostOperands) && decide (meth.sig.returnType = rt) && !meth.locks && decide (parseMethodDescriptor y.desc = some meth.sig)) = true) : (Jvm.Cond.code y bytes mx rt).before a s = true := by
  simp only [Bool.and_eq_true, beq_iff_eq, Bool.not_eq_true', decide_eq_true_eq] at h5
  obtain ⟨⟨⟨⟨⟨g1, g2⟩, g3⟩, g4⟩, g5⟩, g6⟩ := h5
  simp [Cond.before, Cond.holds, Cond.value, h1, h2, h3, h4, g1, g2, g3, g4, g5, g6]
def isCode : Jvm.Cond → Bool
  | .code _ _ _ _ => true
  | _ => false
theorem all_split {L : List Jvm.Cond} {P : Jvm.Cond → Bool} (h1 : L.all (fun c => isCode c || P c) = true) (h2 : ∀ c ∈ L.filter isCode, P c = true) : L.all P = true := by
  refine List.all_eq_true.mpr fun c hc => ?_
  have h := List.all_eq_true.mp h1 c hc
  rcases Bool.eq_false_or_eq_true (isCode c) with hi | hi
  · exact h2 c (List.mem_filter.mpr ⟨hc, hi⟩)
  · simpa [hi] using h
set_option maxRecDepth 65536 in
theorem w_c0 : (Jvm.Cond.code x code maxLocals ret).before args0 about1 = true := code_word (m := ⟨1, 4⟩) (meth := k1m4) (c := k1c4) (by decide +kernel) rfl rfl rfl (by decide +kernel)
set_option maxRecDepth 65536 in
theorem w_c1 : (Jvm.Cond.code ({ cls := "com/example/lanewright/lanewright/ShortestPathTreeRoutePinLaw", name := "tailOf", desc := "(II)I" } : Jvm.MethodName) method_2_code (2 : Nat) (Option.some Jvm.ClassFile.FieldType.int)).before args0 about1 = true := code_word (m := ⟨1, 1⟩) (meth := k1m1) (c := k1c1) (by decide +kernel) rfl rfl rfl (by decide +kernel)
set_option maxRecDepth 65536 in
theorem w_c2 : (Jvm.Cond.code ({ cls := "com/example/lanewright/lanewright/ShortestPathTreeRoutePinLaw", name := "headOf", desc := "(II)I" } : Jvm.MethodName) method_3_code (2 : Nat) (Option.some Jvm.ClassFile.FieldType.int)).before args0 about1 = true := code_word (m := ⟨1, 2⟩) (meth := k1m2) (c := k1c2) (by decide +kernel) rfl rfl rfl (by decide +kernel)
set_option maxRecDepth 65536 in
theorem w_c3 : (Jvm.Cond.code ({ cls := "java/util/ArrayList", name := "<init>", desc := "()V" } : Jvm.MethodName) jdk_38_method_2_code (1 : Nat) (Option.none : Option Jvm.ClassFile.FieldType)).before args0 about1 = true := code_word (m := ⟨11, 0⟩) (meth := k11m0) (c := k11c0) (by decide +kernel) rfl rfl rfl (by decide +kernel)
set_option maxRecDepth 65536 in
theorem w_c4 : (Jvm.Cond.code ({ cls := "java/util/AbstractList", name := "<init>", desc := "()V" } : Jvm.MethodName) jdk_39_method_1_code (1 : Nat) (Option.none : Option Jvm.ClassFile.FieldType)).before args0 about1 = true := code_word (m := ⟨7, 0⟩) (meth := k7m0) (c := k7c0) (by decide +kernel) rfl rfl rfl (by decide +kernel)
set_option maxRecDepth 65536 in
theorem w_c5 : (Jvm.Cond.code ({ cls := "java/util/AbstractCollection", name := "<init>", desc := "()V" } : Jvm.MethodName) jdk_22_method_1_code (1 : Nat) (Option.none : Option Jvm.ClassFile.FieldType)).before args0 about1 = true := code_word (m := ⟨4, 0⟩) (meth := k4m0) (c := k4c0) (by decide +kernel) rfl rfl rfl (by decide +kernel)
set_option maxRecDepth 65536 in
theorem w_c6 : (Jvm.Cond.code ({ cls := "java/lang/Object", name := "<init>", desc := "()V" } : Jvm.MethodName) object_method_1_code (1 : Nat) (Option.none : Option Jvm.ClassFile.FieldType)).before args0 about1 = true := code_word (m := ⟨0, 0⟩) (meth := k0m0) (c := k0c0) (by decide +kernel) rfl rfl rfl (by decide +kernel)
set_option maxRecDepth 65536 in
theorem w_c7 : (Jvm.Cond.code ({ cls := "com/example/lanewright/lanewright/Network$Arc", name := "<init>", desc := "(IIDDDD)V" } : Jvm.MethodName) prog_30_method_1_code (11 : Nat) (Option.none : Option Jvm.ClassFile.FieldType)).before args0 about1 = true := code_word (m := ⟨13, 0⟩) (meth := k13m0) (c := k13c0) (by decide +kernel) rfl rfl rfl (by decide +kernel)
set_option maxRecDepth 65536 in
theorem w_c8 : (Jvm.Cond.code ({ cls := "java/lang/Record", name := "<init>", desc := "()V" } : Jvm.MethodName) jdk_30_method_1_code (1 : Nat) (Option.none : Option Jvm.ClassFile.FieldType)).before args0 about1 = true := code_word (m := ⟨12, 0⟩) (meth := k12m0) (c := k12c0) (by decide +kernel) rfl rfl rfl (by decide +kernel)
set_option maxRecDepth 65536 in
theorem w_c9 : (Jvm.Cond.code ({ cls := "java/util/ArrayList", name := "add", desc := "(Ljava/lang/Object;)Z" } : Jvm.MethodName) jdk_38_method_25_code (2 : Nat) (Option.some Jvm.ClassFile.FieldType.boolean)).before args0 about1 = true := code_word (m := ⟨11, 7⟩) (meth := k11m7) (c := k11c7) (by decide +kernel) rfl rfl rfl (by decide +kernel)
set_option maxRecDepth 65536 in
theorem w_c10 : (Jvm.Cond.code ({ cls := "java/util/ArrayList", name := "add", desc := "(Ljava/lang/Object;[Ljava/lang/Object;I)V" } : Jvm.MethodName) jdk_38_method_24_code (4 : Nat) (Option.none : Option Jvm.ClassFile.FieldType)).before args0 about1 = true := code_word (m := ⟨11, 6⟩) (meth := k11m6) (c := k11c6) (by decide +kernel) rfl rfl rfl (by decide +kernel)
set_option maxRecDepth 65536 in
theorem w_c11 : (Jvm.Cond.code ({ cls := "java/util/ArrayList", name := "grow", desc := "()[Ljava/lang/Object;" } : Jvm.MethodName) jdk_38_method_7_code (1 : Nat) (Option.some (Jvm.ClassFile.FieldType.array (Jvm.ClassFile.FieldType.object "java/lang/Object")))).before args0 about1 = true := code_word (m := ⟨11, 2⟩) (meth := k11m2) (c := k11c2) (by decide +kernel) rfl rfl rfl (by decide +kernel)
set_option maxRecDepth 65536 in
theorem w_c12 : (Jvm.Cond.code ({ cls := "java/util/ArrayList", name := "grow", desc := "(I)[Ljava/lang/Object;" } : Jvm.MethodName) jdk_38_method_6_code (4 : Nat) (Option.some (Jvm.ClassFile.FieldType.array (Jvm.ClassFile.FieldType.object "java/lang/Object")))).before args0 about1 = true := code_word (m := ⟨11, 1⟩) (meth := k11m1) (c := k11c1) (by decide +kernel) rfl rfl rfl (by decide +kernel)
set_option maxRecDepth 65536 in
theorem w_c13 : (Jvm.Cond.code ({ cls := "java/lang/Math", name := "max", desc := "(II)I" } : Jvm.MethodName) jdk_29_method_65_code (2 : Nat) (Option.some Jvm.ClassFile.FieldType.int)).before args0 about1 = true := code_word (m := ⟨14, 1⟩) (meth := k14m1) (c := k14c1) (by decide +kernel) rfl rfl rfl (by decide +kernel)
set_option maxRecDepth 65536 in
theorem w_c14 : (Jvm.Cond.code ({ cls := "com/example/lanewright/lanewright/Network", name := "<init>", desc := "(IILjava/util/List;)V" } : Jvm.MethodName) prog_29_method_1_code (7 : Nat) (Option.none : Option Jvm.ClassFile.FieldType)).before args0 about1 = true := code_word (m := ⟨15, 0⟩) (meth := k15m0) (c := k15c0) (by decide +kernel) rfl rfl rfl (by decide +kernel)
set_option maxRecDepth 65536 in
theorem w_c15 : (Jvm.Cond.code ({ cls := "java/util/ArrayList", name := "size", desc := "()I" } : Jvm.MethodName) jdk_38_method_8_code (1 : Nat) (Option.some Jvm.ClassFile.FieldType.int)).before args0 about1 = true := code_word (m := ⟨11, 3⟩) (meth := k11m3) (c := k11c3) (by decide +kernel) rfl rfl rfl (by decide +kernel)
set_option maxRecDepth 65536 in
theorem w_c16 : (Jvm.Cond.code ({ cls := "java/util/ArrayList", name := "get", desc := "(I)Ljava/lang/Object;" } : Jvm.MethodName) jdk_38_method_20_code (2 : Nat) (Option.some (Jvm.ClassFile.FieldType.object "java/lang/Object"))).before args0 about1 = true := code_word (m := ⟨11, 5⟩) (meth := k11m5) (c := k11c5) (by decide +kernel) rfl rfl rfl (by decide +kernel)
set_option maxRecDepth 65536 in
theorem w_c17 : (Jvm.Cond.code ({ cls := "java/util/Objects", name := "checkIndex", desc := "(II)I" } : Jvm.MethodName) jdk_31_method_17_code (2 : Nat) (Option.some Jvm.ClassFile.FieldType.int)).before args0 about1 = true := code_word (m := ⟨16, 1⟩) (meth := k16m1) (c := k16c1) (by decide +kernel) rfl rfl rfl (by decide +kernel)
set_option maxRecDepth 65536 in
theorem w_c18 : (Jvm.Cond.code ({ cls := "jdk/internal/util/Preconditions", name := "checkIndex", desc := "(IILjava/util/function/BiFunction;)I" } : Jvm.MethodName) jdk_41_method_11_code (3 : Nat) (Option.some Jvm.ClassFile.FieldType.int)).before args0 about1 = true := code_word (m := ⟨17, 1⟩) (meth := k17m1) (c := k17c1) (by decide +kernel) rfl rfl rfl (by decide +kernel)
set_option maxRecDepth 65536 in
theorem w_c19 : (Jvm.Cond.code ({ cls := "java/util/ArrayList", name := "elementData", desc := "(I)Ljava/lang/Object;" } : Jvm.MethodName) jdk_38_method_18_code (2 : Nat) (Option.some (Jvm.ClassFile.FieldType.object "java/lang/Object"))).before args0 about1 = true := code_word (m := ⟨11, 4⟩) (meth := k11m4) (c := k11c4) (by decide +kernel) rfl rfl rfl (by decide +kernel)
set_option maxRecDepth 65536 in
theorem w_c20 : (Jvm.Cond.code ({ cls := "com/example/lanewright/lanewright/Network$Arc", name := "tail", desc := "()I" } : Jvm.MethodName) prog_30_method_5_code (1 : Nat) (Option.some Jvm.ClassFile.FieldType.int)).before args0 about1 = true := code_word (m := ⟨13, 1⟩) (meth := k13m1) (c := k13c1) (by decide +kernel) rfl rfl rfl (by decide +kernel)
set_option maxRecDepth 65536 in
theorem w_c21 : (Jvm.Cond.code ({ cls := "com/example/lanewright/lanewright/Network$Arc", name := "head", desc := "()I" } : Jvm.MethodName) prog_30_method_6_code (1 : Nat) (Option.some Jvm.ClassFile.FieldType.int)).before args0 about1 = true := code_word (m := ⟨13, 2⟩) (meth := k13m2) (c := k13c2) (by decide +kernel) rfl rfl rfl (by decide +kernel)
set_option maxRecDepth 65536 in
theorem w_c22 : (Jvm.Cond.code ({ cls := "com/example/lanewright/lanewright/Network$Arc", name := "capacity", desc := "()D" } : Jvm.MethodName) prog_30_method_7_code (1 : Nat) (Option.some Jvm.ClassFile.FieldType.double)).before args0 about1 = true := code_word (m := ⟨13, 3⟩) (meth := k13m3) (c := k13c3) (by decide +kernel) rfl rfl rfl (by decide +kernel)
set_option maxRecDepth 65536 in
theorem w_c23 : (Jvm.Cond.code ({ cls := "com/example/lanewright/lanewright/Network$Arc", name := "freeFlowTime", desc := "()D" } : Jvm.MethodName) prog_30_method_8_code (1 : Nat) (Option.some Jvm.ClassFile.FieldType.double)).before args0 about1 = true := code_word (m := ⟨13, 4⟩) (meth := k13m4) (c := k13c4) (by decide +kernel) rfl rfl rfl (by decide +kernel)
set_option maxRecDepth 65536 in
theorem w_c24 : (Jvm.Cond.code ({ cls := "com/example/lanewright/lanewright/Network$Arc", name := "b", desc := "()D" } : Jvm.MethodName) prog_30_method_9_code (1 : Nat) (Option.some Jvm.ClassFile.FieldType.double)).before args0 about1 = true := code_word (m := ⟨13, 5⟩) (meth := k13m5) (c := k13c5) (by decide +kernel) rfl rfl rfl (by decide +kernel)
set_option maxRecDepth 65536 in
theorem w_c25 : (Jvm.Cond.code ({ cls := "com/example/lanewright/lanewright/Network$Arc", name := "power", desc := "()D" } : Jvm.MethodName) prog_30_method_10_code (1 : Nat) (Option.some Jvm.ClassFile.FieldType.double)).before args0 about1 = true := code_word (m := ⟨13, 6⟩) (meth := k13m6) (c := k13c6) (by decide +kernel) rfl rfl rfl (by decide +kernel)
set_option maxRecDepth 65536 in
theorem w_c26 : (Jvm.Cond.code ({ cls := "com/example/lanewright/lanewright/ShortestPathTree", name := "<init>", desc := "(Lcom/example/lanewright/lanewright/Network;)V" } : Jvm.MethodName) prog_57_method_1_code (3 : Nat) (Option.none : Option Jvm.ClassFile.FieldType)).before args0 about1 = true := code_word (m := ⟨18, 0⟩) (meth := k18m0) (c := k18c0) (by decide +kernel) rfl rfl rfl (by decide +kernel)
set_option maxRecDepth 65536 in
theorem w_c27 : (Jvm.Cond.code ({ cls := "com/example/lanewright/lanewright/Network", name := "nodeCount", desc := "()I" } : Jvm.MethodName) prog_29_method_2_code (1 : Nat) (Option.some Jvm.ClassFile.FieldType.int)).before args0 about1 = true := code_word (m := ⟨15, 1⟩) (meth := k15m1) (c := k15c1) (by decide +kernel) rfl rfl rfl (by decide +kernel)
set_option maxRecDepth 65536 in
theorem w_c28 : (Jvm.Cond.code ({ cls := "com/example/lanewright/lanewright/ShortestPathTree", name := "build", desc := "(I[D)V" } : Jvm.MethodName) prog_57_method_2_code (9 : Nat) (Option.none : Option Jvm.ClassFile.FieldType)).before args0 about1 = true := code_word (m := ⟨18, 1⟩) (meth := k18m1) (c := k18c1) (by decide +kernel) rfl rfl rfl (by decide +kernel)
set_option maxRecDepth 65536 in
theorem w_c29 : (Jvm.Cond.code ({ cls := "java/util/Arrays", name := "fill", desc := "([DD)V" } : Jvm.MethodName) jdk_65_method_113_code (5 : Nat) (Option.none : Option Jvm.ClassFile.FieldType)).before args0 about1 = true := code_word (m := ⟨19, 2⟩) (meth := k19m2) (c := k19c2) (by decide +kernel) rfl rfl rfl (by decide +kernel)
set_option maxRecDepth 65536 in
theorem w_c30 : (Jvm.Cond.code ({ cls := "java/util/Arrays", name := "fill", desc := "([II)V" } : Jvm.MethodName) jdk_65_method_103_code (4 : Nat) (Option.none : Option Jvm.ClassFile.FieldType)).before args0 about1 = true := code_word (m := ⟨19, 1⟩) (meth := k19m1) (c := k19c1) (by decide +kernel) rfl rfl rfl (by decide +kernel)
set_option maxRecDepth 65536 in
theorem w_c31 : (Jvm.Cond.code ({ cls := "com/example/lanewright/lanewright/ShortestPathTree", name := "push", desc := "(I)V" } : Jvm.MethodName) prog_57_method_6_code (2 : Nat) (Option.none : Option Jvm.ClassFile.FieldType)).before args0 about1 = true := code_word (m := ⟨18, 5⟩) (meth := k18m5) (c := k18c5) (by decide +kernel) rfl rfl rfl (by decide +kernel)
set_option maxRecDepth 65536 in
theorem w_c32 : (Jvm.Cond.code ({ cls := "com/example/lanewright/lanewright/ShortestPathTree", name := "siftUp", desc := "(I)V" } : Jvm.MethodName) prog_57_method_8_code (4 : Nat) (Option.none : Option Jvm.ClassFile.FieldType)).before args0 about1 = true := code_word (m := ⟨18, 7⟩) (meth := k18m7) (c := k18c7) (by decide +kernel) rfl rfl rfl (by decide +kernel)
set_option maxRecDepth 65536 in
theorem w_c33 : (Jvm.Cond.code ({ cls := "com/example/lanewright/lanewright/ShortestPathTree", name := "pop", desc := "()I" } : Jvm.MethodName) prog_57_method_7_code (2 : Nat) (Option.some Jvm.ClassFile.FieldType.int)).before args0 about1 = true := code_word (m := ⟨18, 6⟩) (meth := k18m6) (c := k18c6) (by decide +kernel) rfl rfl rfl (by decide +kernel)
set_option maxRecDepth 65536 in
theorem w_c34 : (Jvm.Cond.code ({ cls := "com/example/lanewright/lanewright/Network", name := "firstOut", desc := "(I)I" } : Jvm.MethodName) prog_29_method_8_code (2 : Nat) (Option.some Jvm.ClassFile.FieldType.int)).before args0 about1 = true := code_word (m := ⟨15, 5⟩) (meth := k15m5) (c := k15c5) (by decide +kernel) rfl rfl rfl (by decide +kernel)
set_option maxRecDepth 65536 in
theorem w_c35 : (Jvm.Cond.code ({ cls := "com/example/lanewright/lanewright/Network", name := "endOut", desc := "(I)I" } : Jvm.MethodName) prog_29_method_9_code (2 : Nat) (Option.some Jvm.ClassFile.FieldType.int)).before args0 about1 = true := code_word (m := ⟨15, 6⟩) (meth := k15m6) (c := k15c6) (by decide +kernel) rfl rfl rfl (by decide +kernel)
set_option maxRecDepth 65536 in
theorem w_c36 : (Jvm.Cond.code ({ cls := "com/example/lanewright/lanewright/ShortestPathTree", name := "distance", desc := "(I)D" } : Jvm.MethodName) prog_57_method_3_code (2 : Nat) (Option.some Jvm.ClassFile.FieldType.double)).before args0 about1 = true := code_word (m := ⟨18, 2⟩) (meth := k18m2) (c := k18c2) (by decide +kernel) rfl rfl rfl (by decide +kernel)
set_option maxRecDepth 65536 in
theorem w_c37 : (Jvm.Cond.code ({ cls := "com/example/lanewright/lanewright/Network", name := "outArc", desc := "(I)I" } : Jvm.MethodName) prog_29_method_10_code (2 : Nat) (Option.some Jvm.ClassFile.FieldType.int)).before args0 about1 = true := code_word (m := ⟨15, 7⟩) (meth := k15m7) (c := k15c7) (by decide +kernel) rfl rfl rfl (by decide +kernel)
set_option maxRecDepth 65536 in
theorem w_c38 : (Jvm.Cond.code ({ cls := "com/example/lanewright/lanewright/Network", name := "head", desc := "(I)I" } : Jvm.MethodName) prog_29_method_6_code (2 : Nat) (Option.some Jvm.ClassFile.FieldType.int)).before args0 about1 = true := code_word (m := ⟨15, 4⟩) (meth := k15m4) (c := k15c4) (by decide +kernel) rfl rfl rfl (by decide +kernel)
set_option maxRecDepth 65536 in
theorem w_c39 : (Jvm.Cond.code ({ cls := "com/example/lanewright/lanewright/Network", name := "firstThruNode", desc := "()I" } : Jvm.MethodName) prog_29_method_3_code (1 : Nat) (Option.some Jvm.ClassFile.FieldType.int)).before args0 about1 = true := code_word (m := ⟨15, 2⟩) (meth := k15m2) (c := k15c2) (by decide +kernel) rfl rfl rfl (by decide +kernel)
set_option maxRecDepth 65536 in
theorem w_c40 : (Jvm.Cond.code ({ cls := "com/example/lanewright/lanewright/ShortestPathTree", name := "route", desc := "(I)[I" } : Jvm.MethodName) prog_57_method_4_code (6 : Nat) (Option.some (Jvm.ClassFile.FieldType.array Jvm.ClassFile.FieldType.int))).before args0 about1 = true := code_word (m := ⟨18, 3⟩) (meth := k18m3) (c := k18c3) (by decide +kernel) rfl rfl rfl (by decide +kernel)
set_option maxRecDepth 65536 in
theorem w_c41 : (Jvm.Cond.code ({ cls := "com/example/lanewright/lanewright/ShortestPathTree", name := "isRoute", desc := "(I[I)Z" } : Jvm.MethodName) prog_57_method_5_code (5 : Nat) (Option.some Jvm.ClassFile.FieldType.boolean)).before args0 about1 = true := code_word (m := ⟨18, 4⟩) (meth := k18m4) (c := k18c4) (by decide +kernel) rfl rfl rfl (by decide +kernel)
set_option maxRecDepth 65536 in
theorem w_c42 : (Jvm.Cond.code ({ cls := "com/example/lanewright/lanewright/ShortestPathTree", name := "siftDown", desc := "(I)V" } : Jvm.MethodName) prog_57_method_9_code (4 : Nat) (Option.none : Option Jvm.ClassFile.FieldType)).before args0 about1 = true := code_word (m := ⟨18, 8⟩) (meth := k18m8) (c := k18c8) (by decide +kernel) rfl rfl rfl (by decide +kernel)
set_option maxRecDepth 65536 in
theorem w_c43 : (Jvm.Cond.code ({ cls := "com/example/lanewright/lanewright/Network", name := "tail", desc := "(I)I" } : Jvm.MethodName) prog_29_method_5_code (2 : Nat) (Option.some Jvm.ClassFile.FieldType.int)).before args0 about1 = true := code_word (m := ⟨15, 3⟩) (meth := k15m3) (c := k15c3) (by decide +kernel) rfl rfl rfl (by decide +kernel)
set_option maxRecDepth 65536 in
theorem w_c44 : (Jvm.Cond.code ({ cls := "com/example/lanewright/lanewright/ShortestPathTreeRoutePinLaw", name := "validArc", desc := "(I)Z" } : Jvm.MethodName) method_4_code (1 : Nat) (Option.some Jvm.ClassFile.FieldType.boolean)).before args0 about1 = true := code_word (m := ⟨1, 3⟩) (meth := k1m3) (c := k1c3) (by decide +kernel) rfl rfl rfl (by decide +kernel)
def codes1 : List Jvm.Cond := [Jvm.Cond.code x code maxLocals ret, Jvm.Cond.code ({ cls := "com/example/lanewright/lanewright/ShortestPathTreeRoutePinLaw", name := "tailOf", desc := "(II)I" } : Jvm.MethodName) method_2_code (2 : Nat) (Option.some Jvm.ClassFile.FieldType.int), Jvm.Cond.code ({ cls := "com/example/lanewright/lanewright/ShortestPathTreeRoutePinLaw", name := "headOf", desc := "(II)I" } : Jvm.MethodName) method_3_code (2 : Nat) (Option.some Jvm.ClassFile.FieldType.int), Jvm.Cond.code ({ cls := "java/util/ArrayList", name := "<init>", desc := "()V" } : Jvm.MethodName) jdk_38_method_2_code (1 : Nat) (Option.none : Option Jvm.ClassFile.FieldType), Jvm.Cond.code ({ cls := "java/util/AbstractList", name := "<init>", desc := "()V" } : Jvm.MethodName) jdk_39_method_1_code (1 : Nat) (Option.none : Option Jvm.ClassFile.FieldType), Jvm.Cond.code ({ cls := "java/util/AbstractCollection", name := "<init>", desc := "()V" } : Jvm.MethodName) jdk_22_method_1_code (1 : Nat) (Option.none : Option Jvm.ClassFile.FieldType), Jvm.Cond.code ({ cls := "java/lang/Object", name := "<init>", desc := "()V" } : Jvm.MethodName) object_method_1_code (1 : Nat) (Option.none : Option Jvm.ClassFile.FieldType), Jvm.Cond.code ({ cls := "com/example/lanewright/lanewright/Network$Arc", name := "<init>", desc := "(IIDDDD)V" } : Jvm.MethodName) prog_30_method_1_code (11 : Nat) (Option.none : Option Jvm.ClassFile.FieldType), Jvm.Cond.code ({ cls := "java/lang/Record", name := "<init>", desc := "()V" } : Jvm.MethodName) jdk_30_method_1_code (1 : Nat) (Option.none : Option Jvm.ClassFile.FieldType), Jvm.Cond.code ({ cls := "java/util/ArrayList", name := "add", desc := "(Ljava/lang/Object;)Z" } : Jvm.MethodName) jdk_38_method_25_code (2 : Nat) (Option.some Jvm.ClassFile.FieldType.boolean), Jvm.Cond.code ({ cls := "java/util/ArrayList", name := "add", desc := "(Ljava/lang/Object;[Ljava/lang/Object;I)V" } : Jvm.MethodName) jdk_38_method_24_code (4 : Nat) (Option.none : Option Jvm.ClassFile.FieldType), Jvm.Cond.code ({ cls := "java/util/ArrayList", name := "grow", desc := "()[Ljava/lang/Object;" } : Jvm.MethodName) jdk_38_method_7_code (1 : Nat) (Option.some (Jvm.ClassFile.FieldType.array (Jvm.ClassFile.FieldType.object "java/lang/Object"))), Jvm.Cond.code ({ cls := "java/util/ArrayList", name := "grow", desc := "(I)[Ljava/lang/Object;" } : Jvm.MethodName) jdk_38_method_6_code (4 : Nat) (Option.some (Jvm.ClassFile.FieldType.array (Jvm.ClassFile.FieldType.object "java/lang/Object"))), Jvm.Cond.code ({ cls := "java/lang/Math", name := "max", desc := "(II)I" } : Jvm.MethodName) jdk_29_method_65_code (2 : Nat) (Option.some Jvm.ClassFile.FieldType.int), Jvm.Cond.code ({ cls := "com/example/lanewright/lanewright/Network", name := "<init>", desc := "(IILjava/util/List;)V" } : Jvm.MethodName) prog_29_method_1_code (7 : Nat) (Option.none : Option Jvm.ClassFile.FieldType), Jvm.Cond.code ({ cls := "java/util/ArrayList", name := "size", desc := "()I" } : Jvm.MethodName) jdk_38_method_8_code (1 : Nat) (Option.some Jvm.ClassFile.FieldType.int), Jvm.Cond.code ({ cls := "java/util/ArrayList", name := "get", desc := "(I)Ljava/lang/Object;" } : Jvm.MethodName) jdk_38_method_20_code (2 : Nat) (Option.some (Jvm.ClassFile.FieldType.object "java/lang/Object")), Jvm.Cond.code ({ cls := "java/util/Objects", name := "checkIndex", desc := "(II)I" } : Jvm.MethodName) jdk_31_method_17_code (2 : Nat) (Option.some Jvm.ClassFile.FieldType.int), Jvm.Cond.code ({ cls := "jdk/internal/util/Preconditions", name := "checkIndex", desc := "(IILjava/util/function/BiFunction;)I" } : Jvm.MethodName) jdk_41_method_11_code (3 : Nat) (Option.some Jvm.ClassFile.FieldType.int), Jvm.Cond.code ({ cls := "java/util/ArrayList", name := "elementData", desc := "(I)Ljava/lang/Object;" } : Jvm.MethodName) jdk_38_method_18_code (2 : Nat) (Option.some (Jvm.ClassFile.FieldType.object "java/lang/Object")), Jvm.Cond.code ({ cls := "com/example/lanewright/lanewright/Network$Arc", name := "tail", desc := "()I" } : Jvm.MethodName) prog_30_method_5_code (1 : Nat) (Option.some Jvm.ClassFile.FieldType.int), Jvm.Cond.code ({ cls := "com/example/lanewright/lanewright/Network$Arc", name := "head", desc := "()I" } : Jvm.MethodName) prog_30_method_6_code (1 : Nat) (Option.some Jvm.ClassFile.FieldType.int), Jvm.Cond.code ({ cls := "com/example/lanewright/lanewright/Network$Arc", name := "capacity", desc := "()D" } : Jvm.MethodName) prog_30_method_7_code (1 : Nat) (Option.some Jvm.ClassFile.FieldType.double), Jvm.Cond.code ({ cls := "com/example/lanewright/lanewright/Network$Arc", name := "freeFlowTime", desc := "()D" } : Jvm.MethodName) prog_30_method_8_code (1 : Nat) (Option.some Jvm.ClassFile.FieldType.double), Jvm.Cond.code ({ cls := "com/example/lanewright/lanewright/Network$Arc", name := "b", desc := "()D" } : Jvm.MethodName) prog_30_method_9_code (1 : Nat) (Option.some Jvm.ClassFile.FieldType.double), Jvm.Cond.code ({ cls := "com/example/lanewright/lanewright/Network$Arc", name := "power", desc := "()D" } : Jvm.MethodName) prog_30_method_10_code (1 : Nat) (Option.some Jvm.ClassFile.FieldType.double), Jvm.Cond.code ({ cls := "com/example/lanewright/lanewright/ShortestPathTree", name := "<init>", desc := "(Lcom/example/lanewright/lanewright/Network;)V" } : Jvm.MethodName) prog_57_method_1_code (3 : Nat) (Option.none : Option Jvm.ClassFile.FieldType), Jvm.Cond.code ({ cls := "com/example/lanewright/lanewright/Network", name := "nodeCount", desc := "()I" } : Jvm.MethodName) prog_29_method_2_code (1 : Nat) (Option.some Jvm.ClassFile.FieldType.int), Jvm.Cond.code ({ cls := "com/example/lanewright/lanewright/ShortestPathTree", name := "build", desc := "(I[D)V" } : Jvm.MethodName) prog_57_method_2_code (9 : Nat) (Option.none : Option Jvm.ClassFile.FieldType), Jvm.Cond.code ({ cls := "java/util/Arrays", name := "fill", desc := "([DD)V" } : Jvm.MethodName) jdk_65_method_113_code (5 : Nat) (Option.none : Option Jvm.ClassFile.FieldType), Jvm.Cond.code ({ cls := "java/util/Arrays", name := "fill", desc := "([II)V" } : Jvm.MethodName) jdk_65_method_103_code (4 : Nat) (Option.none : Option Jvm.ClassFile.FieldType), Jvm.Cond.code ({ cls := "com/example/lanewright/lanewright/ShortestPathTree", name := "push", desc := "(I)V" } : Jvm.MethodName) prog_57_method_6_code (2 : Nat) (Option.none : Option Jvm.ClassFile.FieldType), Jvm.Cond.code ({ cls := "com/example/lanewright/lanewright/ShortestPathTree", name := "siftUp", desc := "(I)V" } : Jvm.MethodName) prog_57_method_8_code (4 : Nat) (Option.none : Option Jvm.ClassFile.FieldType), Jvm.Cond.code ({ cls := "com/example/lanewright/lanewright/ShortestPathTree", name := "pop", desc := "()I" } : Jvm.MethodName) prog_57_method_7_code (2 : Nat) (Option.some Jvm.ClassFile.FieldType.int), Jvm.Cond.code ({ cls := "com/example/lanewright/lanewright/Network", name := "firstOut", desc := "(I)I" } : Jvm.MethodName) prog_29_method_8_code (2 : Nat) (Option.some Jvm.ClassFile.FieldType.int), Jvm.Cond.code ({ cls := "com/example/lanewright/lanewright/Network", name := "endOut", desc := "(I)I" } : Jvm.MethodName) prog_29_method_9_code (2 : Nat) (Option.some Jvm.ClassFile.FieldType.int), Jvm.Cond.code ({ cls := "com/example/lanewright/lanewright/ShortestPathTree", name := "distance", desc := "(I)D" } : Jvm.MethodName) prog_57_method_3_code (2 : Nat) (Option.some Jvm.ClassFile.FieldType.double), Jvm.Cond.code ({ cls := "com/example/lanewright/lanewright/Network", name := "outArc", desc := "(I)I" } : Jvm.MethodName) prog_29_method_10_code (2 : Nat) (Option.some Jvm.ClassFile.FieldType.int), Jvm.Cond.code ({ cls := "com/example/lanewright/lanewright/Network", name := "head", desc := "(I)I" } : Jvm.MethodName) prog_29_method_6_code (2 : Nat) (Option.some Jvm.ClassFile.FieldType.int), Jvm.Cond.code ({ cls := "com/example/lanewright/lanewright/Network", name := "firstThruNode", desc := "()I" } : Jvm.MethodName) prog_29_method_3_code (1 : Nat) (Option.some Jvm.ClassFile.FieldType.int), Jvm.Cond.code ({ cls := "com/example/lanewright/lanewright/ShortestPathTree", name := "route", desc := "(I)[I" } : Jvm.MethodName) prog_57_method_4_code (6 : Nat) (Option.some (Jvm.ClassFile.FieldType.array Jvm.ClassFile.FieldType.int)), Jvm.Cond.code ({ cls := "com/example/lanewright/lanewright/ShortestPathTree", name := "isRoute", desc := "(I[I)Z" } : Jvm.MethodName) prog_57_method_5_code (5 : Nat) (Option.some Jvm.ClassFile.FieldType.boolean), Jvm.Cond.code ({ cls := "com/example/lanewright/lanewright/ShortestPathTree", name := "siftDown", desc := "(I)V" } : Jvm.MethodName) prog_57_method_9_code (4 : Nat) (Option.none : Option Jvm.ClassFile.FieldType), Jvm.Cond.code ({ cls := "com/example/lanewright/lanewright/Network", name := "tail", desc := "(I)I" } : Jvm.MethodName) prog_29_method_5_code (2 : Nat) (Option.some Jvm.ClassFile.FieldType.int), Jvm.Cond.code ({ cls := "com/example/lanewright/lanewright/ShortestPathTreeRoutePinLaw", name := "validArc", desc := "(I)Z" } : Jvm.MethodName) method_4_code (1 : Nat) (Option.some Jvm.ClassFile.FieldType.boolean)]
set_option maxRecDepth 65536 in
theorem codes_eq : words1.filter isCode = codes1 := rfl
theorem w_codes : ∀ c ∈ words1.filter isCode, c.before args0 about1 = true := by
  rw [codes_eq]
  intro c hc
  simp only [codes1, List.mem_cons, List.not_mem_nil, or_false] at hc
  rcases hc with rfl | rfl | rfl | rfl | rfl | rfl | rfl | rfl | rfl | rfl | rfl | rfl | rfl | rfl | rfl | rfl | rfl | rfl | rfl | rfl | rfl | rfl | rfl | rfl | rfl | rfl | rfl | rfl | rfl | rfl | rfl | rfl | rfl | rfl | rfl | rfl | rfl | rfl | rfl | rfl | rfl | rfl | rfl | rfl | rfl
  · exact w_c0
  · exact w_c1
  · exact w_c2
  · exact w_c3
  · exact w_c4
  · exact w_c5
  · exact w_c6
  · exact w_c7
  · exact w_c8
  · exact w_c9
  · exact w_c10
  · exact w_c11
  · exact w_c12
  · exact w_c13
  · exact w_c14
  · exact w_c15
  · exact w_c16
  · exact w_c17
  · exact w_c18
  · exact w_c19
  · exact w_c20
  · exact w_c21
  · exact w_c22
  · exact w_c23
  · exact w_c24
  · exact w_c25
  · exact w_c26
  · exact w_c27
  · exact w_c28
  · exact w_c29
  · exact w_c30
  · exact w_c31
  · exact w_c32
  · exact w_c33
  · exact w_c34
  · exact w_c35
  · exact w_c36
  · exact w_c37
  · exact w_c38
  · exact w_c39
  · exact w_c40
  · exact w_c41
  · exact w_c42
  · exact w_c43
  · exact w_c44
set_option maxRecDepth 65536 in
theorem w_t1 : (words1.take 24).all (fun c => isCode c || c.before args0 about1) = true := by decide +kernel
set_option maxRecDepth 65536 in
theorem w_t2 : ((words1.drop 24).take 24).all (fun c => isCode c || c.before args0 about1) = true := by decide +kernel
set_option maxRecDepth 65536 in
theorem w_t3 : (((words1.drop 24).drop 24).take 24).all (fun c => isCode c || c.before args0 about1) = true := by decide +kernel
set_option maxRecDepth 65536 in
theorem w_t4 : ((((words1.drop 24).drop 24).drop 24).take 24).all (fun c => isCode c || c.before args0 about1) = true := by decide +kernel
set_option maxRecDepth 65536 in
theorem w_t5 : (((((words1.drop 24).drop 24).drop 24).drop 24).take 24).all (fun c => isCode c || c.before args0 about1) = true := by decide +kernel
set_option maxRecDepth 65536 in
theorem w_t6 : ((((((words1.drop 24).drop 24).drop 24).drop 24).drop 24).take 24).all (fun c => isCode c || c.before args0 about1) = true := by decide +kernel
set_option maxRecDepth 65536 in
theorem w_t7 : (((((((words1.drop 24).drop 24).drop 24).drop 24).drop 24).drop 24).take 24).all (fun c => isCode c || c.before args0 about1) = true := by decide +kernel
set_option maxRecDepth 65536 in
theorem w_t8 : ((((((((words1.drop 24).drop 24).drop 24).drop 24).drop 24).drop 24).drop 24).take 24).all (fun c => isCode c || c.before args0 about1) = true := by decide +kernel
set_option maxRecDepth 65536 in
theorem w_t9 : (((((((((words1.drop 24).drop 24).drop 24).drop 24).drop 24).drop 24).drop 24).drop 24).take 24).all (fun c => isCode c || c.before args0 about1) = true := by decide +kernel
set_option maxRecDepth 65536 in
theorem w_t10 : ((((((((((words1.drop 24).drop 24).drop 24).drop 24).drop 24).drop 24).drop 24).drop 24).drop 24).take 24).all (fun c => isCode c || c.before args0 about1) = true := by decide +kernel
set_option maxRecDepth 65536 in
theorem w_t11 : (((((((((((words1.drop 24).drop 24).drop 24).drop 24).drop 24).drop 24).drop 24).drop 24).drop 24).drop 24).take 24).all (fun c => isCode c || c.before args0 about1) = true := by decide +kernel
set_option maxRecDepth 65536 in
theorem w_t12 : ((((((((((((words1.drop 24).drop 24).drop 24).drop 24).drop 24).drop 24).drop 24).drop 24).drop 24).drop 24).drop 24).take 24).all (fun c => isCode c || c.before args0 about1) = true := by decide +kernel
set_option maxRecDepth 65536 in
theorem w_t13 : ((((((((((((words1.drop 24).drop 24).drop 24).drop 24).drop 24).drop 24).drop 24).drop 24).drop 24).drop 24).drop 24).drop 24).all (fun c => isCode c || c.before args0 about1) = true := by decide +kernel
theorem w_tables : (allAtoms (Jvm.Cond.code x code maxLocals ret :: tables_1)).before args0 about1 = true := by
  rw [allAtoms_all]
  show words1.all (fun c => c.before args0 about1) = true
  refine all_split ?_ w_codes
  rw [← List.take_append_drop 24 words1, List.all_append, w_t1, ← List.take_append_drop 24 (words1.drop 24), List.all_append, w_t2, ← List.take_append_drop 24 ((words1.drop 24).drop 24), List.all_append, w_t3, ← List.take_append_drop 24 (((words1.drop 24).drop 24).drop 24), List.all_append, w_t4, ← List.take_append_drop 24 ((((words1.drop 24).drop 24).drop 24).drop 24), List.all_append, w_t5, ← List.take_append_drop 24 (((((words1.drop 24).drop 24).drop 24).drop 24).drop 24), List.all_append, w_t6, ← List.take_append_drop 24 ((((((words1.drop 24).drop 24).drop 24).drop 24).drop 24).drop 24), List.all_append, w_t7, ← List.take_append_drop 24 (((((((words1.drop 24).drop 24).drop 24).drop 24).drop 24).drop 24).drop 24), List.all_append, w_t8, ← List.take_append_drop 24 ((((((((words1.drop 24).drop 24).drop 24).drop 24).drop 24).drop 24).drop 24).drop 24), List.all_append, w_t9, ← List.take_append_drop 24 (((((((((words1.drop 24).drop 24).drop 24).drop 24).drop 24).drop 24).drop 24).drop 24).drop 24), List.all_append, w_t10, ← List.take_append_drop 24 ((((((((((words1.drop 24).drop 24).drop 24).drop 24).drop 24).drop 24).drop 24).drop 24).drop 24).drop 24), List.all_append, w_t11, ← List.take_append_drop 24 (((((((((((words1.drop 24).drop 24).drop 24).drop 24).drop 24).drop 24).drop 24).drop 24).drop 24).drop 24).drop 24), List.all_append, w_t12, w_t13]
  rfl
set_option maxRecDepth 65536 in
theorem w_rest : rest_1_c.before args0 about1 = true := by decide +kernel
set_option maxRecDepth 65536 in
theorem w_case : (Jvm.Cond.and given_1 narrow_1).before args0 about1 = true := by decide +kernel
theorem w_applies : (headSpec (Jvm.Cond.code x code maxLocals ret :: tables_1) room_1).applies x e0.platform about1 = true :=
  (Spec.applies_iff w_frames).mpr ⟨w_running, w_runnable, w_alone, w_named, w_hears, w_ripe, w_room, w_tables⟩
theorem atStart : AtStart classFile x code maxLocals ret World_1 tables_1 room_1 Calls_1 rest_1 Pre_1 launch0 p0 e0 about1 theMethod args0 below0 :=
  ⟨lists_1, trivial, launch0.admits_env _ _ _, launch0.least_env, fairChoices_fair.cas, fairChoices_fair.clock, w_frames, w_args, w_heap, w_applies, trivial, w_rest, w_case⟩
end start1
theorem witness_1 : WitnessClaimed_1 := ⟨start1.p0, start1.e0, start1.about1, start1.theMethod, start1.args0, start1.below0, start1.atStart⟩
end Jvm.Pilot.@@N@@
