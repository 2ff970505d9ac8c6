import JvmDerived
import JvmDerived.Pilot.@@N@@Statement
import JvmDerived.Pilot.@@N@@Code
set_option linter.unusedVariables false
set_option linter.unusedSimpArgs false

namespace Jvm.OwnKit
open Sem ClassFile Op Lib Jvm.Stand Jvm.Free Jvm.LawKit Jvm.RoadKit Jvm.Free.Fl
/-- what is left to show of a run: from U it ends and returns, with E of the value, the end and the places written -/
def Goes (p : Program) (e : Env) (below : List Frame) (E : Option Value → State → List Loc → Prop) (U : State) : Prop :=
  ∃ s₂ v L, Steps p.tables e below U s₂ ∧ s₂.status = .running ∧ Ended s₂ below (.returned v) ∧ E v s₂ L
/-- the common end: nothing below n0 is written, Q holds of the value and the heap, the frame is k cells and j slots -/
def En (s : State) (n0 k j : Nat) (Q : Option Value → Heap → Prop) (v : Option Value) (s₂ : State) (L : List Loc) : Prop := (Fr n0 L ∧ Q v s₂.heap) ∧ FrameEnd s (.returned v) s₂ L k j
/-- where a walk of the body y stands -/
def Wk (Z : State) (y : MethodName) (bytes : ByteArray) (ml : Nat) (ret : Option FieldType) (n0 : Nat) (p : Program) (l : Launch) (e : Env) (R : Room) (s : State) (m : MethodId) (args : Array Value) (below : List Frame) (meth : Method) (c : Code) (T : State) (kc ks : Nat) : Prop :=
  (p.tables.exec = Jvm.exec ∧ Z.Warmed39 s.vm ∧ s.vm.findClass y.cls = some m.cls ∧ c.code = bytes ∧ c.maxLocals = ml ∧ meth.sig.returnType = ret ∧ meth.locks = false ∧ meth.name = y.name) ∧ ∃ locs, Stand p l e R s m args below meth c T locs kc ks ∧ Fr n0 locs
/-- a body's contract: called with the values as over the heap h0 it returns with Post -/
def Con (l : Launch) (Z : State) (n0 : Nat) (y : MethodName) (ws : List Cond) (bytes : ByteArray) (ml : Nat) (ret : Option FieldType) (rm : Room) (as : Array Value) (h0 : Heap) (Post : Option Value → Heap → Prop) : Prop :=
  MetFree l y (head1 (Cond.code y bytes ml ret :: ws) rm) (fun a U => a = as ∧ Z.Warmed39 U.vm ∧ U.heap = h0) (fun _ _ _ _ _ => True) (fun _ U o U' => ∃ v L, o = .returned v ∧ (Fr n0 L ∧ Post v U'.heap) ∧ FrameEnd U o U' L rm.cells rm.slots)
section Laws
variable {Z : State} {y : MethodName} {bytes : ByteArray} {ml : Nat} {ret : Option FieldType} {n0 : Nat} {p : Program} {l : Launch} {e : Env} {R : Room} {s : State} {m : MethodId} {args : Array Value} {below : List Frame} {meth : Method} {c : Code} {T : State} {kc ks k j : Nat} {Q : Option Value → Heap → Prop} {E : Option Value → State → List Loc → Prop} {pc pc' : Nat} {ls : Array Slot} {st : List Value} {a0 : Array Value}
theorem Goes.back {U U' : State} (g : Goes p e below E U') (h : ∀ t, Steps p.tables e below U' t → Steps p.tables e below U t) : Goes p e below E U := by
  obtain ⟨s₂, v, L, h1, h2⟩ := g; exact ⟨s₂, v, L, h _ h1, h2⟩
theorem Goes.mono {U : State} {E' : Option Value → State → List Loc → Prop} (g : Goes p e below E U) (h : ∀ v t L, E v t L → E' v t L) : Goes p e below E' U := by
  obtain ⟨s₂, v, L, h1, h2, h3, h4⟩ := g; exact ⟨s₂, v, L, h1, h2, h3, h _ _ _ h4⟩
theorem Con.mono {ws : List Cond} {rm : Room} {as : Array Value} {h0 : Heap} {Post Post' : Option Value → Heap → Prop} (C : Con l Z n0 y ws bytes ml ret rm as h0 Post) (h : ∀ v h, Post v h → Post' v h) : Con l Z n0 y ws bytes ml ret rm as h0 Post' := by
  intro p e ha hc hk s m args below hf happ hP hK
  obtain ⟨a, b, h1, h2, h3, v, L, h4, ⟨h5, h6⟩, h7⟩ := C p e ha hc hk s m args below hf happ hP hK
  exact ⟨a, b, h1, h2, h3, v, L, h4, ⟨h5, h _ _ h6⟩, h7⟩

theorem Wk.hx (W : Wk Z y bytes ml ret n0 p l e R s m args below meth c T kc ks) : p.tables.exec = Jvm.exec := W.1.1
theorem Wk.hZ (W : Wk Z y bytes ml ret n0 p l e R s m args below meth c T kc ks) : Z.Warmed39 s.vm := W.1.2.1
theorem Wk.hown (W : Wk Z y bytes ml ret n0 p l e R s m args below meth c T kc ks) : s.vm.findClass y.cls = some m.cls := W.1.2.2.1
theorem Wk.hby (W : Wk Z y bytes ml ret n0 p l e R s m args below meth c T kc ks) : c.code = bytes := W.1.2.2.2.1
theorem Wk.hml (W : Wk Z y bytes ml ret n0 p l e R s m args below meth c T kc ks) : c.maxLocals = ml := W.1.2.2.2.2.1
theorem Wk.hret (W : Wk Z y bytes ml ret n0 p l e R s m args below meth c T kc ks) : meth.sig.returnType = ret := W.1.2.2.2.2.2.1
theorem Wk.hlk (W : Wk Z y bytes ml ret n0 p l e R s m args below meth c T kc ks) : meth.locks = false := W.1.2.2.2.2.2.2.1
theorem Wk.hnm (W : Wk Z y bytes ml ret n0 p l e R s m args below meth c T kc ks) : meth.name = y.name := W.1.2.2.2.2.2.2.2
theorem Wk.here (W : Wk Z y bytes ml ret n0 p l e R s m args below meth c T kc ks) : At T m c below := by obtain ⟨_, _, X, _⟩ := W; exact X.here
theorem g_iloadN (W : Wk Z y bytes ml ret n0 p l e R s m args below meth c T kc ks) {i : Fin 4} {v : Int32} (hd : decode bytes pc = .ok (.iload_n i, 1)) (hpc : pc + 1 = pc') (hl : ls[i.val]? = some (.val (.int v))) (K : Goes p e below E (T.setTop (mkF m pc' ls (.int v :: st)))) : Goes p e below E (T.setTop (mkF m pc ls st)) := by
  subst hpc; exact K.back fun _ r => XS.iloadN W.here W.hx rfl (hb W.hby hd) hl r
theorem g_iload (W : Wk Z y bytes ml ret n0 p l e R s m args below meth c T kc ks) {i : Nat} {v : Int32} (hd : decode bytes pc = .ok (.iload i, 2)) (hpc : pc + 2 = pc') (hl : ls[i]? = some (.val (.int v))) (K : Goes p e below E (T.setTop (mkF m pc' ls (.int v :: st)))) : Goes p e below E (T.setTop (mkF m pc ls st)) := by
  subst hpc; exact K.back fun _ r => XS.iload W.here W.hx rfl (hb W.hby hd) hl r
theorem g_lloadN (W : Wk Z y bytes ml ret n0 p l e R s m args below meth c T kc ks) {i : Fin 4} {v : Int64} (hd : decode bytes pc = .ok (.lload_n i, 1)) (hpc : pc + 1 = pc') (hl : ls[i.val]? = some (.val (.long v))) (K : Goes p e below E (T.setTop (mkF m pc' ls (.long v :: st)))) : Goes p e below E (T.setTop (mkF m pc ls st)) := by
  subst hpc; exact K.back fun _ r => XT.lloadN W.here W.hx rfl (hb W.hby hd) hl r
theorem g_lload (W : Wk Z y bytes ml ret n0 p l e R s m args below meth c T kc ks) {i : Nat} {v : Int64} (hd : decode bytes pc = .ok (.lload i, 2)) (hpc : pc + 2 = pc') (hl : ls[i]? = some (.val (.long v))) (K : Goes p e below E (T.setTop (mkF m pc' ls (.long v :: st)))) : Goes p e below E (T.setTop (mkF m pc ls st)) := by
  subst hpc; exact K.back fun _ r => XT.lload W.here W.hx rfl (hb W.hby hd) hl r
theorem g_dloadN (W : Wk Z y bytes ml ret n0 p l e R s m args below meth c T kc ks) {i : Fin 4} {v : UInt64} (hd : decode bytes pc = .ok (.dload_n i, 1)) (hpc : pc + 1 = pc') (hl : ls[i.val]? = some (.val (.double v))) (K : Goes p e below E (T.setTop (mkF m pc' ls (.double v :: st)))) : Goes p e below E (T.setTop (mkF m pc ls st)) := by
  subst hpc; exact K.back fun _ r => XS.dloadN W.here W.hx rfl (hb W.hby hd) hl r
theorem g_dload (W : Wk Z y bytes ml ret n0 p l e R s m args below meth c T kc ks) {i : Nat} {v : UInt64} (hd : decode bytes pc = .ok (.dload i, 2)) (hpc : pc + 2 = pc') (hl : ls[i]? = some (.val (.double v))) (K : Goes p e below E (T.setTop (mkF m pc' ls (.double v :: st)))) : Goes p e below E (T.setTop (mkF m pc ls st)) := by
  subst hpc; exact K.back fun _ r => XS.dload W.here W.hx rfl (hb W.hby hd) hl r
theorem g_aloadN (W : Wk Z y bytes ml ret n0 p l e R s m args below meth c T kc ks) {i : Fin 4} {v : Value} (hd : decode bytes pc = .ok (.aload_n i, 1)) (hpc : pc + 1 = pc') (hl : ls[i.val]? = some (.val v)) (hv : v.isRef = true) (K : Goes p e below E (T.setTop (mkF m pc' ls (v :: st)))) : Goes p e below E (T.setTop (mkF m pc ls st)) := by
  subst hpc; exact K.back fun _ r => XS.aloadN W.here W.hx rfl (hb W.hby hd) hl hv r
theorem g_aload (W : Wk Z y bytes ml ret n0 p l e R s m args below meth c T kc ks) {i : Nat} {v : Value} (hd : decode bytes pc = .ok (.aload i, 2)) (hpc : pc + 2 = pc') (hl : ls[i]? = some (.val v)) (hv : v.isRef = true) (K : Goes p e below E (T.setTop (mkF m pc' ls (v :: st)))) : Goes p e below E (T.setTop (mkF m pc ls st)) := by
  subst hpc; exact K.back fun _ r => XS.aload W.here W.hx rfl (hb W.hby hd) hl hv r
theorem g_istoreN (W : Wk Z y bytes ml ret n0 p l e R s m args below meth c T kc ks) {i : Fin 4} {v : Int32} {ls' : Array Slot} (hd : decode bytes pc = .ok (.istore_n i, 1)) (hpc : pc + 1 = pc') (hl : storeLocals ls i.val (.int v) = some ls') (K : Goes p e below E (T.setTop (mkF m pc' ls' st))) : Goes p e below E (T.setTop (mkF m pc ls (.int v :: st))) := by
  subst hpc; exact K.back fun _ r => XS.istoreN W.here W.hx rfl (hb W.hby hd) rfl hl r
theorem g_istore (W : Wk Z y bytes ml ret n0 p l e R s m args below meth c T kc ks) {i : Nat} {v : Int32} {ls' : Array Slot} (hd : decode bytes pc = .ok (.istore i, 2)) (hpc : pc + 2 = pc') (hl : storeLocals ls i (.int v) = some ls') (K : Goes p e below E (T.setTop (mkF m pc' ls' st))) : Goes p e below E (T.setTop (mkF m pc ls (.int v :: st))) := by
  subst hpc; exact K.back fun _ r => XS.istore W.here W.hx rfl (hb W.hby hd) rfl hl r
theorem g_lstoreN (W : Wk Z y bytes ml ret n0 p l e R s m args below meth c T kc ks) {i : Fin 4} {v : Int64} {ls' : Array Slot} (hd : decode bytes pc = .ok (.lstore_n i, 1)) (hpc : pc + 1 = pc') (hl : storeLocals ls i.val (.long v) = some ls') (K : Goes p e below E (T.setTop (mkF m pc' ls' st))) : Goes p e below E (T.setTop (mkF m pc ls (.long v :: st))) := by
  subst hpc; exact K.back fun _ r => XT.lstoreN W.here W.hx rfl (hb W.hby hd) rfl hl r
theorem g_lstore (W : Wk Z y bytes ml ret n0 p l e R s m args below meth c T kc ks) {i : Nat} {v : Int64} {ls' : Array Slot} (hd : decode bytes pc = .ok (.lstore i, 2)) (hpc : pc + 2 = pc') (hl : storeLocals ls i (.long v) = some ls') (K : Goes p e below E (T.setTop (mkF m pc' ls' st))) : Goes p e below E (T.setTop (mkF m pc ls (.long v :: st))) := by
  subst hpc; exact K.back fun _ r => XT.lstore W.here W.hx rfl (hb W.hby hd) rfl hl r
theorem g_dstoreN (W : Wk Z y bytes ml ret n0 p l e R s m args below meth c T kc ks) {i : Fin 4} {v : UInt64} {ls' : Array Slot} (hd : decode bytes pc = .ok (.dstore_n i, 1)) (hpc : pc + 1 = pc') (hl : storeLocals ls i.val (.double v) = some ls') (K : Goes p e below E (T.setTop (mkF m pc' ls' st))) : Goes p e below E (T.setTop (mkF m pc ls (.double v :: st))) := by
  subst hpc; exact K.back fun _ r => XS.dstoreN W.here W.hx rfl (hb W.hby hd) rfl hl r
theorem g_dstore (W : Wk Z y bytes ml ret n0 p l e R s m args below meth c T kc ks) {i : Nat} {v : UInt64} {ls' : Array Slot} (hd : decode bytes pc = .ok (.dstore i, 2)) (hpc : pc + 2 = pc') (hl : storeLocals ls i (.double v) = some ls') (K : Goes p e below E (T.setTop (mkF m pc' ls' st))) : Goes p e below E (T.setTop (mkF m pc ls (.double v :: st))) := by
  subst hpc; exact K.back fun _ r => XS.dstore W.here W.hx rfl (hb W.hby hd) rfl hl r
theorem g_astore (W : Wk Z y bytes ml ret n0 p l e R s m args below meth c T kc ks) {i : Nat} {v : Value} {ls' : Array Slot} (hd : decode bytes pc = .ok (.astore i, 2)) (hpc : pc + 2 = pc') (hv : v.isRef = true) (hl : storeLocals ls i v = some ls') (K : Goes p e below E (T.setTop (mkF m pc' ls' st))) : Goes p e below E (T.setTop (mkF m pc ls (v :: st))) := by
  subst hpc; exact K.back fun _ r => XS.astore W.here W.hx rfl (hb W.hby hd) rfl hv hl r
theorem g_iconst (W : Wk Z y bytes ml ret n0 p l e R s m args below meth c T kc ks) {i : Int} {v : Int32} (hd : decode bytes pc = .ok (.iconst i, 1)) (hpc : pc + 1 = pc') (hv : Int32.ofInt i = v) (K : Goes p e below E (T.setTop (mkF m pc' ls (.int v :: st)))) : Goes p e below E (T.setTop (mkF m pc ls st)) := by
  subst hpc; exact K.back fun _ r => XS.iconst W.here W.hx rfl (hb W.hby hd) (by rw [hv]; exact r)
theorem g_bipush (W : Wk Z y bytes ml ret n0 p l e R s m args below meth c T kc ks) {i : Int} {v : Int32} (hd : decode bytes pc = .ok (.bipush i, 2)) (hpc : pc + 2 = pc') (hv : (Int8.ofInt i).toInt32 = v) (K : Goes p e below E (T.setTop (mkF m pc' ls (.int v :: st)))) : Goes p e below E (T.setTop (mkF m pc ls st)) := by
  subst hpc; exact K.back fun _ r => XS.bipush W.here W.hx rfl (hb W.hby hd) (by rw [hv]; exact r)
theorem g_lconst (W : Wk Z y bytes ml ret n0 p l e R s m args below meth c T kc ks) {i : Fin 2} {v : Int64} (hd : decode bytes pc = .ok (.lconst i, 1)) (hpc : pc + 1 = pc') (hv : Int64.ofNat i = v) (K : Goes p e below E (T.setTop (mkF m pc' ls (.long v :: st)))) : Goes p e below E (T.setTop (mkF m pc ls st)) := by
  subst hpc; exact K.back fun _ r => XT.lconst W.here W.hx rfl (hb W.hby hd) (by rw [hv]; exact r)
theorem g_dconst0 (W : Wk Z y bytes ml ret n0 p l e R s m args below meth c T kc ks)  (hd : decode bytes pc = .ok (.dconst 0, 1)) (hpc : pc + 1 = pc')  (K : Goes p e below E (T.setTop (mkF m pc' ls (.double 0 :: st)))) : Goes p e below E (T.setTop (mkF m pc ls st)) := by
  subst hpc; exact K.back fun _ r => XS.dconst0 W.here W.hx rfl (hb W.hby hd) rfl r
theorem g_dconst1 (W : Wk Z y bytes ml ret n0 p l e R s m args below meth c T kc ks)  (hd : decode bytes pc = .ok (.dconst 1, 1)) (hpc : pc + 1 = pc')  (K : Goes p e below E (T.setTop (mkF m pc' ls (.double 4607182418800017408 :: st)))) : Goes p e below E (T.setTop (mkF m pc ls st)) := by
  subst hpc; exact K.back fun _ r => XS.dconst1 W.here W.hx rfl (hb W.hby hd) rfl r
theorem g_iadd (W : Wk Z y bytes ml ret n0 p l e R s m args below meth c T kc ks) {x y0 v : Int32} (hd : decode bytes pc = .ok (.iadd, 1)) (hpc : pc + 1 = pc') (hv : x + y0 = v) (K : Goes p e below E (T.setTop (mkF m pc' ls (.int v :: st)))) : Goes p e below E (T.setTop (mkF m pc ls (.int y0 :: .int x :: st))) := by
  subst hpc; exact K.back fun _ r => XS.iadd W.here W.hx rfl (hb W.hby hd) rfl (by rw [hv]; exact r)
theorem g_isub (W : Wk Z y bytes ml ret n0 p l e R s m args below meth c T kc ks) {x y0 v : Int32} (hd : decode bytes pc = .ok (.isub, 1)) (hpc : pc + 1 = pc') (hv : x - y0 = v) (K : Goes p e below E (T.setTop (mkF m pc' ls (.int v :: st)))) : Goes p e below E (T.setTop (mkF m pc ls (.int y0 :: .int x :: st))) := by
  subst hpc; exact K.back fun _ r => XS.isub W.here W.hx rfl (hb W.hby hd) rfl (by rw [hv]; exact r)
theorem g_iand (W : Wk Z y bytes ml ret n0 p l e R s m args below meth c T kc ks) {x y0 v : Int32} (hd : decode bytes pc = .ok (.iand, 1)) (hpc : pc + 1 = pc') (hv : x &&& y0 = v) (K : Goes p e below E (T.setTop (mkF m pc' ls (.int v :: st)))) : Goes p e below E (T.setTop (mkF m pc ls (.int y0 :: .int x :: st))) := by
  subst hpc; exact K.back fun _ r => XS.iand W.here W.hx rfl (hb W.hby hd) rfl (by rw [hv]; exact r)
theorem g_ior (W : Wk Z y bytes ml ret n0 p l e R s m args below meth c T kc ks) {x y0 v : Int32} (hd : decode bytes pc = .ok (.ior, 1)) (hpc : pc + 1 = pc') (hv : x ||| y0 = v) (K : Goes p e below E (T.setTop (mkF m pc' ls (.int v :: st)))) : Goes p e below E (T.setTop (mkF m pc ls (.int y0 :: .int x :: st))) := by
  subst hpc; exact K.back fun _ r => XT.ior W.here W.hx rfl (hb W.hby hd) rfl (by rw [hv]; exact r)
theorem g_iushr (W : Wk Z y bytes ml ret n0 p l e R s m args below meth c T kc ks) {x y0 v : Int32} (hd : decode bytes pc = .ok (.iushr, 1)) (hpc : pc + 1 = pc') (hv : XT.ushr x y0 = v) (K : Goes p e below E (T.setTop (mkF m pc' ls (.int v :: st)))) : Goes p e below E (T.setTop (mkF m pc ls (.int y0 :: .int x :: st))) := by
  subst hpc; exact K.back fun _ r => XT.iushr W.here W.hx rfl (hb W.hby hd) rfl (by rw [hv]; exact r)
theorem g_ladd (W : Wk Z y bytes ml ret n0 p l e R s m args below meth c T kc ks) {x y0 v : Int64} (hd : decode bytes pc = .ok (.ladd, 1)) (hpc : pc + 1 = pc') (hv : x + y0 = v) (K : Goes p e below E (T.setTop (mkF m pc' ls (.long v :: st)))) : Goes p e below E (T.setTop (mkF m pc ls (.long y0 :: .long x :: st))) := by
  subst hpc; exact K.back fun _ r => XT.ladd W.here W.hx rfl (hb W.hby hd) rfl (by rw [hv]; exact r)
theorem g_lcmp (W : Wk Z y bytes ml ret n0 p l e R s m args below meth c T kc ks) {x y0 : Int64} {v : Int32} (hd : decode bytes pc = .ok (.lcmp, 1)) (hpc : pc + 1 = pc') (hv : XT.cmpL x y0 = v) (K : Goes p e below E (T.setTop (mkF m pc' ls (.int v :: st)))) : Goes p e below E (T.setTop (mkF m pc ls (.long y0 :: .long x :: st))) := by
  subst hpc; exact K.back fun _ r => XT.lcmp W.here W.hx rfl (hb W.hby hd) rfl (by rw [hv]; exact r)
theorem g_i2d (W : Wk Z y bytes ml ret n0 p l e R s m args below meth c T kc ks) {x : Int32} {v : UInt64} (hd : decode bytes pc = .ok (.i2d, 1)) (hpc : pc + 1 = pc') (hv : FP.i2d x = v) (K : Goes p e below E (T.setTop (mkF m pc' ls (.double v :: st)))) : Goes p e below E (T.setTop (mkF m pc ls (.int x :: st))) := by
  subst hpc; exact K.back fun _ r => XS.i2dS W.here W.hx rfl (hb W.hby hd) rfl hv r
theorem g_dcmp (W : Wk Z y bytes ml ret n0 p l e R s m args below meth c T kc ks) {o : CmpOp} {x y0 : UInt64} {v : Int32} (hd : decode bytes pc = .ok (.dcmp o, 1)) (hpc : pc + 1 = pc') (hv : cmpValue (FP.dcmp x y0) o = v) (K : Goes p e below E (T.setTop (mkF m pc' ls (.int v :: st)))) : Goes p e below E (T.setTop (mkF m pc ls (.double y0 :: .double x :: st))) := by
  subst hpc; exact K.back fun _ r => XS.dcmpS W.here W.hx rfl (hb W.hby hd) rfl hv r
theorem g_dadd (W : Wk Z y bytes ml ret n0 p l e R s m args below meth c T kc ks) {x y0 v : UInt64} (hd : decode bytes pc = .ok (.dadd, 1)) (hpc : pc + 1 = pc') (hv : FP.dadd x y0 = v) (hn : NoNaN64 v) (K : Goes p e below E (T.setTop (mkF m pc' ls (.double v :: st)))) : Goes p e below E (T.setTop (mkF m pc ls (.double y0 :: .double x :: st))) := by
  subst hpc; exact K.back fun _ r => XS.daddS W.here W.hx rfl (hb W.hby hd) rfl (by rw [hv]; exact hn) hv r
theorem g_dmul (W : Wk Z y bytes ml ret n0 p l e R s m args below meth c T kc ks) {x y0 v : UInt64} (hd : decode bytes pc = .ok (.dmul, 1)) (hpc : pc + 1 = pc') (hv : FP.dmul x y0 = v) (hn : NoNaN64 v) (K : Goes p e below E (T.setTop (mkF m pc' ls (.double v :: st)))) : Goes p e below E (T.setTop (mkF m pc ls (.double y0 :: .double x :: st))) := by
  subst hpc; exact K.back fun _ r => XS.dmulS W.here W.hx rfl (hb W.hby hd) rfl (by rw [hv]; exact hn) hv r
theorem g_ddiv (W : Wk Z y bytes ml ret n0 p l e R s m args below meth c T kc ks) {x y0 v : UInt64} (hd : decode bytes pc = .ok (.ddiv, 1)) (hpc : pc + 1 = pc') (hv : FP.ddiv x y0 = v) (hn : NoNaN64 v) (K : Goes p e below E (T.setTop (mkF m pc' ls (.double v :: st)))) : Goes p e below E (T.setTop (mkF m pc ls (.double y0 :: .double x :: st))) := by
  subst hpc; exact K.back fun _ r => XS.ddivS W.here W.hx rfl (hb W.hby hd) rfl (by rw [hv]; exact hn) hv r
theorem g_dup (W : Wk Z y bytes ml ret n0 p l e R s m args below meth c T kc ks) {v : Value} (hd : decode bytes pc = .ok (.dup, 1)) (hpc : pc + 1 = pc') (hc : v.category = 1) (K : Goes p e below E (T.setTop (mkF m pc' ls (v :: v :: st)))) : Goes p e below E (T.setTop (mkF m pc ls (v :: st))) := by
  subst hpc; exact K.back fun _ r => XS.dup W.here W.hx rfl (hb W.hby hd) rfl hc r
theorem g_iinc (W : Wk Z y bytes ml ret n0 p l e R s m args below meth c T kc ks) {i : Nat} {d : Int} {x v : Int32} {ls' : Array Slot} (hd : decode bytes pc = .ok (.iinc i d, 3)) (hpc : pc + 3 = pc') (h1 : ls[i]? = some (.val (.int x))) (hv : x + Int32.ofInt d = v) (hl : storeLocals ls i (.int v) = some ls') (K : Goes p e below E (T.setTop (mkF m pc' ls' st))) : Goes p e below E (T.setTop (mkF m pc ls st)) := by
  subst hpc; exact K.back fun _ r => XS.iinc W.here W.hx rfl (hb W.hby hd) h1 (by rw [hv]; exact hl) r
theorem g_idiv (W : Wk Z y bytes ml ret n0 p l e R s m args below meth c T kc ks) {x y0 v : Int32} (hd : decode bytes pc = .ok (.idiv, 1)) (hpc : pc + 1 = pc') (h0 : y0 ≠ 0) (hv : x / y0 = v) (K : Goes p e below E (T.setTop (mkF m pc' ls (.int v :: st)))) : Goes p e below E (T.setTop (mkF m pc ls (.int y0 :: .int x :: st))) := by
  subst hpc; exact K.back fun _ r => XS.idiv W.here W.hx rfl (hb W.hby hd) rfl h0 (by rw [hv]; exact r)
theorem g_irem (W : Wk Z y bytes ml ret n0 p l e R s m args below meth c T kc ks) {x y0 v : Int32} (hd : decode bytes pc = .ok (.irem, 1)) (hpc : pc + 1 = pc') (h0 : y0 ≠ 0) (hv : x - (x / y0) * y0 = v) (K : Goes p e below E (T.setTop (mkF m pc' ls (.int v :: st)))) : Goes p e below E (T.setTop (mkF m pc ls (.int y0 :: .int x :: st))) := by
  subst hpc; exact K.back fun _ r => XS.irem W.here W.hx rfl (hb W.hby hd) rfl h0 (by rw [hv]; exact r)
def cP : ClassFile.Cond → Int32 → Int32 → Prop
  | .eq, x, y => x = y
  | .ne, x, y => ¬ x = y
  | .lt, x, y => x < y
  | .ge, x, y => ¬ x < y
  | .gt, x, y => y < x
  | .le, x, y => ¬ y < x
theorem cP_yes {cd : ClassFile.Cond} {x y : Int32} (h : cP cd x y) : if_icmp.holds cd x y = true := by
  cases cd
  · exact (teq h).1
  · exact (feq h).2
  · exact (tlt h).1
  · exact (flt h).2.1
  · exact (tlt h).2.2.1
  · exact (flt h).2.2.2
theorem cP_no {cd : ClassFile.Cond} {x y : Int32} (h : ¬ cP cd x y) : if_icmp.holds cd x y = false := by
  cases cd
  · exact (feq h).1
  · exact (teq (Classical.not_not.mp h)).2
  · exact (flt h).1
  · exact (tlt (Classical.not_not.mp h)).2.1
  · exact (flt h).2.2.1
  · exact (tlt (Classical.not_not.mp h)).2.2.2
theorem g_goto (W : Wk Z y bytes ml ret n0 p l e R s m args below meth c T kc ks) {o : Int} (hd : decode bytes pc = .ok (.goto o, 3)) (hpc : (pc : Int) + o = (pc' : Nat)) (K : Goes p e below E (T.setTop (mkF m pc' ls st))) : Goes p e below E (T.setTop (mkF m pc ls st)) :=
  K.back fun _ r => XS.goto W.here W.hx rfl (pc0 := pc) (pc' := pc') rfl (hb W.hby hd) (by omega) (by omega) r
theorem g_if (W : Wk Z y bytes ml ret n0 p l e R s m args below meth c T kc ks) {cd : ClassFile.Cond} {x : Int32} {o : Int} {pcy : Nat} (hd : decode bytes pc = .ok (.ifCond cd o, 3)) (hy : (pc : Int) + o = (pcy : Nat)) (hpc : pc + 3 = pc') (KY : cP cd x 0 → Goes p e below E (T.setTop (mkF m pcy ls st))) (KN : ¬ cP cd x 0 → Goes p e below E (T.setTop (mkF m pc' ls st))) : Goes p e below E (T.setTop (mkF m pc ls (.int x :: st))) := by
  subst hpc
  by_cases q : cP cd x 0
  · exact (KY q).back fun _ r => XS.ifYes W.here W.hx rfl (pc0 := pc) (pc' := pcy) rfl (hb W.hby hd) rfl ((if0 _ _).trans (cP_yes q)) (by omega) (by omega) r
  · exact (KN q).back fun _ r => XS.ifNo W.here W.hx rfl (hb W.hby hd) rfl ((if0 _ _).trans (cP_no q)) r
theorem g_icmp (W : Wk Z y bytes ml ret n0 p l e R s m args below meth c T kc ks) {cd : ClassFile.Cond} {x y0 : Int32} {o : Int} {pcy : Nat} (hd : decode bytes pc = .ok (.if_icmp cd o, 3)) (hy : (pc : Int) + o = (pcy : Nat)) (hpc : pc + 3 = pc') (KY : cP cd x y0 → Goes p e below E (T.setTop (mkF m pcy ls st))) (KN : ¬ cP cd x y0 → Goes p e below E (T.setTop (mkF m pc' ls st))) : Goes p e below E (T.setTop (mkF m pc ls (.int y0 :: .int x :: st))) := by
  subst hpc
  by_cases q : cP cd x y0
  · exact (KY q).back fun _ r => XS.icmpYes W.here W.hx rfl (pc0 := pc) (pc' := pcy) rfl (hb W.hby hd) rfl (cP_yes q) (by omega) (by omega) r
  · exact (KN q).back fun _ r => XS.icmpNo W.here W.hx rfl (hb W.hby hd) rfl (cP_no q) r

theorem cmpL_self (x : Int64) : XT.cmpL x x = 0 := by
  show (if x < x then (1 : Int32) else if x = x then 0 else -1) = 0
  rw [if_neg (fun q => by rw [Int64.lt_iff_toInt_lt] at q; omega), if_pos rfl]
/-! ### the ends -/
theorem g_leave (W : Wk Z y bytes ml ret n0 p l e R s m args below meth c T kc ks) {v : Option Value} {U : State} (hv : ret = none → v = none) (hQ : Q v T.heap) (hk : kc ≤ k) (hj : ks ≤ j)
    (st : ∀ fs, (∀ (f : JFrame) (acts : List Action), f.method = m → f.locked = none → f.entered = [] → (doReturn e (T.setTop f) acts v).1 = T.setFrames fs) → Steps p.tables e below U (T.setFrames fs)) : Goes p e below (En s n0 k j Q) U := by
  have hlk := W.hlk
  have hret := W.hret
  obtain ⟨_, locs, X, N⟩ := W
  obtain ⟨fs, hr, hrun, hended, hW, hsame⟩ := X.leave (v := v) (fun q => hv (hret ▸ q)) hlk
  exact ⟨_, v, locs, st fs hr, hrun, hended, ⟨N, hQ⟩, ⟨_, rfl⟩, hW, hsame.mono hk hj⟩
theorem g_return (W : Wk Z y bytes ml none n0 p l e R s m args below meth c T kc ks) (hd : decode bytes pc = .ok (.return_, 1)) (hQ : Q none T.heap) (hk : kc ≤ k) (hj : ks ≤ j) : Goes p e below (En s n0 k j Q) (T.setTop (mkF m pc ls [])) :=
  g_leave W (fun _ => rfl) hQ hk hj fun fs hr => by
    have hret := W.hret
    have hx := W.hx
    have hby := W.hby
    obtain ⟨_, locs, X, N⟩ := W
    exact X.returnOut hx hret (hb hby hd) hr
theorem g_ret {t : FieldType} (W : Wk Z y bytes ml (some t) n0 p l e R s m args below meth c T kc ks) {w : Value} {i : Instr} (hn : narrow t w = w)
    (hi : (i = .ireturn ∧ (t = .int ∨ t = .boolean ∨ t = .byte ∨ t = .char ∨ t = .short) ∧ ∃ z, w = .int z) ∨ (i = .lreturn ∧ t = .long ∧ ∃ z, w = .long z) ∨ (i = .dreturn ∧ t = .double ∧ ∃ z, w = .double z) ∨ (i = .freturn ∧ t = .float ∧ ∃ z, w = .float z) ∨ (i = .areturn ∧ t.isReference = true ∧ w.isRef = true))
    (hd : decode bytes pc = .ok (i, 1)) (hQ : Q (some w) T.heap) (hk : kc ≤ k) (hj : ks ≤ j) : Goes p e below (En s n0 k j Q) (T.setTop (mkF m pc ls (w :: st))) :=
  g_leave W (fun q => nomatch q) hQ hk hj fun fs hr => by
    have hret := W.hret
    have hx := W.hx
    have hby := W.hby
    obtain ⟨_, locs, X, N⟩ := W
    exact retOut X hx hret hn hi (hb hby hd) hr
theorem g_ireturn (W : Wk Z y bytes ml (some .int) n0 p l e R s m args below meth c T kc ks) {x : Int32} (hd : decode bytes pc = .ok (.ireturn, 1)) (hQ : Q (some (.int x)) T.heap) (hk : kc ≤ k) (hj : ks ≤ j) : Goes p e below (En s n0 k j Q) (T.setTop (mkF m pc ls (.int x :: st))) :=
  g_ret W rfl (Or.inl ⟨rfl, Or.inl rfl, _, rfl⟩) hd hQ hk hj
theorem g_zreturn (W : Wk Z y bytes ml (some .boolean) n0 p l e R s m args below meth c T kc ks) {x : Int32} (h01 : x &&& 1 = x) (hd : decode bytes pc = .ok (.ireturn, 1)) (hQ : Q (some (.int x)) T.heap) (hk : kc ≤ k) (hj : ks ≤ j) : Goes p e below (En s n0 k j Q) (T.setTop (mkF m pc ls (.int x :: st))) :=
  g_ret W (by show Value.int (x &&& 1) = _; rw [h01]) (Or.inl ⟨rfl, Or.inr (Or.inl rfl), _, rfl⟩) hd hQ hk hj
theorem g_lreturn (W : Wk Z y bytes ml (some .long) n0 p l e R s m args below meth c T kc ks) {x : Int64} (hd : decode bytes pc = .ok (.lreturn, 1)) (hQ : Q (some (.long x)) T.heap) (hk : kc ≤ k) (hj : ks ≤ j) : Goes p e below (En s n0 k j Q) (T.setTop (mkF m pc ls (.long x :: st))) :=
  g_ret W rfl (Or.inr (Or.inl ⟨rfl, rfl, _, rfl⟩)) hd hQ hk hj
theorem g_dreturn (W : Wk Z y bytes ml (some .double) n0 p l e R s m args below meth c T kc ks) {x : UInt64} (hd : decode bytes pc = .ok (.dreturn, 1)) (hQ : Q (some (.double x)) T.heap) (hk : kc ≤ k) (hj : ks ≤ j) : Goes p e below (En s n0 k j Q) (T.setTop (mkF m pc ls (.double x :: st))) :=
  g_ret W rfl (Or.inr (Or.inr (Or.inl ⟨rfl, rfl, _, rfl⟩))) hd hQ hk hj
/-! ### the head of a body -/
theorem con_of {ws : List Cond} {rm : Room} {as : Array Value} {h0 : Heap} {Post : Option Value → Heap → Prop} (hpn : plainFor y = true)
    (body : ∀ (p : Program) (e : Env) (s : State) (m : MethodId) (below : List Frame) (meth : Method) (c : Code) (T : State), Wk Z y bytes ml ret n0 p l e rm s m as below meth c T 0 0 → T.heap = h0 → Goes p e below (En s n0 rm.cells rm.slots Post) (T.setTop (entryFrame m as ml))) :
    Con l Z n0 y ws bytes ml ret rm as h0 Post := by
  refine MetFree.of_bodySF hpn hisR ?_
  intro p e s m args below meth c s₁ Bd hml0 hP hK
  obtain ⟨rfl, hZ, hh⟩ := hP
  obtain ⟨s₂, v, L, g1, g2, g3, g4, g5⟩ := body p e s m below meth c s₁ ⟨⟨Bd.exec, hZ, findClass_of_methodNamed Bd.named, Bd.bytes, hml0, Bd.returns, Bd.notSynchronized, (name_of_methodNamed Bd.named Bd.method).1⟩, [], Stand.of_body Bd, Fr.nil n0⟩ (by rw [← hh, Bd.state]; rfl)
  exact ⟨s₂, _, g1, g2, g3, v, L, rfl, g4, g5⟩
theorem g_cast {g g' : JFrame} (q : g = g') (K : Goes p e below E (T.setTop g')) : Goes p e below E (T.setTop g) := q ▸ K
/-! ### constants of the pool -/
theorem g_ldc2Long (W : Wk Z y bytes ml ret n0 p l e R s m args below meth c T kc ks) {ix : Nat} {v : Int64} (w : (Cond.constantLong y.cls ix v).before a0 Z = true) (hd : decode bytes pc = .ok (.ldc2_w ix, 3)) (hpc : pc + 3 = pc') (K : Goes p e below E (T.setTop (mkF m pc' ls (.long v :: st)))) : Goes p e below E (T.setTop (mkF m pc ls st)) := by
  subst hpc
  have hx := W.hx; have hby := W.hby; have hown := W.hown; have hZ := W.hZ
  obtain ⟨_, locs, X, N⟩ := W
  exact K.back fun _ r => X.ldc2Long hx hown (mvT hZ w) (g := mkF m pc ls st) rfl (hb hby hd) _ r
theorem g_ldc2Double (W : Wk Z y bytes ml ret n0 p l e R s m args below meth c T kc ks) {ix : Nat} {v : UInt64} (w : (Cond.constantDouble y.cls ix v).before a0 Z = true) (hd : decode bytes pc = .ok (.ldc2_w ix, 3)) (hpc : pc + 3 = pc') (K : Goes p e below E (T.setTop (mkF m pc' ls (.double v :: st)))) : Goes p e below E (T.setTop (mkF m pc ls st)) := by
  subst hpc
  have hx := W.hx; have hby := W.hby; have hown := W.hown; have hZ := W.hZ
  obtain ⟨_, locs, X, N⟩ := W
  exact K.back fun _ r => X.ldc2DoubleC hx hown (mvT hZ w) (g := mkF m pc ls st) rfl (hb hby hd) _ r
/-! ### the heap: a list of places, each with what its cell is -/
abbrev HRow := Addr × (Cell → Prop)
/-- what was there at the start Z is as it was -/
def Bs (Z : State) (n0 : Nat) (h : Heap) : Prop := n0 ≤ h.size ∧ Z.heap.size ≤ n0 ∧ Ext Z.heap h
def Hp (Z : State) (n0 : Nat) (h : Heap) (L : List HRow) : Prop := Bs Z n0 h ∧ (L.map (·.1)).Nodup ∧ ∀ r ∈ L, n0 ≤ r.1 ∧ ∃ c : Cell, h[r.1]? = some c ∧ r.2 c
abbrev FR := String × String × String × Value
def FldC (Z : State) (f : FR) (c : Cell) : Prop := ∃ (cf : ClassId) (k : Class) (i : Nat) (fd : Field), Z.fieldFound? f.1 f.2.1 f.2.2.1 = some (cf, k, i, fd) ∧ fd.isStatic = false ∧ Z.vm.assignable c.cls cf = true ∧ c.slots[fd.slot]? = some f.2.2.2
def ObC (Z : State) (C : String) (fs : List FR) (c : Cell) : Prop :=
  (∃ k : Class, Z.vm.findClass C = some c.cls ∧ Z.vm.classes[c.cls]? = some k ∧ (k.kind = .ordinary → c.slots.size = k.instanceTypes.size)) ∧ c.vm ≠ .unknown ∧ c.vm.isStatics = false ∧ (∀ f ∈ fs, FldC Z f c) ∧ (fs.map fun f => RoadKit.slotOf Z f.1 f.2.1 f.2.2.1).Nodup
def ArC (Z : State) (ty : FieldType) (vs : List Value) (c : Cell) : Prop := Z.isArrayOf c ty ∧ c.vm ≠ .unknown ∧ c.slots = vs.toArray ∧ vs.length < 2 ^ 31
section Heap
variable {h h' : Heap} {L : List HRow} {a : Addr} {P P' : Cell → Prop} {cell : Cell} {i jx : Nat} {C O n d R0 : String} {fs : List FR} {v w : Value} {vs : List Value} {ty : FieldType}
theorem Bs.start : Bs Z Z.heap.size Z.heap := ⟨Nat.le_refl _, Nat.le_refl _, Nat.le_refl _, fun _ _ q => q⟩
theorem Bs.ext (q : Bs Z n0 h) (E : Ext h h') : Bs Z n0 h' := ⟨Nat.le_trans q.1 E.1, q.2.1, Nat.le_trans q.2.2.1 E.1, fun a c r => E.2 a c (q.2.2.2 a c r)⟩
theorem Bs.put (q : Bs Z n0 h) (ha : n0 ≤ a) (c' : Cell) : Bs Z n0 (h.setIfInBounds a c') := by
  refine ⟨by simpa using q.1, q.2.1, by simpa using q.2.2.1, fun x c r => ?_⟩
  have hx := (Array.getElem?_eq_some_iff.mp r).1
  have := q.2.1
  rw [Array.getElem?_setIfInBounds_ne (by omega)]; exact q.2.2.2 x c r
theorem Hp.nil (q : Bs Z n0 h) : Hp Z n0 h [] := ⟨q, List.nodup_nil, fun _ r => nomatch r⟩
theorem Hp.get (H : Hp Z n0 h L) (hi : L[i]? = some (a, P)) : n0 ≤ a ∧ ∃ c : Cell, h[a]? = some c ∧ P c := H.2.2 (a, P) (List.mem_of_getElem? hi)
theorem map_set_same {α β : Type} (f : α → β) : ∀ (L : List α) (i : Nat) (x x' : α), L[i]? = some x → f x' = f x → (L.set i x').map f = L.map f
  | [], _, _, _, h, _ => by simp at h
  | z :: L, 0, x, x', h, e => by simp at h; subst h; simp [e]
  | z :: L, i + 1, x, x', h, e => by simp at h; simp [map_set_same f L i x x' h e]
theorem nodup_inj {α : Type} {l : List α} (h : l.Nodup) {i j : Nat} {x : α} (hi : l[i]? = some x) (hj : l[j]? = some x) : i = j := (List.getElem?_inj (List.getElem?_eq_some_iff.mp hi).1 h).mp (hi.trans hj.symm)
theorem erase_perm {α : Type} : ∀ (L : List α) (i : Nat) (x : α), L[i]? = some x → L.Perm (x :: L.eraseIdx i)
  | [], _, _, h => by simp at h
  | z :: L, 0, x, h => by simp at h; subst h; exact List.Perm.refl _
  | z :: L, i + 1, x, h => by
    simp at h
    exact ((erase_perm L i x h).cons z).trans (List.Perm.swap x z _)
theorem Hp.put (H : Hp Z n0 h L) (hi : L[i]? = some (a, P)) {c' : Cell} (hP : P' c') : Hp Z n0 (h.setIfInBounds a c') (L.set i (a, P')) := by
  obtain ⟨h1, h2, h3⟩ := H
  obtain ⟨q1, c0, q2, -⟩ := Hp.get ⟨h1, h2, h3⟩ hi
  have hlt := (Array.getElem?_eq_some_iff.mp q2).1
  refine ⟨h1.put q1 c', by rw [map_set_same (·.1) L i (a, P) (a, P') hi rfl]; exact h2, fun r hr => ?_⟩
  obtain ⟨jj, hj, hjr⟩ := List.mem_iff_getElem.mp hr
  have hjL : jj < L.length := by simpa using hj
  by_cases e : jj = i
  · subst e
    rw [List.getElem_set_self] at hjr
    subst hjr
    exact ⟨q1, c', by simp [hlt], hP⟩
  · rw [List.getElem_set_ne (Ne.symm e)] at hjr
    have hm : r ∈ L := hjr ▸ List.getElem_mem hjL
    obtain ⟨g1, c1, g2, g3⟩ := h3 r hm
    refine ⟨g1, c1, ?_, g3⟩
    have hne : a ≠ r.1 := fun q => by
      have e1 : (L.map (·.1))[i]? = some a := by rw [List.getElem?_map, hi]; rfl
      have e2 : (L.map (·.1))[jj]? = some a := by rw [List.getElem?_map, List.getElem?_eq_getElem hjL, hjr, q]; rfl
      exact e (nodup_inj h2 e2 e1)
    rw [Array.getElem?_setIfInBounds_ne hne]; exact g2
theorem Hp.push (H : Hp Z n0 h L) (E : Ext h h') {c : Cell} (hc : h'[h.size]? = some c) (hP : P c) : Hp Z n0 h' ((h.size, P) :: L) := by
  refine ⟨H.1.ext E, ?_, fun r hr => ?_⟩
  · rw [List.map_cons, List.nodup_cons]
    refine ⟨fun q => ?_, H.2.1⟩
    obtain ⟨r, hr, e⟩ := List.mem_map.mp q
    obtain ⟨-, c1, g2, -⟩ := H.2.2 r hr
    have := (Array.getElem?_eq_some_iff.mp g2).1
    have e' : r.1 = h.size := e
    rw [e'] at this; exact Nat.lt_irrefl _ this
  · rcases List.mem_cons.mp hr with rfl | hr
    · exact ⟨H.1.1, c, hc, hP⟩
    · obtain ⟨g1, c1, g2, g3⟩ := H.2.2 r hr
      exact ⟨g1, c1, E.2 _ _ g2, g3⟩
theorem Hp.perm {L' : List HRow} (H : Hp Z n0 h L) (q : L.Perm L') : Hp Z n0 h L' := ⟨H.1, (q.map _).nodup_iff.mp H.2.1, fun r hr => H.2.2 r (q.mem_iff.mpr hr)⟩
theorem Hp.front {r : HRow} (H : Hp Z n0 h L) (hi : L[i]? = some r) {L' : List HRow} (hL : r :: L.eraseIdx i = L') : Hp Z n0 h L' := by
  subst hL
  exact H.perm (erase_perm L i r hi)
theorem Hp.imp (H : Hp Z n0 h L) (hi : L[i]? = some (a, P)) (q : ∀ c, P c → P' c) : Hp Z n0 h (L.set i (a, P')) := by
  obtain ⟨q1, c0, q2, q3⟩ := H.get hi
  have := H.put hi (q c0 q3)
  have e : h.setIfInBounds a c0 = h := by
    apply Array.ext_getElem?; intro x
    by_cases z : a = x
    · subst z; simp [(Array.getElem?_eq_some_iff.mp q2).1, ← q2]
    · rw [Array.getElem?_setIfInBounds_ne z]
  rw [e] at this; exact this
theorem Hp.ne (H : Hp Z n0 h L) {b : Addr} (hi : L[i]? = some (a, P)) (hj : L[jx]? = some (b, P')) (hne : i ≠ jx) : a ≠ b := fun q => by
  have e1 : (L.map (·.1))[i]? = some a := by rw [List.getElem?_map, hi]; rfl
  have e2 : (L.map (·.1))[jx]? = some a := by rw [List.getElem?_map, hj, q]; rfl
  exact hne (nodup_inj H.2.1 e1 e2)
theorem FldC.fld {f : FR} (F : FldC Z f cell) (hc : h[a]? = some cell) (hu : cell.vm ≠ .unknown) (hst : cell.vm.isStatics = false) : Fld Z h a f.1 f.2.1 f.2.2.1 f.2.2.2 := by
  obtain ⟨cf, k, i, fd, h1, h2, h3, h4⟩ := F
  exact ⟨cell, cf, k, i, fd, hc, h1, h2, hu, hst, h3, h4⟩
theorem ObC.exa (F : ObC Z C fs cell) (hc : h[a]? = some cell) : Exa Z h a C := by
  obtain ⟨⟨k, h1, h2, h3⟩, h4, h5, -⟩ := F
  exact ⟨cell, k, hc, h1, h2, h5, h3⟩
theorem ObC.put (F : ObC Z C fs cell) (hj : fs[jx]? = some (O, n, d, v)) : ObC Z C (fs.set jx (O, n, d, w)) (cell.setSlot (RoadKit.slotOf Z O n d) w) := by
  obtain ⟨⟨k, h1, h2, h3⟩, h4, h5, h6, h7⟩ := F
  refine ⟨⟨k, h1, h2, fun q => by rw [sz_set]; exact h3 q⟩, h4, h5, fun f hf => ?_, by rw [map_set_same (fun f : FR => RoadKit.slotOf Z f.1 f.2.1 f.2.2.1) fs jx (O, n, d, v) (O, n, d, w) hj rfl]; exact h7⟩
  obtain ⟨hjL, hjE⟩ := List.getElem?_eq_some_iff.mp hj
  obtain ⟨ii, hi, hie⟩ := List.mem_iff_getElem.mp hf
  have hiL : ii < fs.length := by simpa using hi
  by_cases e : ii = jx
  · subst e
    rw [List.getElem_set_self] at hie
    subst hie
    obtain ⟨cf, kf, i, fd, g1, g2, g3, g4⟩ := h6 _ (hjE ▸ List.getElem_mem hjL)
    refine ⟨cf, kf, i, fd, g1, g2, g3, ?_⟩
    have es : RoadKit.slotOf Z O n d = fd.slot := by simp only [RoadKit.slotOf]; rw [show Z.fieldFound? O n d = _ from g1]; rfl
    have hlt := (Array.getElem?_eq_some_iff.mp g4).1
    simp [Cell.setSlot, es, hlt]
  · rw [List.getElem_set_ne (Ne.symm e)] at hie
    have hm : f ∈ fs := hie ▸ List.getElem_mem hiL
    obtain ⟨cf, kf, i, fd, g1, g2, g3, g4⟩ := h6 f hm
    refine ⟨cf, kf, i, fd, g1, g2, g3, ?_⟩
    have es : RoadKit.slotOf Z f.1 f.2.1 f.2.2.1 = fd.slot := by simp only [RoadKit.slotOf]; rw [g1]; rfl
    have hne : RoadKit.slotOf Z O n d ≠ fd.slot := fun q => by
      have e1 : (fs.map fun f => RoadKit.slotOf Z f.1 f.2.1 f.2.2.1)[jx]? = some fd.slot := by rw [List.getElem?_map, hj, ← q]; rfl
      have e2 : (fs.map fun f => RoadKit.slotOf Z f.1 f.2.1 f.2.2.1)[ii]? = some fd.slot := by rw [List.getElem?_map, List.getElem?_eq_getElem hiL, hie, ← es]; rfl
      exact e (nodup_inj h7 e2 e1)
    show (cell.slots.setIfInBounds _ w)[fd.slot]? = _
    rw [Array.getElem?_setIfInBounds_ne hne]; exact g4
/-- what a class's layout words give: each field laid, its first value, the names apart -/
def LaidAll (Z : State) (a0 : Array Value) (C : String) (fs : List FR) : Prop := ∀ f ∈ fs, Laid Z a0 C f.1 f.2.1 f.2.2.1 ∧ ∃ t, parseFieldDescriptor f.2.2.1 = some t ∧ f.2.2.2 = defaultValue t
theorem LaidAll.nil : LaidAll Z a0 C [] := fun _ q => nomatch q
theorem LaidAll.cons {t : FieldType} (q : Laid Z a0 C O n d) (ht : parseFieldDescriptor d = some t) (hv : v = defaultValue t) (r : LaidAll Z a0 C fs) : LaidAll Z a0 C ((O, n, d, v) :: fs) := fun f hf => by
  rcases List.mem_cons.mp hf with rfl | hf
  · exact ⟨q, t, ht, hv⟩
  · exact r f hf
theorem LaidAll.slots (H : LaidAll Z a0 C fs) (q : (fs.map (·.2.1)).Nodup) : (fs.map fun f => RoadKit.slotOf Z f.1 f.2.1 f.2.2.1).Nodup := by
  induction fs with
  | nil => exact List.nodup_nil
  | cons f fs ih =>
    rw [List.map_cons, List.nodup_cons] at q ⊢
    refine ⟨fun z => ?_, ih (fun x hx => H x (List.mem_cons_of_mem _ hx)) q.2⟩
    obtain ⟨g, hg, e⟩ := List.mem_map.mp z
    obtain ⟨L1, t1, p1, -⟩ := H f (List.mem_cons_self ..)
    obtain ⟨L2, t2, p2, -⟩ := H g (List.mem_cons_of_mem _ hg)
    exact slot_ne L2 L1 (fun u => q.1 (List.mem_map.mpr ⟨g, hg, u⟩)) p2 p1 e
/-! ### the steps that read or write it -/
theorem g_getf (W : Wk Z y bytes ml ret n0 p l e R s m args below meth c T kc ks) {ix : Nat} (w : (Cond.fieldLink y.cls ix R0 n d).before a0 Z = true) (via : Via Z R0 O n d) (H : Hp Z n0 T.heap L) (hi : L[i]? = some (a, ObC Z C fs)) (hj : fs[jx]? = some (O, n, d, v)) (hd : decode bytes pc = .ok (.getfield ix, 3)) (hpc : pc + 3 = pc')
    (K : ∀ T', Wk Z y bytes ml ret n0 p l e R s m args below meth c T' kc ks → Hp Z n0 T'.heap L → Goes p e below E (T'.setTop (mkF m pc' ls (v :: st)))) : Goes p e below E (T.setTop (mkF m pc ls (.ref a :: st))) := by
  subst hpc
  have hx := W.hx; have hby := W.hby; have hown := W.hown; have hZ := W.hZ
  obtain ⟨A, locs, X, N⟩ := W
  obtain ⟨-, cl, q1, q2⟩ := H.get hi
  have F := (q2.2.2.2.1 _ (List.mem_of_getElem? hj)).fld q1 q2.2.1 q2.2.2.1
  obtain ⟨T', X', e', st'⟩ := getF X hx hZ hown (host := "") (Or.inl w) via rfl F (g := mkF m pc ls (.ref a :: st)) rfl rfl (hb hby hd)
  exact (K T' ⟨A, locs, X', N⟩ (e' ▸ H)).back st'
theorem g_putf (W : Wk Z y bytes ml ret n0 p l e R s m args below meth c T kc ks) {ix kk : Nat} (wd : (Cond.fieldLink y.cls ix R0 n d).before a0 Z = true) (via : Via Z R0 O n d) (wl : (Cond.lays C O n d).before a0 Z = true ∨ ((Cond.laysFinal C O n d).before a0 Z = true ∧ y.cls = O ∧ y.name = "<init>")) (wi : (Cond.instantiable C kk).before a0 Z = true) (hty : parseFieldDescriptor d = some ty) (hn : narrow ty w = w) (hf : fits ty w = true)
    (H : Hp Z n0 T.heap L) (hi : L[i]? = some (a, ObC Z C fs)) (hj : fs[jx]? = some (O, n, d, v)) (hd : decode bytes pc = .ok (.putfield ix, 3)) (hpc : pc + 3 = pc') {L' : List HRow} (hL : L.set i (a, ObC Z C (fs.set jx (O, n, d, w))) = L')
    (K : ∀ T', Wk Z y bytes ml ret n0 p l e R s m args below meth c T' kc ks → Hp Z n0 T'.heap L' → Goes p e below E (T'.setTop (mkF m pc' ls st))) : Goes p e below E (T.setTop (mkF m pc ls (w :: .ref a :: st))) := by
  subst hpc hL
  have hx := W.hx; have hby := W.hby; have hown := W.hown; have hZ := W.hZ; have hnm := W.hnm
  obtain ⟨A, locs, X, N⟩ := W
  obtain ⟨hn0, cl, q1, q2⟩ := H.get hi
  have F := (q2.2.2.2.1 _ (List.mem_of_getElem? hj)).fld q1 q2.2.1 q2.2.2.1
  obtain ⟨T', h', X', e', Wr', st'⟩ := putF X hx hZ hown (host := "") (Or.inl wd) via rfl F (q2.exa q1) (wl.imp id fun q => ⟨q.1, q.2.1, hnm.trans q.2.2⟩) wi hty hn hf (g := mkF m pc ls (w :: .ref a :: st)) rfl rfl (hb hby hd)
  obtain ⟨cl', g1, -, -, rfl⟩ := Wr'
  cases q1.symm.trans g1
  exact (K T' ⟨A, _, X', Fr.snoc X' N hn0⟩ (by rw [e']; exact H.put hi (q2.put hj))).back st'
theorem g_new (W : Wk Z y bytes ml ret n0 p l e R s m args below meth c T kc ks) {ix nn : Nat} (w : (Cond.classLink y.cls ix C).before a0 Z = true) (wi : (Cond.instantiable C nn).before a0 Z = true) (wz : (Cond.initialized C).before a0 Z = true) (la : LaidAll Z a0 C fs) (nd : (fs.map (·.2.1)).Nodup) (H : Hp Z n0 T.heap L) (hd : decode bytes pc = .ok (.new ix, 3)) (hpc : pc + 3 = pc')
    {kc' ks' : Nat} (hkc : kc + 1 = kc') (hks : ks + nn = ks') (hc : kc' ≤ R.cells) (hl : ks' ≤ R.slots)
    (K : ∀ T' a, Wk Z y bytes ml ret n0 p l e R s m args below meth c T' kc' ks' → Hp Z n0 T'.heap ((a, ObC Z C fs) :: L) → Goes p e below E (T'.setTop (mkF m pc' ls (.ref a :: st)))) : Goes p e below E (T.setTop (mkF m pc ls st)) := by
  subst hpc hkc hks
  have hx := W.hx; have hby := W.hby; have hown := W.hown; have hZ := W.hZ
  obtain ⟨A, locs, X, N⟩ := W
  obtain ⟨T', h', X', e', E', X1, D, ⟨cell, hcell, hvm, -⟩, st'⟩ := newO X hx hZ hown w wi wz rfl (g := mkF m pc ls st) rfl (hb hby hd) hc hl
  have hob : ObC Z C fs cell := by
    obtain ⟨cell', k', g1, g2, g3, g4, g5⟩ := X1
    cases hcell.symm.trans g1
    refine ⟨⟨k', g2, g3, g5⟩, by rw [hvm]; simp, g4, fun f hf => ?_, la.slots nd⟩
    obtain ⟨Lf, t, ht, hv⟩ := la f hf
    obtain ⟨c2, cf, kf, ii, fd, r1, r2, r3, -, -, r6, r7⟩ := D Lf ht
    cases hcell.symm.trans r1
    exact ⟨cf, kf, ii, fd, r2, r3, r6, by rw [hv]; exact r7⟩
  exact (K T' T.heap.size ⟨A, locs, X', N⟩ (by rw [e']; exact H.push E' hcell hob)).back st'
theorem g_initO (W : Wk Z y bytes ml ret n0 p l e R s m args below meth c T kc ks) {ix : Nat} (w1 : (Cond.methodLink y.cls ix Lib.objectInit).before a0 Z = true) (w2 : (Cond.instanceMethod Lib.objectInit).before a0 Z = true) (w3 : (Cond.code Lib.objectInit ⟨#[0xb1]⟩ 1 none).before a0 Z = true) (H : Hp Z n0 T.heap L) (hls : ls.size = ml) (hd : decode bytes pc = .ok (.invokespecial ix, 3)) (hpc : pc + 3 = pc')
    (hf : 1 ≤ R.frames) {Wn : Nat} (hW : (st.map fun v => v.category).sum ≤ Wn) (hl : Wn + 12 ≤ R.locals)
    (K : ∀ T', Wk Z y bytes ml ret n0 p l e R s m args below meth c T' kc ks → Hp Z n0 T'.heap L → Goes p e below E (T'.setTop (mkF m pc' ls st))) : Goes p e below E (T.setTop (mkF m pc ls (.ref a :: st))) := by
  subst hpc
  have hx := W.hx; have hby := W.hby; have hown := W.hown; have hZ := W.hZ; have hml := W.hml
  obtain ⟨A, locs, X, N⟩ := W
  obtain ⟨T', X', e', st'⟩ := initO X hx hZ hown w1 w2 w3 rfl (g := mkF m pc ls (.ref a :: st)) rfl (by rw [hml]; exact hls) rfl (hb hby hd) hf (W := Wn) (by show 2 * 0 + _ ≤ _; omega) hl
  exact (K T' ⟨A, locs, X', N⟩ (e' ▸ H)).back st'
/-! ### arrays -/
theorem ArC.arr (F : ArC Z ty vs cell) (hc : h[a]? = some cell) : Arr Z h a cell ty := ⟨hc, F.1, F.2.1⟩
theorem idx_ok {x : Int32} (hx : x.toInt = (jx : Int)) (F : ArC Z ty vs cell) (hj : jx < vs.length) : ¬ (x < 0 ∨ cell.slots.size ≤ x.toNatClampNeg) := by
  rw [F.2.2.1]
  have e0 : (0 : Int32).toInt = 0 := rfl
  simp only [Int32.lt_iff_toInt_lt, Int32.toNatClampNeg, List.size_toArray, e0, hx]; omega
theorem idx_nat {x : Int32} (hx : x.toInt = (jx : Int)) : x.toNatClampNeg = jx := by simp only [Int32.toNatClampNeg, hx]; omega
theorem g_newarr (W : Wk Z y bytes ml ret n0 p l e R s m args below meth c T kc ks) {aty : ArrayType} (w : (Cond.arrayClass (newarray.typeOf aty)).before a0 Z = true) (H : Hp Z n0 T.heap L) {x : Int32} (hx0 : ¬ x < 0) (hvs : List.replicate x.toNatClampNeg (defaultValue (newarray.typeOf aty)) = vs) {cap : Nat} (hcap : vs.length ≤ cap) (hcb : cap * 8 ≤ 536870912) (hd : decode bytes pc = .ok (.newarray aty, 2)) (hpc : pc + 2 = pc')
    {kc' ks' : Nat} (hkc : kc + 1 = kc') (hks : ks + cap = ks') (hc : kc' ≤ R.cells) (hl : ks' ≤ R.slots)
    (K : ∀ T' a, Wk Z y bytes ml ret n0 p l e R s m args below meth c T' kc' ks' → Hp Z n0 T'.heap ((a, ArC Z (newarray.typeOf aty) vs) :: L) → Goes p e below E (T'.setTop (mkF m pc' ls (.ref a :: st)))) : Goes p e below E (T.setTop (mkF m pc ls (.int x :: st))) := by
  subst hpc hkc hks hvs
  have hx := W.hx; have hby := W.hby; have hZ := W.hZ
  obtain ⟨A, locs, X, N⟩ := W
  rw [List.length_replicate] at hcap
  obtain ⟨T', h', cA, X', e', E', A1, st'⟩ := newP X hx hZ w rfl (g := mkF m pc ls (.int x :: st)) rfl (hb hby hd) rfl hx0 hcap hcb hc hl
  have hl31 : (List.replicate x.toNatClampNeg (defaultValue (newarray.typeOf aty))).length < 2 ^ 31 := by rw [List.length_replicate]; omega
  exact (K T' T.heap.size ⟨A, locs, X', N⟩ (by rw [e']; exact H.push E' A1.1 ⟨A1.2.1, A1.2.2, by simp [newA], hl31⟩)).back st'
theorem g_arrlen (W : Wk Z y bytes ml ret n0 p l e R s m args below meth c T kc ks) (H : Hp Z n0 T.heap L) (hi : L[i]? = some (a, ArC Z ty vs)) {x : Int32} (hx : vs.length.toInt32 = x) (hd : decode bytes pc = .ok (.arraylength, 1)) (hpc : pc + 1 = pc') (K : Goes p e below E (T.setTop (mkF m pc' ls (.int x :: st)))) : Goes p e below E (T.setTop (mkF m pc ls (.ref a :: st))) := by
  subst hpc hx
  have hx := W.hx; have hby := W.hby; have hZ := W.hZ
  obtain ⟨A, locs, X, N⟩ := W
  obtain ⟨-, cl, q1, q2⟩ := H.get hi
  refine K.back fun t r => X.arraylength hx q1 (State.isArrayOf_alike hZ.alike q2.1) (g := mkF m pc ls (.ref a :: st)) rfl rfl (hb hby hd) t ?_
  have e : cl.slots.size = vs.length := by rw [q2.2.2.1]; simp
  rw [e]; exact r
theorem g_iaload (W : Wk Z y bytes ml ret n0 p l e R s m args below meth c T kc ks) (H : Hp Z n0 T.heap L) (hi : L[i]? = some (a, ArC Z .int vs)) {x : Int32} (hx : x.toInt = (jx : Int)) (hv : vs[jx]? = some v) (hd : decode bytes pc = .ok (.iaload, 1)) (hpc : pc + 1 = pc') (K : Goes p e below E (T.setTop (mkF m pc' ls (v :: st)))) : Goes p e below E (T.setTop (mkF m pc ls (.int x :: .ref a :: st))) := by
  subst hpc
  have hxx := W.hx; have hby := W.hby; have hZ := W.hZ
  obtain ⟨A, locs, X, N⟩ := W
  obtain ⟨-, cl, q1, q2⟩ := H.get hi
  exact K.back fun t r => X.iaload hxx q1 (State.isArrayOf_alike hZ.alike q2.1) q2.2.1 (idx_ok hx q2 (List.getElem?_eq_some_iff.mp hv).1) (by rw [idx_nat hx, q2.2.2.1]; simpa using hv) (g := mkF m pc ls (.int x :: .ref a :: st)) rfl rfl (hb hby hd) t r
theorem g_daload (W : Wk Z y bytes ml ret n0 p l e R s m args below meth c T kc ks) (H : Hp Z n0 T.heap L) (hi : L[i]? = some (a, ArC Z .double vs)) {x : Int32} (hx : x.toInt = (jx : Int)) (hv : vs[jx]? = some v) (hd : decode bytes pc = .ok (.daload, 1)) (hpc : pc + 1 = pc') (K : Goes p e below E (T.setTop (mkF m pc' ls (v :: st)))) : Goes p e below E (T.setTop (mkF m pc ls (.int x :: .ref a :: st))) := by
  subst hpc
  have hxx := W.hx; have hby := W.hby; have hZ := W.hZ
  obtain ⟨A, locs, X, N⟩ := W
  obtain ⟨-, cl, q1, q2⟩ := H.get hi
  exact K.back fun t r => X.daload hxx q1 (State.isArrayOf_alike hZ.alike q2.1) q2.2.1 (idx_ok hx q2 (List.getElem?_eq_some_iff.mp hv).1) (by rw [idx_nat hx, q2.2.2.1]; simpa using hv) (g := mkF m pc ls (.int x :: .ref a :: st)) rfl rfl (hb hby hd) t r
theorem g_iastore (W : Wk Z y bytes ml ret n0 p l e R s m args below meth c T kc ks) (H : Hp Z n0 T.heap L) (hi : L[i]? = some (a, ArC Z .int vs)) {x : Int32} {u : Int32} (hx : x.toInt = (jx : Int)) (hj : jx < vs.length) (hd : decode bytes pc = .ok (.iastore, 1)) (hpc : pc + 1 = pc') {L' : List HRow} (hL : L.set i (a, ArC Z .int (vs.set jx (.int u))) = L')
    (K : ∀ T', Wk Z y bytes ml ret n0 p l e R s m args below meth c T' kc ks → Hp Z n0 T'.heap L' → Goes p e below E (T'.setTop (mkF m pc' ls st))) : Goes p e below E (T.setTop (mkF m pc ls (.int u :: .int x :: .ref a :: st))) := by
  subst hpc hL
  have hxx := W.hx; have hby := W.hby; have hZ := W.hZ
  obtain ⟨A, locs, X, N⟩ := W
  obtain ⟨hn0, cl, q1, q2⟩ := H.get hi
  obtain ⟨T', h', X', e', Wr', st'⟩ := stI X hxx hZ rfl (q2.arr q1) (idx_ok hx q2 hj) (g := mkF m pc ls (.int u :: .int x :: .ref a :: st)) rfl rfl (hb hby hd)
  obtain ⟨cl', g1, -, -, rfl⟩ := Wr'
  cases q1.symm.trans g1
  have hsl : (cl.setSlot x.toNatClampNeg (.int u)).slots = (vs.set jx (.int u)).toArray := by rw [idx_nat hx]; show cl.slots.setIfInBounds jx _ = _; rw [q2.2.2.1]; simp
  exact (K T' ⟨A, _, X', Fr.snoc X' N hn0⟩ (by rw [e']; exact H.put hi ⟨q2.1, q2.2.1, hsl, by rw [List.length_set]; exact q2.2.2.2⟩)).back st'
theorem g_dastore (W : Wk Z y bytes ml ret n0 p l e R s m args below meth c T kc ks) (H : Hp Z n0 T.heap L) (hi : L[i]? = some (a, ArC Z .double vs)) {x : Int32} {u : UInt64} (hx : x.toInt = (jx : Int)) (hj : jx < vs.length) (hd : decode bytes pc = .ok (.dastore, 1)) (hpc : pc + 1 = pc') {L' : List HRow} (hL : L.set i (a, ArC Z .double (vs.set jx (.double u))) = L')
    (K : ∀ T', Wk Z y bytes ml ret n0 p l e R s m args below meth c T' kc ks → Hp Z n0 T'.heap L' → Goes p e below E (T'.setTop (mkF m pc' ls st))) : Goes p e below E (T.setTop (mkF m pc ls (.double u :: .int x :: .ref a :: st))) := by
  subst hpc hL
  have hxx := W.hx; have hby := W.hby; have hZ := W.hZ
  obtain ⟨A, locs, X, N⟩ := W
  obtain ⟨hn0, cl, q1, q2⟩ := H.get hi
  obtain ⟨T', h', X', e', Wr', st'⟩ := stD X hxx hZ rfl (q2.arr q1) (idx_ok hx q2 hj) (g := mkF m pc ls (.double u :: .int x :: .ref a :: st)) rfl rfl (hb hby hd)
  obtain ⟨cl', g1, -, -, rfl⟩ := Wr'
  cases q1.symm.trans g1
  have hsl : (cl.setSlot x.toNatClampNeg (.double u)).slots = (vs.set jx (.double u)).toArray := by rw [idx_nat hx]; show cl.slots.setIfInBounds jx _ = _; rw [q2.2.2.1]; simp
  exact (K T' ⟨A, _, X', Fr.snoc X' N hn0⟩ (by rw [e']; exact H.put hi ⟨q2.1, q2.2.1, hsl, by rw [List.length_set]; exact q2.2.2.2⟩)).back st'
end Heap
/-! ### calls by contract -/
section Calls
variable {y' : MethodName} {bytes' : ByteArray} {ml' : Nat} {ret' : Option FieldType} {rm : Room} {Post : Option Value → Heap → Prop} {argsL stk : List Value} {ix : Nat} {Wn kc' ks' : Nat} {ps : List FieldType} {rt : Option FieldType}
theorem g_callS (W : Wk Z y bytes ml ret n0 p l e R s m args below meth c T kc ks) (w1 : (Cond.methodLink y.cls ix y').before a0 Z = true) (w2 : (Cond.static y').before a0 Z = true) (w3 : (Cond.initialized y'.cls).before a0 Z = true) (w4 : (Cond.code y' bytes' ml' ret').before a0 Z = true) (hy : y'.cls ≠ "java/lang/invoke/MethodHandle" ∧ y'.cls ≠ "java/lang/invoke/VarHandle")
    (con : Con l Z n0 y' [] bytes' ml' ret' rm argsL.toArray T.heap Post) (hpd : parseMethodDescriptor y'.desc = some ⟨ps, rt⟩) (hlen : argsL.length = ps.length) (hstk : stk = argsL.reverse ++ st) (hls : ls.size = ml) (hd : decode bytes pc = .ok (.invokestatic ix, 3)) (hpc : pc + 3 = pc')
    (hf : rm.frames + 1 ≤ R.frames) (hW : (st.map fun v => v.category).sum ≤ Wn) (hl : Wn + (ml' + 11) + rm.locals ≤ R.locals) (hkc : kc + rm.cells = kc') (hks : ks + rm.slots = ks') (hc : kc' ≤ R.cells) (hs : ks' ≤ R.slots)
    (K : ∀ T' v, Wk Z y bytes ml ret n0 p l e R s m args below meth c T' kc' ks' → Post v T'.heap → Goes p e below E (T'.setTop (mkF m pc' ls (v.toList ++ st)))) : Goes p e below E (T.setTop (mkF m pc ls stk)) := by
  subst hpc hkc hks hstk
  have hx := W.hx; have hby := W.hby; have hown := W.hown; have hZ := W.hZ; have hml := W.hml
  obtain ⟨A, locs, X, N⟩ := W
  obtain ⟨v, vm1, ⟨T', L', kk, jj⟩, -, X', ⟨Lc, ⟨hN, hQ⟩, l1, l2, l3⟩, st'⟩ := Jvm.LawKit.callS X hx hown (mvT hZ w1) (mvT hZ w2) (mvT hZ w3) (mvT hZ w4) hy (backOf (Q := fun v h L => Fr n0 L ∧ Post v h) (W := Wn) con hZ w4 w3 hf hl) (g := mkF m pc ls (argsL.reverse ++ st)) rfl (by rw [hml]; exact hls) (argsL := argsL) (rest := st) (lenOf hpd hlen) rfl (by show 2 * 0 + _ ≤ _; omega) (hb hby hd) (fun _ _ => ⟨rfl, rfl, hc, hs⟩)
  dsimp only [Pt.U, Pt.locs, Pt.cells, Pt.slots] at X' l1 l2 l3 hQ st'
  subst l1 l2 l3
  exact (K T' v ⟨A, _, X', N.app hN⟩ hQ).back st'
theorem g_callI (W : Wk Z y bytes ml ret n0 p l e R s m args below meth c T kc ks) (hin : y'.name = "<init>") (w1 : (Cond.methodLink y.cls ix y').before a0 Z = true) (w2 : (Cond.instanceMethod y').before a0 Z = true) (w3 : (Cond.initialized y'.cls).before a0 Z = true) (w4 : (Cond.code y' bytes' ml' none).before a0 Z = true) (hy : y'.cls ≠ "java/lang/invoke/MethodHandle" ∧ y'.cls ≠ "java/lang/invoke/VarHandle")
    {a : Addr} (con : Con l Z n0 y' [] bytes' ml' none rm (.ref a :: argsL).toArray T.heap Post) (hpd : parseMethodDescriptor y'.desc = some ⟨ps, rt⟩) (hlen : argsL.length = ps.length) (hstk : stk = argsL.reverse ++ .ref a :: st) (hls : ls.size = ml) (hd : decode bytes pc = .ok (.invokespecial ix, 3)) (hpc : pc + 3 = pc')
    (hf : rm.frames + 1 ≤ R.frames) (hW : (st.map fun v => v.category).sum ≤ Wn) (hl : Wn + (ml' + 11) + rm.locals ≤ R.locals) (hkc : kc + rm.cells = kc') (hks : ks + rm.slots = ks') (hc : kc' ≤ R.cells) (hs : ks' ≤ R.slots)
    (K : ∀ T' v, Wk Z y bytes ml ret n0 p l e R s m args below meth c T' kc' ks' → Post v T'.heap → Goes p e below E (T'.setTop (mkF m pc' ls (v.toList ++ st)))) : Goes p e below E (T.setTop (mkF m pc ls stk)) := by
  subst hpc hkc hks hstk
  have hx := W.hx; have hby := W.hby; have hown := W.hown; have hZ := W.hZ; have hml := W.hml
  obtain ⟨A, locs, X, N⟩ := W
  obtain ⟨v, vm1, ⟨T', L', kk, jj⟩, -, X', ⟨Lc, ⟨hN, hQ⟩, l1, l2, l3⟩, st'⟩ := X.specialBack hx (y := y') hin hown (mvT hZ w1) (mvT hZ w2) (mvT hZ w4) hy (backOf (Q := fun v h L => Fr n0 L ∧ Post v h) (W := Wn) con hZ w4 w3 hf hl) (g := mkF m pc ls (argsL.reverse ++ .ref a :: st)) rfl (by rw [hml]; exact hls) (Steps.refl _) (a := a) (argsL := argsL) (rest := st) (lenOf hpd hlen) rfl (by show 2 * 0 + _ ≤ _; omega) (hb hby hd) (fun _ _ => ⟨rfl, rfl, hc, hs⟩)
  dsimp only [Pt.U, Pt.locs, Pt.cells, Pt.slots] at X' l1 l2 l3 hQ st'
  subst l1 l2 l3
  exact (K T' v ⟨A, _, X', N.app hN⟩ hQ).back fun t r => st'.trans r
theorem g_callV (W : Wk Z y bytes ml ret n0 p l e R s m args below meth c T kc ks) {C : String} {fs : List FR} {L : List HRow} {i : Nat} (w1 : (Cond.methodLink y.cls ix y').before a0 Z = true) (w2 : (Cond.declares y').before a0 Z = true) (w3 : (Cond.selects C y' y').before a0 Z = true) (w4 : (Cond.instanceMethod y').before a0 Z = true) (w5 : (Cond.initialized y'.cls).before a0 Z = true) (w6 : (Cond.code y' bytes' ml' ret').before a0 Z = true) (hy : y'.cls ≠ "java/lang/invoke/MethodHandle" ∧ y'.cls ≠ "java/lang/invoke/VarHandle")
    {a : Addr} (H : Hp Z n0 T.heap L) (hi : L[i]? = some (a, ObC Z C fs)) (con : Con l Z n0 y' [] bytes' ml' ret' rm (.ref a :: argsL).toArray T.heap Post) (hpd : parseMethodDescriptor y'.desc = some ⟨ps, rt⟩) (hlen : argsL.length = ps.length) (hstk : stk = argsL.reverse ++ .ref a :: st) (hls : ls.size = ml) (hd : decode bytes pc = .ok (.invokevirtual ix, 3)) (hpc : pc + 3 = pc')
    (hf : rm.frames + 1 ≤ R.frames) (hW : (st.map fun v => v.category).sum ≤ Wn) (hl : Wn + (ml' + 11) + rm.locals ≤ R.locals) (hkc : kc + rm.cells = kc') (hks : ks + rm.slots = ks') (hc : kc' ≤ R.cells) (hs : ks' ≤ R.slots)
    (K : ∀ T' v, Wk Z y bytes ml ret n0 p l e R s m args below meth c T' kc' ks' → Post v T'.heap → Goes p e below E (T'.setTop (mkF m pc' ls (v.toList ++ st)))) : Goes p e below E (T.setTop (mkF m pc ls stk)) := by
  subst hpc hkc hks hstk
  have hx := W.hx; have hby := W.hby; have hown := W.hown; have hZ := W.hZ; have hml := W.hml
  obtain ⟨A, locs, X, N⟩ := W
  obtain ⟨-, cl, q1, q2⟩ := H.get hi
  obtain ⟨cB, kB, b1, b2, b3⟩ := isOf hZ rfl (q2.exa q1)
  obtain ⟨v, vm1, ⟨T', L', kk, jj⟩, -, X', ⟨Lc, ⟨hN, hQ⟩, l1, l2, l3⟩, st'⟩ := X.virtualBack hx (y := y') hown (mvT hZ w1) (mvT hZ w2) (notFace_of_selects (args := #[]) (mvT hZ w3)) (mvT hZ w3) (mvT hZ w4) hy (backOf (Q := fun v h L => Fr n0 L ∧ Post v h) (W := Wn) con hZ w6 w5 hf hl) b1 b3 (g := mkF m pc ls (argsL.reverse ++ .ref a :: st)) rfl (by rw [hml]; exact hls) (Steps.refl _) (argsL := argsL) (rest := st) (lenOf hpd hlen) rfl (by show 2 * 0 + _ ≤ _; omega) (hb hby hd) (fun _ _ => ⟨rfl, rfl, hc, hs⟩)
  dsimp only [Pt.U, Pt.locs, Pt.cells, Pt.slots] at X' l1 l2 l3 hQ st'
  subst l1 l2 l3
  exact (K T' v ⟨A, _, X', N.app hN⟩ hQ).back fun t r => st'.trans r
theorem g_callP (W : Wk Z y bytes ml ret n0 p l e R s m args below meth c T kc ks) {C : String} {fs : List FR} {L : List HRow} {i nn : Nat} (w1 : (Cond.methodLink y.cls ix y').before a0 Z = true) (w2 : (Cond.instanceMethod y').before a0 Z = true) (w3 : (Cond.privateMethod y').before a0 Z = true) (w4 : (Cond.instantiable y'.cls nn).before a0 Z = true) (w5 : (Cond.initialized y'.cls).before a0 Z = true) (w6 : (Cond.code y' bytes' ml' ret').before a0 Z = true) (hy : y'.cls ≠ "java/lang/invoke/MethodHandle" ∧ y'.cls ≠ "java/lang/invoke/VarHandle")
    {a : Addr} (H : Hp Z n0 T.heap L) (hi : L[i]? = some (a, ObC Z C fs)) (con : Con l Z n0 y' [] bytes' ml' ret' rm (.ref a :: argsL).toArray T.heap Post) (hpd : parseMethodDescriptor y'.desc = some ⟨ps, rt⟩) (hlen : argsL.length = ps.length) (hstk : stk = argsL.reverse ++ .ref a :: st) (hls : ls.size = ml) (hd : decode bytes pc = .ok (.invokevirtual ix, 3)) (hpc : pc + 3 = pc')
    (hf : rm.frames + 1 ≤ R.frames) (hW : (st.map fun v => v.category).sum ≤ Wn) (hl : Wn + (ml' + 11) + rm.locals ≤ R.locals) (hkc : kc + rm.cells = kc') (hks : ks + rm.slots = ks') (hc : kc' ≤ R.cells) (hs : ks' ≤ R.slots)
    (K : ∀ T' v, Wk Z y bytes ml ret n0 p l e R s m args below meth c T' kc' ks' → Post v T'.heap → Goes p e below E (T'.setTop (mkF m pc' ls (v.toList ++ st)))) : Goes p e below E (T.setTop (mkF m pc ls stk)) := by
  subst hpc hkc hks hstk
  have hx := W.hx; have hby := W.hby; have hown := W.hown; have hZ := W.hZ; have hml := W.hml
  obtain ⟨A, locs, X, N⟩ := W
  obtain ⟨-, cl, q1, q2⟩ := H.get hi
  have hst : ∀ q, cl.vm ≠ .statics q := fun q hq => by have := q2.2.2.1; rw [hq] at this; cases this
  obtain ⟨mk, methM, hnamed, hmethM, hstM, habM⟩ := Cond.instanceMethod_spec (args := #[]) (mvT hZ w2)
  obtain ⟨methM', cM, hmethM', -, -, -, -, -, -, hsigM⟩ := Cond.code_spec (args := #[]) hnamed (mvT hZ w6)
  cases hmethM.symm.trans hmethM'
  obtain ⟨cP0, kP, hf1, hkP, -, hkPi, -⟩ := Cond.instantiable_spec (mvT hZ w4 (args := #[]))
  cases (findClass_of_methodNamed hnamed).symm.trans hf1
  have hkPi' : kP.isInterface = false := (Bool.or_eq_false_iff.mp hkPi).1
  have hselP : selectMethod e.platform s.vm cl.cls mk = .method mk := selectMethod_private hmethM (Cond.privateMethod_at (mvP hZ w3 (args := #[])) mk methM hnamed hmethM)
  obtain ⟨vm1, X1, hstep1⟩ := X.invokevirtual hx hown (mvT hZ w1) hnamed hmethM hstM hkP hkPi' hy (a := a) (cell := cl) q1 hst hselP hmethM habM hkP hkPi' (g := mkF m pc ls (argsL.reverse ++ .ref a :: st)) rfl (argsL := argsL) (rest := st) (lenOf hpd hlen _ hsigM) rfl (hb hby hd)
  obtain ⟨v, ⟨T', L', kk, jj⟩, X', ⟨Lc, ⟨hN, hQ⟩, l1, l2, l3⟩, st'⟩ := (backOf (Q := fun v h L => Fr n0 L ∧ Post v h) (W := Wn) (len := 3) (p := p) (e := e) (below := below) (args := args) con hZ w6 w5 hf hl) m meth c ⟨T.setVm vm1, locs, kc, ks⟩ (mkF m pc ls st) (.invokevirtual ix) mk (.ref a :: argsL).toArray X1 rfl (by rw [hml]; exact hls) (hb hby hd) (by show 2 * 0 + (st.map fun v => v.category).sum ≤ Wn; omega) (X1.named hnamed) ⟨rfl, rfl, hc, hs⟩
  dsimp only [Pt.U, Pt.locs, Pt.cells, Pt.slots] at X' l1 l2 l3 hQ st'
  subst l1 l2 l3
  exact (K T' v ⟨A, _, X', N.app hN⟩ hQ).back fun t r => ((hstep1 _ fun acts => by rw [doInvoke_state]; exact Steps.refl _).trans st').trans r
end Calls
end Laws
end Jvm.OwnKit


@@BLOCK:NumsL.lean.txt@@
namespace Jvm.OwnKit
open Jvm.Free
/-! ### ints -/
theorem i32_lit {x y : Int32} {k : Int} (h : x.toInt = k) (hy : y.toInt = k) : x = y := Int32.toInt_inj.mp (h.trans hy.symm)
theorem i32_remW (x y : Int32) : (x - (x / y) * y).toInt = x.toInt.tmod y.toInt := by
  have a := (x % y).toInt_lt; have b := (x % y).le_toInt
  rw [Int32.toInt_mod] at a b
  rw [Int32.toInt_sub, Int32.toInt_mul, Int32.toInt_div, Int.bmod_mul_bmod, Int.sub_bmod_bmod, Int.mul_comm, ← Int.tmod_def]
  exact Kit.bmod32 b a
theorem i32_remN {x y : Int32} (hx : 0 ≤ x.toInt) : (x - (x / y) * y).toInt = x.toInt % y.toInt := by rw [i32_remW, Int.tmod_eq_emod_of_nonneg hx]
theorem lt1 {j : Int32} (h : ¬ j < 0) (h2 : j < 1) : j = 0 := by
  rw [Int32.lt_iff_toInt_lt] at h h2
  have e0 : (0 : Int32).toInt = 0 := by decide
  have e1 : (1 : Int32).toInt = 1 := by decide
  exact i32_lit (k := 0) (by omega) e0
theorem lt2 {j : Int32} (h : ¬ j < 0) (h2 : j < 2) : j = 0 ∨ j = 1 := by
  rw [Int32.lt_iff_toInt_lt] at h h2
  have e0 : (0 : Int32).toInt = 0 := by decide
  have e1 : (2 : Int32).toInt = 2 := by decide
  have q : j.toInt = 0 ∨ j.toInt = 1 := by omega
  rcases q with q | q
  · exact Or.inl (i32_lit q (by decide))
  · exact Or.inr (i32_lit q (by decide))
theorem cmpL3 (x y : Int64) : (x < y ∧ XT.cmpL x y = -1) ∨ (x = y ∧ XT.cmpL x y = 0) ∨ (y < x ∧ XT.cmpL x y = 1) := by
  have e : XT.cmpL x y = (if y < x then (1 : Int32) else if x = y then 0 else -1) := rfl
  by_cases h1 : y < x
  · exact Or.inr (Or.inr ⟨h1, by rw [e, if_pos h1]⟩)
  · by_cases h2 : x = y
    · exact Or.inr (Or.inl ⟨h2, by rw [e, if_neg h1, if_pos h2]⟩)
    · refine Or.inl ⟨?_, by rw [e, if_neg h1, if_neg h2]⟩
      rw [Int64.lt_iff_toInt_lt] at h1 ⊢
      have : x.toInt ≠ y.toInt := fun q => h2 (Int64.toInt_inj.mp q)
      omega
theorem cmpL_lt0 {x y : Int64} : XT.cmpL x y < (0 : Int32) ↔ x < y := by
  rcases cmpL3 x y with ⟨h, g⟩ | ⟨h, g⟩ | ⟨h, g⟩ <;> rw [g]
  · exact ⟨fun _ => h, fun _ => by decide⟩
  · exact ⟨fun q => absurd q (by decide), fun q => by subst h; rw [Int64.lt_iff_toInt_lt] at q; omega⟩
  · exact ⟨fun q => absurd q (by decide), fun q => by rw [Int64.lt_iff_toInt_lt] at h q; omega⟩
end Jvm.OwnKit

namespace Jvm.OwnKit
open Jvm.FP.Core Jvm.Free.Fl Jvm.Op Jvm.ClassFile
/-! ### exact doubles: a is n * 2^e -/
def Dy (n e : Int) (a : UInt64) : Prop := DFin a ∧ zval b64 (val64 a) = n * ((2 ^ (e + 1074).toNat : Nat) : Int)
theorem pw3 {A B X1 Y1 X Y : Nat} (h : A * 2 ^ X1 = B * 2 ^ Y1) (hd : X + Y1 = X1 + Y) : A * 2 ^ X = B * 2 ^ Y := by
  apply Nat.eq_of_mul_eq_mul_right (Nat.two_pow_pos X1)
  calc A * 2 ^ X * 2 ^ X1 = A * 2 ^ X1 * 2 ^ X := by rw [Nat.mul_right_comm]
    _ = B * 2 ^ Y1 * 2 ^ X := by rw [h]
    _ = B * 2 ^ Y * 2 ^ X1 := by rw [Nat.mul_assoc, Nat.mul_assoc, ← Nat.pow_add, ← Nat.pow_add, show Y1 + X = Y + X1 by omega]
theorem rr_exact {s : Bool} {A B n : Nat} {e q : Int} (hB : 0 < B) (hn : n < 2 ^ 53) (h1 : -1074 ≤ q) (h2 : q ≤ 971) (h : A * 2 ^ (e - q).toNat = n * B * 2 ^ (q - e).toNat) :
    ∃ c' q', roundRatio b64 s A B e = .fin s c' q' ∧ inUnits c' q' b64.qmin = n * 2 ^ (q + 1074).toNat := by
  have hc : roundRatio b64 s A B e = roundRatio b64 s n 1 q := roundRatio_congr hB (by decide) (by rw [Nat.mul_one]; exact h)
  obtain ⟨c', q', g1, g2⟩ := round_exact good_b64 s (c := n) (q := q) (show n < 2 ^ 53 from hn) (by rw [qmin_b64]; exact h1) (by rw [show b64.qmax = 971 by decide]; exact h2)
  refine ⟨c', q', hc.trans g1, g2.trans ?_⟩
  unfold inUnits; rw [qmin_b64, show (q - -1074).toNat = (q + 1074).toNat by omega]
theorem dy_rr {a : UInt64} {s : Bool} {A B n : Nat} {e q : Int} (ha : val64 a = roundRatio b64 s A B e) (hB : 0 < B) (hn : n < 2 ^ 53) (h1 : -1074 ≤ q) (h2 : q ≤ 971) (h : A * 2 ^ (e - q).toNat = n * B * 2 ^ (q - e).toNat) : Dy (signed s n) q a := by
  obtain ⟨c', q', g1, g2⟩ := rr_exact (s := s) hB hn h1 h2 h
  rw [g1] at ha
  refine ⟨⟨s, c', q', ha⟩, ?_⟩
  rw [ha]; show signed s (inUnits c' q' b64.qmin) = _; rw [g2, signed_mul]
theorem signed_back {s : Bool} {X P : Nat} {n : Int} (hP : 0 < P) (h : signed s X = n * (P : Int)) : signed s n.natAbs = n := by
  have hP' : (0 : Int) < P := Int.natCast_pos.mpr hP
  cases s
  · have h' : (X : Int) = n * P := h
    have : 0 ≤ n := Int.not_lt.mp fun q => by have := Int.mul_neg_of_neg_of_pos q hP'; omega
    show (n.natAbs : Int) = n; omega
  · have h' : -(X : Int) = n * P := h
    have : n ≤ 0 := Int.not_lt.mp fun q => by have := Int.mul_pos q hP'; omega
    show -(n.natAbs : Int) = n; omega
theorem dy_open {n e : Int} {a : UInt64} (ha : Dy n e a) : ∃ s c q, val64 a = .fin s c q ∧ -1074 ≤ q ∧ Jvm.FP.Core.fits b64 (.fin s c q) ∧ c * 2 ^ (q + 1074).toNat = n.natAbs * 2 ^ (e + 1074).toNat ∧ signed s n.natAbs = n := by
  obtain ⟨⟨s, c, q, hv⟩, hz⟩ := ha
  have hfit := val64_fits a
  rw [hv] at hfit hz
  have hq : -1074 ≤ q := by have := hfit.2.1; rwa [qmin_b64] at this
  have hz1 : signed s (inUnits c q b64.qmin) = n * ((2 ^ (e + 1074).toNat : Nat) : Int) := hz
  have hz2 := congrArg Int.natAbs hz1
  rw [natAbs_signed, Int.natAbs_mul, Int.natAbs_natCast] at hz2
  refine ⟨s, c, q, hv, hq, hfit, ?_, signed_back (Nat.two_pow_pos _) hz1⟩
  rw [← hz2]; unfold inUnits; rw [qmin_b64, show (q - -1074).toNat = (q + 1074).toNat by omega]
theorem quo_fin {s t : Bool} {c d : Nat} {q r : Int} (hd : d ≠ 0) : quotient b64 (.fin s c q) (.fin t d r) = roundRatio b64 (s != t) c d (q - r) := if_neg hd
theorem dy_div {n e k : Int} {a b : UInt64} (ha : Dy n e a) (he : -1074 ≤ e) (hb : val64 b = .fin false (2 ^ 52) (k - 52)) (hn : n.natAbs < 2 ^ 53) (h1 : -1074 ≤ e - k) (h2 : e - k ≤ 971) : Dy n (e - k) (FP.ddiv a b) := by
  obtain ⟨s, c, q, hv, hq, hfit, hz, hs⟩ := dy_open ha
  have hd : val64 (FP.ddiv a b) = roundRatio b64 s c (2 ^ 52) (q - (k - 52)) := by
    rw [show val64 (FP.ddiv a b) = _ from val64_ddiv a b, hv, hb]
    rw [quo_fin (by decide), show (s != false) = s by cases s <;> rfl]
  have := dy_rr hd (n := n.natAbs) (q := e - k) (by decide) hn h1 h2 (by
    rw [Nat.mul_assoc, ← Nat.pow_add]
    exact pw3 hz (by omega))
  rwa [hs] at this
theorem dy_mul {n e m f : Int} {a b : UInt64} (ha : Dy n e a) (hb : Dy m f b) (he : -1074 ≤ e) (hf : -1074 ≤ f) (hn : (n * m).natAbs < 2 ^ 53) (h1 : -1074 ≤ e + f) (h2 : e + f ≤ 971) : Dy (n * m) (e + f) (FP.dmul a b) := by
  obtain ⟨s, c, q, hv, hq, hfit, hz, hs⟩ := dy_open ha
  obtain ⟨t, d, r, hw, hr, hfit2, hz2, ht⟩ := dy_open hb
  have hd : val64 (FP.dmul a b) = roundRatio b64 (s != t) (c * d) 1 (q + r) := by
    rw [show val64 (FP.dmul a b) = _ from val64_dmul a b, hv, hw]; rfl
  have hp : c * d * 2 ^ ((q + 1074).toNat + (r + 1074).toNat) = (n * m).natAbs * 2 ^ ((e + 1074).toNat + (f + 1074).toNat) := by
    rw [Nat.pow_add, Nat.mul_mul_mul_comm, hz, hz2, Int.natAbs_mul, Nat.pow_add, Nat.mul_mul_mul_comm]
  have := dy_rr hd (n := (n * m).natAbs) (q := e + f) (by decide) hn h1 h2 (by
    rw [Nat.mul_one]
    exact pw3 hp (by omega))
  rw [Int.natAbs_mul, signed_xor, hs, ht] at this
  exact this
theorem dy_re {n e : Int} {a : UInt64} (ha : Dy n e a) (k : Nat) (h : -1074 ≤ e - k) : Dy (n * ((2 ^ k : Nat) : Int)) (e - k) a := by
  refine ⟨ha.1, ha.2.trans ?_⟩
  rw [Int.mul_assoc, ← Int.natCast_mul, ← Nat.pow_add, show k + (e - k + 1074).toNat = (e + 1074).toNat by omega]
theorem dy_i2d (x : Int32) : Dy x.toInt 0 (FP.i2d x) := ⟨Jvm.FP.Core.i2d_fin x, DInt_zval (i2d_int x)⟩
theorem dy_l2d {x : Int64} (h : x.toInt.natAbs ≤ 2 ^ 53) : Dy x.toInt 0 (FP.l2d x) := ⟨Jvm.FP.Core.l2d_fin x, DInt_zval (l2d_int h)⟩
theorem dy_zero : Dy 0 0 0 := ⟨⟨false, 0, b64.qmin, val64_zero⟩, by rw [zval64_zero, Int.zero_mul]⟩
theorem Dy.fin {n e : Int} {a : UInt64} (h : Dy n e a) : Fin64 a := fin64_core.mpr h.1
theorem Dy.nn {n e : Int} {a : UInt64} (h : Dy n e a) : NoNaN64 a := h.fin.noNaN
end Jvm.OwnKit

namespace Jvm.OwnKit
open Jvm.FP.Core Jvm.Free.Fl Jvm.Op Jvm.ClassFile
theorem dy_quot {n e m f : Int} {a b : UInt64} (ha : Dy n e a) (hb : Dy m f b) (hf : -1074 ≤ f) (hm : m ≠ 0) : ∃ s u c d q r, val64 (FP.ddiv a b) = roundRatio b64 (s != u) c d (q - r) ∧ 0 < d ∧ -1074 ≤ q ∧ -1074 ≤ r ∧ c * 2 ^ (q + 1074).toNat = n.natAbs * 2 ^ (e + 1074).toNat ∧ d * 2 ^ (r + 1074).toNat = m.natAbs * 2 ^ (f + 1074).toNat ∧ signed s n.natAbs = n ∧ signed u m.natAbs = m := by
  obtain ⟨s, c, q, hv, hq, -, hz, hs⟩ := dy_open ha
  obtain ⟨u, d, r, hw, hr, -, hz2, hu⟩ := dy_open hb
  have hd0 : d ≠ 0 := fun z => by
    subst z
    rw [Nat.zero_mul] at hz2
    have h1 : 0 < m.natAbs := by omega
    have := Nat.mul_pos h1 (Nat.two_pow_pos (f + 1074).toNat)
    omega
  refine ⟨s, u, c, d, q, r, ?_, Nat.pos_of_ne_zero hd0, hq, hr, hz, hz2, hs, hu⟩
  rw [show val64 (FP.ddiv a b) = _ from val64_ddiv a b, hv, hw]
  exact quo_fin hd0
end Jvm.OwnKit

namespace Jvm.OwnKit
open Sem ClassFile Op Lib Jvm.Stand Jvm.Free Jvm.LawKit Jvm.RoadKit Jvm.Free.Fl
section Refs
variable {Z : State} {y : MethodName} {bytes : ByteArray} {ml : Nat} {ret : Option FieldType} {n0 : Nat} {p : Program} {l : Launch} {e : Env} {R : Room} {s : State} {m : MethodId} {args : Array Value} {below : List Frame} {meth : Method} {c : Code} {T : State} {kc ks k j : Nat} {Q : Option Value → Heap → Prop} {E : Option Value → State → List Loc → Prop} {pc pc' : Nat} {ls : Array Slot} {st : List Value} {a0 : Array Value}
variable {h h' : Heap} {L : List HRow} {a : Addr} {P P' : Cell → Prop} {cell : Cell} {i jx : Nat} {C O n d R0 K0 : String} {fs : List FR} {v w : Value} {vs : List Value} {ty : FieldType}
theorem Hp.old (H : Hp Z n0 h L) : Ext Z.heap h := H.1.2.2
theorem Hp.exa (H : Hp Z n0 h L) (hi : L[i]? = some (a, ObC Z C fs)) : Exa Z h a C := by
  obtain ⟨-, cl, q1, q2⟩ := H.get hi
  exact q2.exa q1
theorem Hp.fld (H : Hp Z n0 h L) (hi : L[i]? = some (a, ObC Z C fs)) (hj : fs[jx]? = some (O, n, d, v)) : Fld Z h a O n d v := by
  obtain ⟨-, cl, q1, q2⟩ := H.get hi
  exact (q2.2.2.2.1 _ (List.mem_of_getElem? hj)).fld q1 q2.2.1 q2.2.2.1
/-- an Integer of the value x: an old one, or one of the rows F -/
def IntF (Z : State) (n0 : Nat) (F : List HRow) (a : Addr) (x : Int32) : Prop := ∀ (h : Heap) (L : List HRow), Hp Z n0 h L → (∀ r ∈ F, r ∈ L) → Exa Z h a "java/lang/Integer" ∧ Fld Z h a "java/lang/Integer" "value" "I" (.int x)
theorem IntF.mono {F F' : List HRow} {x : Int32} (q : IntF Z n0 F a x) (s : ∀ r ∈ F, r ∈ F') : IntF Z n0 F' a x := fun h L H z => q h L H fun r hr => z r (s r hr)
/-! ### branches on references -/
/-! ### casts, statics -/
/-! ### arrays of references, bytes -/
end Refs
/-! ### interface calls by contract -/
section Calls2
variable {Z : State} {y : MethodName} {bytes : ByteArray} {ml : Nat} {ret : Option FieldType} {n0 : Nat} {p : Program} {l : Launch} {e : Env} {R : Room} {s : State} {m : MethodId} {args : Array Value} {below : List Frame} {meth : Method} {c : Code} {T : State} {kc ks k j : Nat} {Q : Option Value → Heap → Prop} {E : Option Value → State → List Loc → Prop} {pc pc' : Nat} {ls : Array Slot} {st : List Value} {a0 : Array Value}
variable {y' : MethodName} {bytes' : ByteArray} {ml' : Nat} {ret' : Option FieldType} {rm : Room} {Post : Option Value → Heap → Prop} {argsL stk : List Value} {ix cnt : Nat} {Wn kc' ks' : Nat} {ps : List FieldType} {rt : Option FieldType}
end Calls2
end Jvm.OwnKit
namespace Jvm.OwnKit
open Sem ClassFile Op Lib Jvm.Stand Jvm.Free Jvm.LawKit Jvm.RoadKit Jvm.Free.Fl
section IArr
variable {Z : State} {y : MethodName} {bytes : ByteArray} {ml : Nat} {ret : Option FieldType} {n0 : Nat} {p : Program} {l : Launch} {e : Env} {R : Room} {s : State} {m : MethodId} {args : Array Value} {below : List Frame} {meth : Method} {c : Code} {T : State} {kc ks k j : Nat} {Q : Option Value → Heap → Prop} {E : Option Value → State → List Loc → Prop} {pc pc' : Nat} {ls : Array Slot} {st : List Value} {a0 : Array Value}
variable {h h' : Heap} {L : List HRow} {a b : Addr} {cell : Cell} {i jx : Nat} {xs : List Int32}
/-- an int[], its class known by its name -/
def IaC (Z : State) (xs : List Int32) (c : Cell) : Prop := ArC Z .int (xs.map Value.int) c ∧ Z.vm.findClass "[I" = some c.cls
theorem IaC.exa (F : IaC Z xs cell) (hc : h[a]? = some cell) : Exa Z h a "[I" := by
  obtain ⟨⟨⟨o, k, hk, comp, hkind⟩, -⟩, hf⟩ := F
  refine ⟨cell, k, hc, hf, hk, ?_, fun q => by rw [hkind] at q; cases q⟩
  cases q : cell.vm <;> first | rfl | exact absurd q (o _)
end IArr
end Jvm.OwnKit

namespace Jvm.OwnKit
open Sem ClassFile Op Lib Jvm.Stand Jvm.Free Jvm.LawKit Jvm.RoadKit Jvm.Free.Fl Jvm.Free.Fl.Abs
section Nat
variable {Z : State} {y : MethodName} {bytes : ByteArray} {ml : Nat} {ret : Option FieldType} {n0 : Nat} {p : Program} {l : Launch} {e : Env} {R : Room} {s : State} {m : MethodId} {args : Array Value} {below : List Frame} {meth : Method} {c : Code} {T : State} {kc ks k j : Nat} {Q : Option Value → Heap → Prop} {E : Option Value → State → List Loc → Prop} {pc pc' : Nat} {ls : Array Slot} {st : List Value} {a0 : Array Value}
variable {h h' : Heap} {L : List HRow} {a : Addr} {P P' : Cell → Prop} {cell : Cell} {i jx : Nat} {C O n d R0 K0 : String} {fs : List FR} {v w : Value} {vs : List Value} {ty : FieldType}
/-! ### native calls on doubles, boolean arrays, pop2 -/
theorem t_pop2 {tb : Tables} [Ours tb] {e : Env} {below : List Frame} {T target : State} {m : MethodId} {c : Code} {g : JFrame} (h : At T m c below) (hx : tb.exec = Jvm.exec) (hg : g.method = m) {x : Value} {rest : List Value} (hd : decode c.code g.pc = .ok (.pop2, 1)) (hs : g.stack = x :: rest) (hc : x.category = 2)
    (hr : Steps tb e below (T.setTop { g with pc := g.pc + 1, stack := rest }) target) : Steps tb e below (T.setTop g) target := by
  subst hg
  jvm_step h [h.top, hx, hd, hs, hc]
  exact hr
theorem g_pop2 (W : Wk Z y bytes ml ret n0 p l e R s m args below meth c T kc ks) {x : Value} (hd : decode bytes pc = .ok (.pop2, 1)) (hpc : pc + 1 = pc') (hc : x.category = 2) (K : Goes p e below E (T.setTop (mkF m pc' ls st))) : Goes p e below E (T.setTop (mkF m pc ls (x :: st))) := by
  subst hpc
  exact K.back fun t r => t_pop2 W.here W.hx (g := mkF m pc ls (x :: st)) rfl (hb W.hby hd) rfl hc r
theorem g_zastore (W : Wk Z y bytes ml ret n0 p l e R s m args below meth c T kc ks) (H : Hp Z n0 T.heap L) (hi : L[i]? = some (a, ArC Z .boolean vs)) {x : Int32} {u u' : Int32} (hu : nar .boolean u = u') (hx : x.toInt = (jx : Int)) (hj : jx < vs.length) (hd : decode bytes pc = .ok (.bastore, 1)) (hpc : pc + 1 = pc') {L' : List HRow} (hL : L.set i (a, ArC Z .boolean (vs.set jx (.int u'))) = L')
    (K : ∀ T', Wk Z y bytes ml ret n0 p l e R s m args below meth c T' kc ks → Hp Z n0 T'.heap L' → Goes p e below E (T'.setTop (mkF m pc' ls st))) : Goes p e below E (T.setTop (mkF m pc ls (.int u :: .int x :: .ref a :: st))) := by
  subst hpc hL hu
  have hxx := W.hx; have hby := W.hby; have hZ := W.hZ
  obtain ⟨A, locs, X, N⟩ := W
  obtain ⟨hn0, cl, q1, q2⟩ := H.get hi
  obtain ⟨T', h', X', e', Wr', st'⟩ := stZ X hxx hZ rfl (q2.arr q1) (idx_ok hx q2 hj) (g := mkF m pc ls (.int u :: .int x :: .ref a :: st)) rfl rfl (hb hby hd)
  obtain ⟨cl', g1, -, -, rfl⟩ := Wr'
  cases q1.symm.trans g1
  have hsl : (cl.setSlot x.toNatClampNeg (.int (nar .boolean u))).slots = (vs.set jx (.int (nar .boolean u))).toArray := by rw [idx_nat hx]; show cl.slots.setIfInBounds jx _ = _; rw [q2.2.2.1]; simp
  exact (K T' ⟨A, _, X', Fr.snoc X' N hn0⟩ (by rw [e']; exact H.put hi ⟨q2.1, q2.2.1, hsl, by rw [List.length_set]; exact q2.2.2.2⟩)).back st'
theorem g_zaload (W : Wk Z y bytes ml ret n0 p l e R s m args below meth c T kc ks) (H : Hp Z n0 T.heap L) (hi : L[i]? = some (a, ArC Z .boolean vs)) {x : Int32} (hx : x.toInt = (jx : Int)) (hv : vs[jx]? = some v) (hd : decode bytes pc = .ok (.baload, 1)) (hpc : pc + 1 = pc') (K : Goes p e below E (T.setTop (mkF m pc' ls (v :: st)))) : Goes p e below E (T.setTop (mkF m pc ls (.int x :: .ref a :: st))) := by
  subst hpc
  have hxx := W.hx; have hby := W.hby; have hZ := W.hZ
  obtain ⟨A, locs, X, N⟩ := W
  obtain ⟨-, cl, q1, q2⟩ := H.get hi
  exact K.back fun t r => X.baloadBooleans hxx q1 (State.isArrayOf_alike hZ.alike q2.1) q2.2.1 (idx_ok hx q2 (List.getElem?_eq_some_iff.mp hv).1) (by rw [idx_nat hx, q2.2.2.1]; simpa using hv) (g := mkF m pc ls (.int x :: .ref a :: st)) rfl rfl (hb hby hd) t r
theorem g_d2raw (W : Wk Z y bytes ml ret n0 p l e R s m args below meth c T kc ks) {ix : Nat} {b : UInt64} {u : Int64} (w1 : (Cond.methodLink y.cls ix Jvm.doubleToRawLongBitsName).before a0 Z = true) (w2 : (Cond.native Jvm.doubleToRawLongBitsName).before a0 Z = true) (w3 : (Cond.static Jvm.doubleToRawLongBitsName).before a0 Z = true) (w4 : (Cond.initialized "java/lang/Double").before a0 Z = true)
    (H : Hp Z n0 T.heap L) (hu : b.toInt64 = u) (hls : ls.size = ml) (hd : decode bytes pc = .ok (.invokestatic ix, 3)) (hpc : pc + 3 = pc') (hf : 1 ≤ R.frames) {Wn : Nat} (hW : (st.map fun v => v.category).sum ≤ Wn) (hl : Wn + (nativeFrameWords "java/lang/Double" "doubleToRawLongBits" 2 + 11) ≤ R.locals)
    (K : ∀ T', Wk Z y bytes ml ret n0 p l e R s m args below meth c T' kc ks → Hp Z n0 T'.heap L → Goes p e below E (T'.setTop (mkF m pc' ls (.long u :: st)))) : Goes p e below E (T.setTop (mkF m pc ls (.double b :: st))) := by
  subst hpc hu
  have hx := W.hx; have hby := W.hby; have hZ := W.hZ; have hown := W.hown; have hml := W.hml
  obtain ⟨A, locs, X, N⟩ := W
  obtain ⟨vm1, X', st'⟩ := X.doubleToRawLongBits hx hown (mvT hZ w1) (mvT hZ w2) (mvT hZ w3) (mvT hZ w4) (g := mkF m pc ls (.double b :: st)) rfl (by rw [hml]; exact hls) (rest := st) (b := b) rfl (hb hby hd) hf (by show 2 * 0 + _ + _ ≤ _; omega)
  exact (K _ ⟨A, locs, X', N⟩ H).back st'
theorem g_raw2d (W : Wk Z y bytes ml ret n0 p l e R s m args below meth c T kc ks) {ix : Nat} {b : Int64} {u : UInt64} (w1 : (Cond.methodLink y.cls ix Jvm.longBitsToDoubleName).before a0 Z = true) (w2 : (Cond.native Jvm.longBitsToDoubleName).before a0 Z = true) (w3 : (Cond.static Jvm.longBitsToDoubleName).before a0 Z = true) (w4 : (Cond.initialized "java/lang/Double").before a0 Z = true)
    (H : Hp Z n0 T.heap L) (hu : b.toUInt64 = u) (hn : (u &&& 0x7fffffffffffffff > 0x7ff0000000000000 && u &&& 0x0008000000000000 == 0) = false) (hls : ls.size = ml) (hd : decode bytes pc = .ok (.invokestatic ix, 3)) (hpc : pc + 3 = pc') (hf : 1 ≤ R.frames) {Wn : Nat} (hW : (st.map fun v => v.category).sum ≤ Wn) (hl : Wn + (nativeFrameWords "java/lang/Double" "longBitsToDouble" 2 + 11) ≤ R.locals)
    (K : ∀ T', Wk Z y bytes ml ret n0 p l e R s m args below meth c T' kc ks → Hp Z n0 T'.heap L → Goes p e below E (T'.setTop (mkF m pc' ls (.double u :: st)))) : Goes p e below E (T.setTop (mkF m pc ls (.long b :: st))) := by
  subst hpc hu
  have hx := W.hx; have hby := W.hby; have hZ := W.hZ; have hown := W.hown; have hml := W.hml
  obtain ⟨A, locs, X, N⟩ := W
  obtain ⟨vm1, X', st'⟩ := X.longBitsToDouble hx hown (mvT hZ w1) (mvT hZ w2) (mvT hZ w3) (mvT hZ w4) (g := mkF m pc ls (.long b :: st)) rfl (by rw [hml]; exact hls) (rest := st) (b := b) hn rfl (hb hby hd) hf (by show 2 * 0 + _ + _ ≤ _; omega)
  exact (K _ ⟨A, locs, X', N⟩ H).back st'
theorem g_absD (W : Wk Z y bytes ml ret n0 p l e R s m args below meth c T kc ks) {ix : Nat} {b u : UInt64} (w1 : (Cond.methodLink y.cls ix absDN).before a0 Z = true) (w2 : (Cond.static absDN).before a0 Z = true) (w3 : (Cond.initialized "java/lang/Math").before a0 Z = true) (w4 : (Cond.code absDN absDCode 2 (some .double)).before a0 Z = true)
    (H : Hp Z n0 T.heap L) (hnn : NoNaN64 b) (hu : b &&& 0x7fffffffffffffff = u) (hls : ls.size = ml) (hd : decode bytes pc = .ok (.invokestatic ix, 3)) (hpc : pc + 3 = pc') (hf : 1 ≤ R.frames) {Wn : Nat} (hW : (st.map fun v => v.category).sum ≤ Wn) (hl : Wn + 13 ≤ R.locals) (hc : kc ≤ R.cells) (hs : ks ≤ R.slots)
    (K : ∀ T', Wk Z y bytes ml ret n0 p l e R s m args below meth c T' kc ks → Hp Z n0 T'.heap L → Goes p e below E (T'.setTop (mkF m pc' ls (.double u :: st)))) : Goes p e below E (T.setTop (mkF m pc ls (.double b :: st))) := by
  subst hpc hu
  have hx := W.hx; have hby := W.hby; have hown := W.hown; have hZ := W.hZ; have hml := W.hml
  obtain ⟨A, locs, X, N⟩ := W
  obtain ⟨v, vm1, B, -, X', ⟨rfl, rfl⟩, st'⟩ := Jvm.LawKit.callS X hx hown (mvT hZ w1) (mvT hZ w2) (mvT hZ w3) (mvT hZ w4) (by decide) (absD_pays (W := Wn) b (mvT hZ w4) hf hl) (g := mkF m pc ls (.double b :: st)) rfl (by rw [hml]; exact hls) (argsL := [.double b]) (rest := st) (fun sig h => by rw [show absDN.desc = "(D)D" from rfl, show parseMethodDescriptor "(D)D" = some ⟨[.double], some .double⟩ by decide +kernel] at h; cases h; rfl) rfl (by show 2 * 0 + _ ≤ _; omega) (hb hby hd) (fun _ _ => ⟨hc, hs, rfl, hnn⟩)
  exact (K _ ⟨A, locs, X', N⟩ H).back st'
theorem g_minD (W : Wk Z y bytes ml ret n0 p l e R s m args below meth c T kc ks) {ix : Nat} {b d u : UInt64} (w1 : (Cond.methodLink y.cls ix minDN).before a0 Z = true) (w2 : (Cond.static minDN).before a0 Z = true) (w3 : (Cond.initialized "java/lang/Math").before a0 Z = true) (w4 : (Cond.code minDN minDCode 4 (some .double)).before a0 Z = true)
    (H : Hp Z n0 T.heap L) (hnn : NoNaN64 b) (hnd : NoNaN64 d) (hu : Native.java_lang_Math.nans.pick64 false b d = u) (hls : ls.size = ml) (hd : decode bytes pc = .ok (.invokestatic ix, 3)) (hpc : pc + 3 = pc') (hf : 1 ≤ R.frames) {Wn : Nat} (hW : (st.map fun v => v.category).sum ≤ Wn) (hl : Wn + 15 ≤ R.locals) (hc : kc ≤ R.cells) (hs : ks ≤ R.slots)
    (K : ∀ T', Wk Z y bytes ml ret n0 p l e R s m args below meth c T' kc ks → Hp Z n0 T'.heap L → Goes p e below E (T'.setTop (mkF m pc' ls (.double u :: st)))) : Goes p e below E (T.setTop (mkF m pc ls (.double d :: .double b :: st))) := by
  subst hpc hu
  have hx := W.hx; have hby := W.hby; have hown := W.hown; have hZ := W.hZ; have hml := W.hml
  obtain ⟨A, locs, X, N⟩ := W
  obtain ⟨v, vm1, B, -, X', ⟨rfl, rfl⟩, st'⟩ := Jvm.LawKit.callS X hx hown (mvT hZ w1) (mvT hZ w2) (mvT hZ w3) (mvT hZ w4) (by decide) (minD_pays (W := Wn) b d (mvT hZ w4) hf hl) (g := mkF m pc ls (.double d :: .double b :: st)) rfl (by rw [hml]; exact hls) (argsL := [.double b, .double d]) (rest := st) (fun sig h => by rw [show minDN.desc = "(DD)D" from rfl, show parseMethodDescriptor "(DD)D" = some ⟨[.double, .double], some .double⟩ by decide +kernel] at h; cases h; rfl) rfl (by show 2 * 0 + _ ≤ _; omega) (hb hby hd) (fun _ _ => ⟨hc, hs, rfl, hnn, hnd⟩)
  exact (K _ ⟨A, locs, X', N⟩ H).back st'
end Nat
end Jvm.OwnKit

namespace Jvm.OwnKit
open Jvm.FP.Core Jvm.Free.Fl Jvm.Op Jvm.ClassFile
/-! ### doubles between two marks of the grid 2^-30 -/
def GU : Int := ((2 ^ 1044 : Nat) : Int)
theorem GU_pos : 0 < GU := Int.natCast_pos.mpr (Nat.two_pow_pos _)
abbrev zv (a : UInt64) : Int := zval b64 (val64 a)
def Iv (L U : Nat) (a : UInt64) : Prop := DFin a ∧ (L : Int) * GU ≤ zv a ∧ zv a ≤ (U : Int) * GU
theorem dy30 {n : Int} {a : UInt64} (h : Dy n (-30) a) : zv a = n * GU := by
  have := h.2
  rwa [show ((-30 : Int) + 1074).toNat = 1044 by decide] at this
theorem grid (n : Nat) (h : n < 2 ^ 53) : ∃ w : UInt64, DFin w ∧ zv w = (n : Int) * GU := by
  have hl : (Int64.ofNat n).toInt = (n : Int) := Int64.toInt_ofNat_of_lt (by omega)
  have h1 := dy_l2d (x := Int64.ofNat n) (by rw [hl]; omega)
  rw [hl] at h1
  have h2 := dy_div (k := 30) (b := 4742290407621132288) h1 (by decide) (by decide +kernel) (by omega) (by decide) (by decide)
  exact ⟨_, h2.1, dy30 h2⟩
theorem key_gt {a b : UInt64} (ha : val64 a ≠ .nan) (hb : val64 b ≠ .nan) : zv b < zv a ↔ dkey b < dkey a := by
  have h := Option.some.inj ((dcmp_zval ha hb).symm.trans (dcmp_key ha hb))
  rw [← compare_gt_iff, ← compare_gt_iff, h]
theorem key_le {a b : UInt64} (ha : val64 a ≠ .nan) (hb : val64 b ≠ .nan) : zv a ≤ zv b ↔ dkey a ≤ dkey b := by
  have := key_gt ha hb; omega
theorem zv_zero : zv 0 = 0 := zval64_zero
theorem dkey_zero : dkey 0 = 0 := by decide +kernel
theorem fin_zero : DFin 0 := ⟨false, 0, b64.qmin, val64_zero⟩
theorem fin_between {r w : UInt64} (hr : val64 r ≠ .nan) (hw : DFin w) (h0 : 0 ≤ zv r) (h1 : zv r ≤ zv w) : DFin r := by
  have k0 := (key_le fin_zero.ne_nan hr).mp (by rw [zv_zero]; exact h0)
  have k1 := (key_le hr hw.ne_nan).mp h1
  rw [dkey_zero] at k0
  rw [fin_bits] at hw ⊢
  have := r.toNat_lt
  have := w.toNat_lt
  unfold dkey at k0 k1
  split at k0 <;> split at k1 <;> omega
theorem iv_le {L U : Nat} {a : UInt64} (h : Iv L U a) : L ≤ U := by
  have q := Int.le_trans h.2.1 h.2.2
  have := Int.le_of_mul_le_mul_right q GU_pos
  omega
theorem Iv.mono {L U L' U' : Nat} {a : UInt64} (h : Iv L U a) (h1 : L' ≤ L) (h2 : U ≤ U') : Iv L' U' a :=
  ⟨h.1, Int.le_trans (Int.mul_le_mul_of_nonneg_right (by omega) (Int.le_of_lt GU_pos)) h.2.1, Int.le_trans h.2.2 (Int.mul_le_mul_of_nonneg_right (by omega) (Int.le_of_lt GU_pos))⟩
theorem Iv.nonneg {L U : Nat} {a : UInt64} (h : Iv L U a) : 0 ≤ zv a := Int.le_trans (Int.mul_nonneg (by omega) (Int.le_of_lt GU_pos)) h.2.1
theorem Iv.pos {L U : Nat} {a : UInt64} (h : Iv L U a) (hL : 1 ≤ L) : 0 < zv a := Int.lt_of_lt_of_le (Int.mul_pos (by omega) GU_pos) h.2.1
theorem iv_zero : Iv 0 0 0 := ⟨fin_zero, by rw [zv_zero]; omega, by rw [zv_zero]; omega⟩
theorem iv_int {p : Nat} {a : UInt64} (h : Dy (p : Int) 0 a) : Iv (p * 2 ^ 30) (p * 2 ^ 30) a := by
  have := dy30 (dy_re h 30 (by decide))
  have e : ((p * 2 ^ 30 : Nat) : Int) = (p : Int) * ((2 ^ 30 : Nat) : Int) := Int.natCast_mul _ _
  exact ⟨h.1, by rw [e, ← this]; exact Int.le_refl _, by rw [e, ← this]; exact Int.le_refl _⟩
theorem iv_add {L U L' U' : Nat} {a b : UInt64} (ha : Iv L U a) (hb : Iv L' U' b) (h : U + U' < 2 ^ 53) : Iv (L + L') (U + U') (FP.dadd a b) := by
  have l1 := iv_le ha
  have l2 := iv_le hb
  obtain ⟨fa, a1, a2⟩ := ha
  obtain ⟨fb, b1, b2⟩ := hb
  obtain ⟨w1, g1, z1⟩ := grid (L + L') (by omega)
  obtain ⟨w2, g2, z2⟩ := grid (U + U') h
  have hs : val64 (FP.dadd a b) = round b64 (exactSum (val64 a) (val64 b)) := val64_dadd a b
  have e1 : ((L + L' : Nat) : Int) * GU = (L : Int) * GU + (L' : Int) * GU := by rw [Int.natCast_add, Int.add_mul]
  have e2 : ((U + U' : Nat) : Int) * GU = (U : Int) * GU + (U' : Int) * GU := by rw [Int.natCast_add, Int.add_mul]
  have lo := sum_ge good_b64 fa fb (val64_fits a) (val64_fits b) (val64_fits w1) g1.ne_nan (by rw [show zval b64 (val64 w1) = _ from z1, e1]; exact Int.add_le_add a1 b1)
  have hi := sum_le good_b64 fa fb (val64_fits a) (val64_fits b) (val64_fits w2) g2.ne_nan (by rw [show zval b64 (val64 w2) = _ from z2, e2]; exact Int.add_le_add a2 b2)
  rw [← hs] at lo hi
  have nn : val64 (FP.dadd a b) ≠ .nan := by
    rw [hs]
    obtain ⟨s, c, q, va⟩ := fa
    obtain ⟨t, d, r, vb⟩ := fb
    have f1 := val64_fits a
    have f2 := val64_fits b
    rw [va] at f1
    rw [vb] at f2
    obtain ⟨sg, n, e, q1, -, -⟩ := sum_units f1 f2
    rw [va, vb, q1]
    intro z
    exact absurd (round_nan.mp z) (fun z => by cases z)
  have lo' : zv w1 ≤ zv (FP.dadd a b) := lo
  have hi' : zv (FP.dadd a b) ≤ zv w2 := hi
  rw [z1] at lo'
  have h0 : 0 ≤ zv (FP.dadd a b) := Int.le_trans (Int.mul_nonneg (by omega) (Int.le_of_lt GU_pos)) lo'
  refine ⟨fin_between nn g2 h0 hi', lo', ?_⟩
  rw [← z2]; exact hi'
theorem pos_bits {a : UInt64} (h : DFin a) (hp : 0 < zv a) : 0 < a.toNat ∧ a.toNat < 2 ^ 63 ∧ dkey a = (a.toNat : Int) := by
  have k := (key_gt h.ne_nan fin_zero.ne_nan).mp (by rw [zv_zero]; exact hp)
  rw [dkey_zero] at k
  unfold dkey at k ⊢
  have := a.toNat_lt
  split at k <;> rename_i q
  · omega
  · rw [if_neg q]; omega
theorem iv_up {L U : Nat} {a b : UInt64} (h : Iv L U a) (hL : 1 ≤ L) (hU : U + 1 < 2 ^ 53) (hb : b.toNat = a.toNat + 1) : Iv L (U + 1) b := by
  obtain ⟨p1, p2, p3⟩ := pos_bits h.1 (h.pos hL)
  obtain ⟨w, g, z⟩ := grid (U + 1) hU
  have hw : zv a < zv w := by rw [z]; refine Int.lt_of_le_of_lt h.2.2 (Int.mul_lt_mul_of_pos_right (by omega) GU_pos)
  obtain ⟨w1, w2, w3⟩ := pos_bits g (Int.lt_trans (h.pos hL) hw)
  have kw := (key_gt g.ne_nan h.1.ne_nan).mp hw
  have fb : DFin b := by rw [fin_bits] at g ⊢; omega
  have kb : dkey b = (b.toNat : Int) := by unfold dkey; rw [if_neg (by rw [fin_bits] at g; omega)]
  refine ⟨fb, Int.le_trans h.2.1 ((key_le h.1.ne_nan fb.ne_nan).mpr (by omega)), ?_⟩
  rw [← z]; exact (key_le fb.ne_nan g.ne_nan).mpr (by omega)
theorem iv_down {L U : Nat} {a b : UInt64} (h : Iv L U a) (hL : 2 ≤ L) (hU : U < 2 ^ 53) (hb : b.toNat + 1 = a.toNat) : Iv (L - 1) U b := by
  have lu := iv_le h
  obtain ⟨p1, p2, p3⟩ := pos_bits h.1 (h.pos (by omega))
  obtain ⟨w, g, z⟩ := grid (L - 1) (by omega)
  have hw : zv w < zv a := by rw [z]; exact Int.lt_of_lt_of_le (Int.mul_lt_mul_of_pos_right (by omega) GU_pos) h.2.1
  have w0 : 0 < zv w := by rw [z]; exact Int.mul_pos (by omega) GU_pos
  obtain ⟨w1, w2, w3⟩ := pos_bits g w0
  have kw := (key_gt h.1.ne_nan g.ne_nan).mp hw
  have fa := h.1
  have fb : DFin b := by rw [fin_bits] at fa ⊢; omega
  have kb : dkey b = (b.toNat : Int) := by unfold dkey; rw [if_neg (by omega)]
  refine ⟨fb, ?_, Int.le_trans ((key_le fb.ne_nan h.1.ne_nan).mpr (by omega)) h.2.2⟩
  rw [← z]; exact (key_le g.ne_nan fb.ne_nan).mpr (by omega)
theorem dy_any {a : UInt64} (h : DFin a) : Dy (zv a) (-1074) a := ⟨h, by rw [show ((-1074 : Int) + 1074).toNat = 0 by decide]; simp⟩
theorem grid_mag {w : UInt64} {n : Nat} (z : zv w = (n : Int) * GU) : zmag b64 (val64 w) = n * 2 ^ 1044 := by
  have := congrArg Int.natAbs z
  unfold zv zval at this
  rw [natAbs_signed, Int.natAbs_mul, Int.natAbs_natCast] at this
  rw [this]
  rfl
/-- a quotient of positive doubles against the marks -/
theorem quot_bd {a b : UInt64} (fa : DFin a) (fb : DFin b) (pa : 0 < zv a) (pb : 0 < zv b) : val64 (FP.ddiv a b) ≠ .nan ∧ 0 ≤ zv (FP.ddiv a b) ∧
    (∀ m : Nat, m < 2 ^ 53 → (zv a).natAbs * 2 ^ 30 ≤ m * (zv b).natAbs → zv (FP.ddiv a b) ≤ (m : Int) * GU) ∧
    (∀ m : Nat, m < 2 ^ 53 → m * (zv b).natAbs ≤ (zv a).natAbs * 2 ^ 30 → (m : Int) * GU ≤ zv (FP.ddiv a b)) := by
  obtain ⟨s, u, c, d', q, r, hv, hd0, hq, hr, hz, hz2, hs, hu⟩ := dy_quot (dy_any fa) (dy_any fb) (by decide) (by omega)
  have s0 : s = false := by cases s <;> simp [signed] at hs ⊢ <;> omega
  have u0 : u = false := by cases u <;> simp [signed] at hu ⊢ <;> omega
  subst s0 u0
  have nn : val64 (FP.ddiv a b) ≠ .nan := by rw [hv]; exact fun z => roundRatio_ne_nan _ _ _ _ _ z
  have hsg : sgn (val64 (FP.ddiv a b)) = false := by rw [hv]; exact sgn_roundRatio ..
  have zr : zv (FP.ddiv a b) = ((zmag b64 (val64 (FP.ddiv a b)) : Nat) : Int) := by
    show zval b64 _ = _
    unfold zval; rw [hsg]; rfl
  rw [show ((-1074 : Int) + 1074).toNat = 0 by decide] at hz hz2
  have sl : inUnits c (q - r) (min (-1074) (q - r)) * 2 ^ (r + 1074).toNat = (zv a).natAbs * 2 ^ 30 * 2 ^ (1044 + (-1074 - min (-1074) (q - r)).toNat) := by
    unfold inUnits
    rw [Nat.mul_assoc, Nat.mul_assoc, ← Nat.pow_add, ← Nat.pow_add]
    exact pw3 hz (by omega)
  have sr : ∀ N : Nat, N * 2 ^ 1044 * 2 ^ (b64.qmin - min (-1074) (q - r)).toNat * d' * 2 ^ (r + 1074).toNat = N * (zv b).natAbs * 2 ^ (1044 + (-1074 - min (-1074) (q - r)).toNat) := fun N => by
    rw [qmin_b64, Nat.mul_assoc, hz2, Nat.pow_zero, Nat.mul_one, Nat.mul_assoc N, ← Nat.pow_add, Nat.mul_right_comm]
  refine ⟨nn, by rw [zr]; omega, fun m hm h => ?_, fun m hm h => ?_⟩
  · obtain ⟨w, g, z⟩ := grid m hm
    have := zmag_roundRatio_le good_b64 (s := false != false) (A := c) (B := d') (e := q - r) (e0 := min (-1074) (q - r)) (V := val64 w) hd0 (val64_fits w) g.ne_nan (by rw [qmin_b64]; omega) (by omega) (by
      rw [grid_mag z]
      refine Nat.le_of_mul_le_mul_right ?_ (Nat.two_pow_pos (r + 1074).toNat)
      rw [sr m, sl]
      exact Nat.mul_le_mul_right _ h)
    rw [grid_mag z, ← hv] at this
    rw [zr, show (m : Int) * GU = ((m * 2 ^ 1044 : Nat) : Int) from (Int.natCast_mul _ _).symm]
    exact Int.ofNat_le.mpr this
  · obtain ⟨w, g, z⟩ := grid m hm
    have := zmag_roundRatio_ge good_b64 (s := false != false) (A := c) (B := d') (e := q - r) (e0 := min (-1074) (q - r)) (V := val64 w) hd0 (val64_fits w) (by rw [qmin_b64]; omega) (by omega) (by
      rw [grid_mag z]
      refine Nat.le_of_mul_le_mul_right ?_ (Nat.two_pow_pos (r + 1074).toNat)
      rw [sr m, sl]
      exact Nat.mul_le_mul_right _ h)
    rw [grid_mag z, ← hv] at this
    rw [zr, show (m : Int) * GU = ((m * 2 ^ 1044 : Nat) : Int) from (Int.natCast_mul _ _).symm]
    exact Int.ofNat_le.mpr this
theorem Iv.abs {L U : Nat} {a : UInt64} (h : Iv L U a) : ((zv a).natAbs : Int) = zv a := by have := h.nonneg; omega
theorem GU_nat : ((2 ^ 1044 : Nat) : Int) = GU := rfl
theorem abs_lo {L U : Nat} {a : UInt64} (h : Iv L U a) : L * 2 ^ 1044 ≤ (zv a).natAbs := by
  have := h.2.1
  rw [← h.abs, ← GU_nat, ← Int.natCast_mul] at this
  exact Int.ofNat_le.mp this
theorem abs_hi {L U : Nat} {a : UInt64} (h : Iv L U a) : (zv a).natAbs ≤ U * 2 ^ 1044 := by
  have := h.2.2
  rw [← h.abs, ← GU_nat, ← Int.natCast_mul] at this
  exact Int.ofNat_le.mp this
theorem iv_div {La Ua Lb Ub l u : Nat} {a b : UInt64} (ha : Iv La Ua a) (hb : Iv Lb Ub b) (h1 : 1 ≤ La) (h2 : 1 ≤ Lb) (hu : u < 2 ^ 53) (hlu : l ≤ u) (hl : l * Ub ≤ La * 2 ^ 30) (hh : Ua * 2 ^ 30 ≤ u * Lb) : Iv l u (FP.ddiv a b) := by
  obtain ⟨nn, z0, le, ge⟩ := quot_bd ha.1 hb.1 (ha.pos h1) (hb.pos h2)
  have lo := ge l (by omega) (by
    calc l * (zv b).natAbs ≤ l * (Ub * 2 ^ 1044) := Nat.mul_le_mul_left _ (abs_hi hb)
      _ = l * Ub * 2 ^ 1044 := by rw [Nat.mul_assoc]
      _ ≤ La * 2 ^ 30 * 2 ^ 1044 := Nat.mul_le_mul_right _ hl
      _ = La * 2 ^ 1044 * 2 ^ 30 := by rw [Nat.mul_right_comm]
      _ ≤ (zv a).natAbs * 2 ^ 30 := Nat.mul_le_mul_right _ (abs_lo ha))
  have hi := le u hu (by
    calc (zv a).natAbs * 2 ^ 30 ≤ Ua * 2 ^ 1044 * 2 ^ 30 := Nat.mul_le_mul_right _ (abs_hi ha)
      _ = Ua * 2 ^ 30 * 2 ^ 1044 := by rw [Nat.mul_right_comm]
      _ ≤ u * Lb * 2 ^ 1044 := Nat.mul_le_mul_right _ hh
      _ = u * (Lb * 2 ^ 1044) := by rw [Nat.mul_assoc]
      _ ≤ u * (zv b).natAbs := Nat.mul_le_mul_left _ (abs_lo hb))
  obtain ⟨w, g, z⟩ := grid u hu
  exact ⟨fin_between nn g z0 (by rw [z]; exact hi), lo, hi⟩
theorem iv_lt {L U L' U' : Nat} {a b : UInt64} (ha : Iv L U a) (hb : Iv L' U' b) (h : U < L') : FP.dcmp a b = some .lt := by
  rw [show FP.dcmp a b = _ from dcmp_zval ha.1.ne_nan hb.1.ne_nan]
  exact congrArg some ((compare_lt_iff _ _).mpr (Int.lt_of_le_of_lt ha.2.2 (Int.lt_of_lt_of_le (Int.mul_lt_mul_of_pos_right (by omega) GU_pos) hb.2.1)))
theorem iv_gt {L U L' U' : Nat} {a b : UInt64} (ha : Iv L U a) (hb : Iv L' U' b) (h : U' < L) : FP.dcmp a b = some .gt := by
  rw [show FP.dcmp a b = _ from dcmp_zval ha.1.ne_nan hb.1.ne_nan]
  exact congrArg some ((compare_gt_iff _ _).mpr (Int.lt_of_le_of_lt hb.2.2 (Int.lt_of_lt_of_le (Int.mul_lt_mul_of_pos_right (by omega) GU_pos) ha.2.1)))
/-- the share p / t: about which marks it lies; d: how far a sum may stray, in marks -/
def Sh (p t : Nat) (r : UInt64) : Prop := Iv (p * 2 ^ 30 / t - 400) (p * 2 ^ 30 / t + 400) r
theorem sh_of {p t K : Nat} {a b : UInt64} (ha : Iv (p * 2 ^ 30 - K) (p * 2 ^ 30 + K) a) (hb : Iv (t * 2 ^ 30 - K) (t * 2 ^ 30 + K) b) (hp : 1 ≤ p) (hpt : p ≤ t) (ht : t ≤ 2048) (hK : K ≤ 100) : Iv (p * 2 ^ 30 / t - 300) (p * 2 ^ 30 / t + 300) (FP.ddiv a b) := by
  have e1 : p * 2 ^ 30 / t * t ≤ p * 2 ^ 30 := Nat.div_mul_le_self _ _
  have e2 : p * 2 ^ 30 < (p * 2 ^ 30 / t + 1) * t := by
    have := Nat.lt_div_mul_add (a := p * 2 ^ 30) (b := t) (by omega)
    rw [Nat.add_mul, Nat.one_mul]; exact this
  have e3 : p * 2 ^ 30 / t ≤ 2 ^ 30 := Nat.div_le_of_le_mul (Nat.mul_le_mul_right _ hpt)
  generalize p * 2 ^ 30 / t = d at *
  rw [Nat.add_mul, Nat.one_mul] at e2
  refine iv_div ha hb (by omega) (by omega) (by omega) (by omega) ?_ ?_
  · by_cases hd : d ≤ 300
    · rw [show d - 300 = 0 by omega, Nat.zero_mul]; exact Nat.zero_le _
    · obtain ⟨x, rfl⟩ : ∃ x, d = x + 300 := ⟨d - 300, by omega⟩
      rw [show x + 300 - 300 = x by omega, Nat.mul_add, ← Nat.mul_assoc]
      rw [Nat.add_mul] at e1
      generalize x * t = y at *
      have : x * K ≤ x * 100 := Nat.mul_le_mul_left _ hK
      generalize x * K = z at *
      omega
  · rw [Nat.mul_sub, ← Nat.mul_assoc, Nat.add_mul d 300 t]
    have : (d + 300) * K ≤ (d + 300) * 100 := Nat.mul_le_mul_left _ hK
    generalize (d + 300) * K = z at *
    generalize d * t = y at *
    omega
theorem apart {p t p' t' d d' N : Nat} (hN : 801 * (1024 * 1024) ≤ N) (e1 : d * t ≤ p * N) (e3 : p' * N < (d' + 1) * t') (hlt : p * t' < p' * t) (ht0 : 1 ≤ t) (ht : t ≤ 1024) (ht' : t' ≤ 1024) : d + 400 < d' - 400 := by
  refine Nat.lt_of_not_le fun q => ?_
  have q1 : d' ≤ d + 800 := by omega
  have a1 : p' * N * t < (d' + 1) * t' * t := Nat.mul_lt_mul_of_pos_right e3 (by omega)
  have a2 : d * t * t' ≤ p * N * t' := Nat.mul_le_mul_right _ e1
  have a3 : (p * t' + 1) * N ≤ p' * t * N := Nat.mul_le_mul_right _ hlt
  have a4 : (d' + 1) * t' * t ≤ (d + 801) * t' * t := Nat.mul_le_mul_right _ (Nat.mul_le_mul_right _ (by omega))
  have a5 : 801 * (t' * t) ≤ 801 * (1024 * 1024) := Nat.mul_le_mul_left _ (Nat.mul_le_mul ht' ht)
  rw [Nat.mul_right_comm p' N t] at a1
  rw [Nat.mul_right_comm p N t', Nat.mul_assoc d t t', Nat.mul_comm t t'] at a2
  rw [Nat.mul_assoc (d + 801), Nat.add_mul d 801] at a4
  rw [Nat.add_mul] at a3
  clear e1 e3 hlt
  generalize p' * t * N = A at a1 a3
  generalize p * t' * N = B at a2 a3
  generalize (d' + 1) * t' * t = C at a1 a4
  generalize d * (t' * t) = D at a2 a4
  generalize 801 * (t' * t) = F at a4 a5
  omega
/-- two shares that differ lie apart -/
theorem sh_lt {p t p' t' : Nat} {r r' : UInt64} (h : Sh p t r) (h' : Sh p' t' r') (hlt : p * t' < p' * t) (ht0 : 1 ≤ t) (ht : t ≤ 1024) (ht0' : 1 ≤ t') (ht' : t' ≤ 1024) : FP.dcmp r r' = some .lt ∧ FP.dcmp r' r = some .gt := by
  have q := apart (N := 2 ^ 30) (by decide) (d := p * 2 ^ 30 / t) (d' := p' * 2 ^ 30 / t') (Nat.div_mul_le_self _ _) (by
    have := Nat.lt_div_mul_add (a := p' * 2 ^ 30) (b := t') (by omega)
    rw [Nat.add_mul, Nat.one_mul]; exact this) hlt ht0 ht ht'
  exact ⟨iv_lt h h' q, iv_gt h' h q⟩
end Jvm.OwnKit

namespace Jvm.OwnKit
section Rows
variable {Z : State} {n0 : Nat} {h : Heap}
theorem Hp.fr1 {r0 x : HRow} {L : List HRow} (H : Hp Z n0 h (r0 :: x :: L)) : Hp Z n0 h (x :: r0 :: L) := H.front (i := 1) rfl rfl
theorem Hp.fr2 {r0 r1 x : HRow} {L : List HRow} (H : Hp Z n0 h (r0 :: r1 :: x :: L)) : Hp Z n0 h (x :: r0 :: r1 :: L) := H.front (i := 2) rfl rfl
theorem Hp.fr3 {r0 r1 r2 x : HRow} {L : List HRow} (H : Hp Z n0 h (r0 :: r1 :: r2 :: x :: L)) : Hp Z n0 h (x :: r0 :: r1 :: r2 :: L) := H.front (i := 3) rfl rfl
theorem Hp.fr4 {r0 r1 r2 r3 x : HRow} {L : List HRow} (H : Hp Z n0 h (r0 :: r1 :: r2 :: r3 :: x :: L)) : Hp Z n0 h (x :: r0 :: r1 :: r2 :: r3 :: L) := H.front (i := 4) rfl rfl
theorem Hp.fr5 {r0 r1 r2 r3 r4 x : HRow} {L : List HRow} (H : Hp Z n0 h (r0 :: r1 :: r2 :: r3 :: r4 :: x :: L)) : Hp Z n0 h (x :: r0 :: r1 :: r2 :: r3 :: r4 :: L) := H.front (i := 5) rfl rfl
theorem Hp.fr6 {r0 r1 r2 r3 r4 r5 x : HRow} {L : List HRow} (H : Hp Z n0 h (r0 :: r1 :: r2 :: r3 :: r4 :: r5 :: x :: L)) : Hp Z n0 h (x :: r0 :: r1 :: r2 :: r3 :: r4 :: r5 :: L) := H.front (i := 6) rfl rfl
theorem Hp.fr7 {r0 r1 r2 r3 r4 r5 r6 x : HRow} {L : List HRow} (H : Hp Z n0 h (r0 :: r1 :: r2 :: r3 :: r4 :: r5 :: r6 :: x :: L)) : Hp Z n0 h (x :: r0 :: r1 :: r2 :: r3 :: r4 :: r5 :: r6 :: L) := H.front (i := 7) rfl rfl
theorem Hp.fr8 {r0 r1 r2 r3 r4 r5 r6 r7 x : HRow} {L : List HRow} (H : Hp Z n0 h (r0 :: r1 :: r2 :: r3 :: r4 :: r5 :: r6 :: r7 :: x :: L)) : Hp Z n0 h (x :: r0 :: r1 :: r2 :: r3 :: r4 :: r5 :: r6 :: r7 :: L) := H.front (i := 8) rfl rfl
theorem Hp.fr9 {r0 r1 r2 r3 r4 r5 r6 r7 r8 x : HRow} {L : List HRow} (H : Hp Z n0 h (r0 :: r1 :: r2 :: r3 :: r4 :: r5 :: r6 :: r7 :: r8 :: x :: L)) : Hp Z n0 h (x :: r0 :: r1 :: r2 :: r3 :: r4 :: r5 :: r6 :: r7 :: r8 :: L) := H.front (i := 9) rfl rfl
theorem Hp.fr10 {r0 r1 r2 r3 r4 r5 r6 r7 r8 r9 x : HRow} {L : List HRow} (H : Hp Z n0 h (r0 :: r1 :: r2 :: r3 :: r4 :: r5 :: r6 :: r7 :: r8 :: r9 :: x :: L)) : Hp Z n0 h (x :: r0 :: r1 :: r2 :: r3 :: r4 :: r5 :: r6 :: r7 :: r8 :: r9 :: L) := H.front (i := 10) rfl rfl
end Rows
end Jvm.OwnKit

namespace Jvm.Pilot.@@N@@
open Jvm Jvm.ClassFile Sem Op Lib Jvm.Free Jvm.Stand Jvm.LawKit Jvm.RoadKit Jvm.OwnKit Jvm.Free.Fl Bundle Jvm.Pilot.@@N@@.Jvm.D
abbrev HW (Z : State) (a0 : Array Value) : Prop := ∀ d ∈ tables_1, d.before a0 Z = true
theorem wk_ {Z : State} {a0 : Array Value} (hw : HW Z a0) (i : Nat) {d : Jvm.Cond} (e : tables_1[i]? = some d) : d.before a0 Z = true := hw d (List.mem_of_getElem? e)
abbrev M0 : MethodName := ⟨"com/example/narrow_bounds/narrowbounds/Share", "<init>", "([D[DZZ)V"⟩
abbrev M1 : MethodName := ⟨"java/lang/Object", "<init>", "()V"⟩
abbrev M2 : MethodName := ⟨"com/example/narrow_bounds/narrowbounds/Share", "addParts", "(IDD)V"⟩
abbrev M3 : MethodName := ⟨"com/example/narrow_bounds/narrowbounds/DirectedRounding", "add", "(DDZ)D"⟩
abbrev M4 : MethodName := ⟨"com/example/narrow_bounds/narrowbounds/DirectedRounding", "addDown", "(DD)D"⟩
abbrev M5 : MethodName := ⟨"com/example/narrow_bounds/narrowbounds/DirectedRounding", "addUp", "(DD)D"⟩
abbrev M6 : MethodName := ⟨"com/example/narrow_bounds/narrowbounds/ShareValueAtExtremePinLaw", "addPart", "(Lcom/example/narrow_bounds/narrowbounds/Share;IZD)V"⟩
abbrev M7 : MethodName := ⟨"com/example/narrow_bounds/narrowbounds/Share", "extreme", "()D"⟩
abbrev M8 : MethodName := ⟨"com/example/narrow_bounds/narrowbounds/Share", "sortRanges", "()V"⟩
abbrev M9 : MethodName := ⟨"com/example/narrow_bounds/narrowbounds/Share", "comesBefore", "(II)Z"⟩
abbrev M10 : MethodName := ⟨"com/example/narrow_bounds/narrowbounds/Share", "compareRatios", "(DDDD)I"⟩
abbrev M11 : MethodName := ⟨"java/lang/Double", "compare", "(DD)I"⟩
abbrev M12 : MethodName := ⟨"java/lang/Double", "doubleToLongBits", "(D)J"⟩
abbrev M13 : MethodName := ⟨"java/lang/Double", "isNaN", "(D)Z"⟩
abbrev M14 : MethodName := ⟨"java/lang/Double", "doubleToRawLongBits", "(D)J"⟩
abbrev M15 : MethodName := ⟨"java/lang/Double", "isFinite", "(D)Z"⟩
abbrev M16 : MethodName := ⟨"java/lang/Math", "abs", "(D)D"⟩
abbrev M17 : MethodName := ⟨"com/example/narrow_bounds/narrowbounds/DirectedRounding", "multiply", "(DDZ)D"⟩
abbrev M18 : MethodName := ⟨"com/example/narrow_bounds/narrowbounds/DirectedRounding", "multiplyDown", "(DD)D"⟩
abbrev M19 : MethodName := ⟨"com/example/narrow_bounds/narrowbounds/DirectedRounding", "multiplyUp", "(DD)D"⟩
abbrev M20 : MethodName := ⟨"java/lang/Math", "nextUp", "(D)D"⟩
abbrev M21 : MethodName := ⟨"java/lang/Double", "longBitsToDouble", "(J)D"⟩
abbrev M22 : MethodName := ⟨"com/example/narrow_bounds/narrowbounds/Share", "leastShare", "(DD)D"⟩
abbrev M23 : MethodName := ⟨"com/example/narrow_bounds/narrowbounds/DirectedRounding", "divideDown", "(DD)D"⟩
abbrev M24 : MethodName := ⟨"java/lang/Math", "nextDown", "(D)D"⟩
abbrev M25 : MethodName := ⟨"com/example/narrow_bounds/narrowbounds/Share", "valueAtExtreme", "(I)D"⟩
abbrev M26 : MethodName := ⟨"com/example/narrow_bounds/narrowbounds/Share", "greatestShare", "(DD)D"⟩
abbrev M27 : MethodName := ⟨"java/lang/Double", "isInfinite", "(D)Z"⟩
abbrev M28 : MethodName := ⟨"com/example/narrow_bounds/narrowbounds/DirectedRounding", "divideUp", "(DD)D"⟩
abbrev M29 : MethodName := ⟨"java/lang/Math", "min", "(DD)D"⟩
theorem wd_0 {Z a0} (hw : HW Z a0) : (Cond.arrayClass FieldType.double).before a0 Z = true := wk_ hw 0 rfl
theorem wd_1 {Z a0} (hw : HW Z a0) : (Cond.classLink "com/example/narrow_bounds/narrowbounds/ShareValueAtExtremePinLaw" 8 "com/example/narrow_bounds/narrowbounds/Share").before a0 Z = true := wk_ hw 1 rfl
theorem wd_2 {Z a0} (hw : HW Z a0) : (Cond.instantiable "com/example/narrow_bounds/narrowbounds/Share" 16).before a0 Z = true := wk_ hw 2 rfl
theorem wd_3 {Z a0} (hw : HW Z a0) : (Cond.initialized "com/example/narrow_bounds/narrowbounds/Share").before a0 Z = true := wk_ hw 3 rfl
theorem wd_4 {Z a0} (hw : HW Z a0) : (Cond.methodLink "com/example/narrow_bounds/narrowbounds/ShareValueAtExtremePinLaw" 13 M0).before a0 Z = true := wk_ hw 4 rfl
theorem wd_5 {Z a0} (hw : HW Z a0) : (Cond.instanceMethod M0).before a0 Z = true := wk_ hw 5 rfl
theorem wd_6 {Z a0} (hw : HW Z a0) : (Cond.code M0 prog_45_method_1_code 5 (Option.none : Option Jvm.ClassFile.FieldType)).before a0 Z = true := wk_ hw 6 rfl
theorem wd_7 {Z a0} (hw : HW Z a0) : (Cond.methodLink "com/example/narrow_bounds/narrowbounds/Share" 1 M1).before a0 Z = true := wk_ hw 7 rfl
theorem wd_8 {Z a0} (hw : HW Z a0) : (Cond.instanceMethod M1).before a0 Z = true := wk_ hw 8 rfl
theorem wd_9 {Z a0} (hw : HW Z a0) : (Cond.code M1 object_method_1_code 1 (Option.none : Option Jvm.ClassFile.FieldType)).before a0 Z = true := wk_ hw 9 rfl
theorem wd_10 {Z a0} (hw : HW Z a0) : (Cond.fieldLink "com/example/narrow_bounds/narrowbounds/Share" 7 "com/example/narrow_bounds/narrowbounds/Share" "lows" "[D").before a0 Z = true := wk_ hw 10 rfl
theorem wd_11 {Z a0} (hw : HW Z a0) : (Cond.laysFinal "com/example/narrow_bounds/narrowbounds/Share" "com/example/narrow_bounds/narrowbounds/Share" "lows" "[D").before a0 Z = true := wk_ hw 11 rfl
theorem wd_12 {Z a0} (hw : HW Z a0) : (Cond.fieldLink "com/example/narrow_bounds/narrowbounds/Share" 13 "com/example/narrow_bounds/narrowbounds/Share" "highs" "[D").before a0 Z = true := wk_ hw 12 rfl
theorem wd_13 {Z a0} (hw : HW Z a0) : (Cond.laysFinal "com/example/narrow_bounds/narrowbounds/Share" "com/example/narrow_bounds/narrowbounds/Share" "highs" "[D").before a0 Z = true := wk_ hw 13 rfl
theorem wd_14 {Z a0} (hw : HW Z a0) : (Cond.fieldLink "com/example/narrow_bounds/narrowbounds/Share" 16 "com/example/narrow_bounds/narrowbounds/Share" "greatest" "Z").before a0 Z = true := wk_ hw 14 rfl
theorem wd_15 {Z a0} (hw : HW Z a0) : (Cond.laysFinal "com/example/narrow_bounds/narrowbounds/Share" "com/example/narrow_bounds/narrowbounds/Share" "greatest" "Z").before a0 Z = true := wk_ hw 15 rfl
theorem wd_16 {Z a0} (hw : HW Z a0) : (Cond.fieldLink "com/example/narrow_bounds/narrowbounds/Share" 20 "com/example/narrow_bounds/narrowbounds/Share" "running" "Z").before a0 Z = true := wk_ hw 16 rfl
theorem wd_17 {Z a0} (hw : HW Z a0) : (Cond.laysFinal "com/example/narrow_bounds/narrowbounds/Share" "com/example/narrow_bounds/narrowbounds/Share" "running" "Z").before a0 Z = true := wk_ hw 17 rfl
theorem wd_18 {Z a0} (hw : HW Z a0) : (Cond.fieldLink "com/example/narrow_bounds/narrowbounds/Share" 23 "com/example/narrow_bounds/narrowbounds/Share" "owns" "[D").before a0 Z = true := wk_ hw 18 rfl
theorem wd_19 {Z a0} (hw : HW Z a0) : (Cond.laysFinal "com/example/narrow_bounds/narrowbounds/Share" "com/example/narrow_bounds/narrowbounds/Share" "owns" "[D").before a0 Z = true := wk_ hw 19 rfl
theorem wd_20 {Z a0} (hw : HW Z a0) : (Cond.fieldLink "com/example/narrow_bounds/narrowbounds/Share" 26 "com/example/narrow_bounds/narrowbounds/Share" "others" "[D").before a0 Z = true := wk_ hw 20 rfl
theorem wd_21 {Z a0} (hw : HW Z a0) : (Cond.laysFinal "com/example/narrow_bounds/narrowbounds/Share" "com/example/narrow_bounds/narrowbounds/Share" "others" "[D").before a0 Z = true := wk_ hw 21 rfl
theorem wd_22 {Z a0} (hw : HW Z a0) : (Cond.arrayClass FieldType.boolean).before a0 Z = true := wk_ hw 22 rfl
theorem wd_23 {Z a0} (hw : HW Z a0) : (Cond.fieldLink "com/example/narrow_bounds/narrowbounds/Share" 29 "com/example/narrow_bounds/narrowbounds/Share" "listed" "[Z").before a0 Z = true := wk_ hw 23 rfl
theorem wd_24 {Z a0} (hw : HW Z a0) : (Cond.laysFinal "com/example/narrow_bounds/narrowbounds/Share" "com/example/narrow_bounds/narrowbounds/Share" "listed" "[Z").before a0 Z = true := wk_ hw 24 rfl
theorem wd_25 {Z a0} (hw : HW Z a0) : (Cond.arrayClass FieldType.int).before a0 Z = true := wk_ hw 25 rfl
theorem wd_26 {Z a0} (hw : HW Z a0) : (Cond.fieldLink "com/example/narrow_bounds/narrowbounds/Share" 33 "com/example/narrow_bounds/narrowbounds/Share" "ranges" "[I").before a0 Z = true := wk_ hw 26 rfl
theorem wd_27 {Z a0} (hw : HW Z a0) : (Cond.laysFinal "com/example/narrow_bounds/narrowbounds/Share" "com/example/narrow_bounds/narrowbounds/Share" "ranges" "[I").before a0 Z = true := wk_ hw 27 rfl
theorem wd_28 {Z a0} (hw : HW Z a0) : (Cond.fieldLink "com/example/narrow_bounds/narrowbounds/Share" 37 "com/example/narrow_bounds/narrowbounds/Share" "ownLows" "[D").before a0 Z = true := wk_ hw 28 rfl
theorem wd_29 {Z a0} (hw : HW Z a0) : (Cond.laysFinal "com/example/narrow_bounds/narrowbounds/Share" "com/example/narrow_bounds/narrowbounds/Share" "ownLows" "[D").before a0 Z = true := wk_ hw 29 rfl
theorem wd_30 {Z a0} (hw : HW Z a0) : (Cond.fieldLink "com/example/narrow_bounds/narrowbounds/Share" 40 "com/example/narrow_bounds/narrowbounds/Share" "ownHighs" "[D").before a0 Z = true := wk_ hw 30 rfl
theorem wd_31 {Z a0} (hw : HW Z a0) : (Cond.laysFinal "com/example/narrow_bounds/narrowbounds/Share" "com/example/narrow_bounds/narrowbounds/Share" "ownHighs" "[D").before a0 Z = true := wk_ hw 31 rfl
theorem wd_32 {Z a0} (hw : HW Z a0) : (Cond.fieldLink "com/example/narrow_bounds/narrowbounds/Share" 43 "com/example/narrow_bounds/narrowbounds/Share" "othersLows" "[D").before a0 Z = true := wk_ hw 32 rfl
theorem wd_33 {Z a0} (hw : HW Z a0) : (Cond.laysFinal "com/example/narrow_bounds/narrowbounds/Share" "com/example/narrow_bounds/narrowbounds/Share" "othersLows" "[D").before a0 Z = true := wk_ hw 33 rfl
theorem wd_34 {Z a0} (hw : HW Z a0) : (Cond.fieldLink "com/example/narrow_bounds/narrowbounds/Share" 46 "com/example/narrow_bounds/narrowbounds/Share" "othersHighs" "[D").before a0 Z = true := wk_ hw 34 rfl
theorem wd_35 {Z a0} (hw : HW Z a0) : (Cond.laysFinal "com/example/narrow_bounds/narrowbounds/Share" "com/example/narrow_bounds/narrowbounds/Share" "othersHighs" "[D").before a0 Z = true := wk_ hw 35 rfl
theorem wd_36 {Z a0} (hw : HW Z a0) : (Cond.methodLink "com/example/narrow_bounds/narrowbounds/ShareValueAtExtremePinLaw" 7 M2).before a0 Z = true := wk_ hw 36 rfl
theorem wd_37 {Z a0} (hw : HW Z a0) : (Cond.declares M2).before a0 Z = true := wk_ hw 37 rfl
theorem wd_38 {Z a0} (hw : HW Z a0) : (Cond.instanceMethod M2).before a0 Z = true := wk_ hw 38 rfl
theorem wd_39 {Z a0} (hw : HW Z a0) : (Cond.selects "com/example/narrow_bounds/narrowbounds/Share" M2 M2).before a0 Z = true := wk_ hw 39 rfl
theorem wd_40 {Z a0} (hw : HW Z a0) : (Cond.code M2 prog_45_method_3_code 6 (Option.none : Option Jvm.ClassFile.FieldType)).before a0 Z = true := wk_ hw 40 rfl
theorem wd_41 {Z a0} (hw : HW Z a0) : (Cond.fieldLink "com/example/narrow_bounds/narrowbounds/Share" 49 "com/example/narrow_bounds/narrowbounds/Share" "ownFixed" "D").before a0 Z = true := wk_ hw 41 rfl
theorem wd_42 {Z a0} (hw : HW Z a0) : (Cond.lays "com/example/narrow_bounds/narrowbounds/Share" "com/example/narrow_bounds/narrowbounds/Share" "ownFixed" "D").before a0 Z = true := wk_ hw 42 rfl
theorem wd_43 {Z a0} (hw : HW Z a0) : (Cond.methodLink "com/example/narrow_bounds/narrowbounds/Share" 60 M3).before a0 Z = true := wk_ hw 43 rfl
theorem wd_44 {Z a0} (hw : HW Z a0) : (Cond.static M3).before a0 Z = true := wk_ hw 44 rfl
theorem wd_45 {Z a0} (hw : HW Z a0) : (Cond.initialized "com/example/narrow_bounds/narrowbounds/DirectedRounding").before a0 Z = true := wk_ hw 45 rfl
theorem wd_46 {Z a0} (hw : HW Z a0) : (Cond.code M3 prog_13_method_10_code 5 (some FieldType.double)).before a0 Z = true := wk_ hw 46 rfl
theorem wd_47 {Z a0} (hw : HW Z a0) : (Cond.methodLink "com/example/narrow_bounds/narrowbounds/DirectedRounding" 26 M4).before a0 Z = true := wk_ hw 47 rfl
theorem wd_48 {Z a0} (hw : HW Z a0) : (Cond.static M4).before a0 Z = true := wk_ hw 48 rfl
theorem wd_49 {Z a0} (hw : HW Z a0) : (Cond.code M4 prog_13_method_2_code 4 (some FieldType.double)).before a0 Z = true := wk_ hw 49 rfl
theorem wd_50 {Z a0} (hw : HW Z a0) : (Cond.fieldLink "com/example/narrow_bounds/narrowbounds/Share" 53 "com/example/narrow_bounds/narrowbounds/Share" "othersFixed" "D").before a0 Z = true := wk_ hw 50 rfl
theorem wd_51 {Z a0} (hw : HW Z a0) : (Cond.lays "com/example/narrow_bounds/narrowbounds/Share" "com/example/narrow_bounds/narrowbounds/Share" "othersFixed" "D").before a0 Z = true := wk_ hw 51 rfl
theorem wd_52 {Z a0} (hw : HW Z a0) : (Cond.methodLink "com/example/narrow_bounds/narrowbounds/DirectedRounding" 20 M5).before a0 Z = true := wk_ hw 52 rfl
theorem wd_53 {Z a0} (hw : HW Z a0) : (Cond.static M5).before a0 Z = true := wk_ hw 53 rfl
theorem wd_54 {Z a0} (hw : HW Z a0) : (Cond.code M5 prog_13_method_3_code 4 (some FieldType.double)).before a0 Z = true := wk_ hw 54 rfl
theorem wd_55 {Z a0} (hw : HW Z a0) : (Cond.methodLink "com/example/narrow_bounds/narrowbounds/ShareValueAtExtremePinLaw" 16 M6).before a0 Z = true := wk_ hw 55 rfl
theorem wd_56 {Z a0} (hw : HW Z a0) : (Cond.static M6).before a0 Z = true := wk_ hw 56 rfl
theorem wd_57 {Z a0} (hw : HW Z a0) : (Cond.initialized "com/example/narrow_bounds/narrowbounds/ShareValueAtExtremePinLaw").before a0 Z = true := wk_ hw 57 rfl
theorem wd_58 {Z a0} (hw : HW Z a0) : (Cond.code M6 method_2_code 5 (Option.none : Option Jvm.ClassFile.FieldType)).before a0 Z = true := wk_ hw 58 rfl
theorem wd_59 {Z a0} (hw : HW Z a0) : (Cond.fieldLink "com/example/narrow_bounds/narrowbounds/Share" 56 "com/example/narrow_bounds/narrowbounds/Share" "rangeCount" "I").before a0 Z = true := wk_ hw 59 rfl
theorem wd_60 {Z a0} (hw : HW Z a0) : (Cond.lays "com/example/narrow_bounds/narrowbounds/Share" "com/example/narrow_bounds/narrowbounds/Share" "rangeCount" "I").before a0 Z = true := wk_ hw 60 rfl
theorem wd_61 {Z a0} (hw : HW Z a0) : (Cond.methodLink "com/example/narrow_bounds/narrowbounds/ShareValueAtExtremePinLaw" 22 M7).before a0 Z = true := wk_ hw 61 rfl
theorem wd_62 {Z a0} (hw : HW Z a0) : (Cond.declares M7).before a0 Z = true := wk_ hw 62 rfl
theorem wd_63 {Z a0} (hw : HW Z a0) : (Cond.instanceMethod M7).before a0 Z = true := wk_ hw 63 rfl
theorem wd_64 {Z a0} (hw : HW Z a0) : (Cond.selects "com/example/narrow_bounds/narrowbounds/Share" M7 M7).before a0 Z = true := wk_ hw 64 rfl
theorem wd_65 {Z a0} (hw : HW Z a0) : (Cond.code M7 prog_45_method_4_code 15 (some FieldType.double)).before a0 Z = true := wk_ hw 65 rfl
theorem wd_66 {Z a0} (hw : HW Z a0) : (Cond.methodLink "com/example/narrow_bounds/narrowbounds/Share" 66 M8).before a0 Z = true := wk_ hw 66 rfl
theorem wd_67 {Z a0} (hw : HW Z a0) : (Cond.instanceMethod M8).before a0 Z = true := wk_ hw 67 rfl
theorem wd_68 {Z a0} (hw : HW Z a0) : (Cond.privateMethod M8).before a0 Z = true := wk_ hw 68 rfl
theorem wd_69 {Z a0} (hw : HW Z a0) : (Cond.code M8 prog_45_method_8_code 4 (Option.none : Option Jvm.ClassFile.FieldType)).before a0 Z = true := wk_ hw 69 rfl
theorem wd_70 {Z a0} (hw : HW Z a0) : (Cond.methodLink "com/example/narrow_bounds/narrowbounds/Share" 105 M9).before a0 Z = true := wk_ hw 70 rfl
theorem wd_71 {Z a0} (hw : HW Z a0) : (Cond.instanceMethod M9).before a0 Z = true := wk_ hw 71 rfl
theorem wd_72 {Z a0} (hw : HW Z a0) : (Cond.privateMethod M9).before a0 Z = true := wk_ hw 72 rfl
theorem wd_73 {Z a0} (hw : HW Z a0) : (Cond.code M9 prog_45_method_9_code 4 (some FieldType.boolean)).before a0 Z = true := wk_ hw 73 rfl
theorem wd_74 {Z a0} (hw : HW Z a0) : (Cond.methodLink "com/example/narrow_bounds/narrowbounds/Share" 109 M10).before a0 Z = true := wk_ hw 74 rfl
theorem wd_75 {Z a0} (hw : HW Z a0) : (Cond.static M10).before a0 Z = true := wk_ hw 75 rfl
theorem wd_76 {Z a0} (hw : HW Z a0) : (Cond.code M10 prog_45_method_10_code 14 (some FieldType.int)).before a0 Z = true := wk_ hw 76 rfl
theorem wd_77 {Z a0} (hw : HW Z a0) : (Cond.methodLink "com/example/narrow_bounds/narrowbounds/Share" 113 M11).before a0 Z = true := wk_ hw 77 rfl
theorem wd_78 {Z a0} (hw : HW Z a0) : (Cond.static M11).before a0 Z = true := wk_ hw 78 rfl
theorem wd_79 {Z a0} (hw : HW Z a0) : (Cond.initialized "java/lang/Double").before a0 Z = true := wk_ hw 79 rfl
theorem wd_80 {Z a0} (hw : HW Z a0) : (Cond.code M11 jdk_117_method_27_code 8 (some FieldType.int)).before a0 Z = true := wk_ hw 80 rfl
theorem wd_81 {Z a0} (hw : HW Z a0) : (Cond.methodLink "java/lang/Double" 46 M12).before a0 Z = true := wk_ hw 81 rfl
theorem wd_82 {Z a0} (hw : HW Z a0) : (Cond.static M12).before a0 Z = true := wk_ hw 82 rfl
theorem wd_83 {Z a0} (hw : HW Z a0) : (Cond.code M12 jdk_117_method_23_code 2 (some FieldType.long)).before a0 Z = true := wk_ hw 83 rfl
theorem wd_84 {Z a0} (hw : HW Z a0) : (Cond.methodLink "java/lang/Double" 122 M13).before a0 Z = true := wk_ hw 84 rfl
theorem wd_85 {Z a0} (hw : HW Z a0) : (Cond.static M13).before a0 Z = true := wk_ hw 85 rfl
theorem wd_86 {Z a0} (hw : HW Z a0) : (Cond.code M13 jdk_117_method_6_code 2 (some FieldType.boolean)).before a0 Z = true := wk_ hw 86 rfl
theorem wd_87 {Z a0} (hw : HW Z a0) : (Cond.methodLink "java/lang/Double" 134 M14).before a0 Z = true := wk_ hw 87 rfl
theorem wd_88 {Z a0} (hw : HW Z a0) : (Cond.static M14).before a0 Z = true := wk_ hw 88 rfl
theorem wd_89 {Z a0} (hw : HW Z a0) : (Cond.native M14).before a0 Z = true := wk_ hw 89 rfl
theorem wd_90 {Z a0} (hw : HW Z a0) : (Cond.methodLink "com/example/narrow_bounds/narrowbounds/Share" 117 M15).before a0 Z = true := wk_ hw 90 rfl
theorem wd_91 {Z a0} (hw : HW Z a0) : (Cond.static M15).before a0 Z = true := wk_ hw 91 rfl
theorem wd_92 {Z a0} (hw : HW Z a0) : (Cond.code M15 jdk_117_method_8_code 2 (some FieldType.boolean)).before a0 Z = true := wk_ hw 92 rfl
theorem wd_93 {Z a0} (hw : HW Z a0) : (Cond.methodLink "java/lang/Double" 38 M16).before a0 Z = true := wk_ hw 93 rfl
theorem wd_94 {Z a0} (hw : HW Z a0) : (Cond.static M16).before a0 Z = true := wk_ hw 94 rfl
theorem wd_95 {Z a0} (hw : HW Z a0) : (Cond.initialized "java/lang/Math").before a0 Z = true := wk_ hw 95 rfl
theorem wd_96 {Z a0} (hw : HW Z a0) : (Cond.code M16 jdk_29_method_64_code 2 (some FieldType.double)).before a0 Z = true := wk_ hw 96 rfl
theorem wd_97 {Z a0} (hw : HW Z a0) : (Cond.constantDouble "java/lang/Double" 111 (9218868437227405311 : UInt64)).before a0 Z = true := wk_ hw 97 rfl
theorem wd_98 {Z a0} (hw : HW Z a0) : (Cond.methodLink "com/example/narrow_bounds/narrowbounds/Share" 69 M17).before a0 Z = true := wk_ hw 98 rfl
theorem wd_99 {Z a0} (hw : HW Z a0) : (Cond.static M17).before a0 Z = true := wk_ hw 99 rfl
theorem wd_100 {Z a0} (hw : HW Z a0) : (Cond.code M17 prog_13_method_13_code 5 (some FieldType.double)).before a0 Z = true := wk_ hw 100 rfl
theorem wd_101 {Z a0} (hw : HW Z a0) : (Cond.methodLink "com/example/narrow_bounds/narrowbounds/DirectedRounding" 42 M18).before a0 Z = true := wk_ hw 101 rfl
theorem wd_102 {Z a0} (hw : HW Z a0) : (Cond.static M18).before a0 Z = true := wk_ hw 102 rfl
theorem wd_103 {Z a0} (hw : HW Z a0) : (Cond.code M18 prog_13_method_6_code 8 (some FieldType.double)).before a0 Z = true := wk_ hw 103 rfl
theorem wd_104 {Z a0} (hw : HW Z a0) : (Cond.methodLink "com/example/narrow_bounds/narrowbounds/DirectedRounding" 39 M19).before a0 Z = true := wk_ hw 104 rfl
theorem wd_105 {Z a0} (hw : HW Z a0) : (Cond.static M19).before a0 Z = true := wk_ hw 105 rfl
theorem wd_106 {Z a0} (hw : HW Z a0) : (Cond.code M19 prog_13_method_7_code 4 (some FieldType.double)).before a0 Z = true := wk_ hw 106 rfl
theorem wd_107 {Z a0} (hw : HW Z a0) : (Cond.methodLink "com/example/narrow_bounds/narrowbounds/DirectedRounding" 13 M20).before a0 Z = true := wk_ hw 107 rfl
theorem wd_108 {Z a0} (hw : HW Z a0) : (Cond.static M20).before a0 Z = true := wk_ hw 108 rfl
theorem wd_109 {Z a0} (hw : HW Z a0) : (Cond.code M20 jdk_29_method_95_code 4 (some FieldType.double)).before a0 Z = true := wk_ hw 109 rfl
theorem wd_110 {Z a0} (hw : HW Z a0) : (Cond.constantDouble "java/lang/Math" 327 (9218868437227405312 : UInt64)).before a0 Z = true := wk_ hw 110 rfl
theorem wd_111 {Z a0} (hw : HW Z a0) : (Cond.methodLink "java/lang/Math" 79 M14).before a0 Z = true := wk_ hw 111 rfl
theorem wd_112 {Z a0} (hw : HW Z a0) : (Cond.methodLink "java/lang/Math" 166 M21).before a0 Z = true := wk_ hw 112 rfl
theorem wd_113 {Z a0} (hw : HW Z a0) : (Cond.static M21).before a0 Z = true := wk_ hw 113 rfl
theorem wd_114 {Z a0} (hw : HW Z a0) : (Cond.native M21).before a0 Z = true := wk_ hw 114 rfl
theorem wd_115 {Z a0} (hw : HW Z a0) : (Cond.fieldLink "com/example/narrow_bounds/narrowbounds/Share" 72 "com/example/narrow_bounds/narrowbounds/Share" "atHighestForExtreme" "I").before a0 Z = true := wk_ hw 115 rfl
theorem wd_116 {Z a0} (hw : HW Z a0) : (Cond.lays "com/example/narrow_bounds/narrowbounds/Share" "com/example/narrow_bounds/narrowbounds/Share" "atHighestForExtreme" "I").before a0 Z = true := wk_ hw 116 rfl
theorem wd_117 {Z a0} (hw : HW Z a0) : (Cond.methodLink "com/example/narrow_bounds/narrowbounds/Share" 79 M22).before a0 Z = true := wk_ hw 117 rfl
theorem wd_118 {Z a0} (hw : HW Z a0) : (Cond.static M22).before a0 Z = true := wk_ hw 118 rfl
theorem wd_119 {Z a0} (hw : HW Z a0) : (Cond.code M22 prog_45_method_6_code 4 (some FieldType.double)).before a0 Z = true := wk_ hw 119 rfl
theorem wd_120 {Z a0} (hw : HW Z a0) : (Cond.methodLink "com/example/narrow_bounds/narrowbounds/Share" 82 M5).before a0 Z = true := wk_ hw 120 rfl
theorem wd_121 {Z a0} (hw : HW Z a0) : (Cond.methodLink "com/example/narrow_bounds/narrowbounds/Share" 85 M23).before a0 Z = true := wk_ hw 121 rfl
theorem wd_122 {Z a0} (hw : HW Z a0) : (Cond.static M23).before a0 Z = true := wk_ hw 122 rfl
theorem wd_123 {Z a0} (hw : HW Z a0) : (Cond.code M23 prog_13_method_8_code 6 (some FieldType.double)).before a0 Z = true := wk_ hw 123 rfl
theorem wd_124 {Z a0} (hw : HW Z a0) : (Cond.methodLink "com/example/narrow_bounds/narrowbounds/DirectedRounding" 7 M24).before a0 Z = true := wk_ hw 124 rfl
theorem wd_125 {Z a0} (hw : HW Z a0) : (Cond.static M24).before a0 Z = true := wk_ hw 125 rfl
theorem wd_126 {Z a0} (hw : HW Z a0) : (Cond.code M24 jdk_29_method_97_code 2 (some FieldType.double)).before a0 Z = true := wk_ hw 126 rfl
theorem wd_127 {Z a0} (hw : HW Z a0) : (Cond.methodLink "java/lang/Math" 205 M13).before a0 Z = true := wk_ hw 127 rfl
theorem wd_128 {Z a0} (hw : HW Z a0) : (Cond.constantDouble "java/lang/Math" 330 (18442240474082181120 : UInt64)).before a0 Z = true := wk_ hw 128 rfl
theorem wd_129 {Z a0} (hw : HW Z a0) : (Cond.constantLong "java/lang/Math" 130 (-1 : Int64)).before a0 Z = true := wk_ hw 129 rfl
theorem wd_130 {Z a0} (hw : HW Z a0) : (Cond.methodLink "com/example/narrow_bounds/narrowbounds/ShareValueAtExtremePinLaw" 26 M25).before a0 Z = true := wk_ hw 130 rfl
theorem wd_131 {Z a0} (hw : HW Z a0) : (Cond.declares M25).before a0 Z = true := wk_ hw 131 rfl
theorem wd_132 {Z a0} (hw : HW Z a0) : (Cond.instanceMethod M25).before a0 Z = true := wk_ hw 132 rfl
theorem wd_133 {Z a0} (hw : HW Z a0) : (Cond.selects "com/example/narrow_bounds/narrowbounds/Share" M25 M25).before a0 Z = true := wk_ hw 133 rfl
theorem wd_134 {Z a0} (hw : HW Z a0) : (Cond.code M25 prog_45_method_5_code 4 (some FieldType.double)).before a0 Z = true := wk_ hw 134 rfl
theorem wd_135 {Z a0} (hw : HW Z a0) : (Cond.methodLink "com/example/narrow_bounds/narrowbounds/Share" 75 M26).before a0 Z = true := wk_ hw 135 rfl
theorem wd_136 {Z a0} (hw : HW Z a0) : (Cond.static M26).before a0 Z = true := wk_ hw 136 rfl
theorem wd_137 {Z a0} (hw : HW Z a0) : (Cond.code M26 prog_45_method_7_code 6 (some FieldType.double)).before a0 Z = true := wk_ hw 137 rfl
theorem wd_138 {Z a0} (hw : HW Z a0) : (Cond.methodLink "com/example/narrow_bounds/narrowbounds/Share" 88 M27).before a0 Z = true := wk_ hw 138 rfl
theorem wd_139 {Z a0} (hw : HW Z a0) : (Cond.static M27).before a0 Z = true := wk_ hw 139 rfl
theorem wd_140 {Z a0} (hw : HW Z a0) : (Cond.code M27 jdk_117_method_7_code 2 (some FieldType.boolean)).before a0 Z = true := wk_ hw 140 rfl
theorem wd_141 {Z a0} (hw : HW Z a0) : (Cond.methodLink "com/example/narrow_bounds/narrowbounds/Share" 94 M4).before a0 Z = true := wk_ hw 141 rfl
theorem wd_142 {Z a0} (hw : HW Z a0) : (Cond.methodLink "com/example/narrow_bounds/narrowbounds/Share" 97 M28).before a0 Z = true := wk_ hw 142 rfl
theorem wd_143 {Z a0} (hw : HW Z a0) : (Cond.static M28).before a0 Z = true := wk_ hw 143 rfl
theorem wd_144 {Z a0} (hw : HW Z a0) : (Cond.code M28 prog_13_method_9_code 4 (some FieldType.double)).before a0 Z = true := wk_ hw 144 rfl
theorem wd_145 {Z a0} (hw : HW Z a0) : (Cond.methodLink "com/example/narrow_bounds/narrowbounds/Share" 100 M29).before a0 Z = true := wk_ hw 145 rfl
theorem wd_146 {Z a0} (hw : HW Z a0) : (Cond.static M29).before a0 Z = true := wk_ hw 146 rfl
theorem wd_147 {Z a0} (hw : HW Z a0) : (Cond.code M29 jdk_29_method_72_code 4 (some FieldType.double)).before a0 Z = true := wk_ hw 147 rfl
set_option maxRecDepth 65536
set_option maxHeartbeats 40000000
theorem ef_d2 (m : MethodId) (x0 : UInt64) : entryFrame m #[.double x0] 2 = mkF m 0 #[.val (.double x0), .second] [] := by first | (simp [entryFrame, mkF, argsToLocals, Value.category, maxLocals]; done) | rfl
abbrev K14 : ByteArray := jdk_117_method_6_code
theorem d14_0 : decode K14 0 = .ok (.dload_n 0, 1) := by decide +kernel
theorem d14_1 : decode K14 1 = .ok (.dload_n 0, 1) := by decide +kernel
theorem d14_2 : decode K14 2 = .ok (.dcmp .l, 1) := by decide +kernel
theorem d14_3 : decode K14 3 = .ok (.ifCond .eq 7, 3) := by decide +kernel
theorem d14_10 : decode K14 10 = .ok (.iconst 0, 1) := by decide +kernel
theorem d14_11 : decode K14 11 = .ok (.ireturn, 1) := by decide +kernel
theorem pf_14 : plainFor ⟨"java/lang/Double", "isNaN", "(D)Z"⟩ = true := by first | exact plainFor_of_name (by first | (simp [plainName, overriddenIn]; done) | decide +kernel) | decide +kernel
theorem ef_d4 (m : MethodId) (x0 : UInt64) : entryFrame m #[.double x0] 4 = mkF m 0 #[.val (.double x0), .second, .unset, .unset] [] := by first | (simp [entryFrame, mkF, argsToLocals, Value.category, maxLocals]; done) | rfl
abbrev K20 : ByteArray := jdk_29_method_95_code
theorem d20_0 : decode K20 0 = .ok (.dload_n 0, 1) := by decide +kernel
theorem d20_1 : decode K20 1 = .ok (.ldc2_w 327, 3) := by decide +kernel
theorem d20_4 : decode K20 4 = .ok (.dcmp .g, 1) := by decide +kernel
theorem d20_5 : decode K20 5 = .ok (.ifCond .ge 29, 3) := by decide +kernel
theorem d20_8 : decode K20 8 = .ok (.dload_n 0, 1) := by decide +kernel
theorem d20_9 : decode K20 9 = .ok (.dconst 0, 1) := by decide +kernel
theorem d20_10 : decode K20 10 = .ok (.dadd, 1) := by decide +kernel
theorem d20_11 : decode K20 11 = .ok (.invokestatic 79, 3) := by decide +kernel
theorem d20_14 : decode K20 14 = .ok (.lstore_n 2, 1) := by decide +kernel
theorem d20_15 : decode K20 15 = .ok (.lload_n 2, 1) := by decide +kernel
theorem d20_16 : decode K20 16 = .ok (.lload_n 2, 1) := by decide +kernel
theorem d20_17 : decode K20 17 = .ok (.lconst 0, 1) := by decide +kernel
theorem d20_18 : decode K20 18 = .ok (.lcmp, 1) := by decide +kernel
theorem d20_19 : decode K20 19 = .ok (.ifCond .lt 7, 3) := by decide +kernel
theorem d20_22 : decode K20 22 = .ok (.lconst 1, 1) := by decide +kernel
theorem d20_23 : decode K20 23 = .ok (.goto 6, 3) := by decide +kernel
theorem d20_29 : decode K20 29 = .ok (.ladd, 1) := by decide +kernel
theorem d20_30 : decode K20 30 = .ok (.invokestatic 166, 3) := by decide +kernel
theorem d20_33 : decode K20 33 = .ok (.dreturn, 1) := by decide +kernel
theorem pf_20 : plainFor ⟨"java/lang/Math", "nextUp", "(D)D"⟩ = true := by first | exact plainFor_of_name (by first | (simp [plainName, overriddenIn]; done) | decide +kernel) | decide +kernel
abbrev K23 : ByteArray := jdk_29_method_97_code
theorem d23_0 : decode K23 0 = .ok (.dload_n 0, 1) := by decide +kernel
theorem d23_1 : decode K23 1 = .ok (.invokestatic 205, 3) := by decide +kernel
theorem pd_0 : parseMethodDescriptor "(D)Z" = some ⟨[.double], some .boolean⟩ := by decide +kernel
theorem d23_4 : decode K23 4 = .ok (.ifCond .ne 11, 3) := by decide +kernel
theorem d23_7 : decode K23 7 = .ok (.dload_n 0, 1) := by decide +kernel
theorem d23_8 : decode K23 8 = .ok (.ldc2_w 330, 3) := by decide +kernel
theorem d23_11 : decode K23 11 = .ok (.dcmp .l, 1) := by decide +kernel
theorem d23_12 : decode K23 12 = .ok (.ifCond .ne 5, 3) := by decide +kernel
theorem d23_17 : decode K23 17 = .ok (.dload_n 0, 1) := by decide +kernel
theorem d23_18 : decode K23 18 = .ok (.dconst 0, 1) := by decide +kernel
theorem d23_19 : decode K23 19 = .ok (.dcmp .l, 1) := by decide +kernel
theorem d23_20 : decode K23 20 = .ok (.ifCond .ne 7, 3) := by decide +kernel
theorem d23_27 : decode K23 27 = .ok (.dload_n 0, 1) := by decide +kernel
theorem d23_28 : decode K23 28 = .ok (.invokestatic 79, 3) := by decide +kernel
theorem d23_31 : decode K23 31 = .ok (.dload_n 0, 1) := by decide +kernel
theorem d23_32 : decode K23 32 = .ok (.dconst 0, 1) := by decide +kernel
theorem d23_33 : decode K23 33 = .ok (.dcmp .l, 1) := by decide +kernel
theorem d23_34 : decode K23 34 = .ok (.ifCond .le 9, 3) := by decide +kernel
theorem d23_37 : decode K23 37 = .ok (.ldc2_w 130, 3) := by decide +kernel
theorem d23_40 : decode K23 40 = .ok (.goto 4, 3) := by decide +kernel
theorem d23_44 : decode K23 44 = .ok (.ladd, 1) := by decide +kernel
theorem d23_45 : decode K23 45 = .ok (.invokestatic 166, 3) := by decide +kernel
theorem d23_48 : decode K23 48 = .ok (.dreturn, 1) := by decide +kernel
theorem pf_23 : plainFor ⟨"java/lang/Math", "nextDown", "(D)D"⟩ = true := by first | exact plainFor_of_name (by first | (simp [plainName, overriddenIn]; done) | decide +kernel) | decide +kernel
theorem ef_dd4 (m : MethodId) (x0 : UInt64) (x1 : UInt64) : entryFrame m #[.double x0, .double x1] 4 = mkF m 0 #[.val (.double x0), .second, .val (.double x1), .second] [] := by first | (simp [entryFrame, mkF, argsToLocals, Value.category, maxLocals]; done) | rfl
abbrev K6 : ByteArray := prog_13_method_3_code
theorem d6_0 : decode K6 0 = .ok (.dload_n 0, 1) := by decide +kernel
theorem d6_1 : decode K6 1 = .ok (.dconst 0, 1) := by decide +kernel
theorem d6_2 : decode K6 2 = .ok (.dcmp .l, 1) := by decide +kernel
theorem d6_3 : decode K6 3 = .ok (.ifCond .eq 9, 3) := by decide +kernel
theorem d6_12 : decode K6 12 = .ok (.dload_n 0, 1) := by decide +kernel
theorem d6_13 : decode K6 13 = .ok (.dload_n 2, 1) := by decide +kernel
theorem d6_14 : decode K6 14 = .ok (.dadd, 1) := by decide +kernel
theorem d6_15 : decode K6 15 = .ok (.goto 9, 3) := by decide +kernel
theorem d6_24 : decode K6 24 = .ok (.dreturn, 1) := by decide +kernel
theorem d6_6 : decode K6 6 = .ok (.dload_n 2, 1) := by decide +kernel
theorem d6_7 : decode K6 7 = .ok (.dconst 0, 1) := by decide +kernel
theorem d6_8 : decode K6 8 = .ok (.dcmp .l, 1) := by decide +kernel
theorem d6_9 : decode K6 9 = .ok (.ifCond .ne 9, 3) := by decide +kernel
theorem d6_18 : decode K6 18 = .ok (.dload_n 0, 1) := by decide +kernel
theorem d6_19 : decode K6 19 = .ok (.dload_n 2, 1) := by decide +kernel
theorem d6_20 : decode K6 20 = .ok (.dadd, 1) := by decide +kernel
theorem d6_21 : decode K6 21 = .ok (.invokestatic 13, 3) := by decide +kernel
theorem pd_1 : parseMethodDescriptor "(D)D" = some ⟨[.double], some .double⟩ := by decide +kernel
theorem pn_DirectedRounding : plainName "com/example/narrow_bounds/narrowbounds/DirectedRounding" = true := by first | (simp [plainName, overriddenIn]; done) | decide +kernel
abbrev K5 : ByteArray := prog_13_method_2_code
theorem d5_0 : decode K5 0 = .ok (.dload_n 0, 1) := by decide +kernel
theorem d5_1 : decode K5 1 = .ok (.dconst 0, 1) := by decide +kernel
theorem d5_2 : decode K5 2 = .ok (.dcmp .l, 1) := by decide +kernel
theorem d5_3 : decode K5 3 = .ok (.ifCond .eq 9, 3) := by decide +kernel
theorem d5_12 : decode K5 12 = .ok (.dload_n 0, 1) := by decide +kernel
theorem d5_13 : decode K5 13 = .ok (.dload_n 2, 1) := by decide +kernel
theorem d5_14 : decode K5 14 = .ok (.dadd, 1) := by decide +kernel
theorem d5_15 : decode K5 15 = .ok (.goto 9, 3) := by decide +kernel
theorem d5_24 : decode K5 24 = .ok (.dreturn, 1) := by decide +kernel
theorem d5_6 : decode K5 6 = .ok (.dload_n 2, 1) := by decide +kernel
theorem d5_7 : decode K5 7 = .ok (.dconst 0, 1) := by decide +kernel
theorem d5_8 : decode K5 8 = .ok (.dcmp .l, 1) := by decide +kernel
theorem d5_9 : decode K5 9 = .ok (.ifCond .ne 9, 3) := by decide +kernel
theorem d5_18 : decode K5 18 = .ok (.dload_n 0, 1) := by decide +kernel
theorem d5_19 : decode K5 19 = .ok (.dload_n 2, 1) := by decide +kernel
theorem d5_20 : decode K5 20 = .ok (.dadd, 1) := by decide +kernel
theorem d5_21 : decode K5 21 = .ok (.invokestatic 7, 3) := by decide +kernel
theorem ef_ddi5 (m : MethodId) (x0 : UInt64) (x1 : UInt64) (x2 : Int32) : entryFrame m #[.double x0, .double x1, .int x2] 5 = mkF m 0 #[.val (.double x0), .second, .val (.double x1), .second, .val (.int x2)] [] := by first | (simp [entryFrame, mkF, argsToLocals, Value.category, maxLocals]; done) | rfl
abbrev K4 : ByteArray := prog_13_method_10_code
theorem d4_0 : decode K4 0 = .ok (.iload 4, 2) := by decide +kernel
theorem d4_2 : decode K4 2 = .ok (.ifCond .eq 11, 3) := by decide +kernel
theorem d4_13 : decode K4 13 = .ok (.dload_n 0, 1) := by decide +kernel
theorem d4_14 : decode K4 14 = .ok (.dload_n 2, 1) := by decide +kernel
theorem d4_15 : decode K4 15 = .ok (.invokestatic 26, 3) := by decide +kernel
theorem pd_2 : parseMethodDescriptor "(DD)D" = some ⟨[.double, .double], some .double⟩ := by decide +kernel
theorem d4_18 : decode K4 18 = .ok (.dreturn, 1) := by decide +kernel
theorem d4_5 : decode K4 5 = .ok (.dload_n 0, 1) := by decide +kernel
theorem d4_6 : decode K4 6 = .ok (.dload_n 2, 1) := by decide +kernel
theorem d4_7 : decode K4 7 = .ok (.invokestatic 20, 3) := by decide +kernel
theorem d4_10 : decode K4 10 = .ok (.goto 8, 3) := by decide +kernel
abbrev K19 : ByteArray := prog_13_method_7_code
theorem d19_0 : decode K19 0 = .ok (.dload_n 0, 1) := by decide +kernel
theorem d19_1 : decode K19 1 = .ok (.dconst 0, 1) := by decide +kernel
theorem d19_2 : decode K19 2 = .ok (.dcmp .l, 1) := by decide +kernel
theorem d19_3 : decode K19 3 = .ok (.ifCond .eq 9, 3) := by decide +kernel
theorem d19_12 : decode K19 12 = .ok (.dconst 0, 1) := by decide +kernel
theorem d19_13 : decode K19 13 = .ok (.goto 9, 3) := by decide +kernel
theorem d19_22 : decode K19 22 = .ok (.dreturn, 1) := by decide +kernel
theorem d19_6 : decode K19 6 = .ok (.dload_n 2, 1) := by decide +kernel
theorem d19_7 : decode K19 7 = .ok (.dconst 0, 1) := by decide +kernel
theorem d19_8 : decode K19 8 = .ok (.dcmp .l, 1) := by decide +kernel
theorem d19_9 : decode K19 9 = .ok (.ifCond .ne 7, 3) := by decide +kernel
theorem d19_16 : decode K19 16 = .ok (.dload_n 0, 1) := by decide +kernel
theorem d19_17 : decode K19 17 = .ok (.dload_n 2, 1) := by decide +kernel
theorem d19_18 : decode K19 18 = .ok (.dmul, 1) := by decide +kernel
theorem d19_19 : decode K19 19 = .ok (.invokestatic 13, 3) := by decide +kernel
theorem ef_dd8 (m : MethodId) (x0 : UInt64) (x1 : UInt64) : entryFrame m #[.double x0, .double x1] 8 = mkF m 0 #[.val (.double x0), .second, .val (.double x1), .second, .unset, .unset, .unset, .unset] [] := by first | (simp [entryFrame, mkF, argsToLocals, Value.category, maxLocals]; done) | rfl
abbrev K18 : ByteArray := prog_13_method_6_code
theorem d18_0 : decode K18 0 = .ok (.dload_n 0, 1) := by decide +kernel
theorem d18_1 : decode K18 1 = .ok (.dload_n 2, 1) := by decide +kernel
theorem d18_2 : decode K18 2 = .ok (.dmul, 1) := by decide +kernel
theorem d18_3 : decode K18 3 = .ok (.dstore 4, 2) := by decide +kernel
theorem d18_5 : decode K18 5 = .ok (.dload 4, 2) := by decide +kernel
theorem d18_7 : decode K18 7 = .ok (.dconst 0, 1) := by decide +kernel
theorem d18_8 : decode K18 8 = .ok (.dcmp .l, 1) := by decide +kernel
theorem d18_9 : decode K18 9 = .ok (.ifCond .eq 13, 3) := by decide +kernel
theorem d18_22 : decode K18 22 = .ok (.dload_n 0, 1) := by decide +kernel
theorem d18_23 : decode K18 23 = .ok (.dconst 0, 1) := by decide +kernel
theorem d18_24 : decode K18 24 = .ok (.dcmp .l, 1) := by decide +kernel
theorem d18_25 : decode K18 25 = .ok (.ifCond .eq 42, 3) := by decide +kernel
theorem d18_67 : decode K18 67 = .ok (.dconst 0, 1) := by decide +kernel
theorem d18_68 : decode K18 68 = .ok (.dstore 6, 2) := by decide +kernel
theorem d18_70 : decode K18 70 = .ok (.dload 6, 2) := by decide +kernel
theorem d18_72 : decode K18 72 = .ok (.dreturn, 1) := by decide +kernel
theorem d18_28 : decode K18 28 = .ok (.dload_n 2, 1) := by decide +kernel
theorem d18_29 : decode K18 29 = .ok (.dconst 0, 1) := by decide +kernel
theorem d18_30 : decode K18 30 = .ok (.dcmp .l, 1) := by decide +kernel
theorem d18_31 : decode K18 31 = .ok (.ifCond .eq 36, 3) := by decide +kernel
theorem d18_12 : decode K18 12 = .ok (.dload 4, 2) := by decide +kernel
theorem d18_14 : decode K18 14 = .ok (.invokestatic 7, 3) := by decide +kernel
theorem d18_17 : decode K18 17 = .ok (.dstore 6, 2) := by decide +kernel
theorem d18_19 : decode K18 19 = .ok (.goto 51, 3) := by decide +kernel
abbrev K17 : ByteArray := prog_13_method_13_code
theorem d17_0 : decode K17 0 = .ok (.iload 4, 2) := by decide +kernel
theorem d17_2 : decode K17 2 = .ok (.ifCond .eq 11, 3) := by decide +kernel
theorem d17_13 : decode K17 13 = .ok (.dload_n 0, 1) := by decide +kernel
theorem d17_14 : decode K17 14 = .ok (.dload_n 2, 1) := by decide +kernel
theorem d17_15 : decode K17 15 = .ok (.invokestatic 42, 3) := by decide +kernel
theorem d17_18 : decode K17 18 = .ok (.dreturn, 1) := by decide +kernel
theorem d17_5 : decode K17 5 = .ok (.dload_n 0, 1) := by decide +kernel
theorem d17_6 : decode K17 6 = .ok (.dload_n 2, 1) := by decide +kernel
theorem d17_7 : decode K17 7 = .ok (.invokestatic 39, 3) := by decide +kernel
theorem d17_10 : decode K17 10 = .ok (.goto 8, 3) := by decide +kernel
theorem ef_dd6 (m : MethodId) (x0 : UInt64) (x1 : UInt64) : entryFrame m #[.double x0, .double x1] 6 = mkF m 0 #[.val (.double x0), .second, .val (.double x1), .second, .unset, .unset] [] := by first | (simp [entryFrame, mkF, argsToLocals, Value.category, maxLocals]; done) | rfl
abbrev K22 : ByteArray := prog_13_method_8_code
theorem d22_0 : decode K22 0 = .ok (.dload_n 0, 1) := by decide +kernel
theorem d22_1 : decode K22 1 = .ok (.dload_n 2, 1) := by decide +kernel
theorem d22_2 : decode K22 2 = .ok (.ddiv, 1) := by decide +kernel
theorem d22_3 : decode K22 3 = .ok (.dstore 4, 2) := by decide +kernel
theorem d22_5 : decode K22 5 = .ok (.dload 4, 2) := by decide +kernel
theorem d22_7 : decode K22 7 = .ok (.dconst 0, 1) := by decide +kernel
theorem d22_8 : decode K22 8 = .ok (.dcmp .l, 1) := by decide +kernel
theorem d22_9 : decode K22 9 = .ok (.ifCond .ne 7, 3) := by decide +kernel
theorem d22_16 : decode K22 16 = .ok (.dload 4, 2) := by decide +kernel
theorem d22_18 : decode K22 18 = .ok (.invokestatic 7, 3) := by decide +kernel
theorem d22_21 : decode K22 21 = .ok (.dreturn, 1) := by decide +kernel
abbrev K21 : ByteArray := prog_45_method_6_code
theorem d21_0 : decode K21 0 = .ok (.dload_n 0, 1) := by decide +kernel
theorem d21_1 : decode K21 1 = .ok (.dconst 0, 1) := by decide +kernel
theorem d21_2 : decode K21 2 = .ok (.dcmp .l, 1) := by decide +kernel
theorem d21_3 : decode K21 3 = .ok (.ifCond .ne 7, 3) := by decide +kernel
theorem d21_10 : decode K21 10 = .ok (.dload_n 0, 1) := by decide +kernel
theorem d21_11 : decode K21 11 = .ok (.dload_n 0, 1) := by decide +kernel
theorem d21_12 : decode K21 12 = .ok (.dload_n 2, 1) := by decide +kernel
theorem d21_13 : decode K21 13 = .ok (.invokestatic 82, 3) := by decide +kernel
theorem d21_16 : decode K21 16 = .ok (.invokestatic 85, 3) := by decide +kernel
theorem d21_19 : decode K21 19 = .ok (.dreturn, 1) := by decide +kernel
theorem pn_Share : plainName "com/example/narrow_bounds/narrowbounds/Share" = true := by first | (simp [plainName, overriddenIn]; done) | decide +kernel
abbrev K27 : ByteArray := prog_13_method_9_code
theorem d27_0 : decode K27 0 = .ok (.dload_n 0, 1) := by decide +kernel
theorem d27_1 : decode K27 1 = .ok (.dconst 0, 1) := by decide +kernel
theorem d27_2 : decode K27 2 = .ok (.dcmp .l, 1) := by decide +kernel
theorem d27_3 : decode K27 3 = .ok (.ifCond .ne 7, 3) := by decide +kernel
theorem d27_10 : decode K27 10 = .ok (.dload_n 0, 1) := by decide +kernel
theorem d27_11 : decode K27 11 = .ok (.dload_n 2, 1) := by decide +kernel
theorem d27_12 : decode K27 12 = .ok (.ddiv, 1) := by decide +kernel
theorem d27_13 : decode K27 13 = .ok (.invokestatic 13, 3) := by decide +kernel
theorem d27_16 : decode K27 16 = .ok (.dreturn, 1) := by decide +kernel
abbrev K26 : ByteArray := jdk_117_method_7_code
theorem d26_0 : decode K26 0 = .ok (.dload_n 0, 1) := by decide +kernel
theorem d26_1 : decode K26 1 = .ok (.invokestatic 38, 3) := by decide +kernel
theorem d26_4 : decode K26 4 = .ok (.ldc2_w 111, 3) := by decide +kernel
theorem d26_7 : decode K26 7 = .ok (.dcmp .l, 1) := by decide +kernel
theorem d26_8 : decode K26 8 = .ok (.ifCond .le 7, 3) := by decide +kernel
theorem d26_15 : decode K26 15 = .ok (.iconst 0, 1) := by decide +kernel
theorem d26_16 : decode K26 16 = .ok (.ireturn, 1) := by decide +kernel
theorem pf_26 : plainFor ⟨"java/lang/Double", "isInfinite", "(D)Z"⟩ = true := by first | exact plainFor_of_name (by first | (simp [plainName, overriddenIn]; done) | decide +kernel) | decide +kernel
abbrev K15 : ByteArray := jdk_117_method_8_code
theorem d15_0 : decode K15 0 = .ok (.dload_n 0, 1) := by decide +kernel
theorem d15_1 : decode K15 1 = .ok (.invokestatic 38, 3) := by decide +kernel
theorem d15_4 : decode K15 4 = .ok (.ldc2_w 111, 3) := by decide +kernel
theorem d15_7 : decode K15 7 = .ok (.dcmp .g, 1) := by decide +kernel
theorem d15_8 : decode K15 8 = .ok (.ifCond .gt 7, 3) := by decide +kernel
theorem d15_11 : decode K15 11 = .ok (.iconst 1, 1) := by decide +kernel
theorem d15_12 : decode K15 12 = .ok (.goto 4, 3) := by decide +kernel
theorem d15_16 : decode K15 16 = .ok (.ireturn, 1) := by decide +kernel
theorem pf_15 : plainFor ⟨"java/lang/Double", "isFinite", "(D)Z"⟩ = true := by first | exact plainFor_of_name (by first | (simp [plainName, overriddenIn]; done) | decide +kernel) | decide +kernel
abbrev K25 : ByteArray := prog_45_method_7_code
theorem d25_0 : decode K25 0 = .ok (.dload_n 0, 1) := by decide +kernel
theorem d25_1 : decode K25 1 = .ok (.invokestatic 88, 3) := by decide +kernel
theorem d25_4 : decode K25 4 = .ok (.ifCond .eq 7, 3) := by decide +kernel
theorem d25_11 : decode K25 11 = .ok (.dload_n 0, 1) := by decide +kernel
theorem d25_12 : decode K25 12 = .ok (.dload_n 0, 1) := by decide +kernel
theorem d25_13 : decode K25 13 = .ok (.dload_n 2, 1) := by decide +kernel
theorem d25_14 : decode K25 14 = .ok (.invokestatic 94, 3) := by decide +kernel
theorem d25_17 : decode K25 17 = .ok (.invokestatic 97, 3) := by decide +kernel
theorem d25_20 : decode K25 20 = .ok (.dstore 4, 2) := by decide +kernel
theorem d25_22 : decode K25 22 = .ok (.dconst 1, 1) := by decide +kernel
theorem d25_23 : decode K25 23 = .ok (.dload 4, 2) := by decide +kernel
theorem d25_25 : decode K25 25 = .ok (.invokestatic 100, 3) := by decide +kernel
theorem d25_28 : decode K25 28 = .ok (.dreturn, 1) := by decide +kernel
abbrev K13 : ByteArray := jdk_117_method_23_code
theorem d13_0 : decode K13 0 = .ok (.dload_n 0, 1) := by decide +kernel
theorem d13_1 : decode K13 1 = .ok (.invokestatic 122, 3) := by decide +kernel
theorem d13_4 : decode K13 4 = .ok (.ifCond .ne 8, 3) := by decide +kernel
theorem d13_7 : decode K13 7 = .ok (.dload_n 0, 1) := by decide +kernel
theorem d13_8 : decode K13 8 = .ok (.invokestatic 134, 3) := by decide +kernel
theorem d13_11 : decode K13 11 = .ok (.lreturn, 1) := by decide +kernel
theorem pf_13 : plainFor ⟨"java/lang/Double", "doubleToLongBits", "(D)J"⟩ = true := by first | exact plainFor_of_name (by first | (simp [plainName, overriddenIn]; done) | decide +kernel) | decide +kernel
abbrev K12 : ByteArray := jdk_117_method_27_code
theorem d12_0 : decode K12 0 = .ok (.dload_n 0, 1) := by decide +kernel
theorem d12_1 : decode K12 1 = .ok (.dload_n 2, 1) := by decide +kernel
theorem d12_2 : decode K12 2 = .ok (.dcmp .g, 1) := by decide +kernel
theorem d12_3 : decode K12 3 = .ok (.ifCond .ge 5, 3) := by decide +kernel
theorem d12_6 : decode K12 6 = .ok (.iconst (-1), 1) := by decide +kernel
theorem d12_7 : decode K12 7 = .ok (.ireturn, 1) := by decide +kernel
theorem pf_12 : plainFor ⟨"java/lang/Double", "compare", "(DD)I"⟩ = true := by first | exact plainFor_of_name (by first | (simp [plainName, overriddenIn]; done) | decide +kernel) | decide +kernel
theorem d12_8 : decode K12 8 = .ok (.dload_n 0, 1) := by decide +kernel
theorem d12_9 : decode K12 9 = .ok (.dload_n 2, 1) := by decide +kernel
theorem d12_10 : decode K12 10 = .ok (.dcmp .l, 1) := by decide +kernel
theorem d12_11 : decode K12 11 = .ok (.ifCond .le 5, 3) := by decide +kernel
theorem d12_14 : decode K12 14 = .ok (.iconst 1, 1) := by decide +kernel
theorem d12_15 : decode K12 15 = .ok (.ireturn, 1) := by decide +kernel
theorem d12_16 : decode K12 16 = .ok (.dload_n 0, 1) := by decide +kernel
theorem d12_17 : decode K12 17 = .ok (.invokestatic 46, 3) := by decide +kernel
theorem pd_3 : parseMethodDescriptor "(D)J" = some ⟨[.double], some .long⟩ := by decide +kernel
theorem d12_20 : decode K12 20 = .ok (.lstore 4, 2) := by decide +kernel
theorem d12_22 : decode K12 22 = .ok (.dload_n 2, 1) := by decide +kernel
theorem d12_23 : decode K12 23 = .ok (.invokestatic 46, 3) := by decide +kernel
theorem d12_26 : decode K12 26 = .ok (.lstore 6, 2) := by decide +kernel
theorem d12_28 : decode K12 28 = .ok (.lload 4, 2) := by decide +kernel
theorem d12_30 : decode K12 30 = .ok (.lload 6, 2) := by decide +kernel
theorem d12_32 : decode K12 32 = .ok (.lcmp, 1) := by decide +kernel
theorem d12_33 : decode K12 33 = .ok (.ifCond .ne 7, 3) := by decide +kernel
theorem d12_36 : decode K12 36 = .ok (.iconst 0, 1) := by decide +kernel
theorem d12_37 : decode K12 37 = .ok (.goto 16, 3) := by decide +kernel
theorem d12_53 : decode K12 53 = .ok (.ireturn, 1) := by decide +kernel
theorem ef_dddd14 (m : MethodId) (x0 : UInt64) (x1 : UInt64) (x2 : UInt64) (x3 : UInt64) : entryFrame m #[.double x0, .double x1, .double x2, .double x3] 14 = mkF m 0 #[.val (.double x0), .second, .val (.double x1), .second, .val (.double x2), .second, .val (.double x3), .second, .unset, .unset, .unset, .unset, .unset, .unset] [] := by first | (simp [entryFrame, mkF, argsToLocals, Value.category, maxLocals]; done) | rfl
abbrev K11 : ByteArray := prog_45_method_10_code
theorem d11_0 : decode K11 0 = .ok (.dload_n 0, 1) := by decide +kernel
theorem d11_1 : decode K11 1 = .ok (.dload_n 2, 1) := by decide +kernel
theorem d11_2 : decode K11 2 = .ok (.ddiv, 1) := by decide +kernel
theorem d11_3 : decode K11 3 = .ok (.dload 4, 2) := by decide +kernel
theorem d11_5 : decode K11 5 = .ok (.dload 6, 2) := by decide +kernel
theorem d11_7 : decode K11 7 = .ok (.ddiv, 1) := by decide +kernel
theorem d11_8 : decode K11 8 = .ok (.invokestatic 113, 3) := by decide +kernel
theorem pd_4 : parseMethodDescriptor "(DD)I" = some ⟨[.double, .double], some .int⟩ := by decide +kernel
theorem d11_11 : decode K11 11 = .ok (.istore 8, 2) := by decide +kernel
theorem d11_13 : decode K11 13 = .ok (.dload_n 0, 1) := by decide +kernel
theorem d11_14 : decode K11 14 = .ok (.invokestatic 117, 3) := by decide +kernel
theorem d11_17 : decode K11 17 = .ok (.ifCond .eq 30, 3) := by decide +kernel
theorem d11_20 : decode K11 20 = .ok (.dload_n 2, 1) := by decide +kernel
theorem d11_21 : decode K11 21 = .ok (.invokestatic 117, 3) := by decide +kernel
theorem d11_24 : decode K11 24 = .ok (.ifCond .eq 23, 3) := by decide +kernel
theorem d11_27 : decode K11 27 = .ok (.dload 4, 2) := by decide +kernel
theorem d11_29 : decode K11 29 = .ok (.invokestatic 117, 3) := by decide +kernel
theorem d11_32 : decode K11 32 = .ok (.ifCond .eq 15, 3) := by decide +kernel
theorem d11_35 : decode K11 35 = .ok (.dload 6, 2) := by decide +kernel
theorem d11_37 : decode K11 37 = .ok (.invokestatic 117, 3) := by decide +kernel
theorem d11_40 : decode K11 40 = .ok (.ifCond .eq 7, 3) := by decide +kernel
theorem d11_43 : decode K11 43 = .ok (.iconst 1, 1) := by decide +kernel
theorem d11_44 : decode K11 44 = .ok (.goto 4, 3) := by decide +kernel
theorem d11_48 : decode K11 48 = .ok (.istore 9, 2) := by decide +kernel
theorem d11_50 : decode K11 50 = .ok (.iload 8, 2) := by decide +kernel
theorem d11_52 : decode K11 52 = .ok (.ifCond .ne 143, 3) := by decide +kernel
theorem d11_55 : decode K11 55 = .ok (.iload 9, 2) := by decide +kernel
theorem d11_57 : decode K11 57 = .ok (.ifCond .eq 138, 3) := by decide +kernel
theorem d11_60 : decode K11 60 = .ok (.dload_n 0, 1) := by decide +kernel
theorem d11_61 : decode K11 61 = .ok (.dload 6, 2) := by decide +kernel
theorem d11_63 : decode K11 63 = .ok (.dmul, 1) := by decide +kernel
theorem d11_64 : decode K11 64 = .ok (.dload 4, 2) := by decide +kernel
theorem d11_66 : decode K11 66 = .ok (.dload_n 2, 1) := by decide +kernel
theorem d11_67 : decode K11 67 = .ok (.dmul, 1) := by decide +kernel
theorem d11_68 : decode K11 68 = .ok (.invokestatic 113, 3) := by decide +kernel
theorem d11_71 : decode K11 71 = .ok (.istore 8, 2) := by decide +kernel
theorem d11_73 : decode K11 73 = .ok (.dload_n 0, 1) := by decide +kernel
theorem d11_74 : decode K11 74 = .ok (.dconst 0, 1) := by decide +kernel
theorem d11_75 : decode K11 75 = .ok (.dcmp .l, 1) := by decide +kernel
theorem d11_76 : decode K11 76 = .ok (.ifCond .eq 10, 3) := by decide +kernel
theorem d11_79 : decode K11 79 = .ok (.dload 6, 2) := by decide +kernel
theorem d11_81 : decode K11 81 = .ok (.dconst 0, 1) := by decide +kernel
theorem d11_82 : decode K11 82 = .ok (.dcmp .l, 1) := by decide +kernel
theorem d11_83 : decode K11 83 = .ok (.ifCond .ne 20, 3) := by decide +kernel
theorem d11_86 : decode K11 86 = .ok (.dload 4, 2) := by decide +kernel
theorem d11_88 : decode K11 88 = .ok (.dconst 0, 1) := by decide +kernel
theorem d11_89 : decode K11 89 = .ok (.dcmp .l, 1) := by decide +kernel
theorem d11_90 : decode K11 90 = .ok (.ifCond .eq 9, 3) := by decide +kernel
theorem d11_93 : decode K11 93 = .ok (.dload_n 2, 1) := by decide +kernel
theorem d11_94 : decode K11 94 = .ok (.dconst 0, 1) := by decide +kernel
theorem d11_95 : decode K11 95 = .ok (.dcmp .l, 1) := by decide +kernel
theorem d11_96 : decode K11 96 = .ok (.ifCond .ne 7, 3) := by decide +kernel
theorem d11_99 : decode K11 99 = .ok (.iconst 1, 1) := by decide +kernel
theorem d11_100 : decode K11 100 = .ok (.goto 4, 3) := by decide +kernel
theorem d11_104 : decode K11 104 = .ok (.istore 10, 2) := by decide +kernel
theorem d11_106 : decode K11 106 = .ok (.dload_n 0, 1) := by decide +kernel
theorem d11_107 : decode K11 107 = .ok (.dload 4, 2) := by decide +kernel
theorem d11_109 : decode K11 109 = .ok (.dcmp .l, 1) := by decide +kernel
theorem d11_110 : decode K11 110 = .ok (.ifCond .ne 14, 3) := by decide +kernel
theorem d11_124 : decode K11 124 = .ok (.iconst 0, 1) := by decide +kernel
theorem d11_125 : decode K11 125 = .ok (.istore 11, 2) := by decide +kernel
theorem d11_127 : decode K11 127 = .ok (.iload 8, 2) := by decide +kernel
theorem d11_129 : decode K11 129 = .ok (.ifCond .ne 66, 3) := by decide +kernel
theorem d11_132 : decode K11 132 = .ok (.iload 10, 2) := by decide +kernel
theorem d11_134 : decode K11 134 = .ok (.ifCond .ne 61, 3) := by decide +kernel
theorem d11_195 : decode K11 195 = .ok (.iload 8, 2) := by decide +kernel
theorem d11_197 : decode K11 197 = .ok (.ireturn, 1) := by decide +kernel
theorem d11_113 : decode K11 113 = .ok (.dload_n 2, 1) := by decide +kernel
theorem d11_114 : decode K11 114 = .ok (.dload 6, 2) := by decide +kernel
theorem d11_116 : decode K11 116 = .ok (.dcmp .l, 1) := by decide +kernel
theorem d11_117 : decode K11 117 = .ok (.ifCond .ne 7, 3) := by decide +kernel
theorem d11_120 : decode K11 120 = .ok (.iconst 1, 1) := by decide +kernel
theorem d11_121 : decode K11 121 = .ok (.goto 4, 3) := by decide +kernel
theorem la_Share {Z : State} {a0 : Array Value} (hw : ∀ d ∈ tables_1, d.before a0 Z = true) : LaidAll Z a0 "com/example/narrow_bounds/narrowbounds/Share" [("com/example/narrow_bounds/narrowbounds/Share", "lows", "[D", .null), ("com/example/narrow_bounds/narrowbounds/Share", "highs", "[D", .null), ("com/example/narrow_bounds/narrowbounds/Share", "greatest", "Z", .int 0), ("com/example/narrow_bounds/narrowbounds/Share", "running", "Z", .int 0), ("com/example/narrow_bounds/narrowbounds/Share", "owns", "[D", .null), ("com/example/narrow_bounds/narrowbounds/Share", "others", "[D", .null), ("com/example/narrow_bounds/narrowbounds/Share", "listed", "[Z", .null), ("com/example/narrow_bounds/narrowbounds/Share", "ranges", "[I", .null), ("com/example/narrow_bounds/narrowbounds/Share", "ownLows", "[D", .null), ("com/example/narrow_bounds/narrowbounds/Share", "ownHighs", "[D", .null), ("com/example/narrow_bounds/narrowbounds/Share", "othersLows", "[D", .null), ("com/example/narrow_bounds/narrowbounds/Share", "othersHighs", "[D", .null), ("com/example/narrow_bounds/narrowbounds/Share", "ownFixed", "D", .double 0), ("com/example/narrow_bounds/narrowbounds/Share", "othersFixed", "D", .double 0), ("com/example/narrow_bounds/narrowbounds/Share", "rangeCount", "I", .int 0), ("com/example/narrow_bounds/narrowbounds/Share", "atHighestForExtreme", "I", .int 0)] := LaidAll.cons (Or.inr (wd_11 hw)) (t := (.array .double)) (by decide) rfl (LaidAll.cons (Or.inr (wd_13 hw)) (t := (.array .double)) (by decide) rfl (LaidAll.cons (Or.inr (wd_15 hw)) (t := .boolean) (by decide) rfl (LaidAll.cons (Or.inr (wd_17 hw)) (t := .boolean) (by decide) rfl (LaidAll.cons (Or.inr (wd_19 hw)) (t := (.array .double)) (by decide) rfl (LaidAll.cons (Or.inr (wd_21 hw)) (t := (.array .double)) (by decide) rfl (LaidAll.cons (Or.inr (wd_24 hw)) (t := (.array .boolean)) (by decide) rfl (LaidAll.cons (Or.inr (wd_27 hw)) (t := (.array .int)) (by decide) rfl (LaidAll.cons (Or.inr (wd_29 hw)) (t := (.array .double)) (by decide) rfl (LaidAll.cons (Or.inr (wd_31 hw)) (t := (.array .double)) (by decide) rfl (LaidAll.cons (Or.inr (wd_33 hw)) (t := (.array .double)) (by decide) rfl (LaidAll.cons (Or.inr (wd_35 hw)) (t := (.array .double)) (by decide) rfl (LaidAll.cons (Or.inl (wd_42 hw)) (t := .double) (by decide) rfl (LaidAll.cons (Or.inl (wd_51 hw)) (t := .double) (by decide) rfl (LaidAll.cons (Or.inl (wd_60 hw)) (t := .int) (by decide) rfl (LaidAll.cons (Or.inl (wd_116 hw)) (t := .int) (by decide) rfl (LaidAll.nil))))))))))))))))
abbrev fs_Share (v0 v1 v2 v3 v4 v5 v6 v7 v8 v9 v10 v11 v12 v13 v14 v15 : Value) : List FR := [("com/example/narrow_bounds/narrowbounds/Share", "lows", "[D", v0), ("com/example/narrow_bounds/narrowbounds/Share", "highs", "[D", v1), ("com/example/narrow_bounds/narrowbounds/Share", "greatest", "Z", v2), ("com/example/narrow_bounds/narrowbounds/Share", "running", "Z", v3), ("com/example/narrow_bounds/narrowbounds/Share", "owns", "[D", v4), ("com/example/narrow_bounds/narrowbounds/Share", "others", "[D", v5), ("com/example/narrow_bounds/narrowbounds/Share", "listed", "[Z", v6), ("com/example/narrow_bounds/narrowbounds/Share", "ranges", "[I", v7), ("com/example/narrow_bounds/narrowbounds/Share", "ownLows", "[D", v8), ("com/example/narrow_bounds/narrowbounds/Share", "ownHighs", "[D", v9), ("com/example/narrow_bounds/narrowbounds/Share", "othersLows", "[D", v10), ("com/example/narrow_bounds/narrowbounds/Share", "othersHighs", "[D", v11), ("com/example/narrow_bounds/narrowbounds/Share", "ownFixed", "D", v12), ("com/example/narrow_bounds/narrowbounds/Share", "othersFixed", "D", v13), ("com/example/narrow_bounds/narrowbounds/Share", "rangeCount", "I", v14), ("com/example/narrow_bounds/narrowbounds/Share", "atHighestForExtreme", "I", v15)]
theorem ef_rii4 (m : MethodId) (x0 : Addr) (x1 : Int32) (x2 : Int32) : entryFrame m #[.ref x0, .int x1, .int x2] 4 = mkF m 0 #[.val (.ref x0), .val (.int x1), .val (.int x2), .unset] [] := by first | (simp [entryFrame, mkF, argsToLocals, Value.category, maxLocals]; done) | rfl
abbrev K10 : ByteArray := prog_45_method_9_code
theorem d10_0 : decode K10 0 = .ok (.aload_n 0, 1) := by decide +kernel
theorem d10_1 : decode K10 1 = .ok (.getfield 23, 3) := by decide +kernel
theorem d10_4 : decode K10 4 = .ok (.iload_n 1, 1) := by decide +kernel
theorem d10_5 : decode K10 5 = .ok (.daload, 1) := by decide +kernel
theorem d10_6 : decode K10 6 = .ok (.aload_n 0, 1) := by decide +kernel
theorem d10_7 : decode K10 7 = .ok (.getfield 26, 3) := by decide +kernel
theorem d10_10 : decode K10 10 = .ok (.iload_n 1, 1) := by decide +kernel
theorem d10_11 : decode K10 11 = .ok (.daload, 1) := by decide +kernel
theorem d10_12 : decode K10 12 = .ok (.aload_n 0, 1) := by decide +kernel
theorem d10_13 : decode K10 13 = .ok (.getfield 23, 3) := by decide +kernel
theorem d10_16 : decode K10 16 = .ok (.iload_n 2, 1) := by decide +kernel
theorem d10_17 : decode K10 17 = .ok (.daload, 1) := by decide +kernel
theorem d10_18 : decode K10 18 = .ok (.aload_n 0, 1) := by decide +kernel
theorem d10_19 : decode K10 19 = .ok (.getfield 26, 3) := by decide +kernel
theorem d10_22 : decode K10 22 = .ok (.iload_n 2, 1) := by decide +kernel
theorem d10_23 : decode K10 23 = .ok (.daload, 1) := by decide +kernel
theorem d10_24 : decode K10 24 = .ok (.invokestatic 109, 3) := by decide +kernel
theorem pd_5 : parseMethodDescriptor "(DDDD)I" = some ⟨[.double, .double, .double, .double], some .int⟩ := by decide +kernel
theorem d10_27 : decode K10 27 = .ok (.istore_n 3, 1) := by decide +kernel
theorem d10_28 : decode K10 28 = .ok (.aload_n 0, 1) := by decide +kernel
theorem d10_29 : decode K10 29 = .ok (.getfield 16, 3) := by decide +kernel
theorem d10_32 : decode K10 32 = .ok (.ifCond .eq 15, 3) := by decide +kernel
theorem d10_47 : decode K10 47 = .ok (.iload_n 3, 1) := by decide +kernel
theorem d10_48 : decode K10 48 = .ok (.ifCond .ge 7, 3) := by decide +kernel
theorem d10_55 : decode K10 55 = .ok (.iconst 0, 1) := by decide +kernel
theorem d10_56 : decode K10 56 = .ok (.ireturn, 1) := by decide +kernel
theorem d10_51 : decode K10 51 = .ok (.iconst 1, 1) := by decide +kernel
theorem d10_52 : decode K10 52 = .ok (.goto 4, 3) := by decide +kernel
theorem d10_35 : decode K10 35 = .ok (.iload_n 3, 1) := by decide +kernel
theorem d10_36 : decode K10 36 = .ok (.ifCond .le 7, 3) := by decide +kernel
theorem d10_43 : decode K10 43 = .ok (.iconst 0, 1) := by decide +kernel
theorem d10_44 : decode K10 44 = .ok (.goto 12, 3) := by decide +kernel
theorem d10_39 : decode K10 39 = .ok (.iconst 1, 1) := by decide +kernel
theorem d10_40 : decode K10 40 = .ok (.goto 16, 3) := by decide +kernel
theorem ef_r4 (m : MethodId) (x0 : Addr) : entryFrame m #[.ref x0] 4 = mkF m 0 #[.val (.ref x0), .unset, .unset, .unset] [] := by first | (simp [entryFrame, mkF, argsToLocals, Value.category, maxLocals]; done) | rfl
abbrev K9 : ByteArray := prog_45_method_8_code
theorem d9_0 : decode K9 0 = .ok (.iconst 1, 1) := by decide +kernel
theorem d9_1 : decode K9 1 = .ok (.istore_n 1, 1) := by decide +kernel
theorem d9_2 : decode K9 2 = .ok (.iload_n 1, 1) := by decide +kernel
theorem d9_3 : decode K9 3 = .ok (.aload_n 0, 1) := by decide +kernel
theorem d9_4 : decode K9 4 = .ok (.getfield 56, 3) := by decide +kernel
theorem d9_7 : decode K9 7 = .ok (.if_icmp .ge 65, 3) := by decide +kernel
theorem d9_10 : decode K9 10 = .ok (.aload_n 0, 1) := by decide +kernel
theorem d9_11 : decode K9 11 = .ok (.getfield 33, 3) := by decide +kernel
theorem d9_14 : decode K9 14 = .ok (.iload_n 1, 1) := by decide +kernel
theorem d9_15 : decode K9 15 = .ok (.iaload, 1) := by decide +kernel
theorem d9_16 : decode K9 16 = .ok (.istore_n 2, 1) := by decide +kernel
theorem d9_17 : decode K9 17 = .ok (.iload_n 1, 1) := by decide +kernel
theorem d9_18 : decode K9 18 = .ok (.istore_n 3, 1) := by decide +kernel
theorem d9_19 : decode K9 19 = .ok (.iload_n 3, 1) := by decide +kernel
theorem d9_20 : decode K9 20 = .ok (.ifCond .le 39, 3) := by decide +kernel
theorem d9_23 : decode K9 23 = .ok (.aload_n 0, 1) := by decide +kernel
theorem d9_24 : decode K9 24 = .ok (.iload_n 2, 1) := by decide +kernel
theorem d9_25 : decode K9 25 = .ok (.aload_n 0, 1) := by decide +kernel
theorem d9_26 : decode K9 26 = .ok (.getfield 33, 3) := by decide +kernel
theorem d9_29 : decode K9 29 = .ok (.iload_n 3, 1) := by decide +kernel
theorem d9_30 : decode K9 30 = .ok (.iconst 1, 1) := by decide +kernel
theorem d9_31 : decode K9 31 = .ok (.isub, 1) := by decide +kernel
theorem d9_32 : decode K9 32 = .ok (.iaload, 1) := by decide +kernel
theorem d9_33 : decode K9 33 = .ok (.invokevirtual 105, 3) := by decide +kernel
theorem pd_6 : parseMethodDescriptor "(II)Z" = some ⟨[.int, .int], some .boolean⟩ := by decide +kernel
theorem d9_36 : decode K9 36 = .ok (.ifCond .eq 23, 3) := by decide +kernel
theorem d9_59 : decode K9 59 = .ok (.aload_n 0, 1) := by decide +kernel
theorem d9_60 : decode K9 60 = .ok (.getfield 33, 3) := by decide +kernel
theorem d9_63 : decode K9 63 = .ok (.iload_n 3, 1) := by decide +kernel
theorem d9_64 : decode K9 64 = .ok (.iload_n 2, 1) := by decide +kernel
theorem d9_65 : decode K9 65 = .ok (.iastore, 1) := by decide +kernel
theorem d9_66 : decode K9 66 = .ok (.iinc 1 1, 3) := by decide +kernel
theorem d9_69 : decode K9 69 = .ok (.goto (-67), 3) := by decide +kernel
theorem d9_72 : decode K9 72 = .ok (.return_, 1) := by decide +kernel
theorem d9_39 : decode K9 39 = .ok (.aload_n 0, 1) := by decide +kernel
theorem d9_40 : decode K9 40 = .ok (.getfield 33, 3) := by decide +kernel
theorem d9_43 : decode K9 43 = .ok (.iload_n 3, 1) := by decide +kernel
theorem d9_44 : decode K9 44 = .ok (.aload_n 0, 1) := by decide +kernel
theorem d9_45 : decode K9 45 = .ok (.getfield 33, 3) := by decide +kernel
theorem d9_48 : decode K9 48 = .ok (.iload_n 3, 1) := by decide +kernel
theorem d9_49 : decode K9 49 = .ok (.iconst 1, 1) := by decide +kernel
theorem d9_50 : decode K9 50 = .ok (.isub, 1) := by decide +kernel
theorem d9_51 : decode K9 51 = .ok (.iaload, 1) := by decide +kernel
theorem d9_52 : decode K9 52 = .ok (.iastore, 1) := by decide +kernel
theorem d9_53 : decode K9 53 = .ok (.iinc 3 (-1), 3) := by decide +kernel
theorem d9_56 : decode K9 56 = .ok (.goto (-37), 3) := by decide +kernel
abbrev K8 : ByteArray := prog_45_method_4_code
theorem d8_4 : decode K8 4 = .ok (.iconst 0, 1) := by decide +kernel
theorem d8_5 : decode K8 5 = .ok (.istore_n 1, 1) := by decide +kernel
theorem d8_6 : decode K8 6 = .ok (.iload_n 1, 1) := by decide +kernel
theorem d8_7 : decode K8 7 = .ok (.aload_n 0, 1) := by decide +kernel
theorem d8_8 : decode K8 8 = .ok (.getfield 56, 3) := by decide +kernel
theorem d8_11 : decode K8 11 = .ok (.if_icmp .ge 132, 3) := by decide +kernel
theorem d8_14 : decode K8 14 = .ok (.aload_n 0, 1) := by decide +kernel
theorem d8_15 : decode K8 15 = .ok (.getfield 33, 3) := by decide +kernel
theorem d8_18 : decode K8 18 = .ok (.iload_n 1, 1) := by decide +kernel
theorem d8_19 : decode K8 19 = .ok (.iaload, 1) := by decide +kernel
theorem d8_20 : decode K8 20 = .ok (.istore_n 2, 1) := by decide +kernel
theorem d8_21 : decode K8 21 = .ok (.aload_n 0, 1) := by decide +kernel
theorem d8_22 : decode K8 22 = .ok (.getfield 37, 3) := by decide +kernel
theorem d8_25 : decode K8 25 = .ok (.iload_n 1, 1) := by decide +kernel
theorem d8_26 : decode K8 26 = .ok (.aload_n 0, 1) := by decide +kernel
theorem d8_27 : decode K8 27 = .ok (.getfield 7, 3) := by decide +kernel
theorem d8_30 : decode K8 30 = .ok (.iload_n 2, 1) := by decide +kernel
theorem d8_31 : decode K8 31 = .ok (.daload, 1) := by decide +kernel
theorem d8_32 : decode K8 32 = .ok (.aload_n 0, 1) := by decide +kernel
theorem d8_33 : decode K8 33 = .ok (.getfield 23, 3) := by decide +kernel
theorem d8_36 : decode K8 36 = .ok (.iload_n 2, 1) := by decide +kernel
theorem d8_37 : decode K8 37 = .ok (.daload, 1) := by decide +kernel
theorem d8_38 : decode K8 38 = .ok (.aload_n 0, 1) := by decide +kernel
theorem d8_39 : decode K8 39 = .ok (.getfield 16, 3) := by decide +kernel
theorem d8_42 : decode K8 42 = .ok (.invokestatic 69, 3) := by decide +kernel
theorem pd_7 : parseMethodDescriptor "(DDZ)D" = some ⟨[.double, .double, .boolean], some .double⟩ := by decide +kernel
theorem d8_45 : decode K8 45 = .ok (.dastore, 1) := by decide +kernel
theorem d8_46 : decode K8 46 = .ok (.aload_n 0, 1) := by decide +kernel
theorem d8_47 : decode K8 47 = .ok (.getfield 40, 3) := by decide +kernel
theorem d8_50 : decode K8 50 = .ok (.iload_n 1, 1) := by decide +kernel
theorem d8_51 : decode K8 51 = .ok (.aload_n 0, 1) := by decide +kernel
theorem d8_52 : decode K8 52 = .ok (.getfield 13, 3) := by decide +kernel
theorem d8_55 : decode K8 55 = .ok (.iload_n 2, 1) := by decide +kernel
theorem d8_56 : decode K8 56 = .ok (.daload, 1) := by decide +kernel
theorem d8_57 : decode K8 57 = .ok (.aload_n 0, 1) := by decide +kernel
theorem d8_58 : decode K8 58 = .ok (.getfield 23, 3) := by decide +kernel
theorem d8_61 : decode K8 61 = .ok (.iload_n 2, 1) := by decide +kernel
theorem d8_62 : decode K8 62 = .ok (.daload, 1) := by decide +kernel
theorem d8_63 : decode K8 63 = .ok (.aload_n 0, 1) := by decide +kernel
theorem d8_64 : decode K8 64 = .ok (.getfield 16, 3) := by decide +kernel
theorem d8_67 : decode K8 67 = .ok (.invokestatic 69, 3) := by decide +kernel
theorem d8_70 : decode K8 70 = .ok (.dastore, 1) := by decide +kernel
theorem d8_71 : decode K8 71 = .ok (.aload_n 0, 1) := by decide +kernel
theorem d8_72 : decode K8 72 = .ok (.getfield 43, 3) := by decide +kernel
theorem d8_75 : decode K8 75 = .ok (.iload_n 1, 1) := by decide +kernel
theorem d8_76 : decode K8 76 = .ok (.aload_n 0, 1) := by decide +kernel
theorem d8_77 : decode K8 77 = .ok (.getfield 7, 3) := by decide +kernel
theorem d8_80 : decode K8 80 = .ok (.iload_n 2, 1) := by decide +kernel
theorem d8_81 : decode K8 81 = .ok (.daload, 1) := by decide +kernel
theorem d8_82 : decode K8 82 = .ok (.aload_n 0, 1) := by decide +kernel
theorem d8_83 : decode K8 83 = .ok (.getfield 26, 3) := by decide +kernel
theorem d8_86 : decode K8 86 = .ok (.iload_n 2, 1) := by decide +kernel
theorem d8_87 : decode K8 87 = .ok (.daload, 1) := by decide +kernel
theorem d8_88 : decode K8 88 = .ok (.aload_n 0, 1) := by decide +kernel
theorem d8_89 : decode K8 89 = .ok (.getfield 16, 3) := by decide +kernel
theorem d8_92 : decode K8 92 = .ok (.ifCond .ne 7, 3) := by decide +kernel
theorem d8_95 : decode K8 95 = .ok (.iconst 1, 1) := by decide +kernel
theorem d8_96 : decode K8 96 = .ok (.goto 4, 3) := by decide +kernel
theorem d8_100 : decode K8 100 = .ok (.invokestatic 69, 3) := by decide +kernel
theorem d8_103 : decode K8 103 = .ok (.dastore, 1) := by decide +kernel
theorem d8_104 : decode K8 104 = .ok (.aload_n 0, 1) := by decide +kernel
theorem d8_105 : decode K8 105 = .ok (.getfield 46, 3) := by decide +kernel
theorem d8_108 : decode K8 108 = .ok (.iload_n 1, 1) := by decide +kernel
theorem d8_109 : decode K8 109 = .ok (.aload_n 0, 1) := by decide +kernel
theorem d8_110 : decode K8 110 = .ok (.getfield 13, 3) := by decide +kernel
theorem d8_113 : decode K8 113 = .ok (.iload_n 2, 1) := by decide +kernel
theorem d8_114 : decode K8 114 = .ok (.daload, 1) := by decide +kernel
theorem d8_115 : decode K8 115 = .ok (.aload_n 0, 1) := by decide +kernel
theorem d8_116 : decode K8 116 = .ok (.getfield 26, 3) := by decide +kernel
theorem d8_119 : decode K8 119 = .ok (.iload_n 2, 1) := by decide +kernel
theorem d8_120 : decode K8 120 = .ok (.daload, 1) := by decide +kernel
theorem d8_121 : decode K8 121 = .ok (.aload_n 0, 1) := by decide +kernel
theorem d8_122 : decode K8 122 = .ok (.getfield 16, 3) := by decide +kernel
theorem d8_125 : decode K8 125 = .ok (.ifCond .ne 7, 3) := by decide +kernel
theorem d8_128 : decode K8 128 = .ok (.iconst 1, 1) := by decide +kernel
theorem d8_129 : decode K8 129 = .ok (.goto 4, 3) := by decide +kernel
theorem d8_133 : decode K8 133 = .ok (.invokestatic 69, 3) := by decide +kernel
theorem d8_136 : decode K8 136 = .ok (.dastore, 1) := by decide +kernel
theorem d8_137 : decode K8 137 = .ok (.iinc 1 1, 3) := by decide +kernel
theorem d8_140 : decode K8 140 = .ok (.goto (-134), 3) := by decide +kernel
theorem d8_143 : decode K8 143 = .ok (.aload_n 0, 1) := by decide +kernel
theorem d8_144 : decode K8 144 = .ok (.getfield 16, 3) := by decide +kernel
theorem d8_147 : decode K8 147 = .ok (.ifCond .eq 7, 3) := by decide +kernel
theorem d8_154 : decode K8 154 = .ok (.dconst 1, 1) := by decide +kernel
theorem d8_155 : decode K8 155 = .ok (.dstore_n 1, 1) := by decide +kernel
theorem d8_156 : decode K8 156 = .ok (.aload_n 0, 1) := by decide +kernel
theorem d8_157 : decode K8 157 = .ok (.iconst 0, 1) := by decide +kernel
theorem d8_158 : decode K8 158 = .ok (.putfield 72, 3) := by decide +kernel
theorem d8_161 : decode K8 161 = .ok (.aload_n 0, 1) := by decide +kernel
theorem d8_162 : decode K8 162 = .ok (.getfield 49, 3) := by decide +kernel
theorem d8_165 : decode K8 165 = .ok (.dstore_n 3, 1) := by decide +kernel
theorem d8_166 : decode K8 166 = .ok (.aload_n 0, 1) := by decide +kernel
theorem d8_167 : decode K8 167 = .ok (.getfield 53, 3) := by decide +kernel
theorem d8_170 : decode K8 170 = .ok (.dstore 5, 2) := by decide +kernel
theorem d8_172 : decode K8 172 = .ok (.iconst 0, 1) := by decide +kernel
theorem d8_173 : decode K8 173 = .ok (.istore 7, 2) := by decide +kernel
theorem d8_175 : decode K8 175 = .ok (.iload 7, 2) := by decide +kernel
theorem d8_177 : decode K8 177 = .ok (.aload_n 0, 1) := by decide +kernel
theorem d8_178 : decode K8 178 = .ok (.getfield 56, 3) := by decide +kernel
theorem d8_181 : decode K8 181 = .ok (.if_icmp .gt 222, 3) := by decide +kernel
theorem d8_184 : decode K8 184 = .ok (.dload_n 3, 1) := by decide +kernel
theorem d8_185 : decode K8 185 = .ok (.dstore 8, 2) := by decide +kernel
theorem d8_187 : decode K8 187 = .ok (.dload 5, 2) := by decide +kernel
theorem d8_189 : decode K8 189 = .ok (.dstore 10, 2) := by decide +kernel
theorem d8_191 : decode K8 191 = .ok (.iload 7, 2) := by decide +kernel
theorem d8_193 : decode K8 193 = .ok (.istore 12, 2) := by decide +kernel
theorem d8_195 : decode K8 195 = .ok (.iload 12, 2) := by decide +kernel
theorem d8_197 : decode K8 197 = .ok (.aload_n 0, 1) := by decide +kernel
theorem d8_198 : decode K8 198 = .ok (.getfield 56, 3) := by decide +kernel
theorem d8_201 : decode K8 201 = .ok (.if_icmp .ge 53, 3) := by decide +kernel
theorem d8_204 : decode K8 204 = .ok (.dload 8, 2) := by decide +kernel
theorem d8_206 : decode K8 206 = .ok (.aload_n 0, 1) := by decide +kernel
theorem d8_207 : decode K8 207 = .ok (.getfield 37, 3) := by decide +kernel
theorem d8_210 : decode K8 210 = .ok (.iload 12, 2) := by decide +kernel
theorem d8_212 : decode K8 212 = .ok (.daload, 1) := by decide +kernel
theorem d8_213 : decode K8 213 = .ok (.aload_n 0, 1) := by decide +kernel
theorem d8_214 : decode K8 214 = .ok (.getfield 16, 3) := by decide +kernel
theorem d8_217 : decode K8 217 = .ok (.invokestatic 60, 3) := by decide +kernel
theorem d8_220 : decode K8 220 = .ok (.dstore 8, 2) := by decide +kernel
theorem d8_222 : decode K8 222 = .ok (.dload 10, 2) := by decide +kernel
theorem d8_224 : decode K8 224 = .ok (.aload_n 0, 1) := by decide +kernel
theorem d8_225 : decode K8 225 = .ok (.getfield 43, 3) := by decide +kernel
theorem d8_228 : decode K8 228 = .ok (.iload 12, 2) := by decide +kernel
theorem d8_230 : decode K8 230 = .ok (.daload, 1) := by decide +kernel
theorem d8_231 : decode K8 231 = .ok (.aload_n 0, 1) := by decide +kernel
theorem d8_232 : decode K8 232 = .ok (.getfield 16, 3) := by decide +kernel
theorem d8_235 : decode K8 235 = .ok (.ifCond .ne 7, 3) := by decide +kernel
theorem d8_238 : decode K8 238 = .ok (.iconst 1, 1) := by decide +kernel
theorem d8_239 : decode K8 239 = .ok (.goto 4, 3) := by decide +kernel
theorem d8_243 : decode K8 243 = .ok (.invokestatic 60, 3) := by decide +kernel
theorem d8_246 : decode K8 246 = .ok (.dstore 10, 2) := by decide +kernel
theorem d8_248 : decode K8 248 = .ok (.iinc 12 1, 3) := by decide +kernel
theorem d8_251 : decode K8 251 = .ok (.goto (-56), 3) := by decide +kernel
theorem d8_254 : decode K8 254 = .ok (.aload_n 0, 1) := by decide +kernel
theorem d8_255 : decode K8 255 = .ok (.getfield 16, 3) := by decide +kernel
theorem d8_258 : decode K8 258 = .ok (.ifCond .eq 13, 3) := by decide +kernel
theorem d8_271 : decode K8 271 = .ok (.dload 8, 2) := by decide +kernel
theorem d8_273 : decode K8 273 = .ok (.dload 10, 2) := by decide +kernel
theorem d8_275 : decode K8 275 = .ok (.invokestatic 79, 3) := by decide +kernel
theorem d8_278 : decode K8 278 = .ok (.dstore 12, 2) := by decide +kernel
theorem d8_280 : decode K8 280 = .ok (.dload 8, 2) := by decide +kernel
theorem d8_282 : decode K8 282 = .ok (.dconst 0, 1) := by decide +kernel
theorem d8_283 : decode K8 283 = .ok (.dcmp .l, 1) := by decide +kernel
theorem d8_284 : decode K8 284 = .ok (.ifCond .gt 10, 3) := by decide +kernel
theorem d8_294 : decode K8 294 = .ok (.iconst 1, 1) := by decide +kernel
theorem d8_295 : decode K8 295 = .ok (.goto 4, 3) := by decide +kernel
theorem d8_299 : decode K8 299 = .ok (.istore 14, 2) := by decide +kernel
theorem d8_301 : decode K8 301 = .ok (.iload 14, 2) := by decide +kernel
theorem d8_303 : decode K8 303 = .ok (.ifCond .ne 10, 3) := by decide +kernel
theorem d8_313 : decode K8 313 = .ok (.aload_n 0, 1) := by decide +kernel
theorem d8_314 : decode K8 314 = .ok (.getfield 16, 3) := by decide +kernel
theorem d8_317 : decode K8 317 = .ok (.ifCond .eq 13, 3) := by decide +kernel
theorem d8_330 : decode K8 330 = .ok (.dload 12, 2) := by decide +kernel
theorem d8_332 : decode K8 332 = .ok (.dload_n 1, 1) := by decide +kernel
theorem d8_333 : decode K8 333 = .ok (.dcmp .g, 1) := by decide +kernel
theorem d8_334 : decode K8 334 = .ok (.ifCond .ge 12, 3) := by decide +kernel
theorem d8_337 : decode K8 337 = .ok (.dload 12, 2) := by decide +kernel
theorem d8_339 : decode K8 339 = .ok (.dstore_n 1, 1) := by decide +kernel
theorem d8_340 : decode K8 340 = .ok (.aload_n 0, 1) := by decide +kernel
theorem d8_341 : decode K8 341 = .ok (.iload 7, 2) := by decide +kernel
theorem d8_343 : decode K8 343 = .ok (.putfield 72, 3) := by decide +kernel
theorem d8_346 : decode K8 346 = .ok (.iload 7, 2) := by decide +kernel
theorem d8_348 : decode K8 348 = .ok (.aload_n 0, 1) := by decide +kernel
theorem d8_349 : decode K8 349 = .ok (.getfield 56, 3) := by decide +kernel
theorem d8_352 : decode K8 352 = .ok (.if_icmp .ge 45, 3) := by decide +kernel
theorem d8_355 : decode K8 355 = .ok (.dload_n 3, 1) := by decide +kernel
theorem d8_356 : decode K8 356 = .ok (.aload_n 0, 1) := by decide +kernel
theorem d8_357 : decode K8 357 = .ok (.getfield 40, 3) := by decide +kernel
theorem d8_360 : decode K8 360 = .ok (.iload 7, 2) := by decide +kernel
theorem d8_362 : decode K8 362 = .ok (.daload, 1) := by decide +kernel
theorem d8_363 : decode K8 363 = .ok (.aload_n 0, 1) := by decide +kernel
theorem d8_364 : decode K8 364 = .ok (.getfield 16, 3) := by decide +kernel
theorem d8_367 : decode K8 367 = .ok (.invokestatic 60, 3) := by decide +kernel
theorem d8_370 : decode K8 370 = .ok (.dstore_n 3, 1) := by decide +kernel
theorem d8_371 : decode K8 371 = .ok (.dload 5, 2) := by decide +kernel
theorem d8_373 : decode K8 373 = .ok (.aload_n 0, 1) := by decide +kernel
theorem d8_374 : decode K8 374 = .ok (.getfield 46, 3) := by decide +kernel
theorem d8_377 : decode K8 377 = .ok (.iload 7, 2) := by decide +kernel
theorem d8_379 : decode K8 379 = .ok (.daload, 1) := by decide +kernel
theorem d8_380 : decode K8 380 = .ok (.aload_n 0, 1) := by decide +kernel
theorem d8_381 : decode K8 381 = .ok (.getfield 16, 3) := by decide +kernel
theorem d8_384 : decode K8 384 = .ok (.ifCond .ne 7, 3) := by decide +kernel
theorem d8_387 : decode K8 387 = .ok (.iconst 1, 1) := by decide +kernel
theorem d8_388 : decode K8 388 = .ok (.goto 4, 3) := by decide +kernel
theorem d8_392 : decode K8 392 = .ok (.invokestatic 60, 3) := by decide +kernel
theorem d8_395 : decode K8 395 = .ok (.dstore 5, 2) := by decide +kernel
theorem d8_397 : decode K8 397 = .ok (.iinc 7 1, 3) := by decide +kernel
theorem d8_400 : decode K8 400 = .ok (.goto (-225), 3) := by decide +kernel
theorem d8_403 : decode K8 403 = .ok (.dload_n 1, 1) := by decide +kernel
theorem d8_404 : decode K8 404 = .ok (.dreturn, 1) := by decide +kernel
theorem d8_99 : decode K8 99 = .ok (.iconst 0, 1) := by decide +kernel
theorem d8_132 : decode K8 132 = .ok (.iconst 0, 1) := by decide +kernel
theorem d8_150 : decode K8 150 = .ok (.dconst 0, 1) := by decide +kernel
theorem d8_151 : decode K8 151 = .ok (.goto 4, 3) := by decide +kernel
theorem d8_242 : decode K8 242 = .ok (.iconst 0, 1) := by decide +kernel
theorem d8_261 : decode K8 261 = .ok (.dload 8, 2) := by decide +kernel
theorem d8_263 : decode K8 263 = .ok (.dload 10, 2) := by decide +kernel
theorem d8_265 : decode K8 265 = .ok (.invokestatic 75, 3) := by decide +kernel
theorem d8_268 : decode K8 268 = .ok (.goto 10, 3) := by decide +kernel
theorem d8_320 : decode K8 320 = .ok (.dload 12, 2) := by decide +kernel
theorem d8_322 : decode K8 322 = .ok (.dload_n 1, 1) := by decide +kernel
theorem d8_323 : decode K8 323 = .ok (.dcmp .l, 1) := by decide +kernel
theorem d8_324 : decode K8 324 = .ok (.ifCond .le 22, 3) := by decide +kernel
theorem d8_327 : decode K8 327 = .ok (.goto 10, 3) := by decide +kernel
theorem d8_391 : decode K8 391 = .ok (.iconst 0, 1) := by decide +kernel
theorem ef_r15 (m : MethodId) (x0 : Addr) : entryFrame m #[.ref x0] 15 = mkF m 0 #[.val (.ref x0), .unset, .unset, .unset, .unset, .unset, .unset, .unset, .unset, .unset, .unset, .unset, .unset, .unset, .unset] [] := by first | (simp [entryFrame, mkF, argsToLocals, Value.category, maxLocals]; done) | rfl
theorem d8_0 : decode K8 0 = .ok (.aload_n 0, 1) := by decide +kernel
theorem d8_1 : decode K8 1 = .ok (.invokevirtual 66, 3) := by decide +kernel
theorem pd_8 : parseMethodDescriptor "()V" = some ⟨[], none⟩ := by decide +kernel
theorem ef_ri4 (m : MethodId) (x0 : Addr) (x1 : Int32) : entryFrame m #[.ref x0, .int x1] 4 = mkF m 0 #[.val (.ref x0), .val (.int x1), .unset, .unset] [] := by first | (simp [entryFrame, mkF, argsToLocals, Value.category, maxLocals]; done) | rfl
abbrev K24 : ByteArray := prog_45_method_5_code
theorem d24_0 : decode K24 0 = .ok (.iconst 0, 1) := by decide +kernel
theorem d24_1 : decode K24 1 = .ok (.istore_n 2, 1) := by decide +kernel
theorem d24_2 : decode K24 2 = .ok (.iconst 0, 1) := by decide +kernel
theorem d24_3 : decode K24 3 = .ok (.istore_n 3, 1) := by decide +kernel
theorem d24_4 : decode K24 4 = .ok (.iload_n 3, 1) := by decide +kernel
theorem d24_5 : decode K24 5 = .ok (.aload_n 0, 1) := by decide +kernel
theorem d24_6 : decode K24 6 = .ok (.getfield 72, 3) := by decide +kernel
theorem d24_9 : decode K24 9 = .ok (.if_icmp .ge 27, 3) := by decide +kernel
theorem d24_36 : decode K24 36 = .ok (.iload_n 2, 1) := by decide +kernel
theorem d24_37 : decode K24 37 = .ok (.ifCond .eq 12, 3) := by decide +kernel
theorem d24_49 : decode K24 49 = .ok (.aload_n 0, 1) := by decide +kernel
theorem d24_50 : decode K24 50 = .ok (.getfield 7, 3) := by decide +kernel
theorem d24_53 : decode K24 53 = .ok (.iload_n 1, 1) := by decide +kernel
theorem d24_54 : decode K24 54 = .ok (.daload, 1) := by decide +kernel
theorem d24_55 : decode K24 55 = .ok (.dreturn, 1) := by decide +kernel
theorem d24_12 : decode K24 12 = .ok (.iload_n 2, 1) := by decide +kernel
theorem d24_13 : decode K24 13 = .ok (.aload_n 0, 1) := by decide +kernel
theorem d24_14 : decode K24 14 = .ok (.getfield 33, 3) := by decide +kernel
theorem d24_17 : decode K24 17 = .ok (.iload_n 3, 1) := by decide +kernel
theorem d24_18 : decode K24 18 = .ok (.iaload, 1) := by decide +kernel
theorem d24_19 : decode K24 19 = .ok (.iload_n 1, 1) := by decide +kernel
theorem d24_20 : decode K24 20 = .ok (.if_icmp .ne 7, 3) := by decide +kernel
theorem d24_27 : decode K24 27 = .ok (.iconst 0, 1) := by decide +kernel
theorem d24_28 : decode K24 28 = .ok (.ior, 1) := by decide +kernel
theorem d24_29 : decode K24 29 = .ok (.istore_n 2, 1) := by decide +kernel
theorem d24_30 : decode K24 30 = .ok (.iinc 3 1, 3) := by decide +kernel
theorem d24_33 : decode K24 33 = .ok (.goto (-29), 3) := by decide +kernel
theorem d24_23 : decode K24 23 = .ok (.iconst 1, 1) := by decide +kernel
theorem d24_24 : decode K24 24 = .ok (.goto 4, 3) := by decide +kernel
theorem d24_40 : decode K24 40 = .ok (.aload_n 0, 1) := by decide +kernel
theorem d24_41 : decode K24 41 = .ok (.getfield 13, 3) := by decide +kernel
theorem d24_44 : decode K24 44 = .ok (.iload_n 1, 1) := by decide +kernel
theorem d24_45 : decode K24 45 = .ok (.daload, 1) := by decide +kernel
theorem d24_46 : decode K24 46 = .ok (.goto 9, 3) := by decide +kernel
theorem ef_rrrii5 (m : MethodId) (x0 : Addr) (x1 : Addr) (x2 : Addr) (x3 : Int32) (x4 : Int32) : entryFrame m #[.ref x0, .ref x1, .ref x2, .int x3, .int x4] 5 = mkF m 0 #[.val (.ref x0), .val (.ref x1), .val (.ref x2), .val (.int x3), .val (.int x4)] [] := by first | (simp [entryFrame, mkF, argsToLocals, Value.category, maxLocals]; done) | rfl
abbrev K1 : ByteArray := prog_45_method_1_code
theorem d1_0 : decode K1 0 = .ok (.aload_n 0, 1) := by decide +kernel
theorem d1_1 : decode K1 1 = .ok (.invokespecial 1, 3) := by decide +kernel
theorem d1_4 : decode K1 4 = .ok (.aload_n 0, 1) := by decide +kernel
theorem d1_5 : decode K1 5 = .ok (.aload_n 1, 1) := by decide +kernel
theorem d1_6 : decode K1 6 = .ok (.putfield 7, 3) := by decide +kernel
theorem d1_9 : decode K1 9 = .ok (.aload_n 0, 1) := by decide +kernel
theorem d1_10 : decode K1 10 = .ok (.aload_n 2, 1) := by decide +kernel
theorem d1_11 : decode K1 11 = .ok (.putfield 13, 3) := by decide +kernel
theorem d1_14 : decode K1 14 = .ok (.aload_n 0, 1) := by decide +kernel
theorem d1_15 : decode K1 15 = .ok (.iload_n 3, 1) := by decide +kernel
theorem d1_16 : decode K1 16 = .ok (.putfield 16, 3) := by decide +kernel
theorem d1_19 : decode K1 19 = .ok (.aload_n 0, 1) := by decide +kernel
theorem d1_20 : decode K1 20 = .ok (.iload 4, 2) := by decide +kernel
theorem d1_22 : decode K1 22 = .ok (.putfield 20, 3) := by decide +kernel
theorem d1_25 : decode K1 25 = .ok (.aload_n 0, 1) := by decide +kernel
theorem d1_26 : decode K1 26 = .ok (.aload_n 1, 1) := by decide +kernel
theorem d1_27 : decode K1 27 = .ok (.arraylength, 1) := by decide +kernel
theorem d1_28 : decode K1 28 = .ok (.newarray .double, 2) := by decide +kernel
theorem d1_30 : decode K1 30 = .ok (.putfield 23, 3) := by decide +kernel
theorem d1_33 : decode K1 33 = .ok (.aload_n 0, 1) := by decide +kernel
theorem d1_34 : decode K1 34 = .ok (.aload_n 1, 1) := by decide +kernel
theorem d1_35 : decode K1 35 = .ok (.arraylength, 1) := by decide +kernel
theorem d1_36 : decode K1 36 = .ok (.newarray .double, 2) := by decide +kernel
theorem d1_38 : decode K1 38 = .ok (.putfield 26, 3) := by decide +kernel
theorem d1_41 : decode K1 41 = .ok (.aload_n 0, 1) := by decide +kernel
theorem d1_42 : decode K1 42 = .ok (.aload_n 1, 1) := by decide +kernel
theorem d1_43 : decode K1 43 = .ok (.arraylength, 1) := by decide +kernel
theorem d1_44 : decode K1 44 = .ok (.newarray .boolean, 2) := by decide +kernel
theorem d1_46 : decode K1 46 = .ok (.putfield 29, 3) := by decide +kernel
theorem d1_49 : decode K1 49 = .ok (.aload_n 0, 1) := by decide +kernel
theorem d1_50 : decode K1 50 = .ok (.aload_n 1, 1) := by decide +kernel
theorem d1_51 : decode K1 51 = .ok (.arraylength, 1) := by decide +kernel
theorem d1_52 : decode K1 52 = .ok (.newarray .int, 2) := by decide +kernel
theorem d1_54 : decode K1 54 = .ok (.putfield 33, 3) := by decide +kernel
theorem d1_57 : decode K1 57 = .ok (.aload_n 0, 1) := by decide +kernel
theorem d1_58 : decode K1 58 = .ok (.aload_n 1, 1) := by decide +kernel
theorem d1_59 : decode K1 59 = .ok (.arraylength, 1) := by decide +kernel
theorem d1_60 : decode K1 60 = .ok (.newarray .double, 2) := by decide +kernel
theorem d1_62 : decode K1 62 = .ok (.putfield 37, 3) := by decide +kernel
theorem d1_65 : decode K1 65 = .ok (.aload_n 0, 1) := by decide +kernel
theorem d1_66 : decode K1 66 = .ok (.aload_n 1, 1) := by decide +kernel
theorem d1_67 : decode K1 67 = .ok (.arraylength, 1) := by decide +kernel
theorem d1_68 : decode K1 68 = .ok (.newarray .double, 2) := by decide +kernel
theorem d1_70 : decode K1 70 = .ok (.putfield 40, 3) := by decide +kernel
theorem d1_73 : decode K1 73 = .ok (.aload_n 0, 1) := by decide +kernel
theorem d1_74 : decode K1 74 = .ok (.aload_n 1, 1) := by decide +kernel
theorem d1_75 : decode K1 75 = .ok (.arraylength, 1) := by decide +kernel
theorem d1_76 : decode K1 76 = .ok (.newarray .double, 2) := by decide +kernel
theorem d1_78 : decode K1 78 = .ok (.putfield 43, 3) := by decide +kernel
theorem d1_81 : decode K1 81 = .ok (.aload_n 0, 1) := by decide +kernel
theorem d1_82 : decode K1 82 = .ok (.aload_n 1, 1) := by decide +kernel
theorem d1_83 : decode K1 83 = .ok (.arraylength, 1) := by decide +kernel
theorem d1_84 : decode K1 84 = .ok (.newarray .double, 2) := by decide +kernel
theorem d1_86 : decode K1 86 = .ok (.putfield 46, 3) := by decide +kernel
theorem d1_89 : decode K1 89 = .ok (.return_, 1) := by decide +kernel
theorem ef_ridd6 (m : MethodId) (x0 : Addr) (x1 : Int32) (x2 : UInt64) (x3 : UInt64) : entryFrame m #[.ref x0, .int x1, .double x2, .double x3] 6 = mkF m 0 #[.val (.ref x0), .val (.int x1), .val (.double x2), .second, .val (.double x3), .second] [] := by first | (simp [entryFrame, mkF, argsToLocals, Value.category, maxLocals]; done) | rfl
abbrev K3 : ByteArray := prog_45_method_3_code
theorem d3_0 : decode K3 0 = .ok (.iload_n 1, 1) := by decide +kernel
theorem d3_1 : decode K3 1 = .ok (.ifCond .ge 47, 3) := by decide +kernel
theorem d3_4 : decode K3 4 = .ok (.aload_n 0, 1) := by decide +kernel
theorem d3_5 : decode K3 5 = .ok (.aload_n 0, 1) := by decide +kernel
theorem d3_6 : decode K3 6 = .ok (.getfield 49, 3) := by decide +kernel
theorem d3_9 : decode K3 9 = .ok (.dload_n 2, 1) := by decide +kernel
theorem d3_10 : decode K3 10 = .ok (.aload_n 0, 1) := by decide +kernel
theorem d3_11 : decode K3 11 = .ok (.getfield 16, 3) := by decide +kernel
theorem d3_14 : decode K3 14 = .ok (.invokestatic 60, 3) := by decide +kernel
theorem d3_17 : decode K3 17 = .ok (.putfield 49, 3) := by decide +kernel
theorem d3_20 : decode K3 20 = .ok (.aload_n 0, 1) := by decide +kernel
theorem d3_21 : decode K3 21 = .ok (.aload_n 0, 1) := by decide +kernel
theorem d3_22 : decode K3 22 = .ok (.getfield 53, 3) := by decide +kernel
theorem d3_25 : decode K3 25 = .ok (.dload 4, 2) := by decide +kernel
theorem d3_27 : decode K3 27 = .ok (.aload_n 0, 1) := by decide +kernel
theorem d3_28 : decode K3 28 = .ok (.getfield 16, 3) := by decide +kernel
theorem d3_31 : decode K3 31 = .ok (.ifCond .ne 7, 3) := by decide +kernel
theorem d3_34 : decode K3 34 = .ok (.iconst 1, 1) := by decide +kernel
theorem d3_35 : decode K3 35 = .ok (.goto 4, 3) := by decide +kernel
theorem d3_39 : decode K3 39 = .ok (.invokestatic 60, 3) := by decide +kernel
theorem d3_42 : decode K3 42 = .ok (.putfield 53, 3) := by decide +kernel
theorem d3_45 : decode K3 45 = .ok (.goto 88, 3) := by decide +kernel
theorem d3_133 : decode K3 133 = .ok (.return_, 1) := by decide +kernel
theorem d3_48 : decode K3 48 = .ok (.aload_n 0, 1) := by decide +kernel
theorem d3_49 : decode K3 49 = .ok (.getfield 29, 3) := by decide +kernel
theorem d3_52 : decode K3 52 = .ok (.iload_n 1, 1) := by decide +kernel
theorem d3_53 : decode K3 53 = .ok (.baload, 1) := by decide +kernel
theorem d3_54 : decode K3 54 = .ok (.ifCond .ne 30, 3) := by decide +kernel
theorem d3_57 : decode K3 57 = .ok (.aload_n 0, 1) := by decide +kernel
theorem d3_58 : decode K3 58 = .ok (.getfield 29, 3) := by decide +kernel
theorem d3_61 : decode K3 61 = .ok (.iload_n 1, 1) := by decide +kernel
theorem d3_62 : decode K3 62 = .ok (.iconst 1, 1) := by decide +kernel
theorem d3_63 : decode K3 63 = .ok (.bastore, 1) := by decide +kernel
theorem d3_64 : decode K3 64 = .ok (.aload_n 0, 1) := by decide +kernel
theorem d3_65 : decode K3 65 = .ok (.getfield 33, 3) := by decide +kernel
theorem d3_68 : decode K3 68 = .ok (.aload_n 0, 1) := by decide +kernel
theorem d3_69 : decode K3 69 = .ok (.getfield 56, 3) := by decide +kernel
theorem d3_72 : decode K3 72 = .ok (.iload_n 1, 1) := by decide +kernel
theorem d3_73 : decode K3 73 = .ok (.iastore, 1) := by decide +kernel
theorem d3_74 : decode K3 74 = .ok (.aload_n 0, 1) := by decide +kernel
theorem d3_75 : decode K3 75 = .ok (.dup, 1) := by decide +kernel
theorem d3_76 : decode K3 76 = .ok (.getfield 56, 3) := by decide +kernel
theorem d3_79 : decode K3 79 = .ok (.iconst 1, 1) := by decide +kernel
theorem d3_80 : decode K3 80 = .ok (.iadd, 1) := by decide +kernel
theorem d3_81 : decode K3 81 = .ok (.putfield 56, 3) := by decide +kernel
theorem d3_84 : decode K3 84 = .ok (.aload_n 0, 1) := by decide +kernel
theorem d3_85 : decode K3 85 = .ok (.getfield 23, 3) := by decide +kernel
theorem d3_88 : decode K3 88 = .ok (.iload_n 1, 1) := by decide +kernel
theorem d3_89 : decode K3 89 = .ok (.aload_n 0, 1) := by decide +kernel
theorem d3_90 : decode K3 90 = .ok (.getfield 23, 3) := by decide +kernel
theorem d3_93 : decode K3 93 = .ok (.iload_n 1, 1) := by decide +kernel
theorem d3_94 : decode K3 94 = .ok (.daload, 1) := by decide +kernel
theorem d3_95 : decode K3 95 = .ok (.dload_n 2, 1) := by decide +kernel
theorem d3_96 : decode K3 96 = .ok (.aload_n 0, 1) := by decide +kernel
theorem d3_97 : decode K3 97 = .ok (.getfield 16, 3) := by decide +kernel
theorem d3_100 : decode K3 100 = .ok (.invokestatic 60, 3) := by decide +kernel
theorem d3_103 : decode K3 103 = .ok (.dastore, 1) := by decide +kernel
theorem d3_104 : decode K3 104 = .ok (.aload_n 0, 1) := by decide +kernel
theorem d3_105 : decode K3 105 = .ok (.getfield 26, 3) := by decide +kernel
theorem d3_108 : decode K3 108 = .ok (.iload_n 1, 1) := by decide +kernel
theorem d3_109 : decode K3 109 = .ok (.aload_n 0, 1) := by decide +kernel
theorem d3_110 : decode K3 110 = .ok (.getfield 26, 3) := by decide +kernel
theorem d3_113 : decode K3 113 = .ok (.iload_n 1, 1) := by decide +kernel
theorem d3_114 : decode K3 114 = .ok (.daload, 1) := by decide +kernel
theorem d3_115 : decode K3 115 = .ok (.dload 4, 2) := by decide +kernel
theorem d3_117 : decode K3 117 = .ok (.aload_n 0, 1) := by decide +kernel
theorem d3_118 : decode K3 118 = .ok (.getfield 16, 3) := by decide +kernel
theorem d3_121 : decode K3 121 = .ok (.ifCond .ne 7, 3) := by decide +kernel
theorem d3_124 : decode K3 124 = .ok (.iconst 1, 1) := by decide +kernel
theorem d3_125 : decode K3 125 = .ok (.goto 4, 3) := by decide +kernel
theorem d3_129 : decode K3 129 = .ok (.invokestatic 60, 3) := by decide +kernel
theorem d3_132 : decode K3 132 = .ok (.dastore, 1) := by decide +kernel
theorem d3_38 : decode K3 38 = .ok (.iconst 0, 1) := by decide +kernel
theorem d3_128 : decode K3 128 = .ok (.iconst 0, 1) := by decide +kernel
theorem ef_riid5 (m : MethodId) (x0 : Addr) (x1 : Int32) (x2 : Int32) (x3 : UInt64) : entryFrame m #[.ref x0, .int x1, .int x2, .double x3] 5 = mkF m 0 #[.val (.ref x0), .val (.int x1), .val (.int x2), .val (.double x3), .second] [] := by first | (simp [entryFrame, mkF, argsToLocals, Value.category, maxLocals]; done) | rfl
abbrev K7 : ByteArray := method_2_code
theorem d7_0 : decode K7 0 = .ok (.iload_n 2, 1) := by decide +kernel
theorem d7_1 : decode K7 1 = .ok (.ifCond .eq 13, 3) := by decide +kernel
theorem d7_14 : decode K7 14 = .ok (.aload_n 0, 1) := by decide +kernel
theorem d7_15 : decode K7 15 = .ok (.iload_n 1, 1) := by decide +kernel
theorem d7_16 : decode K7 16 = .ok (.dconst 0, 1) := by decide +kernel
theorem d7_17 : decode K7 17 = .ok (.dload_n 3, 1) := by decide +kernel
theorem d7_18 : decode K7 18 = .ok (.invokevirtual 7, 3) := by decide +kernel
theorem pd_9 : parseMethodDescriptor "(IDD)V" = some ⟨[.int, .double, .double], none⟩ := by decide +kernel
theorem d7_21 : decode K7 21 = .ok (.return_, 1) := by decide +kernel
theorem d7_4 : decode K7 4 = .ok (.aload_n 0, 1) := by decide +kernel
theorem d7_5 : decode K7 5 = .ok (.iload_n 1, 1) := by decide +kernel
theorem d7_6 : decode K7 6 = .ok (.dload_n 3, 1) := by decide +kernel
theorem d7_7 : decode K7 7 = .ok (.dconst 0, 1) := by decide +kernel
theorem d7_8 : decode K7 8 = .ok (.invokevirtual 7, 3) := by decide +kernel
theorem d7_11 : decode K7 11 = .ok (.goto 10, 3) := by decide +kernel
theorem pn_ShareValueAtExtremePinLaw : plainName "com/example/narrow_bounds/narrowbounds/ShareValueAtExtremePinLaw" = true := by first | (simp [plainName, overriddenIn]; done) | decide +kernel
theorem ef_0 (m : MethodId) (x0 : Int32) (x1 : Int32) (x2 : Int32) (x3 : Int32) (x4 : Int32) (x5 : Int32) : entryFrame m #[.int x0, .int x1, .int x2, .int x3, .int x4, .int x5] maxLocals = mkF m 0 #[.val (.int x0), .val (.int x1), .val (.int x2), .val (.int x3), .val (.int x4), .val (.int x5), .unset, .unset, .unset, .unset, .unset, .unset, .unset, .unset, .unset, .unset, .unset, .unset, .unset, .unset, .unset, .unset, .unset, .unset, .unset, .unset, .unset, .unset, .unset, .unset, .unset, .unset, .unset, .unset, .unset, .unset, .unset, .unset, .unset, .unset] [] := by first | (simp [entryFrame, mkF, argsToLocals, Value.category, maxLocals]; done) | rfl
theorem pd_10 : parseMethodDescriptor "([D[DZZ)V" = some ⟨[(.array .double), (.array .double), .boolean, .boolean], none⟩ := by decide +kernel
theorem pd_11 : parseMethodDescriptor "(I)D" = some ⟨[.int], some .double⟩ := by decide +kernel
theorem pd_12 : parseMethodDescriptor "()D" = some ⟨[], some .double⟩ := by decide +kernel
theorem pd_13 : parseMethodDescriptor "(Lcom/example/narrow_bounds/narrowbounds/Share;IZD)V" = some ⟨[(.object "com/example/narrow_bounds/narrowbounds/Share"), .int, .boolean, .double], none⟩ := by decide +kernel
theorem dy_z : Jvm.OwnKit.Dy ((0 : Nat) : Int) 0 0 := dy_zero

theorem own_nn {a : UInt64} (h : Jvm.FP.Core.DFin a) : NoNaN64 a := (fin64_core.mpr h).noNaN
theorem lt_inf {x : UInt64} (h : Jvm.FP.Core.DFin x) : FP.dcmp x (9218868437227405312 : UInt64) = some .lt := by
  rw [show FP.dcmp x (9218868437227405312 : UInt64) = _ from Jvm.FP.Core.dcmp_key h.ne_nan (by decide +kernel)]
  refine congrArg some ((Jvm.FP.Core.compare_lt_iff _ _).mpr ?_)
  rw [show Jvm.FP.Core.dkey (9218868437227405312 : UInt64) = 9218868437227405312 by decide +kernel]
  rw [Jvm.FP.Core.fin_bits] at h
  unfold Jvm.FP.Core.dkey
  split <;> omega
theorem gt_ninf {x : UInt64} (h : Jvm.FP.Core.DFin x) : FP.dcmp x (18442240474082181120 : UInt64) = some .gt := by
  rw [show FP.dcmp x (18442240474082181120 : UInt64) = _ from Jvm.FP.Core.dcmp_key h.ne_nan (by decide +kernel)]
  refine congrArg some ((Jvm.FP.Core.compare_gt_iff _ _).mpr ?_)
  rw [show Jvm.FP.Core.dkey (18442240474082181120 : UInt64) = -9218868437227405312 by decide +kernel]
  rw [Jvm.FP.Core.fin_bits] at h
  have := x.toNat_lt
  unfold Jvm.FP.Core.dkey
  split <;> omega
theorem nneg64 {y : UInt64} (h : y.toNat < 2 ^ 63) : ¬ y.toInt64 < (0 : Int64) := by
  rw [Int64.lt_iff_toInt_lt]
  have : y.toInt64.toInt = (y.toNat : Int) := by
    show y.toBitVec.toInt = _
    rw [BitVec.toInt_eq_toNat_of_lt (by show 2 * y.toNat < 2 ^ 64; omega)]; rfl
  rw [this, show (0 : Int64).toInt = 0 by decide]; omega
theorem raw_ok {u : UInt64} (h : NoNaN64 u) : (u &&& 0x7fffffffffffffff > 0x7ff0000000000000 && u &&& 0x0008000000000000 == 0) = false := by
  have q : ¬ (u &&& 0x7fffffffffffffff > 0x7ff0000000000000) := UInt64.not_lt.mpr h
  simp [q]
theorem raw_p1 (y : UInt64) : (y.toInt64 + (1 : Int64)).toUInt64 = y + 1 := rfl
theorem raw_m1 (y : UInt64) : (y.toInt64 + (-1 : Int64)).toUInt64 = y + 18446744073709551615 := rfl
theorem p1_nat {y : UInt64} (h : y.toNat < 2 ^ 63) : (y + 1).toNat = y.toNat + 1 := by
  rw [UInt64.toNat_add, show (1 : UInt64).toNat = 1 from rfl]; omega
theorem m1_nat {y : UInt64} (h0 : 0 < y.toNat) (h : y.toNat < 2 ^ 63) : (y + 18446744073709551615).toNat + 1 = y.toNat := by
  rw [UInt64.toNat_add, show (18446744073709551615 : UInt64).toNat = 18446744073709551615 from rfl]; omega
theorem own_up {L U : Nat} {x : UInt64} (h : Iv L U x) (hL : 1 ≤ L) (hU : U + 1 < 2 ^ 53) : Iv L (U + 1) (FP.dadd x 0 + 1) ∧ (FP.dadd x 0).toNat < 2 ^ 63 := by
  have h1 := iv_add h iv_zero (by omega)
  obtain ⟨-, q, -⟩ := pos_bits h1.1 (h1.pos (by omega))
  exact ⟨iv_up h1 (by omega) (by omega) (p1_nat q), q⟩
theorem own_down {L U : Nat} {x : UInt64} (h : Iv L U x) (hL : 2 ≤ L) (hU : U < 2 ^ 53) : Iv (L - 1) U (x + 18446744073709551615) := by
  obtain ⟨q0, q, -⟩ := pos_bits h.1 (h.pos (by omega))
  exact iv_down h hL hU (m1_nat q0 q)
theorem pos_gt {L U : Nat} {x : UInt64} (h : Iv L U x) (hL : 1 ≤ L) : FP.dcmp x 0 = some .gt := iv_gt h iv_zero (by omega)
theorem zero_eq {x : UInt64} (h : Iv 0 0 x) : FP.dcmp x 0 = some .eq := by
  rw [show FP.dcmp x 0 = _ from Jvm.FP.Core.dcmp_zval h.1.ne_nan fin_zero.ne_nan]
  refine congrArg some ((Jvm.FP.Core.compare_eq_iff _ _).mpr ?_)
  have h1 := h.2.1
  have h2 := h.2.2
  have h3 := zv_zero
  simp only [zv] at h1 h2 h3
  rw [h3]
  omega

theorem c_isnan (l : Launch) (Z : State) (a0 : Array Value) (hw : ∀ d ∈ tables_1, d.before a0 Z = true) (n0 : Nat) (x : UInt64) (hx : NoNaN64 x) (h0 : Heap) (F : List HRow) (H00 : Hp Z n0 h0 F) :
    Con l Z n0 ⟨"java/lang/Double", "isNaN", "(D)Z"⟩ [] jdk_117_method_6_code 2 (some .boolean) ({ frames := 0, cells := 0, slots := 0, locals := 0 } : Room) #[.double x] h0 (fun v h => v = some (.int 0) ∧ Hp Z n0 h F) := by
  refine con_of pf_14 ?_
  intro p e s m below meth c T0 W0 e0
  subst e0
  have H0 := H00
  refine g_cast (ef_d2 m x) ?_
  refine g_dloadN W0 d14_0 (pc' := 1) rfl rfl ?_
  refine g_dloadN W0 d14_1 (pc' := 2) rfl rfl ?_
  refine g_dcmp W0 d14_2 (pc' := 3) rfl rfl ?_
  rw [show (cmpValue (FP.dcmp x x) .l) = (0 : Int32) from dcmpV_self hx .l]
  refine g_if W0 d14_3 (pcy := 10) (by decide) (pc' := 6) rfl (fun _ => ?_) (fun (h : ¬ (0 : Int32) = (0 : Int32)) => absurd h (by decide))
  refine g_iconst W0 d14_10 (pc' := 11) rfl (v := (0 : Int32)) (by decide) ?_
  exact g_zreturn W0 (by decide) d14_11 ⟨rfl, H0⟩ (by decide) (by decide)
theorem c_nup (l : Launch) (Z : State) (a0 : Array Value) (hw : ∀ d ∈ tables_1, d.before a0 Z = true) (n0 : Nat) (x : UInt64) (L U : Nat) (hx : Iv L U x) (hL : 1 ≤ L) (hU : U + 1 < 2 ^ 53) (h0 : Heap) (F : List HRow) (H00 : Hp Z n0 h0 F) :
    Con l Z n0 ⟨"java/lang/Math", "nextUp", "(D)D"⟩ [] jdk_29_method_95_code 4 (some .double) ({ frames := 1, cells := 0, slots := 0, locals := 40 } : Room) #[.double x] h0 (fun v h => ∃ r, v = some (.double r) ∧ Iv L (U + 1) r ∧ Hp Z n0 h F) := by
  refine con_of pf_20 ?_
  intro p e s m below meth c T0 W0 e0
  subst e0
  have H0 := H00
  refine g_cast (ef_d4 m x) ?_
  refine g_dloadN W0 d20_0 (pc' := 1) rfl rfl ?_
  refine g_ldc2Double W0 (wd_110 hw) d20_1 (pc' := 4) rfl ?_
  refine g_dcmp W0 d20_4 (pc' := 5) rfl rfl ?_
  rw [show (cmpValue (FP.dcmp x (9218868437227405312 : UInt64)) .g) = (-1 : Int32) from (by rw [lt_inf hx.1]; rfl)]
  refine g_if W0 d20_5 (pcy := 34) (by decide) (pc' := 8) rfl (fun (h : ¬ (-1 : Int32) < (0 : Int32)) => absurd h (by decide)) (fun _ => ?_)
  refine g_dloadN W0 d20_8 (pc' := 9) rfl rfl ?_
  refine g_dconst0 W0 d20_9 (pc' := 10) rfl ?_
  refine g_dadd W0 d20_10 (pc' := 11) rfl rfl (own_nn (iv_add hx iv_zero (by omega)).1) ?_
  refine g_d2raw W0 (wd_111 hw) (wd_89 hw) (wd_88 hw) (wd_79 hw) H0 rfl rfl d20_11 (pc' := 14) rfl (by decide) (Wn := 0) (Nat.le_of_eq rfl) (by decide) ?_
  intro T1 W1 H1
  refine g_lstoreN W1 d20_14 (pc' := 15) rfl (ls' := #[.val (.double x), .second, .val (.long ((FP.dadd x 0).toInt64)), .second]) rfl ?_
  refine g_lloadN W1 d20_15 (pc' := 16) rfl rfl ?_
  refine g_lloadN W1 d20_16 (pc' := 17) rfl rfl ?_
  refine g_lconst W1 d20_17 (pc' := 18) rfl (v := (0 : Int64)) (by decide) ?_
  refine g_lcmp W1 d20_18 (pc' := 19) rfl rfl ?_
  refine g_if W1 d20_19 (pcy := 26) (by decide) (pc' := 22) rfl (fun (h : (XT.cmpL ((FP.dadd x 0).toInt64) (0 : Int64)) < (0 : Int32)) => absurd (cmpL_lt0.mp h) (nneg64 (own_up hx hL hU).2)) (fun (_ : ¬ (XT.cmpL ((FP.dadd x 0).toInt64) (0 : Int64)) < (0 : Int32)) => ?_)
  refine g_lconst W1 d20_22 (pc' := 23) rfl (v := (1 : Int64)) (by decide) ?_
  refine g_goto W1 d20_23 (pc' := 29) (by decide) ?_
  refine g_ladd W1 d20_29 (pc' := 30) rfl rfl ?_
  refine g_raw2d W1 (wd_112 hw) (wd_114 hw) (wd_113 hw) (wd_79 hw) H1 (u := ((FP.dadd x 0) + 1)) (raw_p1 (FP.dadd x 0)) (raw_ok (own_nn (own_up hx hL hU).1.1)) rfl d20_30 (pc' := 33) rfl (by decide) (Wn := 0) (Nat.le_of_eq rfl) (by decide) ?_
  intro T2 W2 H2
  exact g_dreturn W2 d20_33 ⟨_, rfl, (own_up hx hL hU).1, H2⟩ (by decide) (by decide)
theorem c_ndn (l : Launch) (Z : State) (a0 : Array Value) (hw : ∀ d ∈ tables_1, d.before a0 Z = true) (n0 : Nat) (x : UInt64) (L U : Nat) (hx : Iv L U x) (hL : 2 ≤ L) (hU : U < 2 ^ 53) (h0 : Heap) (F : List HRow) (H00 : Hp Z n0 h0 F) :
    Con l Z n0 ⟨"java/lang/Math", "nextDown", "(D)D"⟩ [] jdk_29_method_97_code 2 (some .double) ({ frames := 1, cells := 0, slots := 0, locals := 40 } : Room) #[.double x] h0 (fun v h => ∃ r, v = some (.double r) ∧ Iv (L - 1) U r ∧ Hp Z n0 h F) := by
  refine con_of pf_23 ?_
  intro p e s m below meth c T0 W0 e0
  subst e0
  have H0 := H00
  refine g_cast (ef_d2 m x) ?_
  refine g_dloadN W0 d23_0 (pc' := 1) rfl rfl ?_
  refine g_callS W0 (argsL := [.double x]) (st := []) (wd_127 hw) (wd_85 hw) (wd_79 hw) (wd_86 hw) (by decide) (c_isnan l Z a0 hw n0 x (own_nn hx.1) _ _ H0) pd_0 rfl rfl rfl d23_1 (pc' := 4) rfl (by decide) (Wn := 0) (Nat.le_of_eq rfl) (by decide) (kc' := 0) (ks' := 0) rfl rfl (by decide) (by decide) ?_
  intro T1 v1 W1 hp1
  obtain ⟨rfl, H1⟩ := hp1
  show Goes _ _ _ _ (State.setTop _ (mkF _ _ _ [.int (0 : Int32)]))
  refine g_if W1 d23_4 (pcy := 15) (by decide) (pc' := 7) rfl (fun (h : ¬ (0 : Int32) = (0 : Int32)) => absurd h (by decide)) (fun _ => ?_)
  refine g_dloadN W1 d23_7 (pc' := 8) rfl rfl ?_
  refine g_ldc2Double W1 (wd_128 hw) d23_8 (pc' := 11) rfl ?_
  refine g_dcmp W1 d23_11 (pc' := 12) rfl rfl ?_
  rw [show (cmpValue (FP.dcmp x (18442240474082181120 : UInt64)) .l) = (1 : Int32) from (by rw [gt_ninf hx.1]; rfl)]
  refine g_if W1 d23_12 (pcy := 17) (by decide) (pc' := 15) rfl (fun _ => ?_) (fun (h : ¬ ¬ (1 : Int32) = (0 : Int32)) => absurd h (by decide))
  refine g_dloadN W1 d23_17 (pc' := 18) rfl rfl ?_
  refine g_dconst0 W1 d23_18 (pc' := 19) rfl ?_
  refine g_dcmp W1 d23_19 (pc' := 20) rfl rfl ?_
  rw [show (cmpValue (FP.dcmp x 0) .l) = (1 : Int32) from (by rw [pos_gt hx (by omega)]; rfl)]
  refine g_if W1 d23_20 (pcy := 27) (by decide) (pc' := 23) rfl (fun _ => ?_) (fun (h : ¬ ¬ (1 : Int32) = (0 : Int32)) => absurd h (by decide))
  refine g_dloadN W1 d23_27 (pc' := 28) rfl rfl ?_
  refine g_d2raw W1 (wd_111 hw) (wd_89 hw) (wd_88 hw) (wd_79 hw) H1 rfl rfl d23_28 (pc' := 31) rfl (by decide) (Wn := 0) (Nat.le_of_eq rfl) (by decide) ?_
  intro T2 W2 H2
  refine g_dloadN W2 d23_31 (pc' := 32) rfl rfl ?_
  refine g_dconst0 W2 d23_32 (pc' := 33) rfl ?_
  refine g_dcmp W2 d23_33 (pc' := 34) rfl rfl ?_
  rw [show (cmpValue (FP.dcmp x 0) .l) = (1 : Int32) from (by rw [pos_gt hx (by omega)]; rfl)]
  refine g_if W2 d23_34 (pcy := 43) (by decide) (pc' := 37) rfl (fun (h : ¬ (0 : Int32) < (1 : Int32)) => absurd h (by decide)) (fun _ => ?_)
  refine g_ldc2Long W2 (wd_129 hw) d23_37 (pc' := 40) rfl ?_
  refine g_goto W2 d23_40 (pc' := 44) (by decide) ?_
  refine g_ladd W2 d23_44 (pc' := 45) rfl rfl ?_
  refine g_raw2d W2 (wd_112 hw) (wd_114 hw) (wd_113 hw) (wd_79 hw) H2 (u := (x + 18446744073709551615)) (raw_m1 x) (raw_ok (own_nn (own_down hx hL hU).1)) rfl d23_45 (pc' := 48) rfl (by decide) (Wn := 0) (Nat.le_of_eq rfl) (by decide) ?_
  intro T3 W3 H3
  exact g_dreturn W3 d23_48 ⟨_, rfl, own_down hx hL hU, H3⟩ (by decide) (by decide)

/-- about the whole number p: k marks of slack; nothing is exactly nothing -/
def Nr (p k : Nat) (x : UInt64) : Prop := (p = 0 ∧ Iv 0 0 x) ∨ (1 ≤ p ∧ Iv (p * 2 ^ 30 - k) (p * 2 ^ 30 + k) x)
theorem Nr.fin {p k : Nat} {x : UInt64} (h : Nr p k x) : Jvm.FP.Core.DFin x := by rcases h with h | h <;> exact h.2.1
theorem Nr.mono {p k k' : Nat} {x : UInt64} (h : Nr p k x) (hk : k ≤ k') : Nr p k' x := by
  rcases h with h | ⟨h1, h2⟩
  · exact Or.inl h
  · exact Or.inr ⟨h1, h2.mono (by omega) (by omega)⟩
theorem Nr.add {p k q k' : Nat} {x y : UInt64} (h : Nr p k x) (h' : Nr q k' y) (hp : p + q ≤ 4096) (hk : k + k' ≤ 1000) : Nr (p + q) (k + k') (FP.dadd x y) := by
  rcases h with ⟨rfl, h⟩ | ⟨h0, h⟩
  · rcases h' with ⟨rfl, h'⟩ | ⟨h0', h'⟩
    · exact Or.inl ⟨rfl, (iv_add h h' (by omega)).mono (by omega) (by omega)⟩
    · exact Or.inr ⟨by omega, (iv_add h h' (by omega)).mono (by omega) (by omega)⟩
  · rcases h' with ⟨rfl, h'⟩ | ⟨h0', h'⟩
    · exact Or.inr ⟨by omega, (iv_add h h' (by omega)).mono (by omega) (by omega)⟩
    · exact Or.inr ⟨by omega, (iv_add h h' (by omega)).mono (by omega) (by omega)⟩
theorem nr_dy {p : Nat} {x : UInt64} (h : Jvm.OwnKit.Dy (p : Int) 0 x) : Nr p 0 x := by
  have := iv_int h
  by_cases hp : p = 0
  · subst hp; exact Or.inl ⟨rfl, by rw [Nat.zero_mul] at this; exact this⟩
  · exact Or.inr ⟨by omega, this.mono (by omega) (by omega)⟩
theorem nr_dn {p k : Nat} {x y : UInt64} (hp : 1 ≤ p) (hk : k ≤ 1000) (hx : Iv (p * 2 ^ 30 - k - 1) (p * 2 ^ 30 + k) x) : Nr p (k + 1) x := Or.inr ⟨hp, hx.mono (by omega) (by omega)⟩
theorem nr_up {p k : Nat} {x y : UInt64} (hp : 1 ≤ p) (hk : k ≤ 1000) (hx : Iv (p * 2 ^ 30 - k) (p * 2 ^ 30 + k + 1) x) : Nr p (k + 1) x := Or.inr ⟨hp, hx.mono (by omega) (by omega)⟩
theorem Nr.get {p k : Nat} {x : UInt64} (h : Nr p k x) (hp : 1 ≤ p) : Iv (p * 2 ^ 30 - k) (p * 2 ^ 30 + k) x := by
  rcases h with ⟨h0, -⟩ | ⟨-, h⟩
  · omega
  · exact h

theorem c_addu (l : Launch) (Z : State) (a0 : Array Value) (hw : ∀ d ∈ tables_1, d.before a0 Z = true) (n0 : Nat) (x y : UInt64) (pa k qa k2 : Nat) (hx : Nr pa k x) (hy : Nr qa k2 y) (hpq : pa + qa ≤ 4096) (hk : k + k2 ≤ 900) (h0 : Heap) (F : List HRow) (H00 : Hp Z n0 h0 F) :
    Con l Z n0 ⟨"com/example/narrow_bounds/narrowbounds/DirectedRounding", "addUp", "(DD)D"⟩ [] prog_13_method_3_code 4 (some .double) ({ frames := 2, cells := 0, slots := 0, locals := 55 } : Room) #[.double x, .double y] h0 (fun v h => ∃ r, v = some (.double r) ∧ Nr (pa + qa) (k + k2 + 1) r ∧ ((pa = 0 ∨ qa = 0) → r = FP.dadd x y) ∧ Hp Z n0 h F) := by
  refine con_of (plainFor_of_name pn_DirectedRounding) ?_
  intro p e s m below meth c T0 W0 e0
  subst e0
  have H0 := H00
  refine g_cast (ef_dd4 m x y) ?_
  refine g_dloadN W0 d6_0 (pc' := 1) rfl rfl ?_
  refine g_dconst0 W0 d6_1 (pc' := 2) rfl ?_
  refine g_dcmp W0 d6_2 (pc' := 3) rfl rfl ?_
  rcases id hx with ⟨hp, hx1⟩ | ⟨hp, hx1⟩
  · rw [show (cmpValue (FP.dcmp x 0) .l) = (0 : Int32) from (by rw [zero_eq hx1]; rfl)]
    refine g_if W0 d6_3 (pcy := 12) (by decide) (pc' := 6) rfl (fun _ => ?_) (fun (h : ¬ (0 : Int32) = (0 : Int32)) => absurd h (by decide))
    refine g_dloadN W0 d6_12 (pc' := 13) rfl rfl ?_
    refine g_dloadN W0 d6_13 (pc' := 14) rfl rfl ?_
    refine g_dadd W0 d6_14 (pc' := 15) rfl rfl (own_nn (hx.add hy hpq (by omega)).fin) ?_
    refine g_goto W0 d6_15 (pc' := 24) (by decide) ?_
    exact g_dreturn W0 d6_24 ⟨_, rfl, (hx.add hy hpq (by omega)).mono (by omega), fun _ => rfl, H0⟩ (by decide) (by decide)
  · rw [show (cmpValue (FP.dcmp x 0) .l) = (1 : Int32) from (by rw [pos_gt hx1 (by omega)]; rfl)]
    refine g_if W0 d6_3 (pcy := 12) (by decide) (pc' := 6) rfl (fun (h : (1 : Int32) = (0 : Int32)) => absurd h (by decide)) (fun _ => ?_)
    refine g_dloadN W0 d6_6 (pc' := 7) rfl rfl ?_
    refine g_dconst0 W0 d6_7 (pc' := 8) rfl ?_
    refine g_dcmp W0 d6_8 (pc' := 9) rfl rfl ?_
    rcases id hy with ⟨hq, hy1⟩ | ⟨hq, hy1⟩
    · rw [show (cmpValue (FP.dcmp y 0) .l) = (0 : Int32) from (by rw [zero_eq hy1]; rfl)]
      refine g_if W0 d6_9 (pcy := 18) (by decide) (pc' := 12) rfl (fun (h : ¬ (0 : Int32) = (0 : Int32)) => absurd h (by decide)) (fun _ => ?_)
      refine g_dloadN W0 d6_12 (pc' := 13) rfl rfl ?_
      refine g_dloadN W0 d6_13 (pc' := 14) rfl rfl ?_
      refine g_dadd W0 d6_14 (pc' := 15) rfl rfl (own_nn (hx.add hy hpq (by omega)).fin) ?_
      refine g_goto W0 d6_15 (pc' := 24) (by decide) ?_
      exact g_dreturn W0 d6_24 ⟨_, rfl, (hx.add hy hpq (by omega)).mono (by omega), fun _ => rfl, H0⟩ (by decide) (by decide)
    · rw [show (cmpValue (FP.dcmp y 0) .l) = (1 : Int32) from (by rw [pos_gt hy1 (by omega)]; rfl)]
      refine g_if W0 d6_9 (pcy := 18) (by decide) (pc' := 12) rfl (fun _ => ?_) (fun (h : ¬ ¬ (1 : Int32) = (0 : Int32)) => absurd h (by decide))
      refine g_dloadN W0 d6_18 (pc' := 19) rfl rfl ?_
      refine g_dloadN W0 d6_19 (pc' := 20) rfl rfl ?_
      refine g_dadd W0 d6_20 (pc' := 21) rfl rfl (own_nn (hx.add hy hpq (by omega)).fin) ?_
      refine g_callS W0 (argsL := [.double (FP.dadd x y)]) (st := []) (wd_107 hw) (wd_108 hw) (wd_95 hw) (wd_109 hw) (by decide) (c_nup l Z a0 hw n0 (FP.dadd x y) _ _ ((hx.add hy hpq (by omega)).get (by omega)) (by omega) (by omega) _ _ H0) pd_1 rfl rfl rfl d6_21 (pc' := 24) rfl (by decide) (Wn := 0) (Nat.le_of_eq rfl) (by decide) (kc' := 0) (ks' := 0) rfl rfl (by decide) (by decide) ?_
      intro T1 v1 W1 hp1
      obtain ⟨r, rfl, hr, H1⟩ := hp1
      show Goes _ _ _ _ (State.setTop _ (mkF _ _ _ [.double r]))
      exact g_dreturn W1 d6_24 ⟨_, rfl, nr_up (y := 0) (by omega) (by omega) hr, fun z => by omega, H1⟩ (by decide) (by decide)
theorem c_addd (l : Launch) (Z : State) (a0 : Array Value) (hw : ∀ d ∈ tables_1, d.before a0 Z = true) (n0 : Nat) (x y : UInt64) (pa k qa k2 : Nat) (hx : Nr pa k x) (hy : Nr qa k2 y) (hpq : pa + qa ≤ 4096) (hk : k + k2 ≤ 900) (h0 : Heap) (F : List HRow) (H00 : Hp Z n0 h0 F) :
    Con l Z n0 ⟨"com/example/narrow_bounds/narrowbounds/DirectedRounding", "addDown", "(DD)D"⟩ [] prog_13_method_2_code 4 (some .double) ({ frames := 2, cells := 0, slots := 0, locals := 53 } : Room) #[.double x, .double y] h0 (fun v h => ∃ r, v = some (.double r) ∧ Nr (pa + qa) (k + k2 + 1) r ∧ ((pa = 0 ∨ qa = 0) → r = FP.dadd x y) ∧ Hp Z n0 h F) := by
  refine con_of (plainFor_of_name pn_DirectedRounding) ?_
  intro p e s m below meth c T0 W0 e0
  subst e0
  have H0 := H00
  refine g_cast (ef_dd4 m x y) ?_
  refine g_dloadN W0 d5_0 (pc' := 1) rfl rfl ?_
  refine g_dconst0 W0 d5_1 (pc' := 2) rfl ?_
  refine g_dcmp W0 d5_2 (pc' := 3) rfl rfl ?_
  rcases id hx with ⟨hp, hx1⟩ | ⟨hp, hx1⟩
  · rw [show (cmpValue (FP.dcmp x 0) .l) = (0 : Int32) from (by rw [zero_eq hx1]; rfl)]
    refine g_if W0 d5_3 (pcy := 12) (by decide) (pc' := 6) rfl (fun _ => ?_) (fun (h : ¬ (0 : Int32) = (0 : Int32)) => absurd h (by decide))
    refine g_dloadN W0 d5_12 (pc' := 13) rfl rfl ?_
    refine g_dloadN W0 d5_13 (pc' := 14) rfl rfl ?_
    refine g_dadd W0 d5_14 (pc' := 15) rfl rfl (own_nn (hx.add hy hpq (by omega)).fin) ?_
    refine g_goto W0 d5_15 (pc' := 24) (by decide) ?_
    exact g_dreturn W0 d5_24 ⟨_, rfl, (hx.add hy hpq (by omega)).mono (by omega), fun _ => rfl, H0⟩ (by decide) (by decide)
  · rw [show (cmpValue (FP.dcmp x 0) .l) = (1 : Int32) from (by rw [pos_gt hx1 (by omega)]; rfl)]
    refine g_if W0 d5_3 (pcy := 12) (by decide) (pc' := 6) rfl (fun (h : (1 : Int32) = (0 : Int32)) => absurd h (by decide)) (fun _ => ?_)
    refine g_dloadN W0 d5_6 (pc' := 7) rfl rfl ?_
    refine g_dconst0 W0 d5_7 (pc' := 8) rfl ?_
    refine g_dcmp W0 d5_8 (pc' := 9) rfl rfl ?_
    rcases id hy with ⟨hq, hy1⟩ | ⟨hq, hy1⟩
    · rw [show (cmpValue (FP.dcmp y 0) .l) = (0 : Int32) from (by rw [zero_eq hy1]; rfl)]
      refine g_if W0 d5_9 (pcy := 18) (by decide) (pc' := 12) rfl (fun (h : ¬ (0 : Int32) = (0 : Int32)) => absurd h (by decide)) (fun _ => ?_)
      refine g_dloadN W0 d5_12 (pc' := 13) rfl rfl ?_
      refine g_dloadN W0 d5_13 (pc' := 14) rfl rfl ?_
      refine g_dadd W0 d5_14 (pc' := 15) rfl rfl (own_nn (hx.add hy hpq (by omega)).fin) ?_
      refine g_goto W0 d5_15 (pc' := 24) (by decide) ?_
      exact g_dreturn W0 d5_24 ⟨_, rfl, (hx.add hy hpq (by omega)).mono (by omega), fun _ => rfl, H0⟩ (by decide) (by decide)
    · rw [show (cmpValue (FP.dcmp y 0) .l) = (1 : Int32) from (by rw [pos_gt hy1 (by omega)]; rfl)]
      refine g_if W0 d5_9 (pcy := 18) (by decide) (pc' := 12) rfl (fun _ => ?_) (fun (h : ¬ ¬ (1 : Int32) = (0 : Int32)) => absurd h (by decide))
      refine g_dloadN W0 d5_18 (pc' := 19) rfl rfl ?_
      refine g_dloadN W0 d5_19 (pc' := 20) rfl rfl ?_
      refine g_dadd W0 d5_20 (pc' := 21) rfl rfl (own_nn (hx.add hy hpq (by omega)).fin) ?_
      refine g_callS W0 (argsL := [.double (FP.dadd x y)]) (st := []) (wd_124 hw) (wd_125 hw) (wd_95 hw) (wd_126 hw) (by decide) (c_ndn l Z a0 hw n0 (FP.dadd x y) _ _ ((hx.add hy hpq (by omega)).get (by omega)) (by omega) (by omega) _ _ H0) pd_1 rfl rfl rfl d5_21 (pc' := 24) rfl (by decide) (Wn := 0) (Nat.le_of_eq rfl) (by decide) (kc' := 0) (ks' := 0) rfl rfl (by decide) (by decide) ?_
      intro T1 v1 W1 hp1
      obtain ⟨r, rfl, hr, H1⟩ := hp1
      show Goes _ _ _ _ (State.setTop _ (mkF _ _ _ [.double r]))
      exact g_dreturn W1 d5_24 ⟨_, rfl, nr_dn (y := 0) (by omega) (by omega) hr, fun z => by omega, H1⟩ (by decide) (by decide)
theorem c_add0 (l : Launch) (Z : State) (a0 : Array Value) (hw : ∀ d ∈ tables_1, d.before a0 Z = true) (n0 : Nat) (x y : UInt64) (pa k qa k2 : Nat) (hx : Nr pa k x) (hy : Nr qa k2 y) (hpq : pa + qa ≤ 4096) (hk : k + k2 ≤ 900) (h0 : Heap) (F : List HRow) (H00 : Hp Z n0 h0 F) :
    Con l Z n0 ⟨"com/example/narrow_bounds/narrowbounds/DirectedRounding", "add", "(DDZ)D"⟩ [] prog_13_method_10_code 5 (some .double) ({ frames := 3, cells := 0, slots := 0, locals := 68 } : Room) #[.double x, .double y, .int (0 : Int32)] h0 (fun v h => ∃ r, v = some (.double r) ∧ Nr (pa + qa) (k + k2 + 1) r ∧ ((pa = 0 ∨ qa = 0) → r = FP.dadd x y) ∧ Hp Z n0 h F) := by
  refine con_of (plainFor_of_name pn_DirectedRounding) ?_
  intro p e s m below meth c T0 W0 e0
  subst e0
  have H0 := H00
  refine g_cast (ef_ddi5 m x y (0 : Int32)) ?_
  refine g_iload W0 d4_0 (pc' := 2) rfl rfl ?_
  refine g_if W0 d4_2 (pcy := 13) (by decide) (pc' := 5) rfl (fun _ => ?_) (fun (h : ¬ (0 : Int32) = (0 : Int32)) => absurd h (by decide))
  refine g_dloadN W0 d4_13 (pc' := 14) rfl rfl ?_
  refine g_dloadN W0 d4_14 (pc' := 15) rfl rfl ?_
  refine g_callS W0 (argsL := [.double x, .double y]) (st := []) (wd_47 hw) (wd_48 hw) (wd_45 hw) (wd_49 hw) (by decide) (c_addd l Z a0 hw n0 x y pa k qa k2 hx hy hpq hk _ _ H0) pd_2 rfl rfl rfl d4_15 (pc' := 18) rfl (by decide) (Wn := 0) (Nat.le_of_eq rfl) (by decide) (kc' := 0) (ks' := 0) rfl rfl (by decide) (by decide) ?_
  intro T1 v1 W1 hp1
  obtain ⟨r, rfl, hr, hr2, H1⟩ := hp1
  show Goes _ _ _ _ (State.setTop _ (mkF _ _ _ [.double r]))
  exact g_dreturn W1 d4_18 ⟨_, rfl, hr, hr2, H1⟩ (by decide) (by decide)
theorem c_add1 (l : Launch) (Z : State) (a0 : Array Value) (hw : ∀ d ∈ tables_1, d.before a0 Z = true) (n0 : Nat) (x y : UInt64) (pa k qa k2 : Nat) (hx : Nr pa k x) (hy : Nr qa k2 y) (hpq : pa + qa ≤ 4096) (hk : k + k2 ≤ 900) (h0 : Heap) (F : List HRow) (H00 : Hp Z n0 h0 F) :
    Con l Z n0 ⟨"com/example/narrow_bounds/narrowbounds/DirectedRounding", "add", "(DDZ)D"⟩ [] prog_13_method_10_code 5 (some .double) ({ frames := 3, cells := 0, slots := 0, locals := 70 } : Room) #[.double x, .double y, .int (1 : Int32)] h0 (fun v h => ∃ r, v = some (.double r) ∧ Nr (pa + qa) (k + k2 + 1) r ∧ ((pa = 0 ∨ qa = 0) → r = FP.dadd x y) ∧ Hp Z n0 h F) := by
  refine con_of (plainFor_of_name pn_DirectedRounding) ?_
  intro p e s m below meth c T0 W0 e0
  subst e0
  have H0 := H00
  refine g_cast (ef_ddi5 m x y (1 : Int32)) ?_
  refine g_iload W0 d4_0 (pc' := 2) rfl rfl ?_
  refine g_if W0 d4_2 (pcy := 13) (by decide) (pc' := 5) rfl (fun (h : (1 : Int32) = (0 : Int32)) => absurd h (by decide)) (fun _ => ?_)
  refine g_dloadN W0 d4_5 (pc' := 6) rfl rfl ?_
  refine g_dloadN W0 d4_6 (pc' := 7) rfl rfl ?_
  refine g_callS W0 (argsL := [.double x, .double y]) (st := []) (wd_52 hw) (wd_53 hw) (wd_45 hw) (wd_54 hw) (by decide) (c_addu l Z a0 hw n0 x y pa k qa k2 hx hy hpq hk _ _ H0) pd_2 rfl rfl rfl d4_7 (pc' := 10) rfl (by decide) (Wn := 0) (Nat.le_of_eq rfl) (by decide) (kc' := 0) (ks' := 0) rfl rfl (by decide) (by decide) ?_
  intro T1 v1 W1 hp1
  obtain ⟨r, rfl, hr, hr2, H1⟩ := hp1
  show Goes _ _ _ _ (State.setTop _ (mkF _ _ _ [.double r]))
  refine g_goto W1 d4_10 (pc' := 18) (by decide) ?_
  exact g_dreturn W1 d4_18 ⟨_, rfl, hr, hr2, H1⟩ (by decide) (by decide)

theorem nr_mul {l d : Nat} {x y : UInt64} (hx : Jvm.OwnKit.Dy (l : Int) 0 x) (hy : Jvm.OwnKit.Dy (d : Int) 0 y) (hl : l ≤ 64) (hd : d ≤ 64) : Jvm.OwnKit.Dy ((l * d : Nat) : Int) 0 (FP.dmul x y) := by
  have b : l * d ≤ 64 * 64 := Nat.mul_le_mul hl hd
  have := dy_mul hx hy (by decide) (by decide) (by rw [← Int.natCast_mul]; omega) (by decide) (by decide)
  rw [← Int.natCast_mul] at this
  exact this
theorem dy_c0 {x : UInt64} {n : Nat} (h : Jvm.OwnKit.Dy (n : Int) 0 x) (hn : n = 0) : FP.dcmp x 0 = some .eq := by
  subst hn; exact zero_eq (by have := iv_int h; rw [Nat.zero_mul] at this; exact this)
theorem dy_c1 {x : UInt64} {n : Nat} (h : Jvm.OwnKit.Dy (n : Int) 0 x) (hn : ¬ n = 0) : FP.dcmp x 0 = some .gt := pos_gt (iv_int h) (by omega)
theorem iv_z0 : Nr 0 1 0 := Or.inl ⟨rfl, iv_zero⟩

theorem c_mulu (l : Launch) (Z : State) (a0 : Array Value) (hw : ∀ d ∈ tables_1, d.before a0 Z = true) (n0 : Nat) (x y : UInt64) (l2 d2 : Nat) (hx : Jvm.OwnKit.Dy (l2 : Int) 0 x) (hy : Jvm.OwnKit.Dy (d2 : Int) 0 y) (hl : l2 ≤ 64) (hd : d2 ≤ 64) (h0 : Heap) (F : List HRow) (H00 : Hp Z n0 h0 F) :
    Con l Z n0 ⟨"com/example/narrow_bounds/narrowbounds/DirectedRounding", "multiplyUp", "(DD)D"⟩ [] prog_13_method_7_code 4 (some .double) ({ frames := 2, cells := 0, slots := 0, locals := 55 } : Room) #[.double x, .double y] h0 (fun v h => ∃ r, v = some (.double r) ∧ Nr (l2 * d2) 1 r ∧ Hp Z n0 h F) := by
  refine con_of (plainFor_of_name pn_DirectedRounding) ?_
  intro p e s m below meth c T0 W0 e0
  subst e0
  have H0 := H00
  refine g_cast (ef_dd4 m x y) ?_
  have hb : l2 * d2 ≤ 64 * 64 := Nat.mul_le_mul hl hd
  refine g_dloadN W0 d19_0 (pc' := 1) rfl rfl ?_
  refine g_dconst0 W0 d19_1 (pc' := 2) rfl ?_
  refine g_dcmp W0 d19_2 (pc' := 3) rfl rfl ?_
  rcases Decidable.em (l2 = 0) with h1 | h1
  · rw [show (cmpValue (FP.dcmp x 0) .l) = (0 : Int32) from (by rw [dy_c0 hx h1]; rfl)]
    refine g_if W0 d19_3 (pcy := 12) (by decide) (pc' := 6) rfl (fun _ => ?_) (fun (h : ¬ (0 : Int32) = (0 : Int32)) => absurd h (by decide))
    refine g_dconst0 W0 d19_12 (pc' := 13) rfl ?_
    refine g_goto W0 d19_13 (pc' := 22) (by decide) ?_
    exact g_dreturn W0 d19_22 ⟨_, rfl, by rw [h1, Nat.zero_mul]; exact iv_z0, H0⟩ (by decide) (by decide)
  · rw [show (cmpValue (FP.dcmp x 0) .l) = (1 : Int32) from (by rw [dy_c1 hx h1]; rfl)]
    refine g_if W0 d19_3 (pcy := 12) (by decide) (pc' := 6) rfl (fun (h : (1 : Int32) = (0 : Int32)) => absurd h (by decide)) (fun _ => ?_)
    refine g_dloadN W0 d19_6 (pc' := 7) rfl rfl ?_
    refine g_dconst0 W0 d19_7 (pc' := 8) rfl ?_
    refine g_dcmp W0 d19_8 (pc' := 9) rfl rfl ?_
    rcases Decidable.em (d2 = 0) with h2 | h2
    · rw [show (cmpValue (FP.dcmp y 0) .l) = (0 : Int32) from (by rw [dy_c0 hy h2]; rfl)]
      refine g_if W0 d19_9 (pcy := 16) (by decide) (pc' := 12) rfl (fun (h : ¬ (0 : Int32) = (0 : Int32)) => absurd h (by decide)) (fun _ => ?_)
      refine g_dconst0 W0 d19_12 (pc' := 13) rfl ?_
      refine g_goto W0 d19_13 (pc' := 22) (by decide) ?_
      exact g_dreturn W0 d19_22 ⟨_, rfl, by rw [h2, Nat.mul_zero]; exact iv_z0, H0⟩ (by decide) (by decide)
    · rw [show (cmpValue (FP.dcmp y 0) .l) = (1 : Int32) from (by rw [dy_c1 hy h2]; rfl)]
      refine g_if W0 d19_9 (pcy := 16) (by decide) (pc' := 12) rfl (fun _ => ?_) (fun (h : ¬ ¬ (1 : Int32) = (0 : Int32)) => absurd h (by decide))
      refine g_dloadN W0 d19_16 (pc' := 17) rfl rfl ?_
      refine g_dloadN W0 d19_17 (pc' := 18) rfl rfl ?_
      refine g_dmul W0 d19_18 (pc' := 19) rfl rfl (nr_mul hx hy hl hd).nn ?_
      have hp : 1 ≤ l2 * d2 := Nat.mul_pos (by omega) (by omega)
      refine g_callS W0 (argsL := [.double (FP.dmul x y)]) (st := []) (wd_107 hw) (wd_108 hw) (wd_95 hw) (wd_109 hw) (by decide) (c_nup l Z a0 hw n0 (FP.dmul x y) _ _ ((nr_dy (nr_mul hx hy hl hd)).get hp) (by omega) (by omega) _ _ H0) pd_1 rfl rfl rfl d19_19 (pc' := 22) rfl (by decide) (Wn := 0) (Nat.le_of_eq rfl) (by decide) (kc' := 0) (ks' := 0) rfl rfl (by decide) (by decide) ?_
      intro T1 v1 W1 hp1
      obtain ⟨r, rfl, hr, H1⟩ := hp1
      show Goes _ _ _ _ (State.setTop _ (mkF _ _ _ [.double r]))
      exact g_dreturn W1 d19_22 ⟨_, rfl, nr_up (y := 0) hp (by omega) hr, H1⟩ (by decide) (by decide)
theorem c_muld (l : Launch) (Z : State) (a0 : Array Value) (hw : ∀ d ∈ tables_1, d.before a0 Z = true) (n0 : Nat) (x y : UInt64) (l2 d2 : Nat) (hx : Jvm.OwnKit.Dy (l2 : Int) 0 x) (hy : Jvm.OwnKit.Dy (d2 : Int) 0 y) (hl : l2 ≤ 64) (hd : d2 ≤ 64) (h0 : Heap) (F : List HRow) (H00 : Hp Z n0 h0 F) :
    Con l Z n0 ⟨"com/example/narrow_bounds/narrowbounds/DirectedRounding", "multiplyDown", "(DD)D"⟩ [] prog_13_method_6_code 8 (some .double) ({ frames := 2, cells := 0, slots := 0, locals := 53 } : Room) #[.double x, .double y] h0 (fun v h => ∃ r, v = some (.double r) ∧ Nr (l2 * d2) 1 r ∧ Hp Z n0 h F) := by
  refine con_of (plainFor_of_name pn_DirectedRounding) ?_
  intro p e s m below meth c T0 W0 e0
  subst e0
  have H0 := H00
  refine g_cast (ef_dd8 m x y) ?_
  have hb : l2 * d2 ≤ 64 * 64 := Nat.mul_le_mul hl hd
  refine g_dloadN W0 d18_0 (pc' := 1) rfl rfl ?_
  refine g_dloadN W0 d18_1 (pc' := 2) rfl rfl ?_
  refine g_dmul W0 d18_2 (pc' := 3) rfl rfl (nr_mul hx hy hl hd).nn ?_
  refine g_dstore W0 d18_3 (pc' := 5) rfl (ls' := #[.val (.double x), .second, .val (.double y), .second, .val (.double (FP.dmul x y)), .second, .unset, .unset]) rfl ?_
  refine g_dload W0 d18_5 (pc' := 7) rfl rfl ?_
  refine g_dconst0 W0 d18_7 (pc' := 8) rfl ?_
  refine g_dcmp W0 d18_8 (pc' := 9) rfl rfl ?_
  rcases Decidable.em (l2 * d2 = 0) with h0 | h0
  · rw [show (cmpValue (FP.dcmp (FP.dmul x y) 0) .l) = (0 : Int32) from (by rw [dy_c0 (nr_mul hx hy hl hd) h0]; rfl)]
    refine g_if W0 d18_9 (pcy := 22) (by decide) (pc' := 12) rfl (fun _ => ?_) (fun (h : ¬ (0 : Int32) = (0 : Int32)) => absurd h (by decide))
    refine g_dloadN W0 d18_22 (pc' := 23) rfl rfl ?_
    refine g_dconst0 W0 d18_23 (pc' := 24) rfl ?_
    refine g_dcmp W0 d18_24 (pc' := 25) rfl rfl ?_
    rcases Decidable.em (l2 = 0) with h1 | h1
    · rw [show (cmpValue (FP.dcmp x 0) .l) = (0 : Int32) from (by rw [dy_c0 hx h1]; rfl)]
      refine g_if W0 d18_25 (pcy := 67) (by decide) (pc' := 28) rfl (fun _ => ?_) (fun (h : ¬ (0 : Int32) = (0 : Int32)) => absurd h (by decide))
      refine g_dconst0 W0 d18_67 (pc' := 68) rfl ?_
      refine g_dstore W0 d18_68 (pc' := 70) rfl (ls' := #[.val (.double x), .second, .val (.double y), .second, .val (.double (FP.dmul x y)), .second, .val (.double 0), .second]) rfl ?_
      refine g_dload W0 d18_70 (pc' := 72) rfl rfl ?_
      exact g_dreturn W0 d18_72 ⟨_, rfl, by rw [h0]; exact iv_z0, H0⟩ (by decide) (by decide)
    · rw [show (cmpValue (FP.dcmp x 0) .l) = (1 : Int32) from (by rw [dy_c1 hx h1]; rfl)]
      refine g_if W0 d18_25 (pcy := 67) (by decide) (pc' := 28) rfl (fun (h : (1 : Int32) = (0 : Int32)) => absurd h (by decide)) (fun _ => ?_)
      refine g_dloadN W0 d18_28 (pc' := 29) rfl rfl ?_
      refine g_dconst0 W0 d18_29 (pc' := 30) rfl ?_
      refine g_dcmp W0 d18_30 (pc' := 31) rfl rfl ?_
      have h2 : d2 = 0 := by rcases Nat.mul_eq_zero.mp h0 with q | q; exact absurd q h1; exact q
      rw [show (cmpValue (FP.dcmp y 0) .l) = (0 : Int32) from (by rw [dy_c0 hy h2]; rfl)]
      refine g_if W0 d18_31 (pcy := 67) (by decide) (pc' := 34) rfl (fun _ => ?_) (fun (h : ¬ (0 : Int32) = (0 : Int32)) => absurd h (by decide))
      refine g_dconst0 W0 d18_67 (pc' := 68) rfl ?_
      refine g_dstore W0 d18_68 (pc' := 70) rfl (ls' := #[.val (.double x), .second, .val (.double y), .second, .val (.double (FP.dmul x y)), .second, .val (.double 0), .second]) rfl ?_
      refine g_dload W0 d18_70 (pc' := 72) rfl rfl ?_
      exact g_dreturn W0 d18_72 ⟨_, rfl, by rw [h0]; exact iv_z0, H0⟩ (by decide) (by decide)
  · rw [show (cmpValue (FP.dcmp (FP.dmul x y) 0) .l) = (1 : Int32) from (by rw [dy_c1 (nr_mul hx hy hl hd) h0]; rfl)]
    refine g_if W0 d18_9 (pcy := 22) (by decide) (pc' := 12) rfl (fun (h : (1 : Int32) = (0 : Int32)) => absurd h (by decide)) (fun _ => ?_)
    refine g_dload W0 d18_12 (pc' := 14) rfl rfl ?_
    have hp : 1 ≤ l2 * d2 := by omega
    refine g_callS W0 (argsL := [.double (FP.dmul x y)]) (st := []) (wd_124 hw) (wd_125 hw) (wd_95 hw) (wd_126 hw) (by decide) (c_ndn l Z a0 hw n0 (FP.dmul x y) _ _ ((nr_dy (nr_mul hx hy hl hd)).get hp) (by omega) (by omega) _ _ H0) pd_1 rfl rfl rfl d18_14 (pc' := 17) rfl (by decide) (Wn := 0) (Nat.le_of_eq rfl) (by decide) (kc' := 0) (ks' := 0) rfl rfl (by decide) (by decide) ?_
    intro T1 v1 W1 hp1
    obtain ⟨r, rfl, hr, H1⟩ := hp1
    show Goes _ _ _ _ (State.setTop _ (mkF _ _ _ [.double r]))
    refine g_dstore W1 d18_17 (pc' := 19) rfl (ls' := #[.val (.double x), .second, .val (.double y), .second, .val (.double (FP.dmul x y)), .second, .val (.double r), .second]) rfl ?_
    refine g_goto W1 d18_19 (pc' := 70) (by decide) ?_
    refine g_dload W1 d18_70 (pc' := 72) rfl rfl ?_
    exact g_dreturn W1 d18_72 ⟨_, rfl, nr_dn (y := 0) hp (by omega) hr, H1⟩ (by decide) (by decide)
theorem c_mul0 (l : Launch) (Z : State) (a0 : Array Value) (hw : ∀ d ∈ tables_1, d.before a0 Z = true) (n0 : Nat) (x y : UInt64) (l2 d2 : Nat) (hx : Jvm.OwnKit.Dy (l2 : Int) 0 x) (hy : Jvm.OwnKit.Dy (d2 : Int) 0 y) (hl : l2 ≤ 64) (hd : d2 ≤ 64) (h0 : Heap) (F : List HRow) (H00 : Hp Z n0 h0 F) :
    Con l Z n0 ⟨"com/example/narrow_bounds/narrowbounds/DirectedRounding", "multiply", "(DDZ)D"⟩ [] prog_13_method_13_code 5 (some .double) ({ frames := 3, cells := 0, slots := 0, locals := 72 } : Room) #[.double x, .double y, .int (0 : Int32)] h0 (fun v h => ∃ r, v = some (.double r) ∧ Nr (l2 * d2) 1 r ∧ Hp Z n0 h F) := by
  refine con_of (plainFor_of_name pn_DirectedRounding) ?_
  intro p e s m below meth c T0 W0 e0
  subst e0
  have H0 := H00
  refine g_cast (ef_ddi5 m x y (0 : Int32)) ?_
  refine g_iload W0 d17_0 (pc' := 2) rfl rfl ?_
  refine g_if W0 d17_2 (pcy := 13) (by decide) (pc' := 5) rfl (fun _ => ?_) (fun (h : ¬ (0 : Int32) = (0 : Int32)) => absurd h (by decide))
  refine g_dloadN W0 d17_13 (pc' := 14) rfl rfl ?_
  refine g_dloadN W0 d17_14 (pc' := 15) rfl rfl ?_
  refine g_callS W0 (argsL := [.double x, .double y]) (st := []) (wd_101 hw) (wd_102 hw) (wd_45 hw) (wd_103 hw) (by decide) (c_muld l Z a0 hw n0 x y l2 d2 hx hy hl hd _ _ H0) pd_2 rfl rfl rfl d17_15 (pc' := 18) rfl (by decide) (Wn := 0) (Nat.le_of_eq rfl) (by decide) (kc' := 0) (ks' := 0) rfl rfl (by decide) (by decide) ?_
  intro T1 v1 W1 hp1
  obtain ⟨r, rfl, hr, H1⟩ := hp1
  show Goes _ _ _ _ (State.setTop _ (mkF _ _ _ [.double r]))
  exact g_dreturn W1 d17_18 ⟨_, rfl, hr, H1⟩ (by decide) (by decide)
theorem c_mul1 (l : Launch) (Z : State) (a0 : Array Value) (hw : ∀ d ∈ tables_1, d.before a0 Z = true) (n0 : Nat) (x y : UInt64) (l2 d2 : Nat) (hx : Jvm.OwnKit.Dy (l2 : Int) 0 x) (hy : Jvm.OwnKit.Dy (d2 : Int) 0 y) (hl : l2 ≤ 64) (hd : d2 ≤ 64) (h0 : Heap) (F : List HRow) (H00 : Hp Z n0 h0 F) :
    Con l Z n0 ⟨"com/example/narrow_bounds/narrowbounds/DirectedRounding", "multiply", "(DDZ)D"⟩ [] prog_13_method_13_code 5 (some .double) ({ frames := 3, cells := 0, slots := 0, locals := 70 } : Room) #[.double x, .double y, .int (1 : Int32)] h0 (fun v h => ∃ r, v = some (.double r) ∧ Nr (l2 * d2) 1 r ∧ Hp Z n0 h F) := by
  refine con_of (plainFor_of_name pn_DirectedRounding) ?_
  intro p e s m below meth c T0 W0 e0
  subst e0
  have H0 := H00
  refine g_cast (ef_ddi5 m x y (1 : Int32)) ?_
  refine g_iload W0 d17_0 (pc' := 2) rfl rfl ?_
  refine g_if W0 d17_2 (pcy := 13) (by decide) (pc' := 5) rfl (fun (h : (1 : Int32) = (0 : Int32)) => absurd h (by decide)) (fun _ => ?_)
  refine g_dloadN W0 d17_5 (pc' := 6) rfl rfl ?_
  refine g_dloadN W0 d17_6 (pc' := 7) rfl rfl ?_
  refine g_callS W0 (argsL := [.double x, .double y]) (st := []) (wd_104 hw) (wd_105 hw) (wd_45 hw) (wd_106 hw) (by decide) (c_mulu l Z a0 hw n0 x y l2 d2 hx hy hl hd _ _ H0) pd_2 rfl rfl rfl d17_7 (pc' := 10) rfl (by decide) (Wn := 0) (Nat.le_of_eq rfl) (by decide) (kc' := 0) (ks' := 0) rfl rfl (by decide) (by decide) ?_
  intro T1 v1 W1 hp1
  obtain ⟨r, rfl, hr, H1⟩ := hp1
  show Goes _ _ _ _ (State.setTop _ (mkF _ _ _ [.double r]))
  refine g_goto W1 d17_10 (pc' := 18) (by decide) ?_
  exact g_dreturn W1 d17_18 ⟨_, rfl, hr, H1⟩ (by decide) (by decide)

theorem sh_q {x s : UInt64} {p k q k2 : Nat} (hx : Nr p k x) (hs : Nr (p + q) (k + k2 + 1) s) (hp1 : 1 ≤ p) (hpq : p + q ≤ 1024) (hk : k + k2 ≤ 90) : Iv (p * 2 ^ 30 / (p + q) - 300) (p * 2 ^ 30 / (p + q) + 300) (FP.ddiv x s) :=
  sh_of (K := k + k2 + 1) ((hx.mono (by omega)).get hp1) (hs.get (by omega)) hp1 (by omega) (by omega) (by omega)
theorem sh_big {p t : Nat} (hp : 1 ≤ p) (ht : t ≤ 1024) (h0 : 1 ≤ t) : 2 ^ 20 ≤ p * 2 ^ 30 / t := (Nat.le_div_iff_mul_le (by omega)).mpr (by omega)
theorem sh_small {p t : Nat} (hp : p < t) (ht : t ≤ 1024) : p * 2 ^ 30 / t + 2 ^ 20 ≤ 2 ^ 30 := by
  have h1 : p * 2 ^ 30 / t * t ≤ p * 2 ^ 30 := Nat.div_mul_le_self _ _
  generalize p * 2 ^ 30 / t = d at h1 ⊢
  refine Nat.le_of_not_lt fun q => ?_
  have h2 : (2 ^ 30 - 2 ^ 20 + 1) * t ≤ d * t := Nat.mul_le_mul_right _ (by omega)
  generalize d * t = e at h1 h2
  omega
theorem sh_dn {p t : Nat} {r : UInt64} (h : Iv (p * 2 ^ 30 / t - 300 - 1) (p * 2 ^ 30 / t + 300) r) : Sh p t r := h.mono (by omega) (by omega)
theorem sh_up {p t : Nat} {r : UInt64} (h : Iv (p * 2 ^ 30 / t - 300) (p * 2 ^ 30 / t + 300 + 1) r) : Sh p t r := h.mono (by omega) (by omega)
theorem iv_one : Iv (2 ^ 30) (2 ^ 30) (4607182418800017408 : UInt64) := by
  have := iv_int (p := 1) (a := (4607182418800017408 : UInt64)) (by have := dy_i2d 1; rwa [show FP.i2d 1 = (4607182418800017408 : UInt64) by decide +kernel, show (1 : Int32).toInt = ((1 : Nat) : Int) by decide] at this)
  rwa [Nat.one_mul] at this
theorem pick_r {p q : Nat} {r : UInt64} (h : Sh p (p + q) r) (hq : 1 ≤ q) (ht : p + q ≤ 1024) : Native.java_lang_Math.nans.pick64 false (4607182418800017408 : UInt64) r = r := by
  have s := sh_small (p := p) (t := p + q) (by omega) ht
  have : FP.dcmp (4607182418800017408 : UInt64) r = some .gt := iv_gt iv_one h (by omega)
  unfold Native.java_lang_Math.nans.pick64
  rw [this]; rfl
theorem abs_and {x : UInt64} : (x &&& 0x7fffffffffffffff).toNat = x.toNat % 2 ^ 63 := by
  rw [UInt64.toNat_and, show (0x7fffffffffffffff : UInt64).toNat = 2 ^ 63 - 1 from rfl, Nat.and_two_pow_sub_one_eq_mod]
theorem abs_fin {x : UInt64} (h : Jvm.FP.Core.DFin x) : Jvm.FP.Core.DFin (x &&& 0x7fffffffffffffff) := by
  rw [Jvm.FP.Core.fin_bits] at h ⊢
  rw [abs_and]; omega
theorem abs_max {x : UInt64} (h : Jvm.FP.Core.DFin x) : FP.dcmp (x &&& 0x7fffffffffffffff) (9218868437227405311 : UInt64) = some .lt ∨ FP.dcmp (x &&& 0x7fffffffffffffff) (9218868437227405311 : UInt64) = some .eq := by
  have f := abs_fin h
  rw [show FP.dcmp (x &&& 0x7fffffffffffffff) (9218868437227405311 : UInt64) = _ from Jvm.FP.Core.dcmp_key f.ne_nan (by decide +kernel)]
  rw [show Jvm.FP.Core.dkey (9218868437227405311 : UInt64) = 9218868437227405311 by decide +kernel]
  rw [Jvm.FP.Core.fin_bits] at h
  have k : Jvm.FP.Core.dkey (x &&& 0x7fffffffffffffff) = ((x.toNat % 2 ^ 63 : Nat) : Int) := by
    unfold Jvm.FP.Core.dkey; rw [abs_and, if_neg (by omega)]
  rw [k]
  rcases Int.lt_or_eq_of_le (show ((x.toNat % 2 ^ 63 : Nat) : Int) ≤ 9218868437227405311 by omega) with q | q
  · exact Or.inl (congrArg some ((Jvm.FP.Core.compare_lt_iff _ _).mpr q))
  · exact Or.inr (congrArg some ((Jvm.FP.Core.compare_eq_iff _ _).mpr q))

theorem c_divd (l : Launch) (Z : State) (a0 : Array Value) (hw : ∀ d ∈ tables_1, d.before a0 Z = true) (n0 : Nat) (x t : UInt64) (L U : Nat) (hq : Iv L U (FP.ddiv x t)) (hL : 2 ≤ L) (hU : U < 2 ^ 53) (h0 : Heap) (F : List HRow) (H00 : Hp Z n0 h0 F) :
    Con l Z n0 ⟨"com/example/narrow_bounds/narrowbounds/DirectedRounding", "divideDown", "(DD)D"⟩ [] prog_13_method_8_code 6 (some .double) ({ frames := 2, cells := 0, slots := 0, locals := 53 } : Room) #[.double x, .double t] h0 (fun v h => ∃ r, v = some (.double r) ∧ Iv (L - 1) U r ∧ Hp Z n0 h F) := by
  refine con_of (plainFor_of_name pn_DirectedRounding) ?_
  intro p e s m below meth c T0 W0 e0
  subst e0
  have H0 := H00
  refine g_cast (ef_dd6 m x t) ?_
  refine g_dloadN W0 d22_0 (pc' := 1) rfl rfl ?_
  refine g_dloadN W0 d22_1 (pc' := 2) rfl rfl ?_
  refine g_ddiv W0 d22_2 (pc' := 3) rfl rfl (own_nn hq.1) ?_
  refine g_dstore W0 d22_3 (pc' := 5) rfl (ls' := #[.val (.double x), .second, .val (.double t), .second, .val (.double (FP.ddiv x t)), .second]) rfl ?_
  refine g_dload W0 d22_5 (pc' := 7) rfl rfl ?_
  refine g_dconst0 W0 d22_7 (pc' := 8) rfl ?_
  refine g_dcmp W0 d22_8 (pc' := 9) rfl rfl ?_
  rw [show (cmpValue (FP.dcmp (FP.ddiv x t) 0) .l) = (1 : Int32) from (by rw [pos_gt hq (by omega)]; rfl)]
  refine g_if W0 d22_9 (pcy := 16) (by decide) (pc' := 12) rfl (fun _ => ?_) (fun (h : ¬ ¬ (1 : Int32) = (0 : Int32)) => absurd h (by decide))
  refine g_dload W0 d22_16 (pc' := 18) rfl rfl ?_
  refine g_callS W0 (argsL := [.double (FP.ddiv x t)]) (st := []) (wd_124 hw) (wd_125 hw) (wd_95 hw) (wd_126 hw) (by decide) (c_ndn l Z a0 hw n0 (FP.ddiv x t) _ _ hq hL hU _ _ H0) pd_1 rfl rfl rfl d22_18 (pc' := 21) rfl (by decide) (Wn := 0) (Nat.le_of_eq rfl) (by decide) (kc' := 0) (ks' := 0) rfl rfl (by decide) (by decide) ?_
  intro T1 v1 W1 hp1
  obtain ⟨r, rfl, hr, H1⟩ := hp1
  show Goes _ _ _ _ (State.setTop _ (mkF _ _ _ [.double r]))
  exact g_dreturn W1 d22_21 ⟨_, rfl, hr, H1⟩ (by decide) (by decide)
theorem c_least (l : Launch) (Z : State) (a0 : Array Value) (hw : ∀ d ∈ tables_1, d.before a0 Z = true) (n0 : Nat) (x y : UInt64) (pa k qa k2 : Nat) (hx : Nr pa k x) (hy : Nr qa k2 y) (hp1 : 1 ≤ pa) (hq1 : 1 ≤ qa) (hpq : pa + qa ≤ 1024) (hk : k + k2 ≤ 90) (h0 : Heap) (F : List HRow) (H00 : Hp Z n0 h0 F) :
    Con l Z n0 ⟨"com/example/narrow_bounds/narrowbounds/Share", "leastShare", "(DD)D"⟩ [] prog_45_method_6_code 4 (some .double) ({ frames := 3, cells := 0, slots := 0, locals := 72 } : Room) #[.double x, .double y] h0 (fun v h => ∃ r, v = some (.double r) ∧ Sh pa (pa + qa) r ∧ Hp Z n0 h F) := by
  refine con_of (plainFor_of_name pn_Share) ?_
  intro p e s m below meth c T0 W0 e0
  subst e0
  have H0 := H00
  refine g_cast (ef_dd4 m x y) ?_
  refine g_dloadN W0 d21_0 (pc' := 1) rfl rfl ?_
  refine g_dconst0 W0 d21_1 (pc' := 2) rfl ?_
  refine g_dcmp W0 d21_2 (pc' := 3) rfl rfl ?_
  rw [show (cmpValue (FP.dcmp x 0) .l) = (1 : Int32) from (by rw [pos_gt (hx.get hp1) (by omega)]; rfl)]
  refine g_if W0 d21_3 (pcy := 10) (by decide) (pc' := 6) rfl (fun _ => ?_) (fun (h : ¬ ¬ (1 : Int32) = (0 : Int32)) => absurd h (by decide))
  refine g_dloadN W0 d21_10 (pc' := 11) rfl rfl ?_
  refine g_dloadN W0 d21_11 (pc' := 12) rfl rfl ?_
  refine g_dloadN W0 d21_12 (pc' := 13) rfl rfl ?_
  refine g_callS W0 (argsL := [.double x, .double y]) (st := [.double x]) (wd_120 hw) (wd_53 hw) (wd_45 hw) (wd_54 hw) (by decide) (c_addu l Z a0 hw n0 x y pa k qa k2 hx hy (by omega) (by omega) _ _ H0) pd_2 rfl rfl rfl d21_13 (pc' := 16) rfl (by decide) (Wn := 2) (Nat.le_of_eq rfl) (by decide) (kc' := 0) (ks' := 0) rfl rfl (by decide) (by decide) ?_
  intro T1 v1 W1 hp1
  obtain ⟨t, rfl, ht, -, H1⟩ := hp1
  show Goes _ _ _ _ (State.setTop _ (mkF _ _ _ [.double t, .double x]))
  have hq := sh_q (k2 := k2) hx ht hp1 hpq hk
  have hb := sh_big (t := pa + qa) hp1 hpq (by omega)
  refine g_callS W1 (argsL := [.double x, .double t]) (st := []) (wd_121 hw) (wd_122 hw) (wd_45 hw) (wd_123 hw) (by decide) (c_divd l Z a0 hw n0 x t _ _ hq (by omega) (by have := sh_small (p := pa) (t := pa + qa) (by omega) hpq; omega) _ _ H1) pd_2 rfl rfl rfl d21_16 (pc' := 19) rfl (by decide) (Wn := 0) (Nat.le_of_eq rfl) (by decide) (kc' := 0) (ks' := 0) rfl rfl (by decide) (by decide) ?_
  intro T2 v2 W2 hp2
  obtain ⟨r, rfl, hr, H2⟩ := hp2
  show Goes _ _ _ _ (State.setTop _ (mkF _ _ _ [.double r]))
  exact g_dreturn W2 d21_19 ⟨_, rfl, sh_dn hr, H2⟩ (by decide) (by decide)
theorem c_divu (l : Launch) (Z : State) (a0 : Array Value) (hw : ∀ d ∈ tables_1, d.before a0 Z = true) (n0 : Nat) (x t : UInt64) (L U : Nat) (hx0 : FP.dcmp x 0 = some .gt) (hq : Iv L U (FP.ddiv x t)) (hL : 1 ≤ L) (hU : U + 1 < 2 ^ 53) (h0 : Heap) (F : List HRow) (H00 : Hp Z n0 h0 F) :
    Con l Z n0 ⟨"com/example/narrow_bounds/narrowbounds/DirectedRounding", "divideUp", "(DD)D"⟩ [] prog_13_method_9_code 4 (some .double) ({ frames := 2, cells := 0, slots := 0, locals := 55 } : Room) #[.double x, .double t] h0 (fun v h => ∃ r, v = some (.double r) ∧ Iv L (U + 1) r ∧ Hp Z n0 h F) := by
  refine con_of (plainFor_of_name pn_DirectedRounding) ?_
  intro p e s m below meth c T0 W0 e0
  subst e0
  have H0 := H00
  refine g_cast (ef_dd4 m x t) ?_
  refine g_dloadN W0 d27_0 (pc' := 1) rfl rfl ?_
  refine g_dconst0 W0 d27_1 (pc' := 2) rfl ?_
  refine g_dcmp W0 d27_2 (pc' := 3) rfl rfl ?_
  rw [show (cmpValue (FP.dcmp x 0) .l) = (1 : Int32) from (by rw [hx0]; rfl)]
  refine g_if W0 d27_3 (pcy := 10) (by decide) (pc' := 6) rfl (fun _ => ?_) (fun (h : ¬ ¬ (1 : Int32) = (0 : Int32)) => absurd h (by decide))
  refine g_dloadN W0 d27_10 (pc' := 11) rfl rfl ?_
  refine g_dloadN W0 d27_11 (pc' := 12) rfl rfl ?_
  refine g_ddiv W0 d27_12 (pc' := 13) rfl rfl (own_nn hq.1) ?_
  refine g_callS W0 (argsL := [.double (FP.ddiv x t)]) (st := []) (wd_107 hw) (wd_108 hw) (wd_95 hw) (wd_109 hw) (by decide) (c_nup l Z a0 hw n0 (FP.ddiv x t) _ _ hq hL hU _ _ H0) pd_1 rfl rfl rfl d27_13 (pc' := 16) rfl (by decide) (Wn := 0) (Nat.le_of_eq rfl) (by decide) (kc' := 0) (ks' := 0) rfl rfl (by decide) (by decide) ?_
  intro T1 v1 W1 hp1
  obtain ⟨r, rfl, hr, H1⟩ := hp1
  show Goes _ _ _ _ (State.setTop _ (mkF _ _ _ [.double r]))
  exact g_dreturn W1 d27_16 ⟨_, rfl, hr, H1⟩ (by decide) (by decide)
theorem c_isinf (l : Launch) (Z : State) (a0 : Array Value) (hw : ∀ d ∈ tables_1, d.before a0 Z = true) (n0 : Nat) (x : UInt64) (hx : Jvm.FP.Core.DFin x) (h0 : Heap) (F : List HRow) (H00 : Hp Z n0 h0 F) :
    Con l Z n0 ⟨"java/lang/Double", "isInfinite", "(D)Z"⟩ [] jdk_117_method_7_code 2 (some .boolean) ({ frames := 1, cells := 0, slots := 0, locals := 40 } : Room) #[.double x] h0 (fun v h => v = some (.int 0) ∧ Hp Z n0 h F) := by
  refine con_of pf_26 ?_
  intro p e s m below meth c T0 W0 e0
  subst e0
  have H0 := H00
  refine g_cast (ef_d2 m x) ?_
  refine g_dloadN W0 d26_0 (pc' := 1) rfl rfl ?_
  refine g_absD W0 (wd_93 hw) (wd_94 hw) (wd_95 hw) (wd_96 hw) H0 (own_nn hx) (u := (x &&& 0x7fffffffffffffff)) rfl rfl d26_1 (pc' := 4) rfl (by decide) (Wn := 0) (Nat.le_of_eq rfl) (by decide) (by decide) (by decide) ?_
  intro T1 W1 H1
  refine g_ldc2Double W1 (wd_97 hw) d26_4 (pc' := 7) rfl ?_
  refine g_dcmp W1 d26_7 (pc' := 8) rfl rfl ?_
  have hc : ¬ (0 : Int32) < (cmpValue (FP.dcmp (x &&& 0x7fffffffffffffff) (9218868437227405311 : UInt64)) .l) := by rcases abs_max hx with q | q <;> rw [q] <;> decide
  refine g_if W1 d26_8 (pcy := 15) (by decide) (pc' := 11) rfl (fun (_ : ¬ (0 : Int32) < (cmpValue (FP.dcmp (x &&& 0x7fffffffffffffff) (9218868437227405311 : UInt64)) .l)) => ?_) (fun (h : ¬ ¬ (0 : Int32) < (cmpValue (FP.dcmp (x &&& 0x7fffffffffffffff) (9218868437227405311 : UInt64)) .l)) => absurd (Classical.not_not.mp h) hc)
  refine g_iconst W1 d26_15 (pc' := 16) rfl (v := (0 : Int32)) (by decide) ?_
  exact g_zreturn W1 (by decide) d26_16 ⟨rfl, H1⟩ (by decide) (by decide)
theorem c_isfin (l : Launch) (Z : State) (a0 : Array Value) (hw : ∀ d ∈ tables_1, d.before a0 Z = true) (n0 : Nat) (x : UInt64) (hx : Jvm.FP.Core.DFin x) (h0 : Heap) (F : List HRow) (H00 : Hp Z n0 h0 F) :
    Con l Z n0 ⟨"java/lang/Double", "isFinite", "(D)Z"⟩ [] jdk_117_method_8_code 2 (some .boolean) ({ frames := 1, cells := 0, slots := 0, locals := 40 } : Room) #[.double x] h0 (fun v h => v = some (.int 1) ∧ Hp Z n0 h F) := by
  refine con_of pf_15 ?_
  intro p e s m below meth c T0 W0 e0
  subst e0
  have H0 := H00
  refine g_cast (ef_d2 m x) ?_
  refine g_dloadN W0 d15_0 (pc' := 1) rfl rfl ?_
  refine g_absD W0 (wd_93 hw) (wd_94 hw) (wd_95 hw) (wd_96 hw) H0 (own_nn hx) (u := (x &&& 0x7fffffffffffffff)) rfl rfl d15_1 (pc' := 4) rfl (by decide) (Wn := 0) (Nat.le_of_eq rfl) (by decide) (by decide) (by decide) ?_
  intro T1 W1 H1
  refine g_ldc2Double W1 (wd_97 hw) d15_4 (pc' := 7) rfl ?_
  refine g_dcmp W1 d15_7 (pc' := 8) rfl rfl ?_
  have hc : ¬ (0 : Int32) < (cmpValue (FP.dcmp (x &&& 0x7fffffffffffffff) (9218868437227405311 : UInt64)) .g) := by rcases abs_max hx with q | q <;> rw [q] <;> decide
  refine g_if W1 d15_8 (pcy := 15) (by decide) (pc' := 11) rfl (fun (h : (0 : Int32) < (cmpValue (FP.dcmp (x &&& 0x7fffffffffffffff) (9218868437227405311 : UInt64)) .g)) => absurd h hc) (fun (_ : ¬ (0 : Int32) < (cmpValue (FP.dcmp (x &&& 0x7fffffffffffffff) (9218868437227405311 : UInt64)) .g)) => ?_)
  refine g_iconst W1 d15_11 (pc' := 12) rfl (v := (1 : Int32)) (by decide) ?_
  refine g_goto W1 d15_12 (pc' := 16) (by decide) ?_
  exact g_zreturn W1 (by decide) d15_16 ⟨rfl, H1⟩ (by decide) (by decide)
theorem c_great (l : Launch) (Z : State) (a0 : Array Value) (hw : ∀ d ∈ tables_1, d.before a0 Z = true) (n0 : Nat) (x y : UInt64) (pa k qa k2 : Nat) (hx : Nr pa k x) (hy : Nr qa k2 y) (hp1 : 1 ≤ pa) (hq1 : 1 ≤ qa) (hpq : pa + qa ≤ 1024) (hk : k + k2 ≤ 90) (h0 : Heap) (F : List HRow) (H00 : Hp Z n0 h0 F) :
    Con l Z n0 ⟨"com/example/narrow_bounds/narrowbounds/Share", "greatestShare", "(DD)D"⟩ [] prog_45_method_7_code 6 (some .double) ({ frames := 3, cells := 0, slots := 0, locals := 70 } : Room) #[.double x, .double y] h0 (fun v h => ∃ r, v = some (.double r) ∧ Sh pa (pa + qa) r ∧ Hp Z n0 h F) := by
  refine con_of (plainFor_of_name pn_Share) ?_
  intro p e s m below meth c T0 W0 e0
  subst e0
  have H0 := H00
  refine g_cast (ef_dd6 m x y) ?_
  refine g_dloadN W0 d25_0 (pc' := 1) rfl rfl ?_
  refine g_callS W0 (argsL := [.double x]) (st := []) (wd_138 hw) (wd_139 hw) (wd_79 hw) (wd_140 hw) (by decide) (c_isinf l Z a0 hw n0 x hx.fin _ _ H0) pd_0 rfl rfl rfl d25_1 (pc' := 4) rfl (by decide) (Wn := 0) (Nat.le_of_eq rfl) (by decide) (kc' := 0) (ks' := 0) rfl rfl (by decide) (by decide) ?_
  intro T1 v1 W1 hp1
  obtain ⟨rfl, H1⟩ := hp1
  show Goes _ _ _ _ (State.setTop _ (mkF _ _ _ [.int (0 : Int32)]))
  refine g_if W1 d25_4 (pcy := 11) (by decide) (pc' := 7) rfl (fun _ => ?_) (fun (h : ¬ (0 : Int32) = (0 : Int32)) => absurd h (by decide))
  refine g_dloadN W1 d25_11 (pc' := 12) rfl rfl ?_
  refine g_dloadN W1 d25_12 (pc' := 13) rfl rfl ?_
  refine g_dloadN W1 d25_13 (pc' := 14) rfl rfl ?_
  refine g_callS W1 (argsL := [.double x, .double y]) (st := [.double x]) (wd_141 hw) (wd_48 hw) (wd_45 hw) (wd_49 hw) (by decide) (c_addd l Z a0 hw n0 x y pa k qa k2 hx hy (by omega) (by omega) _ _ H1) pd_2 rfl rfl rfl d25_14 (pc' := 17) rfl (by decide) (Wn := 2) (Nat.le_of_eq rfl) (by decide) (kc' := 0) (ks' := 0) rfl rfl (by decide) (by decide) ?_
  intro T2 v2 W2 hp2
  obtain ⟨t, rfl, ht, -, H2⟩ := hp2
  show Goes _ _ _ _ (State.setTop _ (mkF _ _ _ [.double t, .double x]))
  have hq := sh_q (k2 := k2) hx ht hp1 hpq hk
  have hb := sh_big (t := pa + qa) hp1 hpq (by omega)
  refine g_callS W2 (argsL := [.double x, .double t]) (st := []) (wd_142 hw) (wd_143 hw) (wd_45 hw) (wd_144 hw) (by decide) (c_divu l Z a0 hw n0 x t _ _ (pos_gt (hx.get hp1) (by omega)) hq (by omega) (by have := sh_small (p := pa) (t := pa + qa) (by omega) hpq; omega) _ _ H2) pd_2 rfl rfl rfl d25_17 (pc' := 20) rfl (by decide) (Wn := 0) (Nat.le_of_eq rfl) (by decide) (kc' := 0) (ks' := 0) rfl rfl (by decide) (by decide) ?_
  intro T3 v3 W3 hp3
  obtain ⟨r, rfl, hr, H3⟩ := hp3
  show Goes _ _ _ _ (State.setTop _ (mkF _ _ _ [.double r]))
  refine g_dstore W3 d25_20 (pc' := 22) rfl (ls' := #[.val (.double x), .second, .val (.double y), .second, .val (.double r), .second]) rfl ?_
  refine g_dconst1 W3 d25_22 (pc' := 23) rfl ?_
  refine g_dload W3 d25_23 (pc' := 25) rfl rfl ?_
  refine g_minD W3 (wd_145 hw) (wd_146 hw) (wd_95 hw) (wd_147 hw) H3 (own_nn iv_one.1) (own_nn hr.1) (u := r) (pick_r (sh_up hr) hq1 hpq) rfl d25_25 (pc' := 28) rfl (by decide) (Wn := 0) (Nat.le_of_eq rfl) (by decide) (by decide) (by decide) ?_
  intro T4 W4 H4
  exact g_dreturn W4 d25_28 ⟨_, rfl, sh_up hr, H4⟩ (by decide) (by decide)

def coL : List Int32 := [1, 2, 3, 4, 5, 6, 7, 8, 9, 10, 11, 12, 13, 14, 15, 16]
theorem co_div : ∀ d ∈ coL, FP.ddiv (FP.i2d d) 0 = (9218868437227405312 : UInt64) := by decide +kernel
theorem co_dz : ∀ d ∈ coL, FP.ddiv 0 (FP.i2d d) = 0 := by decide +kernel
theorem co_m1 : ∀ d ∈ coL, FP.dmul (FP.i2d d) 0 = 0 := by decide +kernel
theorem co_m2 : ∀ d ∈ coL, FP.dmul 0 (FP.i2d d) = 0 := by decide +kernel
theorem co_gt : ∀ d ∈ coL, FP.dcmp (FP.i2d d) 0 = some .gt := by decide +kernel
theorem co_add : ∀ d ∈ coL, FP.dadd 0 (FP.i2d d) = FP.i2d d := by decide +kernel
theorem co_add0 : FP.dadd 0 0 = 0 := by decide +kernel
theorem co_ii : FP.dcmp (9218868437227405312 : UInt64) 0 = some .gt := by decide +kernel
theorem co_oi : FP.dcmp 0 (9218868437227405312 : UInt64) = some .lt := by decide +kernel
theorem nn_inf : NoNaN64 (9218868437227405312 : UInt64) := by unfold NoNaN64; decide
theorem nn_zero : NoNaN64 0 := by unfold NoNaN64; decide
theorem co_fin (d : Int32) : Jvm.FP.Core.DFin (FP.i2d d) := Jvm.FP.Core.i2d_fin d

theorem c_dlb (l : Launch) (Z : State) (a0 : Array Value) (hw : ∀ d ∈ tables_1, d.before a0 Z = true) (n0 : Nat) (x : UInt64) (hx : NoNaN64 x) (h0 : Heap) (F : List HRow) (H00 : Hp Z n0 h0 F) :
    Con l Z n0 ⟨"java/lang/Double", "doubleToLongBits", "(D)J"⟩ [] jdk_117_method_23_code 2 (some .long) ({ frames := 1, cells := 0, slots := 0, locals := 40 } : Room) #[.double x] h0 (fun v h => v = some (.long (x.toInt64)) ∧ Hp Z n0 h F) := by
  refine con_of pf_13 ?_
  intro p e s m below meth c T0 W0 e0
  subst e0
  have H0 := H00
  refine g_cast (ef_d2 m x) ?_
  refine g_dloadN W0 d13_0 (pc' := 1) rfl rfl ?_
  refine g_callS W0 (argsL := [.double x]) (st := []) (wd_84 hw) (wd_85 hw) (wd_79 hw) (wd_86 hw) (by decide) (c_isnan l Z a0 hw n0 x hx _ _ H0) pd_0 rfl rfl rfl d13_1 (pc' := 4) rfl (by decide) (Wn := 0) (Nat.le_of_eq rfl) (by decide) (kc' := 0) (ks' := 0) rfl rfl (by decide) (by decide) ?_
  intro T1 v1 W1 hp1
  obtain ⟨rfl, H1⟩ := hp1
  show Goes _ _ _ _ (State.setTop _ (mkF _ _ _ [.int (0 : Int32)]))
  refine g_if W1 d13_4 (pcy := 12) (by decide) (pc' := 7) rfl (fun (h : ¬ (0 : Int32) = (0 : Int32)) => absurd h (by decide)) (fun _ => ?_)
  refine g_dloadN W1 d13_7 (pc' := 8) rfl rfl ?_
  refine g_d2raw W1 (wd_87 hw) (wd_89 hw) (wd_88 hw) (wd_79 hw) H1 rfl rfl d13_8 (pc' := 11) rfl (by decide) (Wn := 0) (Nat.le_of_eq rfl) (by decide) ?_
  intro T2 W2 H2
  exact g_lreturn W2 d13_11 ⟨rfl, H2⟩ (by decide) (by decide)
theorem c_clt (l : Launch) (Z : State) (a0 : Array Value) (hw : ∀ d ∈ tables_1, d.before a0 Z = true) (n0 : Nat) (x y : UInt64) (hc : FP.dcmp x y = some .lt) (h0 : Heap) (F : List HRow) (H00 : Hp Z n0 h0 F) :
    Con l Z n0 ⟨"java/lang/Double", "compare", "(DD)I"⟩ [] jdk_117_method_27_code 8 (some .int) ({ frames := 0, cells := 0, slots := 0, locals := 0 } : Room) #[.double x, .double y] h0 (fun v h => v = some (.int (-1)) ∧ Hp Z n0 h F) := by
  refine con_of pf_12 ?_
  intro p e s m below meth c T0 W0 e0
  subst e0
  have H0 := H00
  refine g_cast (ef_dd8 m x y) ?_
  refine g_dloadN W0 d12_0 (pc' := 1) rfl rfl ?_
  refine g_dloadN W0 d12_1 (pc' := 2) rfl rfl ?_
  refine g_dcmp W0 d12_2 (pc' := 3) rfl rfl ?_
  rw [show (cmpValue (FP.dcmp x y) .g) = (-1 : Int32) from (by rw [hc]; rfl)]
  refine g_if W0 d12_3 (pcy := 8) (by decide) (pc' := 6) rfl (fun (h : ¬ (-1 : Int32) < (0 : Int32)) => absurd h (by decide)) (fun _ => ?_)
  refine g_iconst W0 d12_6 (pc' := 7) rfl (v := (-1 : Int32)) (by decide) ?_
  exact g_ireturn W0 d12_7 ⟨rfl, H0⟩ (by decide) (by decide)
theorem c_cgt (l : Launch) (Z : State) (a0 : Array Value) (hw : ∀ d ∈ tables_1, d.before a0 Z = true) (n0 : Nat) (x y : UInt64) (hc : FP.dcmp x y = some .gt) (h0 : Heap) (F : List HRow) (H00 : Hp Z n0 h0 F) :
    Con l Z n0 ⟨"java/lang/Double", "compare", "(DD)I"⟩ [] jdk_117_method_27_code 8 (some .int) ({ frames := 0, cells := 0, slots := 0, locals := 0 } : Room) #[.double x, .double y] h0 (fun v h => v = some (.int (1)) ∧ Hp Z n0 h F) := by
  refine con_of pf_12 ?_
  intro p e s m below meth c T0 W0 e0
  subst e0
  have H0 := H00
  refine g_cast (ef_dd8 m x y) ?_
  refine g_dloadN W0 d12_0 (pc' := 1) rfl rfl ?_
  refine g_dloadN W0 d12_1 (pc' := 2) rfl rfl ?_
  refine g_dcmp W0 d12_2 (pc' := 3) rfl rfl ?_
  rw [show (cmpValue (FP.dcmp x y) .g) = (1 : Int32) from (by rw [hc]; rfl)]
  refine g_if W0 d12_3 (pcy := 8) (by decide) (pc' := 6) rfl (fun _ => ?_) (fun (h : ¬ ¬ (1 : Int32) < (0 : Int32)) => absurd h (by decide))
  refine g_dloadN W0 d12_8 (pc' := 9) rfl rfl ?_
  refine g_dloadN W0 d12_9 (pc' := 10) rfl rfl ?_
  refine g_dcmp W0 d12_10 (pc' := 11) rfl rfl ?_
  rw [show (cmpValue (FP.dcmp x y) .l) = (1 : Int32) from (by rw [hc]; rfl)]
  refine g_if W0 d12_11 (pcy := 16) (by decide) (pc' := 14) rfl (fun (h : ¬ (0 : Int32) < (1 : Int32)) => absurd h (by decide)) (fun _ => ?_)
  refine g_iconst W0 d12_14 (pc' := 15) rfl (v := (1 : Int32)) (by decide) ?_
  exact g_ireturn W0 d12_15 ⟨rfl, H0⟩ (by decide) (by decide)
theorem c_ceq (l : Launch) (Z : State) (a0 : Array Value) (hw : ∀ d ∈ tables_1, d.before a0 Z = true) (n0 : Nat) (x : UInt64) (hx : NoNaN64 x) (h0 : Heap) (F : List HRow) (H00 : Hp Z n0 h0 F) :
    Con l Z n0 ⟨"java/lang/Double", "compare", "(DD)I"⟩ [] jdk_117_method_27_code 8 (some .int) ({ frames := 2, cells := 0, slots := 0, locals := 53 } : Room) #[.double x, .double x] h0 (fun v h => v = some (.int (0)) ∧ Hp Z n0 h F) := by
  refine con_of pf_12 ?_
  intro p e s m below meth c T0 W0 e0
  subst e0
  have H0 := H00
  refine g_cast (ef_dd8 m x x) ?_
  refine g_dloadN W0 d12_0 (pc' := 1) rfl rfl ?_
  refine g_dloadN W0 d12_1 (pc' := 2) rfl rfl ?_
  refine g_dcmp W0 d12_2 (pc' := 3) rfl rfl ?_
  rw [show (cmpValue (FP.dcmp x x) .g) = (0 : Int32) from dcmpV_self hx .g]
  refine g_if W0 d12_3 (pcy := 8) (by decide) (pc' := 6) rfl (fun _ => ?_) (fun (h : ¬ ¬ (0 : Int32) < (0 : Int32)) => absurd h (by decide))
  refine g_dloadN W0 d12_8 (pc' := 9) rfl rfl ?_
  refine g_dloadN W0 d12_9 (pc' := 10) rfl rfl ?_
  refine g_dcmp W0 d12_10 (pc' := 11) rfl rfl ?_
  rw [show (cmpValue (FP.dcmp x x) .l) = (0 : Int32) from dcmpV_self hx .l]
  refine g_if W0 d12_11 (pcy := 16) (by decide) (pc' := 14) rfl (fun _ => ?_) (fun (h : ¬ ¬ (0 : Int32) < (0 : Int32)) => absurd h (by decide))
  refine g_dloadN W0 d12_16 (pc' := 17) rfl rfl ?_
  refine g_callS W0 (argsL := [.double x]) (st := []) (wd_81 hw) (wd_82 hw) (wd_79 hw) (wd_83 hw) (by decide) (c_dlb l Z a0 hw n0 x hx _ _ H0) pd_3 rfl rfl rfl d12_17 (pc' := 20) rfl (by decide) (Wn := 0) (Nat.le_of_eq rfl) (by decide) (kc' := 0) (ks' := 0) rfl rfl (by decide) (by decide) ?_
  intro T1 v1 W1 hp1
  obtain ⟨rfl, H1⟩ := hp1
  show Goes _ _ _ _ (State.setTop _ (mkF _ _ _ [.long (x.toInt64)]))
  refine g_lstore W1 d12_20 (pc' := 22) rfl (ls' := #[.val (.double x), .second, .val (.double x), .second, .val (.long (x.toInt64)), .second, .unset, .unset]) rfl ?_
  refine g_dloadN W1 d12_22 (pc' := 23) rfl rfl ?_
  refine g_callS W1 (argsL := [.double x]) (st := []) (wd_81 hw) (wd_82 hw) (wd_79 hw) (wd_83 hw) (by decide) (c_dlb l Z a0 hw n0 x hx _ _ H1) pd_3 rfl rfl rfl d12_23 (pc' := 26) rfl (by decide) (Wn := 0) (Nat.le_of_eq rfl) (by decide) (kc' := 0) (ks' := 0) rfl rfl (by decide) (by decide) ?_
  intro T2 v2 W2 hp2
  obtain ⟨rfl, H2⟩ := hp2
  show Goes _ _ _ _ (State.setTop _ (mkF _ _ _ [.long (x.toInt64)]))
  refine g_lstore W2 d12_26 (pc' := 28) rfl (ls' := #[.val (.double x), .second, .val (.double x), .second, .val (.long (x.toInt64)), .second, .val (.long (x.toInt64)), .second]) rfl ?_
  refine g_lload W2 d12_28 (pc' := 30) rfl rfl ?_
  refine g_lload W2 d12_30 (pc' := 32) rfl rfl ?_
  refine g_lcmp W2 d12_32 (pc' := 33) rfl rfl ?_
  rw [show (XT.cmpL (x.toInt64) (x.toInt64)) = (0 : Int32) from cmpL_self _]
  refine g_if W2 d12_33 (pcy := 40) (by decide) (pc' := 36) rfl (fun (h : ¬ (0 : Int32) = (0 : Int32)) => absurd h (by decide)) (fun _ => ?_)
  refine g_iconst W2 d12_36 (pc' := 37) rfl (v := (0 : Int32)) (by decide) ?_
  refine g_goto W2 d12_37 (pc' := 53) (by decide) ?_
  exact g_ireturn W2 d12_53 ⟨rfl, H2⟩ (by decide) (by decide)
theorem c_croo (l : Launch) (Z : State) (a0 : Array Value) (hw : ∀ d ∈ tables_1, d.before a0 Z = true) (n0 : Nat) (e1 e2 : Int32) (h1 : e1 ∈ coL) (h2 : e2 ∈ coL) (h0 : Heap) (F : List HRow) (H00 : Hp Z n0 h0 F) :
    Con l Z n0 ⟨"com/example/narrow_bounds/narrowbounds/Share", "compareRatios", "(DDDD)I"⟩ [] prog_45_method_10_code 14 (some .int) ({ frames := 3, cells := 0, slots := 0, locals := 72 } : Room) #[.double (FP.i2d e1), .double 0, .double (FP.i2d e2), .double 0] h0 (fun v h => v = some (.int (0)) ∧ Hp Z n0 h F) := by
  refine con_of (plainFor_of_name pn_Share) ?_
  intro p e s m below meth c T0 W0 e0
  subst e0
  have H0 := H00
  refine g_cast (ef_dddd14 m (FP.i2d e1) 0 (FP.i2d e2) 0) ?_
  refine g_dloadN W0 d11_0 (pc' := 1) rfl rfl ?_
  refine g_dloadN W0 d11_1 (pc' := 2) rfl rfl ?_
  refine g_ddiv W0 d11_2 (pc' := 3) rfl rfl (by rw [co_div _ h1]; exact nn_inf) ?_
  refine g_dload W0 d11_3 (pc' := 5) rfl rfl ?_
  refine g_dload W0 d11_5 (pc' := 7) rfl rfl ?_
  refine g_ddiv W0 d11_7 (pc' := 8) rfl rfl (by rw [co_div _ h2]; exact nn_inf) ?_
  rw [show (FP.ddiv (FP.i2d e1) 0) = (9218868437227405312 : UInt64) from co_div _ h1]
  rw [show (FP.ddiv (FP.i2d e2) 0) = (9218868437227405312 : UInt64) from co_div _ h2]
  refine g_callS W0 (argsL := [.double (9218868437227405312 : UInt64), .double (9218868437227405312 : UInt64)]) (st := []) (wd_77 hw) (wd_78 hw) (wd_79 hw) (wd_80 hw) (by decide) (c_ceq l Z a0 hw n0 (9218868437227405312 : UInt64) nn_inf _ _ H0) pd_4 rfl rfl rfl d11_8 (pc' := 11) rfl (by decide) (Wn := 0) (Nat.le_of_eq rfl) (by decide) (kc' := 0) (ks' := 0) rfl rfl (by decide) (by decide) ?_
  intro T1 v1 W1 hp1
  obtain ⟨rfl, H1⟩ := hp1
  show Goes _ _ _ _ (State.setTop _ (mkF _ _ _ [.int (0 : Int32)]))
  refine g_istore W1 d11_11 (pc' := 13) rfl (ls' := #[.val (.double (FP.i2d e1)), .second, .val (.double 0), .second, .val (.double (FP.i2d e2)), .second, .val (.double 0), .second, .val (.int (0 : Int32)), .unset, .unset, .unset, .unset, .unset]) rfl ?_
  refine g_dloadN W1 d11_13 (pc' := 14) rfl rfl ?_
  refine g_callS W1 (argsL := [.double (FP.i2d e1)]) (st := []) (wd_90 hw) (wd_91 hw) (wd_79 hw) (wd_92 hw) (by decide) (c_isfin l Z a0 hw n0 (FP.i2d e1) (co_fin _) _ _ H1) pd_0 rfl rfl rfl d11_14 (pc' := 17) rfl (by decide) (Wn := 0) (Nat.le_of_eq rfl) (by decide) (kc' := 0) (ks' := 0) rfl rfl (by decide) (by decide) ?_
  intro T2 v2 W2 hp2
  obtain ⟨rfl, H2⟩ := hp2
  show Goes _ _ _ _ (State.setTop _ (mkF _ _ _ [.int (1 : Int32)]))
  refine g_if W2 d11_17 (pcy := 47) (by decide) (pc' := 20) rfl (fun (h : (1 : Int32) = (0 : Int32)) => absurd h (by decide)) (fun _ => ?_)
  refine g_dloadN W2 d11_20 (pc' := 21) rfl rfl ?_
  refine g_callS W2 (argsL := [.double 0]) (st := []) (wd_90 hw) (wd_91 hw) (wd_79 hw) (wd_92 hw) (by decide) (c_isfin l Z a0 hw n0 0 fin_zero _ _ H2) pd_0 rfl rfl rfl d11_21 (pc' := 24) rfl (by decide) (Wn := 0) (Nat.le_of_eq rfl) (by decide) (kc' := 0) (ks' := 0) rfl rfl (by decide) (by decide) ?_
  intro T3 v3 W3 hp3
  obtain ⟨rfl, H3⟩ := hp3
  show Goes _ _ _ _ (State.setTop _ (mkF _ _ _ [.int (1 : Int32)]))
  refine g_if W3 d11_24 (pcy := 47) (by decide) (pc' := 27) rfl (fun (h : (1 : Int32) = (0 : Int32)) => absurd h (by decide)) (fun _ => ?_)
  refine g_dload W3 d11_27 (pc' := 29) rfl rfl ?_
  refine g_callS W3 (argsL := [.double (FP.i2d e2)]) (st := []) (wd_90 hw) (wd_91 hw) (wd_79 hw) (wd_92 hw) (by decide) (c_isfin l Z a0 hw n0 (FP.i2d e2) (co_fin _) _ _ H3) pd_0 rfl rfl rfl d11_29 (pc' := 32) rfl (by decide) (Wn := 0) (Nat.le_of_eq rfl) (by decide) (kc' := 0) (ks' := 0) rfl rfl (by decide) (by decide) ?_
  intro T4 v4 W4 hp4
  obtain ⟨rfl, H4⟩ := hp4
  show Goes _ _ _ _ (State.setTop _ (mkF _ _ _ [.int (1 : Int32)]))
  refine g_if W4 d11_32 (pcy := 47) (by decide) (pc' := 35) rfl (fun (h : (1 : Int32) = (0 : Int32)) => absurd h (by decide)) (fun _ => ?_)
  refine g_dload W4 d11_35 (pc' := 37) rfl rfl ?_
  refine g_callS W4 (argsL := [.double 0]) (st := []) (wd_90 hw) (wd_91 hw) (wd_79 hw) (wd_92 hw) (by decide) (c_isfin l Z a0 hw n0 0 fin_zero _ _ H4) pd_0 rfl rfl rfl d11_37 (pc' := 40) rfl (by decide) (Wn := 0) (Nat.le_of_eq rfl) (by decide) (kc' := 0) (ks' := 0) rfl rfl (by decide) (by decide) ?_
  intro T5 v5 W5 hp5
  obtain ⟨rfl, H5⟩ := hp5
  show Goes _ _ _ _ (State.setTop _ (mkF _ _ _ [.int (1 : Int32)]))
  refine g_if W5 d11_40 (pcy := 47) (by decide) (pc' := 43) rfl (fun (h : (1 : Int32) = (0 : Int32)) => absurd h (by decide)) (fun _ => ?_)
  refine g_iconst W5 d11_43 (pc' := 44) rfl (v := (1 : Int32)) (by decide) ?_
  refine g_goto W5 d11_44 (pc' := 48) (by decide) ?_
  refine g_istore W5 d11_48 (pc' := 50) rfl (ls' := #[.val (.double (FP.i2d e1)), .second, .val (.double 0), .second, .val (.double (FP.i2d e2)), .second, .val (.double 0), .second, .val (.int (0 : Int32)), .val (.int (1 : Int32)), .unset, .unset, .unset, .unset]) rfl ?_
  refine g_iload W5 d11_50 (pc' := 52) rfl rfl ?_
  refine g_if W5 d11_52 (pcy := 195) (by decide) (pc' := 55) rfl (fun (h : ¬ (0 : Int32) = (0 : Int32)) => absurd h (by decide)) (fun _ => ?_)
  refine g_iload W5 d11_55 (pc' := 57) rfl rfl ?_
  refine g_if W5 d11_57 (pcy := 195) (by decide) (pc' := 60) rfl (fun (h : (1 : Int32) = (0 : Int32)) => absurd h (by decide)) (fun _ => ?_)
  refine g_dloadN W5 d11_60 (pc' := 61) rfl rfl ?_
  refine g_dload W5 d11_61 (pc' := 63) rfl rfl ?_
  refine g_dmul W5 d11_63 (pc' := 64) rfl rfl (by rw [co_m1 _ h1]; exact nn_zero) ?_
  refine g_dload W5 d11_64 (pc' := 66) rfl rfl ?_
  refine g_dloadN W5 d11_66 (pc' := 67) rfl rfl ?_
  refine g_dmul W5 d11_67 (pc' := 68) rfl rfl (by rw [co_m1 _ h2]; exact nn_zero) ?_
  rw [show (FP.dmul (FP.i2d e1) 0) = 0 from co_m1 _ h1]
  rw [show (FP.dmul (FP.i2d e2) 0) = 0 from co_m1 _ h2]
  refine g_callS W5 (argsL := [.double 0, .double 0]) (st := []) (wd_77 hw) (wd_78 hw) (wd_79 hw) (wd_80 hw) (by decide) (c_ceq l Z a0 hw n0 0 nn_zero _ _ H5) pd_4 rfl rfl rfl d11_68 (pc' := 71) rfl (by decide) (Wn := 0) (Nat.le_of_eq rfl) (by decide) (kc' := 0) (ks' := 0) rfl rfl (by decide) (by decide) ?_
  intro T6 v6 W6 hp6
  obtain ⟨rfl, H6⟩ := hp6
  show Goes _ _ _ _ (State.setTop _ (mkF _ _ _ [.int (0 : Int32)]))
  refine g_istore W6 d11_71 (pc' := 73) rfl (ls' := #[.val (.double (FP.i2d e1)), .second, .val (.double 0), .second, .val (.double (FP.i2d e2)), .second, .val (.double 0), .second, .val (.int (0 : Int32)), .val (.int (1 : Int32)), .unset, .unset, .unset, .unset]) rfl ?_
  refine g_dloadN W6 d11_73 (pc' := 74) rfl rfl ?_
  refine g_dconst0 W6 d11_74 (pc' := 75) rfl ?_
  refine g_dcmp W6 d11_75 (pc' := 76) rfl rfl ?_
  rw [show (cmpValue (FP.dcmp (FP.i2d e1) 0) .l) = (1 : Int32) from (by rw [co_gt _ h1]; rfl)]
  refine g_if W6 d11_76 (pcy := 86) (by decide) (pc' := 79) rfl (fun (h : (1 : Int32) = (0 : Int32)) => absurd h (by decide)) (fun _ => ?_)
  refine g_dload W6 d11_79 (pc' := 81) rfl rfl ?_
  refine g_dconst0 W6 d11_81 (pc' := 82) rfl ?_
  refine g_dcmp W6 d11_82 (pc' := 83) rfl rfl ?_
  rw [show (cmpValue (FP.dcmp 0 0) .l) = (0 : Int32) from dcmpV_self nn_zero .l]
  refine g_if W6 d11_83 (pcy := 103) (by decide) (pc' := 86) rfl (fun (h : ¬ (0 : Int32) = (0 : Int32)) => absurd h (by decide)) (fun _ => ?_)
  refine g_dload W6 d11_86 (pc' := 88) rfl rfl ?_
  refine g_dconst0 W6 d11_88 (pc' := 89) rfl ?_
  refine g_dcmp W6 d11_89 (pc' := 90) rfl rfl ?_
  rw [show (cmpValue (FP.dcmp (FP.i2d e2) 0) .l) = (1 : Int32) from (by rw [co_gt _ h2]; rfl)]
  refine g_if W6 d11_90 (pcy := 99) (by decide) (pc' := 93) rfl (fun (h : (1 : Int32) = (0 : Int32)) => absurd h (by decide)) (fun _ => ?_)
  refine g_dloadN W6 d11_93 (pc' := 94) rfl rfl ?_
  refine g_dconst0 W6 d11_94 (pc' := 95) rfl ?_
  refine g_dcmp W6 d11_95 (pc' := 96) rfl rfl ?_
  rw [show (cmpValue (FP.dcmp 0 0) .l) = (0 : Int32) from dcmpV_self nn_zero .l]
  refine g_if W6 d11_96 (pcy := 103) (by decide) (pc' := 99) rfl (fun (h : ¬ (0 : Int32) = (0 : Int32)) => absurd h (by decide)) (fun _ => ?_)
  refine g_iconst W6 d11_99 (pc' := 100) rfl (v := (1 : Int32)) (by decide) ?_
  refine g_goto W6 d11_100 (pc' := 104) (by decide) ?_
  refine g_istore W6 d11_104 (pc' := 106) rfl (ls' := #[.val (.double (FP.i2d e1)), .second, .val (.double 0), .second, .val (.double (FP.i2d e2)), .second, .val (.double 0), .second, .val (.int (0 : Int32)), .val (.int (1 : Int32)), .val (.int (1 : Int32)), .unset, .unset, .unset]) rfl ?_
  refine g_dloadN W6 d11_106 (pc' := 107) rfl rfl ?_
  refine g_dload W6 d11_107 (pc' := 109) rfl rfl ?_
  refine g_dcmp W6 d11_109 (pc' := 110) rfl rfl ?_
  refine g_if W6 d11_110 (pcy := 124) (by decide) (pc' := 113) rfl (fun (c7 : ¬ (cmpValue (FP.dcmp (FP.i2d e1) (FP.i2d e2)) .l) = (0 : Int32)) => ?_) (fun (c7 : ¬ ¬ (cmpValue (FP.dcmp (FP.i2d e1) (FP.i2d e2)) .l) = (0 : Int32)) => ?_)
  · refine g_iconst W6 d11_124 (pc' := 125) rfl (v := (0 : Int32)) (by decide) ?_
    refine g_istore W6 d11_125 (pc' := 127) rfl (ls' := #[.val (.double (FP.i2d e1)), .second, .val (.double 0), .second, .val (.double (FP.i2d e2)), .second, .val (.double 0), .second, .val (.int (0 : Int32)), .val (.int (1 : Int32)), .val (.int (1 : Int32)), .val (.int (0 : Int32)), .unset, .unset]) rfl ?_
    refine g_iload W6 d11_127 (pc' := 129) rfl rfl ?_
    refine g_if W6 d11_129 (pcy := 195) (by decide) (pc' := 132) rfl (fun (h : ¬ (0 : Int32) = (0 : Int32)) => absurd h (by decide)) (fun _ => ?_)
    refine g_iload W6 d11_132 (pc' := 134) rfl rfl ?_
    refine g_if W6 d11_134 (pcy := 195) (by decide) (pc' := 137) rfl (fun _ => ?_) (fun (h : ¬ ¬ (1 : Int32) = (0 : Int32)) => absurd h (by decide))
    refine g_iload W6 d11_195 (pc' := 197) rfl rfl ?_
    exact g_ireturn W6 d11_197 ⟨rfl, H6⟩ (by decide) (by decide)
  · replace c7 := Classical.not_not.mp c7
    refine g_dloadN W6 d11_113 (pc' := 114) rfl rfl ?_
    refine g_dload W6 d11_114 (pc' := 116) rfl rfl ?_
    refine g_dcmp W6 d11_116 (pc' := 117) rfl rfl ?_
    rw [show (cmpValue (FP.dcmp 0 0) .l) = (0 : Int32) from dcmpV_self nn_zero .l]
    refine g_if W6 d11_117 (pcy := 124) (by decide) (pc' := 120) rfl (fun (h : ¬ (0 : Int32) = (0 : Int32)) => absurd h (by decide)) (fun _ => ?_)
    refine g_iconst W6 d11_120 (pc' := 121) rfl (v := (1 : Int32)) (by decide) ?_
    refine g_goto W6 d11_121 (pc' := 125) (by decide) ?_
    refine g_istore W6 d11_125 (pc' := 127) rfl (ls' := #[.val (.double (FP.i2d e1)), .second, .val (.double 0), .second, .val (.double (FP.i2d e2)), .second, .val (.double 0), .second, .val (.int (0 : Int32)), .val (.int (1 : Int32)), .val (.int (1 : Int32)), .val (.int (1 : Int32)), .unset, .unset]) rfl ?_
    refine g_iload W6 d11_127 (pc' := 129) rfl rfl ?_
    refine g_if W6 d11_129 (pcy := 195) (by decide) (pc' := 132) rfl (fun (h : ¬ (0 : Int32) = (0 : Int32)) => absurd h (by decide)) (fun _ => ?_)
    refine g_iload W6 d11_132 (pc' := 134) rfl rfl ?_
    refine g_if W6 d11_134 (pcy := 195) (by decide) (pc' := 137) rfl (fun _ => ?_) (fun (h : ¬ ¬ (1 : Int32) = (0 : Int32)) => absurd h (by decide))
    refine g_iload W6 d11_195 (pc' := 197) rfl rfl ?_
    exact g_ireturn W6 d11_197 ⟨rfl, H6⟩ (by decide) (by decide)
theorem c_croz (l : Launch) (Z : State) (a0 : Array Value) (hw : ∀ d ∈ tables_1, d.before a0 Z = true) (n0 : Nat) (e1 e2 : Int32) (h1 : e1 ∈ coL) (h2 : e2 ∈ coL) (h0 : Heap) (F : List HRow) (H00 : Hp Z n0 h0 F) :
    Con l Z n0 ⟨"com/example/narrow_bounds/narrowbounds/Share", "compareRatios", "(DDDD)I"⟩ [] prog_45_method_10_code 14 (some .int) ({ frames := 2, cells := 0, slots := 0, locals := 53 } : Room) #[.double (FP.i2d e1), .double 0, .double 0, .double (FP.i2d e2)] h0 (fun v h => v = some (.int (1)) ∧ Hp Z n0 h F) := by
  refine con_of (plainFor_of_name pn_Share) ?_
  intro p e s m below meth c T0 W0 e0
  subst e0
  have H0 := H00
  refine g_cast (ef_dddd14 m (FP.i2d e1) 0 0 (FP.i2d e2)) ?_
  refine g_dloadN W0 d11_0 (pc' := 1) rfl rfl ?_
  refine g_dloadN W0 d11_1 (pc' := 2) rfl rfl ?_
  refine g_ddiv W0 d11_2 (pc' := 3) rfl rfl (by rw [co_div _ h1]; exact nn_inf) ?_
  refine g_dload W0 d11_3 (pc' := 5) rfl rfl ?_
  refine g_dload W0 d11_5 (pc' := 7) rfl rfl ?_
  refine g_ddiv W0 d11_7 (pc' := 8) rfl rfl (by rw [co_dz _ h2]; exact nn_zero) ?_
  rw [show (FP.ddiv (FP.i2d e1) 0) = (9218868437227405312 : UInt64) from co_div _ h1]
  rw [show (FP.ddiv 0 (FP.i2d e2)) = 0 from co_dz _ h2]
  refine g_callS W0 (argsL := [.double (9218868437227405312 : UInt64), .double 0]) (st := []) (wd_77 hw) (wd_78 hw) (wd_79 hw) (wd_80 hw) (by decide) (c_cgt l Z a0 hw n0 (9218868437227405312 : UInt64) 0 co_ii _ _ H0) pd_4 rfl rfl rfl d11_8 (pc' := 11) rfl (by decide) (Wn := 0) (Nat.le_of_eq rfl) (by decide) (kc' := 0) (ks' := 0) rfl rfl (by decide) (by decide) ?_
  intro T1 v1 W1 hp1
  obtain ⟨rfl, H1⟩ := hp1
  show Goes _ _ _ _ (State.setTop _ (mkF _ _ _ [.int (1 : Int32)]))
  refine g_istore W1 d11_11 (pc' := 13) rfl (ls' := #[.val (.double (FP.i2d e1)), .second, .val (.double 0), .second, .val (.double 0), .second, .val (.double (FP.i2d e2)), .second, .val (.int (1 : Int32)), .unset, .unset, .unset, .unset, .unset]) rfl ?_
  refine g_dloadN W1 d11_13 (pc' := 14) rfl rfl ?_
  refine g_callS W1 (argsL := [.double (FP.i2d e1)]) (st := []) (wd_90 hw) (wd_91 hw) (wd_79 hw) (wd_92 hw) (by decide) (c_isfin l Z a0 hw n0 (FP.i2d e1) (co_fin _) _ _ H1) pd_0 rfl rfl rfl d11_14 (pc' := 17) rfl (by decide) (Wn := 0) (Nat.le_of_eq rfl) (by decide) (kc' := 0) (ks' := 0) rfl rfl (by decide) (by decide) ?_
  intro T2 v2 W2 hp2
  obtain ⟨rfl, H2⟩ := hp2
  show Goes _ _ _ _ (State.setTop _ (mkF _ _ _ [.int (1 : Int32)]))
  refine g_if W2 d11_17 (pcy := 47) (by decide) (pc' := 20) rfl (fun (h : (1 : Int32) = (0 : Int32)) => absurd h (by decide)) (fun _ => ?_)
  refine g_dloadN W2 d11_20 (pc' := 21) rfl rfl ?_
  refine g_callS W2 (argsL := [.double 0]) (st := []) (wd_90 hw) (wd_91 hw) (wd_79 hw) (wd_92 hw) (by decide) (c_isfin l Z a0 hw n0 0 fin_zero _ _ H2) pd_0 rfl rfl rfl d11_21 (pc' := 24) rfl (by decide) (Wn := 0) (Nat.le_of_eq rfl) (by decide) (kc' := 0) (ks' := 0) rfl rfl (by decide) (by decide) ?_
  intro T3 v3 W3 hp3
  obtain ⟨rfl, H3⟩ := hp3
  show Goes _ _ _ _ (State.setTop _ (mkF _ _ _ [.int (1 : Int32)]))
  refine g_if W3 d11_24 (pcy := 47) (by decide) (pc' := 27) rfl (fun (h : (1 : Int32) = (0 : Int32)) => absurd h (by decide)) (fun _ => ?_)
  refine g_dload W3 d11_27 (pc' := 29) rfl rfl ?_
  refine g_callS W3 (argsL := [.double 0]) (st := []) (wd_90 hw) (wd_91 hw) (wd_79 hw) (wd_92 hw) (by decide) (c_isfin l Z a0 hw n0 0 fin_zero _ _ H3) pd_0 rfl rfl rfl d11_29 (pc' := 32) rfl (by decide) (Wn := 0) (Nat.le_of_eq rfl) (by decide) (kc' := 0) (ks' := 0) rfl rfl (by decide) (by decide) ?_
  intro T4 v4 W4 hp4
  obtain ⟨rfl, H4⟩ := hp4
  show Goes _ _ _ _ (State.setTop _ (mkF _ _ _ [.int (1 : Int32)]))
  refine g_if W4 d11_32 (pcy := 47) (by decide) (pc' := 35) rfl (fun (h : (1 : Int32) = (0 : Int32)) => absurd h (by decide)) (fun _ => ?_)
  refine g_dload W4 d11_35 (pc' := 37) rfl rfl ?_
  refine g_callS W4 (argsL := [.double (FP.i2d e2)]) (st := []) (wd_90 hw) (wd_91 hw) (wd_79 hw) (wd_92 hw) (by decide) (c_isfin l Z a0 hw n0 (FP.i2d e2) (co_fin _) _ _ H4) pd_0 rfl rfl rfl d11_37 (pc' := 40) rfl (by decide) (Wn := 0) (Nat.le_of_eq rfl) (by decide) (kc' := 0) (ks' := 0) rfl rfl (by decide) (by decide) ?_
  intro T5 v5 W5 hp5
  obtain ⟨rfl, H5⟩ := hp5
  show Goes _ _ _ _ (State.setTop _ (mkF _ _ _ [.int (1 : Int32)]))
  refine g_if W5 d11_40 (pcy := 47) (by decide) (pc' := 43) rfl (fun (h : (1 : Int32) = (0 : Int32)) => absurd h (by decide)) (fun _ => ?_)
  refine g_iconst W5 d11_43 (pc' := 44) rfl (v := (1 : Int32)) (by decide) ?_
  refine g_goto W5 d11_44 (pc' := 48) (by decide) ?_
  refine g_istore W5 d11_48 (pc' := 50) rfl (ls' := #[.val (.double (FP.i2d e1)), .second, .val (.double 0), .second, .val (.double 0), .second, .val (.double (FP.i2d e2)), .second, .val (.int (1 : Int32)), .val (.int (1 : Int32)), .unset, .unset, .unset, .unset]) rfl ?_
  refine g_iload W5 d11_50 (pc' := 52) rfl rfl ?_
  refine g_if W5 d11_52 (pcy := 195) (by decide) (pc' := 55) rfl (fun _ => ?_) (fun (h : ¬ ¬ (1 : Int32) = (0 : Int32)) => absurd h (by decide))
  refine g_iload W5 d11_195 (pc' := 197) rfl rfl ?_
  exact g_ireturn W5 d11_197 ⟨rfl, H5⟩ (by decide) (by decide)
theorem c_crzo (l : Launch) (Z : State) (a0 : Array Value) (hw : ∀ d ∈ tables_1, d.before a0 Z = true) (n0 : Nat) (e1 e2 : Int32) (h1 : e1 ∈ coL) (h2 : e2 ∈ coL) (h0 : Heap) (F : List HRow) (H00 : Hp Z n0 h0 F) :
    Con l Z n0 ⟨"com/example/narrow_bounds/narrowbounds/Share", "compareRatios", "(DDDD)I"⟩ [] prog_45_method_10_code 14 (some .int) ({ frames := 2, cells := 0, slots := 0, locals := 53 } : Room) #[.double 0, .double (FP.i2d e1), .double (FP.i2d e2), .double 0] h0 (fun v h => v = some (.int (-1)) ∧ Hp Z n0 h F) := by
  refine con_of (plainFor_of_name pn_Share) ?_
  intro p e s m below meth c T0 W0 e0
  subst e0
  have H0 := H00
  refine g_cast (ef_dddd14 m 0 (FP.i2d e1) (FP.i2d e2) 0) ?_
  refine g_dloadN W0 d11_0 (pc' := 1) rfl rfl ?_
  refine g_dloadN W0 d11_1 (pc' := 2) rfl rfl ?_
  refine g_ddiv W0 d11_2 (pc' := 3) rfl rfl (by rw [co_dz _ h1]; exact nn_zero) ?_
  refine g_dload W0 d11_3 (pc' := 5) rfl rfl ?_
  refine g_dload W0 d11_5 (pc' := 7) rfl rfl ?_
  refine g_ddiv W0 d11_7 (pc' := 8) rfl rfl (by rw [co_div _ h2]; exact nn_inf) ?_
  rw [show (FP.ddiv 0 (FP.i2d e1)) = 0 from co_dz _ h1]
  rw [show (FP.ddiv (FP.i2d e2) 0) = (9218868437227405312 : UInt64) from co_div _ h2]
  refine g_callS W0 (argsL := [.double 0, .double (9218868437227405312 : UInt64)]) (st := []) (wd_77 hw) (wd_78 hw) (wd_79 hw) (wd_80 hw) (by decide) (c_clt l Z a0 hw n0 0 (9218868437227405312 : UInt64) co_oi _ _ H0) pd_4 rfl rfl rfl d11_8 (pc' := 11) rfl (by decide) (Wn := 0) (Nat.le_of_eq rfl) (by decide) (kc' := 0) (ks' := 0) rfl rfl (by decide) (by decide) ?_
  intro T1 v1 W1 hp1
  obtain ⟨rfl, H1⟩ := hp1
  show Goes _ _ _ _ (State.setTop _ (mkF _ _ _ [.int (-1 : Int32)]))
  refine g_istore W1 d11_11 (pc' := 13) rfl (ls' := #[.val (.double 0), .second, .val (.double (FP.i2d e1)), .second, .val (.double (FP.i2d e2)), .second, .val (.double 0), .second, .val (.int (-1 : Int32)), .unset, .unset, .unset, .unset, .unset]) rfl ?_
  refine g_dloadN W1 d11_13 (pc' := 14) rfl rfl ?_
  refine g_callS W1 (argsL := [.double 0]) (st := []) (wd_90 hw) (wd_91 hw) (wd_79 hw) (wd_92 hw) (by decide) (c_isfin l Z a0 hw n0 0 fin_zero _ _ H1) pd_0 rfl rfl rfl d11_14 (pc' := 17) rfl (by decide) (Wn := 0) (Nat.le_of_eq rfl) (by decide) (kc' := 0) (ks' := 0) rfl rfl (by decide) (by decide) ?_
  intro T2 v2 W2 hp2
  obtain ⟨rfl, H2⟩ := hp2
  show Goes _ _ _ _ (State.setTop _ (mkF _ _ _ [.int (1 : Int32)]))
  refine g_if W2 d11_17 (pcy := 47) (by decide) (pc' := 20) rfl (fun (h : (1 : Int32) = (0 : Int32)) => absurd h (by decide)) (fun _ => ?_)
  refine g_dloadN W2 d11_20 (pc' := 21) rfl rfl ?_
  refine g_callS W2 (argsL := [.double (FP.i2d e1)]) (st := []) (wd_90 hw) (wd_91 hw) (wd_79 hw) (wd_92 hw) (by decide) (c_isfin l Z a0 hw n0 (FP.i2d e1) (co_fin _) _ _ H2) pd_0 rfl rfl rfl d11_21 (pc' := 24) rfl (by decide) (Wn := 0) (Nat.le_of_eq rfl) (by decide) (kc' := 0) (ks' := 0) rfl rfl (by decide) (by decide) ?_
  intro T3 v3 W3 hp3
  obtain ⟨rfl, H3⟩ := hp3
  show Goes _ _ _ _ (State.setTop _ (mkF _ _ _ [.int (1 : Int32)]))
  refine g_if W3 d11_24 (pcy := 47) (by decide) (pc' := 27) rfl (fun (h : (1 : Int32) = (0 : Int32)) => absurd h (by decide)) (fun _ => ?_)
  refine g_dload W3 d11_27 (pc' := 29) rfl rfl ?_
  refine g_callS W3 (argsL := [.double (FP.i2d e2)]) (st := []) (wd_90 hw) (wd_91 hw) (wd_79 hw) (wd_92 hw) (by decide) (c_isfin l Z a0 hw n0 (FP.i2d e2) (co_fin _) _ _ H3) pd_0 rfl rfl rfl d11_29 (pc' := 32) rfl (by decide) (Wn := 0) (Nat.le_of_eq rfl) (by decide) (kc' := 0) (ks' := 0) rfl rfl (by decide) (by decide) ?_
  intro T4 v4 W4 hp4
  obtain ⟨rfl, H4⟩ := hp4
  show Goes _ _ _ _ (State.setTop _ (mkF _ _ _ [.int (1 : Int32)]))
  refine g_if W4 d11_32 (pcy := 47) (by decide) (pc' := 35) rfl (fun (h : (1 : Int32) = (0 : Int32)) => absurd h (by decide)) (fun _ => ?_)
  refine g_dload W4 d11_35 (pc' := 37) rfl rfl ?_
  refine g_callS W4 (argsL := [.double 0]) (st := []) (wd_90 hw) (wd_91 hw) (wd_79 hw) (wd_92 hw) (by decide) (c_isfin l Z a0 hw n0 0 fin_zero _ _ H4) pd_0 rfl rfl rfl d11_37 (pc' := 40) rfl (by decide) (Wn := 0) (Nat.le_of_eq rfl) (by decide) (kc' := 0) (ks' := 0) rfl rfl (by decide) (by decide) ?_
  intro T5 v5 W5 hp5
  obtain ⟨rfl, H5⟩ := hp5
  show Goes _ _ _ _ (State.setTop _ (mkF _ _ _ [.int (1 : Int32)]))
  refine g_if W5 d11_40 (pcy := 47) (by decide) (pc' := 43) rfl (fun (h : (1 : Int32) = (0 : Int32)) => absurd h (by decide)) (fun _ => ?_)
  refine g_iconst W5 d11_43 (pc' := 44) rfl (v := (1 : Int32)) (by decide) ?_
  refine g_goto W5 d11_44 (pc' := 48) (by decide) ?_
  refine g_istore W5 d11_48 (pc' := 50) rfl (ls' := #[.val (.double 0), .second, .val (.double (FP.i2d e1)), .second, .val (.double (FP.i2d e2)), .second, .val (.double 0), .second, .val (.int (-1 : Int32)), .val (.int (1 : Int32)), .unset, .unset, .unset, .unset]) rfl ?_
  refine g_iload W5 d11_50 (pc' := 52) rfl rfl ?_
  refine g_if W5 d11_52 (pcy := 195) (by decide) (pc' := 55) rfl (fun _ => ?_) (fun (h : ¬ ¬ (-1 : Int32) = (0 : Int32)) => absurd h (by decide))
  refine g_iload W5 d11_195 (pc' := 197) rfl rfl ?_
  exact g_ireturn W5 d11_197 ⟨rfl, H5⟩ (by decide) (by decide)
theorem c_crzz (l : Launch) (Z : State) (a0 : Array Value) (hw : ∀ d ∈ tables_1, d.before a0 Z = true) (n0 : Nat) (e1 e2 : Int32) (h1 : e1 ∈ coL) (h2 : e2 ∈ coL) (h0 : Heap) (F : List HRow) (H00 : Hp Z n0 h0 F) :
    Con l Z n0 ⟨"com/example/narrow_bounds/narrowbounds/Share", "compareRatios", "(DDDD)I"⟩ [] prog_45_method_10_code 14 (some .int) ({ frames := 3, cells := 0, slots := 0, locals := 72 } : Room) #[.double 0, .double (FP.i2d e1), .double 0, .double (FP.i2d e2)] h0 (fun v h => v = some (.int (0)) ∧ Hp Z n0 h F) := by
  refine con_of (plainFor_of_name pn_Share) ?_
  intro p e s m below meth c T0 W0 e0
  subst e0
  have H0 := H00
  refine g_cast (ef_dddd14 m 0 (FP.i2d e1) 0 (FP.i2d e2)) ?_
  refine g_dloadN W0 d11_0 (pc' := 1) rfl rfl ?_
  refine g_dloadN W0 d11_1 (pc' := 2) rfl rfl ?_
  refine g_ddiv W0 d11_2 (pc' := 3) rfl rfl (by rw [co_dz _ h1]; exact nn_zero) ?_
  refine g_dload W0 d11_3 (pc' := 5) rfl rfl ?_
  refine g_dload W0 d11_5 (pc' := 7) rfl rfl ?_
  refine g_ddiv W0 d11_7 (pc' := 8) rfl rfl (by rw [co_dz _ h2]; exact nn_zero) ?_
  rw [show (FP.ddiv 0 (FP.i2d e1)) = 0 from co_dz _ h1]
  rw [show (FP.ddiv 0 (FP.i2d e2)) = 0 from co_dz _ h2]
  refine g_callS W0 (argsL := [.double 0, .double 0]) (st := []) (wd_77 hw) (wd_78 hw) (wd_79 hw) (wd_80 hw) (by decide) (c_ceq l Z a0 hw n0 0 nn_zero _ _ H0) pd_4 rfl rfl rfl d11_8 (pc' := 11) rfl (by decide) (Wn := 0) (Nat.le_of_eq rfl) (by decide) (kc' := 0) (ks' := 0) rfl rfl (by decide) (by decide) ?_
  intro T1 v1 W1 hp1
  obtain ⟨rfl, H1⟩ := hp1
  show Goes _ _ _ _ (State.setTop _ (mkF _ _ _ [.int (0 : Int32)]))
  refine g_istore W1 d11_11 (pc' := 13) rfl (ls' := #[.val (.double 0), .second, .val (.double (FP.i2d e1)), .second, .val (.double 0), .second, .val (.double (FP.i2d e2)), .second, .val (.int (0 : Int32)), .unset, .unset, .unset, .unset, .unset]) rfl ?_
  refine g_dloadN W1 d11_13 (pc' := 14) rfl rfl ?_
  refine g_callS W1 (argsL := [.double 0]) (st := []) (wd_90 hw) (wd_91 hw) (wd_79 hw) (wd_92 hw) (by decide) (c_isfin l Z a0 hw n0 0 fin_zero _ _ H1) pd_0 rfl rfl rfl d11_14 (pc' := 17) rfl (by decide) (Wn := 0) (Nat.le_of_eq rfl) (by decide) (kc' := 0) (ks' := 0) rfl rfl (by decide) (by decide) ?_
  intro T2 v2 W2 hp2
  obtain ⟨rfl, H2⟩ := hp2
  show Goes _ _ _ _ (State.setTop _ (mkF _ _ _ [.int (1 : Int32)]))
  refine g_if W2 d11_17 (pcy := 47) (by decide) (pc' := 20) rfl (fun (h : (1 : Int32) = (0 : Int32)) => absurd h (by decide)) (fun _ => ?_)
  refine g_dloadN W2 d11_20 (pc' := 21) rfl rfl ?_
  refine g_callS W2 (argsL := [.double (FP.i2d e1)]) (st := []) (wd_90 hw) (wd_91 hw) (wd_79 hw) (wd_92 hw) (by decide) (c_isfin l Z a0 hw n0 (FP.i2d e1) (co_fin _) _ _ H2) pd_0 rfl rfl rfl d11_21 (pc' := 24) rfl (by decide) (Wn := 0) (Nat.le_of_eq rfl) (by decide) (kc' := 0) (ks' := 0) rfl rfl (by decide) (by decide) ?_
  intro T3 v3 W3 hp3
  obtain ⟨rfl, H3⟩ := hp3
  show Goes _ _ _ _ (State.setTop _ (mkF _ _ _ [.int (1 : Int32)]))
  refine g_if W3 d11_24 (pcy := 47) (by decide) (pc' := 27) rfl (fun (h : (1 : Int32) = (0 : Int32)) => absurd h (by decide)) (fun _ => ?_)
  refine g_dload W3 d11_27 (pc' := 29) rfl rfl ?_
  refine g_callS W3 (argsL := [.double 0]) (st := []) (wd_90 hw) (wd_91 hw) (wd_79 hw) (wd_92 hw) (by decide) (c_isfin l Z a0 hw n0 0 fin_zero _ _ H3) pd_0 rfl rfl rfl d11_29 (pc' := 32) rfl (by decide) (Wn := 0) (Nat.le_of_eq rfl) (by decide) (kc' := 0) (ks' := 0) rfl rfl (by decide) (by decide) ?_
  intro T4 v4 W4 hp4
  obtain ⟨rfl, H4⟩ := hp4
  show Goes _ _ _ _ (State.setTop _ (mkF _ _ _ [.int (1 : Int32)]))
  refine g_if W4 d11_32 (pcy := 47) (by decide) (pc' := 35) rfl (fun (h : (1 : Int32) = (0 : Int32)) => absurd h (by decide)) (fun _ => ?_)
  refine g_dload W4 d11_35 (pc' := 37) rfl rfl ?_
  refine g_callS W4 (argsL := [.double (FP.i2d e2)]) (st := []) (wd_90 hw) (wd_91 hw) (wd_79 hw) (wd_92 hw) (by decide) (c_isfin l Z a0 hw n0 (FP.i2d e2) (co_fin _) _ _ H4) pd_0 rfl rfl rfl d11_37 (pc' := 40) rfl (by decide) (Wn := 0) (Nat.le_of_eq rfl) (by decide) (kc' := 0) (ks' := 0) rfl rfl (by decide) (by decide) ?_
  intro T5 v5 W5 hp5
  obtain ⟨rfl, H5⟩ := hp5
  show Goes _ _ _ _ (State.setTop _ (mkF _ _ _ [.int (1 : Int32)]))
  refine g_if W5 d11_40 (pcy := 47) (by decide) (pc' := 43) rfl (fun (h : (1 : Int32) = (0 : Int32)) => absurd h (by decide)) (fun _ => ?_)
  refine g_iconst W5 d11_43 (pc' := 44) rfl (v := (1 : Int32)) (by decide) ?_
  refine g_goto W5 d11_44 (pc' := 48) (by decide) ?_
  refine g_istore W5 d11_48 (pc' := 50) rfl (ls' := #[.val (.double 0), .second, .val (.double (FP.i2d e1)), .second, .val (.double 0), .second, .val (.double (FP.i2d e2)), .second, .val (.int (0 : Int32)), .val (.int (1 : Int32)), .unset, .unset, .unset, .unset]) rfl ?_
  refine g_iload W5 d11_50 (pc' := 52) rfl rfl ?_
  refine g_if W5 d11_52 (pcy := 195) (by decide) (pc' := 55) rfl (fun (h : ¬ (0 : Int32) = (0 : Int32)) => absurd h (by decide)) (fun _ => ?_)
  refine g_iload W5 d11_55 (pc' := 57) rfl rfl ?_
  refine g_if W5 d11_57 (pcy := 195) (by decide) (pc' := 60) rfl (fun (h : (1 : Int32) = (0 : Int32)) => absurd h (by decide)) (fun _ => ?_)
  refine g_dloadN W5 d11_60 (pc' := 61) rfl rfl ?_
  refine g_dload W5 d11_61 (pc' := 63) rfl rfl ?_
  refine g_dmul W5 d11_63 (pc' := 64) rfl rfl (by rw [co_m2 _ h2]; exact nn_zero) ?_
  refine g_dload W5 d11_64 (pc' := 66) rfl rfl ?_
  refine g_dloadN W5 d11_66 (pc' := 67) rfl rfl ?_
  refine g_dmul W5 d11_67 (pc' := 68) rfl rfl (by rw [co_m2 _ h1]; exact nn_zero) ?_
  rw [show (FP.dmul 0 (FP.i2d e2)) = 0 from co_m2 _ h2]
  rw [show (FP.dmul 0 (FP.i2d e1)) = 0 from co_m2 _ h1]
  refine g_callS W5 (argsL := [.double 0, .double 0]) (st := []) (wd_77 hw) (wd_78 hw) (wd_79 hw) (wd_80 hw) (by decide) (c_ceq l Z a0 hw n0 0 nn_zero _ _ H5) pd_4 rfl rfl rfl d11_68 (pc' := 71) rfl (by decide) (Wn := 0) (Nat.le_of_eq rfl) (by decide) (kc' := 0) (ks' := 0) rfl rfl (by decide) (by decide) ?_
  intro T6 v6 W6 hp6
  obtain ⟨rfl, H6⟩ := hp6
  show Goes _ _ _ _ (State.setTop _ (mkF _ _ _ [.int (0 : Int32)]))
  refine g_istore W6 d11_71 (pc' := 73) rfl (ls' := #[.val (.double 0), .second, .val (.double (FP.i2d e1)), .second, .val (.double 0), .second, .val (.double (FP.i2d e2)), .second, .val (.int (0 : Int32)), .val (.int (1 : Int32)), .unset, .unset, .unset, .unset]) rfl ?_
  refine g_dloadN W6 d11_73 (pc' := 74) rfl rfl ?_
  refine g_dconst0 W6 d11_74 (pc' := 75) rfl ?_
  refine g_dcmp W6 d11_75 (pc' := 76) rfl rfl ?_
  rw [show (cmpValue (FP.dcmp 0 0) .l) = (0 : Int32) from dcmpV_self nn_zero .l]
  refine g_if W6 d11_76 (pcy := 86) (by decide) (pc' := 79) rfl (fun _ => ?_) (fun (h : ¬ (0 : Int32) = (0 : Int32)) => absurd h (by decide))
  refine g_dload W6 d11_86 (pc' := 88) rfl rfl ?_
  refine g_dconst0 W6 d11_88 (pc' := 89) rfl ?_
  refine g_dcmp W6 d11_89 (pc' := 90) rfl rfl ?_
  rw [show (cmpValue (FP.dcmp 0 0) .l) = (0 : Int32) from dcmpV_self nn_zero .l]
  refine g_if W6 d11_90 (pcy := 99) (by decide) (pc' := 93) rfl (fun _ => ?_) (fun (h : ¬ (0 : Int32) = (0 : Int32)) => absurd h (by decide))
  refine g_iconst W6 d11_99 (pc' := 100) rfl (v := (1 : Int32)) (by decide) ?_
  refine g_goto W6 d11_100 (pc' := 104) (by decide) ?_
  refine g_istore W6 d11_104 (pc' := 106) rfl (ls' := #[.val (.double 0), .second, .val (.double (FP.i2d e1)), .second, .val (.double 0), .second, .val (.double (FP.i2d e2)), .second, .val (.int (0 : Int32)), .val (.int (1 : Int32)), .val (.int (1 : Int32)), .unset, .unset, .unset]) rfl ?_
  refine g_dloadN W6 d11_106 (pc' := 107) rfl rfl ?_
  refine g_dload W6 d11_107 (pc' := 109) rfl rfl ?_
  refine g_dcmp W6 d11_109 (pc' := 110) rfl rfl ?_
  rw [show (cmpValue (FP.dcmp 0 0) .l) = (0 : Int32) from dcmpV_self nn_zero .l]
  refine g_if W6 d11_110 (pcy := 124) (by decide) (pc' := 113) rfl (fun (h : ¬ (0 : Int32) = (0 : Int32)) => absurd h (by decide)) (fun _ => ?_)
  refine g_dloadN W6 d11_113 (pc' := 114) rfl rfl ?_
  refine g_dload W6 d11_114 (pc' := 116) rfl rfl ?_
  refine g_dcmp W6 d11_116 (pc' := 117) rfl rfl ?_
  refine g_if W6 d11_117 (pcy := 124) (by decide) (pc' := 120) rfl (fun (c7 : ¬ (cmpValue (FP.dcmp (FP.i2d e1) (FP.i2d e2)) .l) = (0 : Int32)) => ?_) (fun (c7 : ¬ ¬ (cmpValue (FP.dcmp (FP.i2d e1) (FP.i2d e2)) .l) = (0 : Int32)) => ?_)
  · refine g_iconst W6 d11_124 (pc' := 125) rfl (v := (0 : Int32)) (by decide) ?_
    refine g_istore W6 d11_125 (pc' := 127) rfl (ls' := #[.val (.double 0), .second, .val (.double (FP.i2d e1)), .second, .val (.double 0), .second, .val (.double (FP.i2d e2)), .second, .val (.int (0 : Int32)), .val (.int (1 : Int32)), .val (.int (1 : Int32)), .val (.int (0 : Int32)), .unset, .unset]) rfl ?_
    refine g_iload W6 d11_127 (pc' := 129) rfl rfl ?_
    refine g_if W6 d11_129 (pcy := 195) (by decide) (pc' := 132) rfl (fun (h : ¬ (0 : Int32) = (0 : Int32)) => absurd h (by decide)) (fun _ => ?_)
    refine g_iload W6 d11_132 (pc' := 134) rfl rfl ?_
    refine g_if W6 d11_134 (pcy := 195) (by decide) (pc' := 137) rfl (fun _ => ?_) (fun (h : ¬ ¬ (1 : Int32) = (0 : Int32)) => absurd h (by decide))
    refine g_iload W6 d11_195 (pc' := 197) rfl rfl ?_
    exact g_ireturn W6 d11_197 ⟨rfl, H6⟩ (by decide) (by decide)
  · replace c7 := Classical.not_not.mp c7
    refine g_iconst W6 d11_120 (pc' := 121) rfl (v := (1 : Int32)) (by decide) ?_
    refine g_goto W6 d11_121 (pc' := 125) (by decide) ?_
    refine g_istore W6 d11_125 (pc' := 127) rfl (ls' := #[.val (.double 0), .second, .val (.double (FP.i2d e1)), .second, .val (.double 0), .second, .val (.double (FP.i2d e2)), .second, .val (.int (0 : Int32)), .val (.int (1 : Int32)), .val (.int (1 : Int32)), .val (.int (1 : Int32)), .unset, .unset]) rfl ?_
    refine g_iload W6 d11_127 (pc' := 129) rfl rfl ?_
    refine g_if W6 d11_129 (pcy := 195) (by decide) (pc' := 132) rfl (fun (h : ¬ (0 : Int32) = (0 : Int32)) => absurd h (by decide)) (fun _ => ?_)
    refine g_iload W6 d11_132 (pc' := 134) rfl rfl ?_
    refine g_if W6 d11_134 (pcy := 195) (by decide) (pc' := 137) rfl (fun _ => ?_) (fun (h : ¬ ¬ (1 : Int32) = (0 : Int32)) => absurd h (by decide))
    refine g_iload W6 d11_195 (pc' := 197) rfl rfl ?_
    exact g_ireturn W6 d11_197 ⟨rfl, H6⟩ (by decide) (by decide)
theorem c_cb0oo (l : Launch) (Z : State) (a0 : Array Value) (hw : ∀ d ∈ tables_1, d.before a0 Z = true) (n0 : Nat) (sh loA hiA owA otA liA raA olA ohA zlA zhA : Addr) (ru : Int32) (fo fz : UInt64) (at0 : Int32) (ka kb : Int32) (ia ib : Nat) (hia : ka.toInt = (ia : Int)) (hib : kb.toInt = (ib : Int)) (ow ot : List Value) (e1 e2 : Int32) (h1 : e1 ∈ coL) (h2 : e2 ∈ coL) (wa : ow[ia]? = some (.double (FP.i2d e1))) (za : ot[ia]? = some (.double 0)) (wb : ow[ib]? = some (.double (FP.i2d e2))) (zb : ot[ib]? = some (.double 0))  (h0 : Heap) (F : List HRow) (H00 : Hp Z n0 h0 ((sh, ObC Z "com/example/narrow_bounds/narrowbounds/Share" (fs_Share (.ref loA) (.ref hiA) (.int (0 : Int32)) (.int ru) (.ref owA) (.ref otA) (.ref liA) (.ref raA) (.ref olA) (.ref ohA) (.ref zlA) (.ref zhA) (.double fo) (.double fz) (.int (2 : Int32)) (.int at0))) :: (owA, ArC Z .double ow) :: (otA, ArC Z .double ot) :: F)) :
    Con l Z n0 ⟨"com/example/narrow_bounds/narrowbounds/Share", "comesBefore", "(II)Z"⟩ [] prog_45_method_9_code 4 (some .boolean) ({ frames := 4, cells := 0, slots := 0, locals := 97 } : Room) #[.ref sh, .int ka, .int kb] h0 (fun v h => v = some (.int 0) ∧ Hp Z n0 h ((sh, ObC Z "com/example/narrow_bounds/narrowbounds/Share" (fs_Share (.ref loA) (.ref hiA) (.int (0 : Int32)) (.int ru) (.ref owA) (.ref otA) (.ref liA) (.ref raA) (.ref olA) (.ref ohA) (.ref zlA) (.ref zhA) (.double fo) (.double fz) (.int (2 : Int32)) (.int at0))) :: (owA, ArC Z .double ow) :: (otA, ArC Z .double ot) :: F)) := by
  refine con_of (plainFor_of_name pn_Share) ?_
  intro p e s m below meth c T0 W0 e0
  subst e0
  have H0 := H00
  refine g_cast (ef_rii4 m sh ka kb) ?_
  refine g_aloadN W0 d10_0 (pc' := 1) rfl rfl rfl ?_
  refine g_getf W0 (wd_18 hw) Via.refl H0 (i := 0) rfl (jx := 4) rfl d10_1 (pc' := 4) rfl ?_
  intro T1 W1 H1
  refine g_iloadN W1 d10_4 (pc' := 5) rfl rfl ?_
  refine g_daload W1 H1 (i := 1) rfl (jx := ia) hia (v := .double (FP.i2d e1)) wa d10_5 (pc' := 6) rfl ?_
  refine g_aloadN W1 d10_6 (pc' := 7) rfl rfl rfl ?_
  refine g_getf W1 (wd_20 hw) Via.refl H1 (i := 0) rfl (jx := 5) rfl d10_7 (pc' := 10) rfl ?_
  intro T2 W2 H2
  refine g_iloadN W2 d10_10 (pc' := 11) rfl rfl ?_
  refine g_daload W2 H2 (i := 2) rfl (jx := ia) hia (v := .double 0) za d10_11 (pc' := 12) rfl ?_
  refine g_aloadN W2 d10_12 (pc' := 13) rfl rfl rfl ?_
  refine g_getf W2 (wd_18 hw) Via.refl H2 (i := 0) rfl (jx := 4) rfl d10_13 (pc' := 16) rfl ?_
  intro T3 W3 H3
  refine g_iloadN W3 d10_16 (pc' := 17) rfl rfl ?_
  refine g_daload W3 H3 (i := 1) rfl (jx := ib) hib (v := .double (FP.i2d e2)) wb d10_17 (pc' := 18) rfl ?_
  refine g_aloadN W3 d10_18 (pc' := 19) rfl rfl rfl ?_
  refine g_getf W3 (wd_20 hw) Via.refl H3 (i := 0) rfl (jx := 5) rfl d10_19 (pc' := 22) rfl ?_
  intro T4 W4 H4
  refine g_iloadN W4 d10_22 (pc' := 23) rfl rfl ?_
  refine g_daload W4 H4 (i := 2) rfl (jx := ib) hib (v := .double 0) zb d10_23 (pc' := 24) rfl ?_
  refine g_callS W4 (argsL := [.double (FP.i2d e1), .double 0, .double (FP.i2d e2), .double 0]) (st := []) (wd_74 hw) (wd_75 hw) (wd_3 hw) (wd_76 hw) (by decide) (c_croo l Z a0 hw n0 e1 e2 h1 h2 _ _ H4) pd_5 rfl rfl rfl d10_24 (pc' := 27) rfl (by decide) (Wn := 0) (Nat.le_of_eq rfl) (by decide) (kc' := 0) (ks' := 0) rfl rfl (by decide) (by decide) ?_
  intro T5 v5 W5 hp5
  obtain ⟨rfl, H5⟩ := hp5
  show Goes _ _ _ _ (State.setTop _ (mkF _ _ _ [.int (0 : Int32)]))
  refine g_istoreN W5 d10_27 (pc' := 28) rfl (ls' := #[.val (.ref sh), .val (.int ka), .val (.int kb), .val (.int (0 : Int32))]) rfl ?_
  refine g_aloadN W5 d10_28 (pc' := 29) rfl rfl rfl ?_
  refine g_getf W5 (wd_14 hw) Via.refl H5 (i := 0) rfl (jx := 2) rfl d10_29 (pc' := 32) rfl ?_
  intro T6 W6 H6
  refine g_if W6 d10_32 (pcy := 47) (by decide) (pc' := 35) rfl (fun _ => ?_) (fun (h : ¬ (0 : Int32) = (0 : Int32)) => absurd h (by decide))
  refine g_iloadN W6 d10_47 (pc' := 48) rfl rfl ?_
  refine g_if W6 d10_48 (pcy := 55) (by decide) (pc' := 51) rfl (fun _ => ?_) (fun (h : ¬ ¬ (0 : Int32) < (0 : Int32)) => absurd h (by decide))
  refine g_iconst W6 d10_55 (pc' := 56) rfl (v := (0 : Int32)) (by decide) ?_
  exact g_zreturn W6 (by decide) d10_56 ⟨rfl, H6⟩ (by decide) (by decide)
theorem c_cb0oz (l : Launch) (Z : State) (a0 : Array Value) (hw : ∀ d ∈ tables_1, d.before a0 Z = true) (n0 : Nat) (sh loA hiA owA otA liA raA olA ohA zlA zhA : Addr) (ru : Int32) (fo fz : UInt64) (at0 : Int32) (ka kb : Int32) (ia ib : Nat) (hia : ka.toInt = (ia : Int)) (hib : kb.toInt = (ib : Int)) (ow ot : List Value) (e1 e2 : Int32) (h1 : e1 ∈ coL) (h2 : e2 ∈ coL) (wa : ow[ia]? = some (.double (FP.i2d e1))) (za : ot[ia]? = some (.double 0)) (wb : ow[ib]? = some (.double 0)) (zb : ot[ib]? = some (.double (FP.i2d e2)))  (h0 : Heap) (F : List HRow) (H00 : Hp Z n0 h0 ((sh, ObC Z "com/example/narrow_bounds/narrowbounds/Share" (fs_Share (.ref loA) (.ref hiA) (.int (0 : Int32)) (.int ru) (.ref owA) (.ref otA) (.ref liA) (.ref raA) (.ref olA) (.ref ohA) (.ref zlA) (.ref zhA) (.double fo) (.double fz) (.int (2 : Int32)) (.int at0))) :: (owA, ArC Z .double ow) :: (otA, ArC Z .double ot) :: F)) :
    Con l Z n0 ⟨"com/example/narrow_bounds/narrowbounds/Share", "comesBefore", "(II)Z"⟩ [] prog_45_method_9_code 4 (some .boolean) ({ frames := 3, cells := 0, slots := 0, locals := 78 } : Room) #[.ref sh, .int ka, .int kb] h0 (fun v h => v = some (.int 0) ∧ Hp Z n0 h ((sh, ObC Z "com/example/narrow_bounds/narrowbounds/Share" (fs_Share (.ref loA) (.ref hiA) (.int (0 : Int32)) (.int ru) (.ref owA) (.ref otA) (.ref liA) (.ref raA) (.ref olA) (.ref ohA) (.ref zlA) (.ref zhA) (.double fo) (.double fz) (.int (2 : Int32)) (.int at0))) :: (owA, ArC Z .double ow) :: (otA, ArC Z .double ot) :: F)) := by
  refine con_of (plainFor_of_name pn_Share) ?_
  intro p e s m below meth c T0 W0 e0
  subst e0
  have H0 := H00
  refine g_cast (ef_rii4 m sh ka kb) ?_
  refine g_aloadN W0 d10_0 (pc' := 1) rfl rfl rfl ?_
  refine g_getf W0 (wd_18 hw) Via.refl H0 (i := 0) rfl (jx := 4) rfl d10_1 (pc' := 4) rfl ?_
  intro T1 W1 H1
  refine g_iloadN W1 d10_4 (pc' := 5) rfl rfl ?_
  refine g_daload W1 H1 (i := 1) rfl (jx := ia) hia (v := .double (FP.i2d e1)) wa d10_5 (pc' := 6) rfl ?_
  refine g_aloadN W1 d10_6 (pc' := 7) rfl rfl rfl ?_
  refine g_getf W1 (wd_20 hw) Via.refl H1 (i := 0) rfl (jx := 5) rfl d10_7 (pc' := 10) rfl ?_
  intro T2 W2 H2
  refine g_iloadN W2 d10_10 (pc' := 11) rfl rfl ?_
  refine g_daload W2 H2 (i := 2) rfl (jx := ia) hia (v := .double 0) za d10_11 (pc' := 12) rfl ?_
  refine g_aloadN W2 d10_12 (pc' := 13) rfl rfl rfl ?_
  refine g_getf W2 (wd_18 hw) Via.refl H2 (i := 0) rfl (jx := 4) rfl d10_13 (pc' := 16) rfl ?_
  intro T3 W3 H3
  refine g_iloadN W3 d10_16 (pc' := 17) rfl rfl ?_
  refine g_daload W3 H3 (i := 1) rfl (jx := ib) hib (v := .double 0) wb d10_17 (pc' := 18) rfl ?_
  refine g_aloadN W3 d10_18 (pc' := 19) rfl rfl rfl ?_
  refine g_getf W3 (wd_20 hw) Via.refl H3 (i := 0) rfl (jx := 5) rfl d10_19 (pc' := 22) rfl ?_
  intro T4 W4 H4
  refine g_iloadN W4 d10_22 (pc' := 23) rfl rfl ?_
  refine g_daload W4 H4 (i := 2) rfl (jx := ib) hib (v := .double (FP.i2d e2)) zb d10_23 (pc' := 24) rfl ?_
  refine g_callS W4 (argsL := [.double (FP.i2d e1), .double 0, .double 0, .double (FP.i2d e2)]) (st := []) (wd_74 hw) (wd_75 hw) (wd_3 hw) (wd_76 hw) (by decide) (c_croz l Z a0 hw n0 e1 e2 h1 h2 _ _ H4) pd_5 rfl rfl rfl d10_24 (pc' := 27) rfl (by decide) (Wn := 0) (Nat.le_of_eq rfl) (by decide) (kc' := 0) (ks' := 0) rfl rfl (by decide) (by decide) ?_
  intro T5 v5 W5 hp5
  obtain ⟨rfl, H5⟩ := hp5
  show Goes _ _ _ _ (State.setTop _ (mkF _ _ _ [.int (1 : Int32)]))
  refine g_istoreN W5 d10_27 (pc' := 28) rfl (ls' := #[.val (.ref sh), .val (.int ka), .val (.int kb), .val (.int (1 : Int32))]) rfl ?_
  refine g_aloadN W5 d10_28 (pc' := 29) rfl rfl rfl ?_
  refine g_getf W5 (wd_14 hw) Via.refl H5 (i := 0) rfl (jx := 2) rfl d10_29 (pc' := 32) rfl ?_
  intro T6 W6 H6
  refine g_if W6 d10_32 (pcy := 47) (by decide) (pc' := 35) rfl (fun _ => ?_) (fun (h : ¬ (0 : Int32) = (0 : Int32)) => absurd h (by decide))
  refine g_iloadN W6 d10_47 (pc' := 48) rfl rfl ?_
  refine g_if W6 d10_48 (pcy := 55) (by decide) (pc' := 51) rfl (fun _ => ?_) (fun (h : ¬ ¬ (1 : Int32) < (0 : Int32)) => absurd h (by decide))
  refine g_iconst W6 d10_55 (pc' := 56) rfl (v := (0 : Int32)) (by decide) ?_
  exact g_zreturn W6 (by decide) d10_56 ⟨rfl, H6⟩ (by decide) (by decide)
theorem c_cb0zo (l : Launch) (Z : State) (a0 : Array Value) (hw : ∀ d ∈ tables_1, d.before a0 Z = true) (n0 : Nat) (sh loA hiA owA otA liA raA olA ohA zlA zhA : Addr) (ru : Int32) (fo fz : UInt64) (at0 : Int32) (ka kb : Int32) (ia ib : Nat) (hia : ka.toInt = (ia : Int)) (hib : kb.toInt = (ib : Int)) (ow ot : List Value) (e1 e2 : Int32) (h1 : e1 ∈ coL) (h2 : e2 ∈ coL) (wa : ow[ia]? = some (.double 0)) (za : ot[ia]? = some (.double (FP.i2d e1))) (wb : ow[ib]? = some (.double (FP.i2d e2))) (zb : ot[ib]? = some (.double 0))  (h0 : Heap) (F : List HRow) (H00 : Hp Z n0 h0 ((sh, ObC Z "com/example/narrow_bounds/narrowbounds/Share" (fs_Share (.ref loA) (.ref hiA) (.int (0 : Int32)) (.int ru) (.ref owA) (.ref otA) (.ref liA) (.ref raA) (.ref olA) (.ref ohA) (.ref zlA) (.ref zhA) (.double fo) (.double fz) (.int (2 : Int32)) (.int at0))) :: (owA, ArC Z .double ow) :: (otA, ArC Z .double ot) :: F)) :
    Con l Z n0 ⟨"com/example/narrow_bounds/narrowbounds/Share", "comesBefore", "(II)Z"⟩ [] prog_45_method_9_code 4 (some .boolean) ({ frames := 3, cells := 0, slots := 0, locals := 78 } : Room) #[.ref sh, .int ka, .int kb] h0 (fun v h => v = some (.int 1) ∧ Hp Z n0 h ((sh, ObC Z "com/example/narrow_bounds/narrowbounds/Share" (fs_Share (.ref loA) (.ref hiA) (.int (0 : Int32)) (.int ru) (.ref owA) (.ref otA) (.ref liA) (.ref raA) (.ref olA) (.ref ohA) (.ref zlA) (.ref zhA) (.double fo) (.double fz) (.int (2 : Int32)) (.int at0))) :: (owA, ArC Z .double ow) :: (otA, ArC Z .double ot) :: F)) := by
  refine con_of (plainFor_of_name pn_Share) ?_
  intro p e s m below meth c T0 W0 e0
  subst e0
  have H0 := H00
  refine g_cast (ef_rii4 m sh ka kb) ?_
  refine g_aloadN W0 d10_0 (pc' := 1) rfl rfl rfl ?_
  refine g_getf W0 (wd_18 hw) Via.refl H0 (i := 0) rfl (jx := 4) rfl d10_1 (pc' := 4) rfl ?_
  intro T1 W1 H1
  refine g_iloadN W1 d10_4 (pc' := 5) rfl rfl ?_
  refine g_daload W1 H1 (i := 1) rfl (jx := ia) hia (v := .double 0) wa d10_5 (pc' := 6) rfl ?_
  refine g_aloadN W1 d10_6 (pc' := 7) rfl rfl rfl ?_
  refine g_getf W1 (wd_20 hw) Via.refl H1 (i := 0) rfl (jx := 5) rfl d10_7 (pc' := 10) rfl ?_
  intro T2 W2 H2
  refine g_iloadN W2 d10_10 (pc' := 11) rfl rfl ?_
  refine g_daload W2 H2 (i := 2) rfl (jx := ia) hia (v := .double (FP.i2d e1)) za d10_11 (pc' := 12) rfl ?_
  refine g_aloadN W2 d10_12 (pc' := 13) rfl rfl rfl ?_
  refine g_getf W2 (wd_18 hw) Via.refl H2 (i := 0) rfl (jx := 4) rfl d10_13 (pc' := 16) rfl ?_
  intro T3 W3 H3
  refine g_iloadN W3 d10_16 (pc' := 17) rfl rfl ?_
  refine g_daload W3 H3 (i := 1) rfl (jx := ib) hib (v := .double (FP.i2d e2)) wb d10_17 (pc' := 18) rfl ?_
  refine g_aloadN W3 d10_18 (pc' := 19) rfl rfl rfl ?_
  refine g_getf W3 (wd_20 hw) Via.refl H3 (i := 0) rfl (jx := 5) rfl d10_19 (pc' := 22) rfl ?_
  intro T4 W4 H4
  refine g_iloadN W4 d10_22 (pc' := 23) rfl rfl ?_
  refine g_daload W4 H4 (i := 2) rfl (jx := ib) hib (v := .double 0) zb d10_23 (pc' := 24) rfl ?_
  refine g_callS W4 (argsL := [.double 0, .double (FP.i2d e1), .double (FP.i2d e2), .double 0]) (st := []) (wd_74 hw) (wd_75 hw) (wd_3 hw) (wd_76 hw) (by decide) (c_crzo l Z a0 hw n0 e1 e2 h1 h2 _ _ H4) pd_5 rfl rfl rfl d10_24 (pc' := 27) rfl (by decide) (Wn := 0) (Nat.le_of_eq rfl) (by decide) (kc' := 0) (ks' := 0) rfl rfl (by decide) (by decide) ?_
  intro T5 v5 W5 hp5
  obtain ⟨rfl, H5⟩ := hp5
  show Goes _ _ _ _ (State.setTop _ (mkF _ _ _ [.int (-1 : Int32)]))
  refine g_istoreN W5 d10_27 (pc' := 28) rfl (ls' := #[.val (.ref sh), .val (.int ka), .val (.int kb), .val (.int (-1 : Int32))]) rfl ?_
  refine g_aloadN W5 d10_28 (pc' := 29) rfl rfl rfl ?_
  refine g_getf W5 (wd_14 hw) Via.refl H5 (i := 0) rfl (jx := 2) rfl d10_29 (pc' := 32) rfl ?_
  intro T6 W6 H6
  refine g_if W6 d10_32 (pcy := 47) (by decide) (pc' := 35) rfl (fun _ => ?_) (fun (h : ¬ (0 : Int32) = (0 : Int32)) => absurd h (by decide))
  refine g_iloadN W6 d10_47 (pc' := 48) rfl rfl ?_
  refine g_if W6 d10_48 (pcy := 55) (by decide) (pc' := 51) rfl (fun (h : ¬ (-1 : Int32) < (0 : Int32)) => absurd h (by decide)) (fun _ => ?_)
  refine g_iconst W6 d10_51 (pc' := 52) rfl (v := (1 : Int32)) (by decide) ?_
  refine g_goto W6 d10_52 (pc' := 56) (by decide) ?_
  exact g_zreturn W6 (by decide) d10_56 ⟨rfl, H6⟩ (by decide) (by decide)
theorem c_cb0zz (l : Launch) (Z : State) (a0 : Array Value) (hw : ∀ d ∈ tables_1, d.before a0 Z = true) (n0 : Nat) (sh loA hiA owA otA liA raA olA ohA zlA zhA : Addr) (ru : Int32) (fo fz : UInt64) (at0 : Int32) (ka kb : Int32) (ia ib : Nat) (hia : ka.toInt = (ia : Int)) (hib : kb.toInt = (ib : Int)) (ow ot : List Value) (e1 e2 : Int32) (h1 : e1 ∈ coL) (h2 : e2 ∈ coL) (wa : ow[ia]? = some (.double 0)) (za : ot[ia]? = some (.double (FP.i2d e1))) (wb : ow[ib]? = some (.double 0)) (zb : ot[ib]? = some (.double (FP.i2d e2)))  (h0 : Heap) (F : List HRow) (H00 : Hp Z n0 h0 ((sh, ObC Z "com/example/narrow_bounds/narrowbounds/Share" (fs_Share (.ref loA) (.ref hiA) (.int (0 : Int32)) (.int ru) (.ref owA) (.ref otA) (.ref liA) (.ref raA) (.ref olA) (.ref ohA) (.ref zlA) (.ref zhA) (.double fo) (.double fz) (.int (2 : Int32)) (.int at0))) :: (owA, ArC Z .double ow) :: (otA, ArC Z .double ot) :: F)) :
    Con l Z n0 ⟨"com/example/narrow_bounds/narrowbounds/Share", "comesBefore", "(II)Z"⟩ [] prog_45_method_9_code 4 (some .boolean) ({ frames := 4, cells := 0, slots := 0, locals := 97 } : Room) #[.ref sh, .int ka, .int kb] h0 (fun v h => v = some (.int 0) ∧ Hp Z n0 h ((sh, ObC Z "com/example/narrow_bounds/narrowbounds/Share" (fs_Share (.ref loA) (.ref hiA) (.int (0 : Int32)) (.int ru) (.ref owA) (.ref otA) (.ref liA) (.ref raA) (.ref olA) (.ref ohA) (.ref zlA) (.ref zhA) (.double fo) (.double fz) (.int (2 : Int32)) (.int at0))) :: (owA, ArC Z .double ow) :: (otA, ArC Z .double ot) :: F)) := by
  refine con_of (plainFor_of_name pn_Share) ?_
  intro p e s m below meth c T0 W0 e0
  subst e0
  have H0 := H00
  refine g_cast (ef_rii4 m sh ka kb) ?_
  refine g_aloadN W0 d10_0 (pc' := 1) rfl rfl rfl ?_
  refine g_getf W0 (wd_18 hw) Via.refl H0 (i := 0) rfl (jx := 4) rfl d10_1 (pc' := 4) rfl ?_
  intro T1 W1 H1
  refine g_iloadN W1 d10_4 (pc' := 5) rfl rfl ?_
  refine g_daload W1 H1 (i := 1) rfl (jx := ia) hia (v := .double 0) wa d10_5 (pc' := 6) rfl ?_
  refine g_aloadN W1 d10_6 (pc' := 7) rfl rfl rfl ?_
  refine g_getf W1 (wd_20 hw) Via.refl H1 (i := 0) rfl (jx := 5) rfl d10_7 (pc' := 10) rfl ?_
  intro T2 W2 H2
  refine g_iloadN W2 d10_10 (pc' := 11) rfl rfl ?_
  refine g_daload W2 H2 (i := 2) rfl (jx := ia) hia (v := .double (FP.i2d e1)) za d10_11 (pc' := 12) rfl ?_
  refine g_aloadN W2 d10_12 (pc' := 13) rfl rfl rfl ?_
  refine g_getf W2 (wd_18 hw) Via.refl H2 (i := 0) rfl (jx := 4) rfl d10_13 (pc' := 16) rfl ?_
  intro T3 W3 H3
  refine g_iloadN W3 d10_16 (pc' := 17) rfl rfl ?_
  refine g_daload W3 H3 (i := 1) rfl (jx := ib) hib (v := .double 0) wb d10_17 (pc' := 18) rfl ?_
  refine g_aloadN W3 d10_18 (pc' := 19) rfl rfl rfl ?_
  refine g_getf W3 (wd_20 hw) Via.refl H3 (i := 0) rfl (jx := 5) rfl d10_19 (pc' := 22) rfl ?_
  intro T4 W4 H4
  refine g_iloadN W4 d10_22 (pc' := 23) rfl rfl ?_
  refine g_daload W4 H4 (i := 2) rfl (jx := ib) hib (v := .double (FP.i2d e2)) zb d10_23 (pc' := 24) rfl ?_
  refine g_callS W4 (argsL := [.double 0, .double (FP.i2d e1), .double 0, .double (FP.i2d e2)]) (st := []) (wd_74 hw) (wd_75 hw) (wd_3 hw) (wd_76 hw) (by decide) (c_crzz l Z a0 hw n0 e1 e2 h1 h2 _ _ H4) pd_5 rfl rfl rfl d10_24 (pc' := 27) rfl (by decide) (Wn := 0) (Nat.le_of_eq rfl) (by decide) (kc' := 0) (ks' := 0) rfl rfl (by decide) (by decide) ?_
  intro T5 v5 W5 hp5
  obtain ⟨rfl, H5⟩ := hp5
  show Goes _ _ _ _ (State.setTop _ (mkF _ _ _ [.int (0 : Int32)]))
  refine g_istoreN W5 d10_27 (pc' := 28) rfl (ls' := #[.val (.ref sh), .val (.int ka), .val (.int kb), .val (.int (0 : Int32))]) rfl ?_
  refine g_aloadN W5 d10_28 (pc' := 29) rfl rfl rfl ?_
  refine g_getf W5 (wd_14 hw) Via.refl H5 (i := 0) rfl (jx := 2) rfl d10_29 (pc' := 32) rfl ?_
  intro T6 W6 H6
  refine g_if W6 d10_32 (pcy := 47) (by decide) (pc' := 35) rfl (fun _ => ?_) (fun (h : ¬ (0 : Int32) = (0 : Int32)) => absurd h (by decide))
  refine g_iloadN W6 d10_47 (pc' := 48) rfl rfl ?_
  refine g_if W6 d10_48 (pcy := 55) (by decide) (pc' := 51) rfl (fun _ => ?_) (fun (h : ¬ ¬ (0 : Int32) < (0 : Int32)) => absurd h (by decide))
  refine g_iconst W6 d10_55 (pc' := 56) rfl (v := (0 : Int32)) (by decide) ?_
  exact g_zreturn W6 (by decide) d10_56 ⟨rfl, H6⟩ (by decide) (by decide)
theorem c_cb1oo (l : Launch) (Z : State) (a0 : Array Value) (hw : ∀ d ∈ tables_1, d.before a0 Z = true) (n0 : Nat) (sh loA hiA owA otA liA raA olA ohA zlA zhA : Addr) (ru : Int32) (fo fz : UInt64) (at0 : Int32) (ka kb : Int32) (ia ib : Nat) (hia : ka.toInt = (ia : Int)) (hib : kb.toInt = (ib : Int)) (ow ot : List Value) (e1 e2 : Int32) (h1 : e1 ∈ coL) (h2 : e2 ∈ coL) (wa : ow[ia]? = some (.double (FP.i2d e1))) (za : ot[ia]? = some (.double 0)) (wb : ow[ib]? = some (.double (FP.i2d e2))) (zb : ot[ib]? = some (.double 0))  (h0 : Heap) (F : List HRow) (H00 : Hp Z n0 h0 ((sh, ObC Z "com/example/narrow_bounds/narrowbounds/Share" (fs_Share (.ref loA) (.ref hiA) (.int (1 : Int32)) (.int ru) (.ref owA) (.ref otA) (.ref liA) (.ref raA) (.ref olA) (.ref ohA) (.ref zlA) (.ref zhA) (.double fo) (.double fz) (.int (2 : Int32)) (.int at0))) :: (owA, ArC Z .double ow) :: (otA, ArC Z .double ot) :: F)) :
    Con l Z n0 ⟨"com/example/narrow_bounds/narrowbounds/Share", "comesBefore", "(II)Z"⟩ [] prog_45_method_9_code 4 (some .boolean) ({ frames := 4, cells := 0, slots := 0, locals := 97 } : Room) #[.ref sh, .int ka, .int kb] h0 (fun v h => v = some (.int 0) ∧ Hp Z n0 h ((sh, ObC Z "com/example/narrow_bounds/narrowbounds/Share" (fs_Share (.ref loA) (.ref hiA) (.int (1 : Int32)) (.int ru) (.ref owA) (.ref otA) (.ref liA) (.ref raA) (.ref olA) (.ref ohA) (.ref zlA) (.ref zhA) (.double fo) (.double fz) (.int (2 : Int32)) (.int at0))) :: (owA, ArC Z .double ow) :: (otA, ArC Z .double ot) :: F)) := by
  refine con_of (plainFor_of_name pn_Share) ?_
  intro p e s m below meth c T0 W0 e0
  subst e0
  have H0 := H00
  refine g_cast (ef_rii4 m sh ka kb) ?_
  refine g_aloadN W0 d10_0 (pc' := 1) rfl rfl rfl ?_
  refine g_getf W0 (wd_18 hw) Via.refl H0 (i := 0) rfl (jx := 4) rfl d10_1 (pc' := 4) rfl ?_
  intro T1 W1 H1
  refine g_iloadN W1 d10_4 (pc' := 5) rfl rfl ?_
  refine g_daload W1 H1 (i := 1) rfl (jx := ia) hia (v := .double (FP.i2d e1)) wa d10_5 (pc' := 6) rfl ?_
  refine g_aloadN W1 d10_6 (pc' := 7) rfl rfl rfl ?_
  refine g_getf W1 (wd_20 hw) Via.refl H1 (i := 0) rfl (jx := 5) rfl d10_7 (pc' := 10) rfl ?_
  intro T2 W2 H2
  refine g_iloadN W2 d10_10 (pc' := 11) rfl rfl ?_
  refine g_daload W2 H2 (i := 2) rfl (jx := ia) hia (v := .double 0) za d10_11 (pc' := 12) rfl ?_
  refine g_aloadN W2 d10_12 (pc' := 13) rfl rfl rfl ?_
  refine g_getf W2 (wd_18 hw) Via.refl H2 (i := 0) rfl (jx := 4) rfl d10_13 (pc' := 16) rfl ?_
  intro T3 W3 H3
  refine g_iloadN W3 d10_16 (pc' := 17) rfl rfl ?_
  refine g_daload W3 H3 (i := 1) rfl (jx := ib) hib (v := .double (FP.i2d e2)) wb d10_17 (pc' := 18) rfl ?_
  refine g_aloadN W3 d10_18 (pc' := 19) rfl rfl rfl ?_
  refine g_getf W3 (wd_20 hw) Via.refl H3 (i := 0) rfl (jx := 5) rfl d10_19 (pc' := 22) rfl ?_
  intro T4 W4 H4
  refine g_iloadN W4 d10_22 (pc' := 23) rfl rfl ?_
  refine g_daload W4 H4 (i := 2) rfl (jx := ib) hib (v := .double 0) zb d10_23 (pc' := 24) rfl ?_
  refine g_callS W4 (argsL := [.double (FP.i2d e1), .double 0, .double (FP.i2d e2), .double 0]) (st := []) (wd_74 hw) (wd_75 hw) (wd_3 hw) (wd_76 hw) (by decide) (c_croo l Z a0 hw n0 e1 e2 h1 h2 _ _ H4) pd_5 rfl rfl rfl d10_24 (pc' := 27) rfl (by decide) (Wn := 0) (Nat.le_of_eq rfl) (by decide) (kc' := 0) (ks' := 0) rfl rfl (by decide) (by decide) ?_
  intro T5 v5 W5 hp5
  obtain ⟨rfl, H5⟩ := hp5
  show Goes _ _ _ _ (State.setTop _ (mkF _ _ _ [.int (0 : Int32)]))
  refine g_istoreN W5 d10_27 (pc' := 28) rfl (ls' := #[.val (.ref sh), .val (.int ka), .val (.int kb), .val (.int (0 : Int32))]) rfl ?_
  refine g_aloadN W5 d10_28 (pc' := 29) rfl rfl rfl ?_
  refine g_getf W5 (wd_14 hw) Via.refl H5 (i := 0) rfl (jx := 2) rfl d10_29 (pc' := 32) rfl ?_
  intro T6 W6 H6
  refine g_if W6 d10_32 (pcy := 47) (by decide) (pc' := 35) rfl (fun (h : (1 : Int32) = (0 : Int32)) => absurd h (by decide)) (fun _ => ?_)
  refine g_iloadN W6 d10_35 (pc' := 36) rfl rfl ?_
  refine g_if W6 d10_36 (pcy := 43) (by decide) (pc' := 39) rfl (fun _ => ?_) (fun (h : ¬ ¬ (0 : Int32) < (0 : Int32)) => absurd h (by decide))
  refine g_iconst W6 d10_43 (pc' := 44) rfl (v := (0 : Int32)) (by decide) ?_
  refine g_goto W6 d10_44 (pc' := 56) (by decide) ?_
  exact g_zreturn W6 (by decide) d10_56 ⟨rfl, H6⟩ (by decide) (by decide)
theorem c_cb1oz (l : Launch) (Z : State) (a0 : Array Value) (hw : ∀ d ∈ tables_1, d.before a0 Z = true) (n0 : Nat) (sh loA hiA owA otA liA raA olA ohA zlA zhA : Addr) (ru : Int32) (fo fz : UInt64) (at0 : Int32) (ka kb : Int32) (ia ib : Nat) (hia : ka.toInt = (ia : Int)) (hib : kb.toInt = (ib : Int)) (ow ot : List Value) (e1 e2 : Int32) (h1 : e1 ∈ coL) (h2 : e2 ∈ coL) (wa : ow[ia]? = some (.double (FP.i2d e1))) (za : ot[ia]? = some (.double 0)) (wb : ow[ib]? = some (.double 0)) (zb : ot[ib]? = some (.double (FP.i2d e2)))  (h0 : Heap) (F : List HRow) (H00 : Hp Z n0 h0 ((sh, ObC Z "com/example/narrow_bounds/narrowbounds/Share" (fs_Share (.ref loA) (.ref hiA) (.int (1 : Int32)) (.int ru) (.ref owA) (.ref otA) (.ref liA) (.ref raA) (.ref olA) (.ref ohA) (.ref zlA) (.ref zhA) (.double fo) (.double fz) (.int (2 : Int32)) (.int at0))) :: (owA, ArC Z .double ow) :: (otA, ArC Z .double ot) :: F)) :
    Con l Z n0 ⟨"com/example/narrow_bounds/narrowbounds/Share", "comesBefore", "(II)Z"⟩ [] prog_45_method_9_code 4 (some .boolean) ({ frames := 3, cells := 0, slots := 0, locals := 78 } : Room) #[.ref sh, .int ka, .int kb] h0 (fun v h => v = some (.int 1) ∧ Hp Z n0 h ((sh, ObC Z "com/example/narrow_bounds/narrowbounds/Share" (fs_Share (.ref loA) (.ref hiA) (.int (1 : Int32)) (.int ru) (.ref owA) (.ref otA) (.ref liA) (.ref raA) (.ref olA) (.ref ohA) (.ref zlA) (.ref zhA) (.double fo) (.double fz) (.int (2 : Int32)) (.int at0))) :: (owA, ArC Z .double ow) :: (otA, ArC Z .double ot) :: F)) := by
  refine con_of (plainFor_of_name pn_Share) ?_
  intro p e s m below meth c T0 W0 e0
  subst e0
  have H0 := H00
  refine g_cast (ef_rii4 m sh ka kb) ?_
  refine g_aloadN W0 d10_0 (pc' := 1) rfl rfl rfl ?_
  refine g_getf W0 (wd_18 hw) Via.refl H0 (i := 0) rfl (jx := 4) rfl d10_1 (pc' := 4) rfl ?_
  intro T1 W1 H1
  refine g_iloadN W1 d10_4 (pc' := 5) rfl rfl ?_
  refine g_daload W1 H1 (i := 1) rfl (jx := ia) hia (v := .double (FP.i2d e1)) wa d10_5 (pc' := 6) rfl ?_
  refine g_aloadN W1 d10_6 (pc' := 7) rfl rfl rfl ?_
  refine g_getf W1 (wd_20 hw) Via.refl H1 (i := 0) rfl (jx := 5) rfl d10_7 (pc' := 10) rfl ?_
  intro T2 W2 H2
  refine g_iloadN W2 d10_10 (pc' := 11) rfl rfl ?_
  refine g_daload W2 H2 (i := 2) rfl (jx := ia) hia (v := .double 0) za d10_11 (pc' := 12) rfl ?_
  refine g_aloadN W2 d10_12 (pc' := 13) rfl rfl rfl ?_
  refine g_getf W2 (wd_18 hw) Via.refl H2 (i := 0) rfl (jx := 4) rfl d10_13 (pc' := 16) rfl ?_
  intro T3 W3 H3
  refine g_iloadN W3 d10_16 (pc' := 17) rfl rfl ?_
  refine g_daload W3 H3 (i := 1) rfl (jx := ib) hib (v := .double 0) wb d10_17 (pc' := 18) rfl ?_
  refine g_aloadN W3 d10_18 (pc' := 19) rfl rfl rfl ?_
  refine g_getf W3 (wd_20 hw) Via.refl H3 (i := 0) rfl (jx := 5) rfl d10_19 (pc' := 22) rfl ?_
  intro T4 W4 H4
  refine g_iloadN W4 d10_22 (pc' := 23) rfl rfl ?_
  refine g_daload W4 H4 (i := 2) rfl (jx := ib) hib (v := .double (FP.i2d e2)) zb d10_23 (pc' := 24) rfl ?_
  refine g_callS W4 (argsL := [.double (FP.i2d e1), .double 0, .double 0, .double (FP.i2d e2)]) (st := []) (wd_74 hw) (wd_75 hw) (wd_3 hw) (wd_76 hw) (by decide) (c_croz l Z a0 hw n0 e1 e2 h1 h2 _ _ H4) pd_5 rfl rfl rfl d10_24 (pc' := 27) rfl (by decide) (Wn := 0) (Nat.le_of_eq rfl) (by decide) (kc' := 0) (ks' := 0) rfl rfl (by decide) (by decide) ?_
  intro T5 v5 W5 hp5
  obtain ⟨rfl, H5⟩ := hp5
  show Goes _ _ _ _ (State.setTop _ (mkF _ _ _ [.int (1 : Int32)]))
  refine g_istoreN W5 d10_27 (pc' := 28) rfl (ls' := #[.val (.ref sh), .val (.int ka), .val (.int kb), .val (.int (1 : Int32))]) rfl ?_
  refine g_aloadN W5 d10_28 (pc' := 29) rfl rfl rfl ?_
  refine g_getf W5 (wd_14 hw) Via.refl H5 (i := 0) rfl (jx := 2) rfl d10_29 (pc' := 32) rfl ?_
  intro T6 W6 H6
  refine g_if W6 d10_32 (pcy := 47) (by decide) (pc' := 35) rfl (fun (h : (1 : Int32) = (0 : Int32)) => absurd h (by decide)) (fun _ => ?_)
  refine g_iloadN W6 d10_35 (pc' := 36) rfl rfl ?_
  refine g_if W6 d10_36 (pcy := 43) (by decide) (pc' := 39) rfl (fun (h : ¬ (0 : Int32) < (1 : Int32)) => absurd h (by decide)) (fun _ => ?_)
  refine g_iconst W6 d10_39 (pc' := 40) rfl (v := (1 : Int32)) (by decide) ?_
  refine g_goto W6 d10_40 (pc' := 56) (by decide) ?_
  exact g_zreturn W6 (by decide) d10_56 ⟨rfl, H6⟩ (by decide) (by decide)
theorem c_cb1zo (l : Launch) (Z : State) (a0 : Array Value) (hw : ∀ d ∈ tables_1, d.before a0 Z = true) (n0 : Nat) (sh loA hiA owA otA liA raA olA ohA zlA zhA : Addr) (ru : Int32) (fo fz : UInt64) (at0 : Int32) (ka kb : Int32) (ia ib : Nat) (hia : ka.toInt = (ia : Int)) (hib : kb.toInt = (ib : Int)) (ow ot : List Value) (e1 e2 : Int32) (h1 : e1 ∈ coL) (h2 : e2 ∈ coL) (wa : ow[ia]? = some (.double 0)) (za : ot[ia]? = some (.double (FP.i2d e1))) (wb : ow[ib]? = some (.double (FP.i2d e2))) (zb : ot[ib]? = some (.double 0))  (h0 : Heap) (F : List HRow) (H00 : Hp Z n0 h0 ((sh, ObC Z "com/example/narrow_bounds/narrowbounds/Share" (fs_Share (.ref loA) (.ref hiA) (.int (1 : Int32)) (.int ru) (.ref owA) (.ref otA) (.ref liA) (.ref raA) (.ref olA) (.ref ohA) (.ref zlA) (.ref zhA) (.double fo) (.double fz) (.int (2 : Int32)) (.int at0))) :: (owA, ArC Z .double ow) :: (otA, ArC Z .double ot) :: F)) :
    Con l Z n0 ⟨"com/example/narrow_bounds/narrowbounds/Share", "comesBefore", "(II)Z"⟩ [] prog_45_method_9_code 4 (some .boolean) ({ frames := 3, cells := 0, slots := 0, locals := 78 } : Room) #[.ref sh, .int ka, .int kb] h0 (fun v h => v = some (.int 0) ∧ Hp Z n0 h ((sh, ObC Z "com/example/narrow_bounds/narrowbounds/Share" (fs_Share (.ref loA) (.ref hiA) (.int (1 : Int32)) (.int ru) (.ref owA) (.ref otA) (.ref liA) (.ref raA) (.ref olA) (.ref ohA) (.ref zlA) (.ref zhA) (.double fo) (.double fz) (.int (2 : Int32)) (.int at0))) :: (owA, ArC Z .double ow) :: (otA, ArC Z .double ot) :: F)) := by
  refine con_of (plainFor_of_name pn_Share) ?_
  intro p e s m below meth c T0 W0 e0
  subst e0
  have H0 := H00
  refine g_cast (ef_rii4 m sh ka kb) ?_
  refine g_aloadN W0 d10_0 (pc' := 1) rfl rfl rfl ?_
  refine g_getf W0 (wd_18 hw) Via.refl H0 (i := 0) rfl (jx := 4) rfl d10_1 (pc' := 4) rfl ?_
  intro T1 W1 H1
  refine g_iloadN W1 d10_4 (pc' := 5) rfl rfl ?_
  refine g_daload W1 H1 (i := 1) rfl (jx := ia) hia (v := .double 0) wa d10_5 (pc' := 6) rfl ?_
  refine g_aloadN W1 d10_6 (pc' := 7) rfl rfl rfl ?_
  refine g_getf W1 (wd_20 hw) Via.refl H1 (i := 0) rfl (jx := 5) rfl d10_7 (pc' := 10) rfl ?_
  intro T2 W2 H2
  refine g_iloadN W2 d10_10 (pc' := 11) rfl rfl ?_
  refine g_daload W2 H2 (i := 2) rfl (jx := ia) hia (v := .double (FP.i2d e1)) za d10_11 (pc' := 12) rfl ?_
  refine g_aloadN W2 d10_12 (pc' := 13) rfl rfl rfl ?_
  refine g_getf W2 (wd_18 hw) Via.refl H2 (i := 0) rfl (jx := 4) rfl d10_13 (pc' := 16) rfl ?_
  intro T3 W3 H3
  refine g_iloadN W3 d10_16 (pc' := 17) rfl rfl ?_
  refine g_daload W3 H3 (i := 1) rfl (jx := ib) hib (v := .double (FP.i2d e2)) wb d10_17 (pc' := 18) rfl ?_
  refine g_aloadN W3 d10_18 (pc' := 19) rfl rfl rfl ?_
  refine g_getf W3 (wd_20 hw) Via.refl H3 (i := 0) rfl (jx := 5) rfl d10_19 (pc' := 22) rfl ?_
  intro T4 W4 H4
  refine g_iloadN W4 d10_22 (pc' := 23) rfl rfl ?_
  refine g_daload W4 H4 (i := 2) rfl (jx := ib) hib (v := .double 0) zb d10_23 (pc' := 24) rfl ?_
  refine g_callS W4 (argsL := [.double 0, .double (FP.i2d e1), .double (FP.i2d e2), .double 0]) (st := []) (wd_74 hw) (wd_75 hw) (wd_3 hw) (wd_76 hw) (by decide) (c_crzo l Z a0 hw n0 e1 e2 h1 h2 _ _ H4) pd_5 rfl rfl rfl d10_24 (pc' := 27) rfl (by decide) (Wn := 0) (Nat.le_of_eq rfl) (by decide) (kc' := 0) (ks' := 0) rfl rfl (by decide) (by decide) ?_
  intro T5 v5 W5 hp5
  obtain ⟨rfl, H5⟩ := hp5
  show Goes _ _ _ _ (State.setTop _ (mkF _ _ _ [.int (-1 : Int32)]))
  refine g_istoreN W5 d10_27 (pc' := 28) rfl (ls' := #[.val (.ref sh), .val (.int ka), .val (.int kb), .val (.int (-1 : Int32))]) rfl ?_
  refine g_aloadN W5 d10_28 (pc' := 29) rfl rfl rfl ?_
  refine g_getf W5 (wd_14 hw) Via.refl H5 (i := 0) rfl (jx := 2) rfl d10_29 (pc' := 32) rfl ?_
  intro T6 W6 H6
  refine g_if W6 d10_32 (pcy := 47) (by decide) (pc' := 35) rfl (fun (h : (1 : Int32) = (0 : Int32)) => absurd h (by decide)) (fun _ => ?_)
  refine g_iloadN W6 d10_35 (pc' := 36) rfl rfl ?_
  refine g_if W6 d10_36 (pcy := 43) (by decide) (pc' := 39) rfl (fun _ => ?_) (fun (h : ¬ ¬ (0 : Int32) < (-1 : Int32)) => absurd h (by decide))
  refine g_iconst W6 d10_43 (pc' := 44) rfl (v := (0 : Int32)) (by decide) ?_
  refine g_goto W6 d10_44 (pc' := 56) (by decide) ?_
  exact g_zreturn W6 (by decide) d10_56 ⟨rfl, H6⟩ (by decide) (by decide)
theorem c_cb1zz (l : Launch) (Z : State) (a0 : Array Value) (hw : ∀ d ∈ tables_1, d.before a0 Z = true) (n0 : Nat) (sh loA hiA owA otA liA raA olA ohA zlA zhA : Addr) (ru : Int32) (fo fz : UInt64) (at0 : Int32) (ka kb : Int32) (ia ib : Nat) (hia : ka.toInt = (ia : Int)) (hib : kb.toInt = (ib : Int)) (ow ot : List Value) (e1 e2 : Int32) (h1 : e1 ∈ coL) (h2 : e2 ∈ coL) (wa : ow[ia]? = some (.double 0)) (za : ot[ia]? = some (.double (FP.i2d e1))) (wb : ow[ib]? = some (.double 0)) (zb : ot[ib]? = some (.double (FP.i2d e2)))  (h0 : Heap) (F : List HRow) (H00 : Hp Z n0 h0 ((sh, ObC Z "com/example/narrow_bounds/narrowbounds/Share" (fs_Share (.ref loA) (.ref hiA) (.int (1 : Int32)) (.int ru) (.ref owA) (.ref otA) (.ref liA) (.ref raA) (.ref olA) (.ref ohA) (.ref zlA) (.ref zhA) (.double fo) (.double fz) (.int (2 : Int32)) (.int at0))) :: (owA, ArC Z .double ow) :: (otA, ArC Z .double ot) :: F)) :
    Con l Z n0 ⟨"com/example/narrow_bounds/narrowbounds/Share", "comesBefore", "(II)Z"⟩ [] prog_45_method_9_code 4 (some .boolean) ({ frames := 4, cells := 0, slots := 0, locals := 97 } : Room) #[.ref sh, .int ka, .int kb] h0 (fun v h => v = some (.int 0) ∧ Hp Z n0 h ((sh, ObC Z "com/example/narrow_bounds/narrowbounds/Share" (fs_Share (.ref loA) (.ref hiA) (.int (1 : Int32)) (.int ru) (.ref owA) (.ref otA) (.ref liA) (.ref raA) (.ref olA) (.ref ohA) (.ref zlA) (.ref zhA) (.double fo) (.double fz) (.int (2 : Int32)) (.int at0))) :: (owA, ArC Z .double ow) :: (otA, ArC Z .double ot) :: F)) := by
  refine con_of (plainFor_of_name pn_Share) ?_
  intro p e s m below meth c T0 W0 e0
  subst e0
  have H0 := H00
  refine g_cast (ef_rii4 m sh ka kb) ?_
  refine g_aloadN W0 d10_0 (pc' := 1) rfl rfl rfl ?_
  refine g_getf W0 (wd_18 hw) Via.refl H0 (i := 0) rfl (jx := 4) rfl d10_1 (pc' := 4) rfl ?_
  intro T1 W1 H1
  refine g_iloadN W1 d10_4 (pc' := 5) rfl rfl ?_
  refine g_daload W1 H1 (i := 1) rfl (jx := ia) hia (v := .double 0) wa d10_5 (pc' := 6) rfl ?_
  refine g_aloadN W1 d10_6 (pc' := 7) rfl rfl rfl ?_
  refine g_getf W1 (wd_20 hw) Via.refl H1 (i := 0) rfl (jx := 5) rfl d10_7 (pc' := 10) rfl ?_
  intro T2 W2 H2
  refine g_iloadN W2 d10_10 (pc' := 11) rfl rfl ?_
  refine g_daload W2 H2 (i := 2) rfl (jx := ia) hia (v := .double (FP.i2d e1)) za d10_11 (pc' := 12) rfl ?_
  refine g_aloadN W2 d10_12 (pc' := 13) rfl rfl rfl ?_
  refine g_getf W2 (wd_18 hw) Via.refl H2 (i := 0) rfl (jx := 4) rfl d10_13 (pc' := 16) rfl ?_
  intro T3 W3 H3
  refine g_iloadN W3 d10_16 (pc' := 17) rfl rfl ?_
  refine g_daload W3 H3 (i := 1) rfl (jx := ib) hib (v := .double 0) wb d10_17 (pc' := 18) rfl ?_
  refine g_aloadN W3 d10_18 (pc' := 19) rfl rfl rfl ?_
  refine g_getf W3 (wd_20 hw) Via.refl H3 (i := 0) rfl (jx := 5) rfl d10_19 (pc' := 22) rfl ?_
  intro T4 W4 H4
  refine g_iloadN W4 d10_22 (pc' := 23) rfl rfl ?_
  refine g_daload W4 H4 (i := 2) rfl (jx := ib) hib (v := .double (FP.i2d e2)) zb d10_23 (pc' := 24) rfl ?_
  refine g_callS W4 (argsL := [.double 0, .double (FP.i2d e1), .double 0, .double (FP.i2d e2)]) (st := []) (wd_74 hw) (wd_75 hw) (wd_3 hw) (wd_76 hw) (by decide) (c_crzz l Z a0 hw n0 e1 e2 h1 h2 _ _ H4) pd_5 rfl rfl rfl d10_24 (pc' := 27) rfl (by decide) (Wn := 0) (Nat.le_of_eq rfl) (by decide) (kc' := 0) (ks' := 0) rfl rfl (by decide) (by decide) ?_
  intro T5 v5 W5 hp5
  obtain ⟨rfl, H5⟩ := hp5
  show Goes _ _ _ _ (State.setTop _ (mkF _ _ _ [.int (0 : Int32)]))
  refine g_istoreN W5 d10_27 (pc' := 28) rfl (ls' := #[.val (.ref sh), .val (.int ka), .val (.int kb), .val (.int (0 : Int32))]) rfl ?_
  refine g_aloadN W5 d10_28 (pc' := 29) rfl rfl rfl ?_
  refine g_getf W5 (wd_14 hw) Via.refl H5 (i := 0) rfl (jx := 2) rfl d10_29 (pc' := 32) rfl ?_
  intro T6 W6 H6
  refine g_if W6 d10_32 (pcy := 47) (by decide) (pc' := 35) rfl (fun (h : (1 : Int32) = (0 : Int32)) => absurd h (by decide)) (fun _ => ?_)
  refine g_iloadN W6 d10_35 (pc' := 36) rfl rfl ?_
  refine g_if W6 d10_36 (pcy := 43) (by decide) (pc' := 39) rfl (fun _ => ?_) (fun (h : ¬ ¬ (0 : Int32) < (0 : Int32)) => absurd h (by decide))
  refine g_iconst W6 d10_43 (pc' := 44) rfl (v := (0 : Int32)) (by decide) ?_
  refine g_goto W6 d10_44 (pc' := 56) (by decide) ?_
  exact g_zreturn W6 (by decide) d10_56 ⟨rfl, H6⟩ (by decide) (by decide)
theorem c_sr0oo (l : Launch) (Z : State) (a0 : Array Value) (hw : ∀ d ∈ tables_1, d.before a0 Z = true) (n0 : Nat) (sh loA hiA owA otA liA raA olA ohA zlA zhA : Addr) (ru : Int32) (fo fz : UInt64) (at0 : Int32) (ka kb : Int32) (ia ib : Nat) (hia : ka.toInt = (ia : Int)) (hib : kb.toInt = (ib : Int)) (ow ot : List Value) (e1 e2 : Int32) (h1 : e1 ∈ coL) (h2 : e2 ∈ coL) (wa : ow[ia]? = some (.double (FP.i2d e1))) (za : ot[ia]? = some (.double 0)) (wb : ow[ib]? = some (.double (FP.i2d e2))) (zb : ot[ib]? = some (.double 0))  (h0 : Heap) (F : List HRow) (H00 : Hp Z n0 h0 ((sh, ObC Z "com/example/narrow_bounds/narrowbounds/Share" (fs_Share (.ref loA) (.ref hiA) (.int (0 : Int32)) (.int ru) (.ref owA) (.ref otA) (.ref liA) (.ref raA) (.ref olA) (.ref ohA) (.ref zlA) (.ref zhA) (.double fo) (.double fz) (.int (2 : Int32)) (.int at0))) :: (owA, ArC Z .double ow) :: (otA, ArC Z .double ot) :: (raA, ArC Z .int [.int ka, .int kb, .int (0 : Int32)]) :: F)) :
    Con l Z n0 ⟨"com/example/narrow_bounds/narrowbounds/Share", "sortRanges", "()V"⟩ [] prog_45_method_8_code 4 none ({ frames := 5, cells := 0, slots := 0, locals := 112 } : Room) #[.ref sh] h0 (fun v h => v = none ∧ Hp Z n0 h ((sh, ObC Z "com/example/narrow_bounds/narrowbounds/Share" (fs_Share (.ref loA) (.ref hiA) (.int (0 : Int32)) (.int ru) (.ref owA) (.ref otA) (.ref liA) (.ref raA) (.ref olA) (.ref ohA) (.ref zlA) (.ref zhA) (.double fo) (.double fz) (.int (2 : Int32)) (.int at0))) :: (owA, ArC Z .double ow) :: (otA, ArC Z .double ot) :: (raA, ArC Z .int [.int ka, .int kb, .int (0 : Int32)]) :: F)) := by
  refine con_of (plainFor_of_name pn_Share) ?_
  intro p e s m below meth c T0 W0 e0
  subst e0
  have H0 := H00
  refine g_cast (ef_r4 m sh) ?_
  refine g_iconst W0 d9_0 (pc' := 1) rfl (v := (1 : Int32)) (by decide) ?_
  refine g_istoreN W0 d9_1 (pc' := 2) rfl (ls' := #[.val (.ref sh), .val (.int (1 : Int32)), .unset, .unset]) rfl ?_
  refine g_iloadN W0 d9_2 (pc' := 3) rfl rfl ?_
  refine g_aloadN W0 d9_3 (pc' := 4) rfl rfl rfl ?_
  refine g_getf W0 (wd_59 hw) Via.refl H0 (i := 0) rfl (jx := 14) rfl d9_4 (pc' := 7) rfl ?_
  intro T1 W1 H1
  refine g_icmp W1 d9_7 (pcy := 72) (by decide) (pc' := 10) rfl (fun (h : ¬ (1 : Int32) < (2 : Int32)) => absurd h (by decide)) (fun _ => ?_)
  refine g_aloadN W1 d9_10 (pc' := 11) rfl rfl rfl ?_
  refine g_getf W1 (wd_26 hw) Via.refl H1 (i := 0) rfl (jx := 7) rfl d9_11 (pc' := 14) rfl ?_
  intro T2 W2 H2
  refine g_iloadN W2 d9_14 (pc' := 15) rfl rfl ?_
  refine g_iaload W2 H2 (i := 3) rfl (jx := 1) (by decide) (v := .int kb) rfl d9_15 (pc' := 16) rfl ?_
  refine g_istoreN W2 d9_16 (pc' := 17) rfl (ls' := #[.val (.ref sh), .val (.int (1 : Int32)), .val (.int kb), .unset]) rfl ?_
  refine g_iloadN W2 d9_17 (pc' := 18) rfl rfl ?_
  refine g_istoreN W2 d9_18 (pc' := 19) rfl (ls' := #[.val (.ref sh), .val (.int (1 : Int32)), .val (.int kb), .val (.int (1 : Int32))]) rfl ?_
  refine g_iloadN W2 d9_19 (pc' := 20) rfl rfl ?_
  refine g_if W2 d9_20 (pcy := 59) (by decide) (pc' := 23) rfl (fun (h : ¬ (0 : Int32) < (1 : Int32)) => absurd h (by decide)) (fun _ => ?_)
  refine g_aloadN W2 d9_23 (pc' := 24) rfl rfl rfl ?_
  refine g_iloadN W2 d9_24 (pc' := 25) rfl rfl ?_
  refine g_aloadN W2 d9_25 (pc' := 26) rfl rfl rfl ?_
  refine g_getf W2 (wd_26 hw) Via.refl H2 (i := 0) rfl (jx := 7) rfl d9_26 (pc' := 29) rfl ?_
  intro T3 W3 H3
  refine g_iloadN W3 d9_29 (pc' := 30) rfl rfl ?_
  refine g_iconst W3 d9_30 (pc' := 31) rfl (v := (1 : Int32)) (by decide) ?_
  refine g_isub W3 d9_31 (pc' := 32) rfl (v := (0 : Int32)) (by decide) ?_
  refine g_iaload W3 H3 (i := 3) rfl (jx := 0) (by decide) (v := .int ka) rfl d9_32 (pc' := 33) rfl ?_
  have H4f := Hp.fr2 H3
  have H5f := Hp.fr2 H4f
  have H6f := Hp.fr2 H5f
  refine g_callP W3 (argsL := [.int kb, .int ka]) (st := []) (wd_70 hw) (wd_71 hw) (wd_72 hw) (wd_2 hw) (wd_3 hw) (wd_73 hw) (by decide) (a := sh) H6f (i := 0) rfl (c_cb0oo l Z a0 hw n0 sh loA hiA owA otA liA raA olA ohA zlA zhA ru fo fz at0 kb ka ib ia hib hia ow ot e2 e1 h2 h1 wb zb wa za _ _ H6f) pd_6 rfl rfl rfl d9_33 (pc' := 36) rfl (by decide) (Wn := 0) (Nat.le_of_eq rfl) (by decide) (kc' := 0) (ks' := 0) rfl rfl (by decide) (by decide) ?_
  intro T7 v7 W7 hp7
  obtain ⟨rfl, H7⟩ := hp7
  show Goes _ _ _ _ (State.setTop _ (mkF _ _ _ [.int (0 : Int32)]))
  refine g_if W7 d9_36 (pcy := 59) (by decide) (pc' := 39) rfl (fun _ => ?_) (fun (h : ¬ (0 : Int32) = (0 : Int32)) => absurd h (by decide))
  refine g_aloadN W7 d9_59 (pc' := 60) rfl rfl rfl ?_
  refine g_getf W7 (wd_26 hw) Via.refl H7 (i := 0) rfl (jx := 7) rfl d9_60 (pc' := 63) rfl ?_
  intro T8 W8 H8
  refine g_iloadN W8 d9_63 (pc' := 64) rfl rfl ?_
  refine g_iloadN W8 d9_64 (pc' := 65) rfl rfl ?_
  refine g_iastore W8 H8 (i := 3) rfl (jx := 1) (by decide) (by exact (by decide : 1 < 3)) d9_65 (pc' := 66) rfl (L' := ((sh, ObC Z "com/example/narrow_bounds/narrowbounds/Share" (fs_Share (.ref loA) (.ref hiA) (.int (0 : Int32)) (.int ru) (.ref owA) (.ref otA) (.ref liA) (.ref raA) (.ref olA) (.ref ohA) (.ref zlA) (.ref zhA) (.double fo) (.double fz) (.int (2 : Int32)) (.int at0))) :: (owA, ArC Z .double ow) :: (otA, ArC Z .double ot) :: (raA, ArC Z .int [.int ka, .int kb, .int (0 : Int32)]) :: F)) rfl ?_
  intro T9 W9 H9
  refine g_iinc W9 d9_66 (pc' := 69) rfl rfl (v := (2 : Int32)) (by decide) (ls' := #[.val (.ref sh), .val (.int (2 : Int32)), .val (.int kb), .val (.int (1 : Int32))]) rfl ?_
  refine g_goto W9 d9_69 (pc' := 2) (by decide) ?_
  refine g_iloadN W9 d9_2 (pc' := 3) rfl rfl ?_
  refine g_aloadN W9 d9_3 (pc' := 4) rfl rfl rfl ?_
  refine g_getf W9 (wd_59 hw) Via.refl H9 (i := 0) rfl (jx := 14) rfl d9_4 (pc' := 7) rfl ?_
  intro T10 W10 H10
  refine g_icmp W10 d9_7 (pcy := 72) (by decide) (pc' := 10) rfl (fun _ => ?_) (fun (h : ¬ ¬ (2 : Int32) < (2 : Int32)) => absurd h (by decide))
  have H11f := Hp.fr3 H10
  have H12f := Hp.fr3 H11f
  have H13f := Hp.fr3 H12f
  have H14f := Hp.fr3 H13f
  exact g_return W10 d9_72 ⟨rfl, H14f⟩ (by decide) (by decide)
theorem c_sr0oz (l : Launch) (Z : State) (a0 : Array Value) (hw : ∀ d ∈ tables_1, d.before a0 Z = true) (n0 : Nat) (sh loA hiA owA otA liA raA olA ohA zlA zhA : Addr) (ru : Int32) (fo fz : UInt64) (at0 : Int32) (ka kb : Int32) (ia ib : Nat) (hia : ka.toInt = (ia : Int)) (hib : kb.toInt = (ib : Int)) (ow ot : List Value) (e1 e2 : Int32) (h1 : e1 ∈ coL) (h2 : e2 ∈ coL) (wa : ow[ia]? = some (.double (FP.i2d e1))) (za : ot[ia]? = some (.double 0)) (wb : ow[ib]? = some (.double 0)) (zb : ot[ib]? = some (.double (FP.i2d e2)))  (h0 : Heap) (F : List HRow) (H00 : Hp Z n0 h0 ((sh, ObC Z "com/example/narrow_bounds/narrowbounds/Share" (fs_Share (.ref loA) (.ref hiA) (.int (0 : Int32)) (.int ru) (.ref owA) (.ref otA) (.ref liA) (.ref raA) (.ref olA) (.ref ohA) (.ref zlA) (.ref zhA) (.double fo) (.double fz) (.int (2 : Int32)) (.int at0))) :: (owA, ArC Z .double ow) :: (otA, ArC Z .double ot) :: (raA, ArC Z .int [.int ka, .int kb, .int (0 : Int32)]) :: F)) :
    Con l Z n0 ⟨"com/example/narrow_bounds/narrowbounds/Share", "sortRanges", "()V"⟩ [] prog_45_method_8_code 4 none ({ frames := 4, cells := 0, slots := 0, locals := 93 } : Room) #[.ref sh] h0 (fun v h => v = none ∧ Hp Z n0 h ((sh, ObC Z "com/example/narrow_bounds/narrowbounds/Share" (fs_Share (.ref loA) (.ref hiA) (.int (0 : Int32)) (.int ru) (.ref owA) (.ref otA) (.ref liA) (.ref raA) (.ref olA) (.ref ohA) (.ref zlA) (.ref zhA) (.double fo) (.double fz) (.int (2 : Int32)) (.int at0))) :: (owA, ArC Z .double ow) :: (otA, ArC Z .double ot) :: (raA, ArC Z .int [.int kb, .int ka, .int (0 : Int32)]) :: F)) := by
  refine con_of (plainFor_of_name pn_Share) ?_
  intro p e s m below meth c T0 W0 e0
  subst e0
  have H0 := H00
  refine g_cast (ef_r4 m sh) ?_
  refine g_iconst W0 d9_0 (pc' := 1) rfl (v := (1 : Int32)) (by decide) ?_
  refine g_istoreN W0 d9_1 (pc' := 2) rfl (ls' := #[.val (.ref sh), .val (.int (1 : Int32)), .unset, .unset]) rfl ?_
  refine g_iloadN W0 d9_2 (pc' := 3) rfl rfl ?_
  refine g_aloadN W0 d9_3 (pc' := 4) rfl rfl rfl ?_
  refine g_getf W0 (wd_59 hw) Via.refl H0 (i := 0) rfl (jx := 14) rfl d9_4 (pc' := 7) rfl ?_
  intro T1 W1 H1
  refine g_icmp W1 d9_7 (pcy := 72) (by decide) (pc' := 10) rfl (fun (h : ¬ (1 : Int32) < (2 : Int32)) => absurd h (by decide)) (fun _ => ?_)
  refine g_aloadN W1 d9_10 (pc' := 11) rfl rfl rfl ?_
  refine g_getf W1 (wd_26 hw) Via.refl H1 (i := 0) rfl (jx := 7) rfl d9_11 (pc' := 14) rfl ?_
  intro T2 W2 H2
  refine g_iloadN W2 d9_14 (pc' := 15) rfl rfl ?_
  refine g_iaload W2 H2 (i := 3) rfl (jx := 1) (by decide) (v := .int kb) rfl d9_15 (pc' := 16) rfl ?_
  refine g_istoreN W2 d9_16 (pc' := 17) rfl (ls' := #[.val (.ref sh), .val (.int (1 : Int32)), .val (.int kb), .unset]) rfl ?_
  refine g_iloadN W2 d9_17 (pc' := 18) rfl rfl ?_
  refine g_istoreN W2 d9_18 (pc' := 19) rfl (ls' := #[.val (.ref sh), .val (.int (1 : Int32)), .val (.int kb), .val (.int (1 : Int32))]) rfl ?_
  refine g_iloadN W2 d9_19 (pc' := 20) rfl rfl ?_
  refine g_if W2 d9_20 (pcy := 59) (by decide) (pc' := 23) rfl (fun (h : ¬ (0 : Int32) < (1 : Int32)) => absurd h (by decide)) (fun _ => ?_)
  refine g_aloadN W2 d9_23 (pc' := 24) rfl rfl rfl ?_
  refine g_iloadN W2 d9_24 (pc' := 25) rfl rfl ?_
  refine g_aloadN W2 d9_25 (pc' := 26) rfl rfl rfl ?_
  refine g_getf W2 (wd_26 hw) Via.refl H2 (i := 0) rfl (jx := 7) rfl d9_26 (pc' := 29) rfl ?_
  intro T3 W3 H3
  refine g_iloadN W3 d9_29 (pc' := 30) rfl rfl ?_
  refine g_iconst W3 d9_30 (pc' := 31) rfl (v := (1 : Int32)) (by decide) ?_
  refine g_isub W3 d9_31 (pc' := 32) rfl (v := (0 : Int32)) (by decide) ?_
  refine g_iaload W3 H3 (i := 3) rfl (jx := 0) (by decide) (v := .int ka) rfl d9_32 (pc' := 33) rfl ?_
  have H4f := Hp.fr2 H3
  have H5f := Hp.fr2 H4f
  have H6f := Hp.fr2 H5f
  refine g_callP W3 (argsL := [.int kb, .int ka]) (st := []) (wd_70 hw) (wd_71 hw) (wd_72 hw) (wd_2 hw) (wd_3 hw) (wd_73 hw) (by decide) (a := sh) H6f (i := 0) rfl (c_cb0zo l Z a0 hw n0 sh loA hiA owA otA liA raA olA ohA zlA zhA ru fo fz at0 kb ka ib ia hib hia ow ot e2 e1 h2 h1 wb zb wa za _ _ H6f) pd_6 rfl rfl rfl d9_33 (pc' := 36) rfl (by decide) (Wn := 0) (Nat.le_of_eq rfl) (by decide) (kc' := 0) (ks' := 0) rfl rfl (by decide) (by decide) ?_
  intro T7 v7 W7 hp7
  obtain ⟨rfl, H7⟩ := hp7
  show Goes _ _ _ _ (State.setTop _ (mkF _ _ _ [.int (1 : Int32)]))
  refine g_if W7 d9_36 (pcy := 59) (by decide) (pc' := 39) rfl (fun (h : (1 : Int32) = (0 : Int32)) => absurd h (by decide)) (fun _ => ?_)
  refine g_aloadN W7 d9_39 (pc' := 40) rfl rfl rfl ?_
  refine g_getf W7 (wd_26 hw) Via.refl H7 (i := 0) rfl (jx := 7) rfl d9_40 (pc' := 43) rfl ?_
  intro T8 W8 H8
  refine g_iloadN W8 d9_43 (pc' := 44) rfl rfl ?_
  refine g_aloadN W8 d9_44 (pc' := 45) rfl rfl rfl ?_
  refine g_getf W8 (wd_26 hw) Via.refl H8 (i := 0) rfl (jx := 7) rfl d9_45 (pc' := 48) rfl ?_
  intro T9 W9 H9
  refine g_iloadN W9 d9_48 (pc' := 49) rfl rfl ?_
  refine g_iconst W9 d9_49 (pc' := 50) rfl (v := (1 : Int32)) (by decide) ?_
  refine g_isub W9 d9_50 (pc' := 51) rfl (v := (0 : Int32)) (by decide) ?_
  refine g_iaload W9 H9 (i := 3) rfl (jx := 0) (by decide) (v := .int ka) rfl d9_51 (pc' := 52) rfl ?_
  refine g_iastore W9 H9 (i := 3) rfl (jx := 1) (by decide) (by exact (by decide : 1 < 3)) d9_52 (pc' := 53) rfl (L' := ((sh, ObC Z "com/example/narrow_bounds/narrowbounds/Share" (fs_Share (.ref loA) (.ref hiA) (.int (0 : Int32)) (.int ru) (.ref owA) (.ref otA) (.ref liA) (.ref raA) (.ref olA) (.ref ohA) (.ref zlA) (.ref zhA) (.double fo) (.double fz) (.int (2 : Int32)) (.int at0))) :: (owA, ArC Z .double ow) :: (otA, ArC Z .double ot) :: (raA, ArC Z .int [.int ka, .int ka, .int (0 : Int32)]) :: F)) rfl ?_
  intro T10 W10 H10
  refine g_iinc W10 d9_53 (pc' := 56) rfl rfl (v := (0 : Int32)) (by decide) (ls' := #[.val (.ref sh), .val (.int (1 : Int32)), .val (.int kb), .val (.int (0 : Int32))]) rfl ?_
  refine g_goto W10 d9_56 (pc' := 19) (by decide) ?_
  refine g_iloadN W10 d9_19 (pc' := 20) rfl rfl ?_
  refine g_if W10 d9_20 (pcy := 59) (by decide) (pc' := 23) rfl (fun _ => ?_) (fun (h : ¬ ¬ (0 : Int32) < (0 : Int32)) => absurd h (by decide))
  refine g_aloadN W10 d9_59 (pc' := 60) rfl rfl rfl ?_
  refine g_getf W10 (wd_26 hw) Via.refl H10 (i := 0) rfl (jx := 7) rfl d9_60 (pc' := 63) rfl ?_
  intro T11 W11 H11
  refine g_iloadN W11 d9_63 (pc' := 64) rfl rfl ?_
  refine g_iloadN W11 d9_64 (pc' := 65) rfl rfl ?_
  refine g_iastore W11 H11 (i := 3) rfl (jx := 0) (by decide) (by exact (by decide : 0 < 3)) d9_65 (pc' := 66) rfl (L' := ((sh, ObC Z "com/example/narrow_bounds/narrowbounds/Share" (fs_Share (.ref loA) (.ref hiA) (.int (0 : Int32)) (.int ru) (.ref owA) (.ref otA) (.ref liA) (.ref raA) (.ref olA) (.ref ohA) (.ref zlA) (.ref zhA) (.double fo) (.double fz) (.int (2 : Int32)) (.int at0))) :: (owA, ArC Z .double ow) :: (otA, ArC Z .double ot) :: (raA, ArC Z .int [.int kb, .int ka, .int (0 : Int32)]) :: F)) rfl ?_
  intro T12 W12 H12
  refine g_iinc W12 d9_66 (pc' := 69) rfl rfl (v := (2 : Int32)) (by decide) (ls' := #[.val (.ref sh), .val (.int (2 : Int32)), .val (.int kb), .val (.int (0 : Int32))]) rfl ?_
  refine g_goto W12 d9_69 (pc' := 2) (by decide) ?_
  refine g_iloadN W12 d9_2 (pc' := 3) rfl rfl ?_
  refine g_aloadN W12 d9_3 (pc' := 4) rfl rfl rfl ?_
  refine g_getf W12 (wd_59 hw) Via.refl H12 (i := 0) rfl (jx := 14) rfl d9_4 (pc' := 7) rfl ?_
  intro T13 W13 H13
  refine g_icmp W13 d9_7 (pcy := 72) (by decide) (pc' := 10) rfl (fun _ => ?_) (fun (h : ¬ ¬ (2 : Int32) < (2 : Int32)) => absurd h (by decide))
  have H14f := Hp.fr3 H13
  have H15f := Hp.fr3 H14f
  have H16f := Hp.fr3 H15f
  have H17f := Hp.fr3 H16f
  exact g_return W13 d9_72 ⟨rfl, H17f⟩ (by decide) (by decide)
theorem c_sr0zo (l : Launch) (Z : State) (a0 : Array Value) (hw : ∀ d ∈ tables_1, d.before a0 Z = true) (n0 : Nat) (sh loA hiA owA otA liA raA olA ohA zlA zhA : Addr) (ru : Int32) (fo fz : UInt64) (at0 : Int32) (ka kb : Int32) (ia ib : Nat) (hia : ka.toInt = (ia : Int)) (hib : kb.toInt = (ib : Int)) (ow ot : List Value) (e1 e2 : Int32) (h1 : e1 ∈ coL) (h2 : e2 ∈ coL) (wa : ow[ia]? = some (.double 0)) (za : ot[ia]? = some (.double (FP.i2d e1))) (wb : ow[ib]? = some (.double (FP.i2d e2))) (zb : ot[ib]? = some (.double 0))  (h0 : Heap) (F : List HRow) (H00 : Hp Z n0 h0 ((sh, ObC Z "com/example/narrow_bounds/narrowbounds/Share" (fs_Share (.ref loA) (.ref hiA) (.int (0 : Int32)) (.int ru) (.ref owA) (.ref otA) (.ref liA) (.ref raA) (.ref olA) (.ref ohA) (.ref zlA) (.ref zhA) (.double fo) (.double fz) (.int (2 : Int32)) (.int at0))) :: (owA, ArC Z .double ow) :: (otA, ArC Z .double ot) :: (raA, ArC Z .int [.int ka, .int kb, .int (0 : Int32)]) :: F)) :
    Con l Z n0 ⟨"com/example/narrow_bounds/narrowbounds/Share", "sortRanges", "()V"⟩ [] prog_45_method_8_code 4 none ({ frames := 4, cells := 0, slots := 0, locals := 93 } : Room) #[.ref sh] h0 (fun v h => v = none ∧ Hp Z n0 h ((sh, ObC Z "com/example/narrow_bounds/narrowbounds/Share" (fs_Share (.ref loA) (.ref hiA) (.int (0 : Int32)) (.int ru) (.ref owA) (.ref otA) (.ref liA) (.ref raA) (.ref olA) (.ref ohA) (.ref zlA) (.ref zhA) (.double fo) (.double fz) (.int (2 : Int32)) (.int at0))) :: (owA, ArC Z .double ow) :: (otA, ArC Z .double ot) :: (raA, ArC Z .int [.int ka, .int kb, .int (0 : Int32)]) :: F)) := by
  refine con_of (plainFor_of_name pn_Share) ?_
  intro p e s m below meth c T0 W0 e0
  subst e0
  have H0 := H00
  refine g_cast (ef_r4 m sh) ?_
  refine g_iconst W0 d9_0 (pc' := 1) rfl (v := (1 : Int32)) (by decide) ?_
  refine g_istoreN W0 d9_1 (pc' := 2) rfl (ls' := #[.val (.ref sh), .val (.int (1 : Int32)), .unset, .unset]) rfl ?_
  refine g_iloadN W0 d9_2 (pc' := 3) rfl rfl ?_
  refine g_aloadN W0 d9_3 (pc' := 4) rfl rfl rfl ?_
  refine g_getf W0 (wd_59 hw) Via.refl H0 (i := 0) rfl (jx := 14) rfl d9_4 (pc' := 7) rfl ?_
  intro T1 W1 H1
  refine g_icmp W1 d9_7 (pcy := 72) (by decide) (pc' := 10) rfl (fun (h : ¬ (1 : Int32) < (2 : Int32)) => absurd h (by decide)) (fun _ => ?_)
  refine g_aloadN W1 d9_10 (pc' := 11) rfl rfl rfl ?_
  refine g_getf W1 (wd_26 hw) Via.refl H1 (i := 0) rfl (jx := 7) rfl d9_11 (pc' := 14) rfl ?_
  intro T2 W2 H2
  refine g_iloadN W2 d9_14 (pc' := 15) rfl rfl ?_
  refine g_iaload W2 H2 (i := 3) rfl (jx := 1) (by decide) (v := .int kb) rfl d9_15 (pc' := 16) rfl ?_
  refine g_istoreN W2 d9_16 (pc' := 17) rfl (ls' := #[.val (.ref sh), .val (.int (1 : Int32)), .val (.int kb), .unset]) rfl ?_
  refine g_iloadN W2 d9_17 (pc' := 18) rfl rfl ?_
  refine g_istoreN W2 d9_18 (pc' := 19) rfl (ls' := #[.val (.ref sh), .val (.int (1 : Int32)), .val (.int kb), .val (.int (1 : Int32))]) rfl ?_
  refine g_iloadN W2 d9_19 (pc' := 20) rfl rfl ?_
  refine g_if W2 d9_20 (pcy := 59) (by decide) (pc' := 23) rfl (fun (h : ¬ (0 : Int32) < (1 : Int32)) => absurd h (by decide)) (fun _ => ?_)
  refine g_aloadN W2 d9_23 (pc' := 24) rfl rfl rfl ?_
  refine g_iloadN W2 d9_24 (pc' := 25) rfl rfl ?_
  refine g_aloadN W2 d9_25 (pc' := 26) rfl rfl rfl ?_
  refine g_getf W2 (wd_26 hw) Via.refl H2 (i := 0) rfl (jx := 7) rfl d9_26 (pc' := 29) rfl ?_
  intro T3 W3 H3
  refine g_iloadN W3 d9_29 (pc' := 30) rfl rfl ?_
  refine g_iconst W3 d9_30 (pc' := 31) rfl (v := (1 : Int32)) (by decide) ?_
  refine g_isub W3 d9_31 (pc' := 32) rfl (v := (0 : Int32)) (by decide) ?_
  refine g_iaload W3 H3 (i := 3) rfl (jx := 0) (by decide) (v := .int ka) rfl d9_32 (pc' := 33) rfl ?_
  have H4f := Hp.fr2 H3
  have H5f := Hp.fr2 H4f
  have H6f := Hp.fr2 H5f
  refine g_callP W3 (argsL := [.int kb, .int ka]) (st := []) (wd_70 hw) (wd_71 hw) (wd_72 hw) (wd_2 hw) (wd_3 hw) (wd_73 hw) (by decide) (a := sh) H6f (i := 0) rfl (c_cb0oz l Z a0 hw n0 sh loA hiA owA otA liA raA olA ohA zlA zhA ru fo fz at0 kb ka ib ia hib hia ow ot e2 e1 h2 h1 wb zb wa za _ _ H6f) pd_6 rfl rfl rfl d9_33 (pc' := 36) rfl (by decide) (Wn := 0) (Nat.le_of_eq rfl) (by decide) (kc' := 0) (ks' := 0) rfl rfl (by decide) (by decide) ?_
  intro T7 v7 W7 hp7
  obtain ⟨rfl, H7⟩ := hp7
  show Goes _ _ _ _ (State.setTop _ (mkF _ _ _ [.int (0 : Int32)]))
  refine g_if W7 d9_36 (pcy := 59) (by decide) (pc' := 39) rfl (fun _ => ?_) (fun (h : ¬ (0 : Int32) = (0 : Int32)) => absurd h (by decide))
  refine g_aloadN W7 d9_59 (pc' := 60) rfl rfl rfl ?_
  refine g_getf W7 (wd_26 hw) Via.refl H7 (i := 0) rfl (jx := 7) rfl d9_60 (pc' := 63) rfl ?_
  intro T8 W8 H8
  refine g_iloadN W8 d9_63 (pc' := 64) rfl rfl ?_
  refine g_iloadN W8 d9_64 (pc' := 65) rfl rfl ?_
  refine g_iastore W8 H8 (i := 3) rfl (jx := 1) (by decide) (by exact (by decide : 1 < 3)) d9_65 (pc' := 66) rfl (L' := ((sh, ObC Z "com/example/narrow_bounds/narrowbounds/Share" (fs_Share (.ref loA) (.ref hiA) (.int (0 : Int32)) (.int ru) (.ref owA) (.ref otA) (.ref liA) (.ref raA) (.ref olA) (.ref ohA) (.ref zlA) (.ref zhA) (.double fo) (.double fz) (.int (2 : Int32)) (.int at0))) :: (owA, ArC Z .double ow) :: (otA, ArC Z .double ot) :: (raA, ArC Z .int [.int ka, .int kb, .int (0 : Int32)]) :: F)) rfl ?_
  intro T9 W9 H9
  refine g_iinc W9 d9_66 (pc' := 69) rfl rfl (v := (2 : Int32)) (by decide) (ls' := #[.val (.ref sh), .val (.int (2 : Int32)), .val (.int kb), .val (.int (1 : Int32))]) rfl ?_
  refine g_goto W9 d9_69 (pc' := 2) (by decide) ?_
  refine g_iloadN W9 d9_2 (pc' := 3) rfl rfl ?_
  refine g_aloadN W9 d9_3 (pc' := 4) rfl rfl rfl ?_
  refine g_getf W9 (wd_59 hw) Via.refl H9 (i := 0) rfl (jx := 14) rfl d9_4 (pc' := 7) rfl ?_
  intro T10 W10 H10
  refine g_icmp W10 d9_7 (pcy := 72) (by decide) (pc' := 10) rfl (fun _ => ?_) (fun (h : ¬ ¬ (2 : Int32) < (2 : Int32)) => absurd h (by decide))
  have H11f := Hp.fr3 H10
  have H12f := Hp.fr3 H11f
  have H13f := Hp.fr3 H12f
  have H14f := Hp.fr3 H13f
  exact g_return W10 d9_72 ⟨rfl, H14f⟩ (by decide) (by decide)
theorem c_sr0zz (l : Launch) (Z : State) (a0 : Array Value) (hw : ∀ d ∈ tables_1, d.before a0 Z = true) (n0 : Nat) (sh loA hiA owA otA liA raA olA ohA zlA zhA : Addr) (ru : Int32) (fo fz : UInt64) (at0 : Int32) (ka kb : Int32) (ia ib : Nat) (hia : ka.toInt = (ia : Int)) (hib : kb.toInt = (ib : Int)) (ow ot : List Value) (e1 e2 : Int32) (h1 : e1 ∈ coL) (h2 : e2 ∈ coL) (wa : ow[ia]? = some (.double 0)) (za : ot[ia]? = some (.double (FP.i2d e1))) (wb : ow[ib]? = some (.double 0)) (zb : ot[ib]? = some (.double (FP.i2d e2)))  (h0 : Heap) (F : List HRow) (H00 : Hp Z n0 h0 ((sh, ObC Z "com/example/narrow_bounds/narrowbounds/Share" (fs_Share (.ref loA) (.ref hiA) (.int (0 : Int32)) (.int ru) (.ref owA) (.ref otA) (.ref liA) (.ref raA) (.ref olA) (.ref ohA) (.ref zlA) (.ref zhA) (.double fo) (.double fz) (.int (2 : Int32)) (.int at0))) :: (owA, ArC Z .double ow) :: (otA, ArC Z .double ot) :: (raA, ArC Z .int [.int ka, .int kb, .int (0 : Int32)]) :: F)) :
    Con l Z n0 ⟨"com/example/narrow_bounds/narrowbounds/Share", "sortRanges", "()V"⟩ [] prog_45_method_8_code 4 none ({ frames := 5, cells := 0, slots := 0, locals := 112 } : Room) #[.ref sh] h0 (fun v h => v = none ∧ Hp Z n0 h ((sh, ObC Z "com/example/narrow_bounds/narrowbounds/Share" (fs_Share (.ref loA) (.ref hiA) (.int (0 : Int32)) (.int ru) (.ref owA) (.ref otA) (.ref liA) (.ref raA) (.ref olA) (.ref ohA) (.ref zlA) (.ref zhA) (.double fo) (.double fz) (.int (2 : Int32)) (.int at0))) :: (owA, ArC Z .double ow) :: (otA, ArC Z .double ot) :: (raA, ArC Z .int [.int ka, .int kb, .int (0 : Int32)]) :: F)) := by
  refine con_of (plainFor_of_name pn_Share) ?_
  intro p e s m below meth c T0 W0 e0
  subst e0
  have H0 := H00
  refine g_cast (ef_r4 m sh) ?_
  refine g_iconst W0 d9_0 (pc' := 1) rfl (v := (1 : Int32)) (by decide) ?_
  refine g_istoreN W0 d9_1 (pc' := 2) rfl (ls' := #[.val (.ref sh), .val (.int (1 : Int32)), .unset, .unset]) rfl ?_
  refine g_iloadN W0 d9_2 (pc' := 3) rfl rfl ?_
  refine g_aloadN W0 d9_3 (pc' := 4) rfl rfl rfl ?_
  refine g_getf W0 (wd_59 hw) Via.refl H0 (i := 0) rfl (jx := 14) rfl d9_4 (pc' := 7) rfl ?_
  intro T1 W1 H1
  refine g_icmp W1 d9_7 (pcy := 72) (by decide) (pc' := 10) rfl (fun (h : ¬ (1 : Int32) < (2 : Int32)) => absurd h (by decide)) (fun _ => ?_)
  refine g_aloadN W1 d9_10 (pc' := 11) rfl rfl rfl ?_
  refine g_getf W1 (wd_26 hw) Via.refl H1 (i := 0) rfl (jx := 7) rfl d9_11 (pc' := 14) rfl ?_
  intro T2 W2 H2
  refine g_iloadN W2 d9_14 (pc' := 15) rfl rfl ?_
  refine g_iaload W2 H2 (i := 3) rfl (jx := 1) (by decide) (v := .int kb) rfl d9_15 (pc' := 16) rfl ?_
  refine g_istoreN W2 d9_16 (pc' := 17) rfl (ls' := #[.val (.ref sh), .val (.int (1 : Int32)), .val (.int kb), .unset]) rfl ?_
  refine g_iloadN W2 d9_17 (pc' := 18) rfl rfl ?_
  refine g_istoreN W2 d9_18 (pc' := 19) rfl (ls' := #[.val (.ref sh), .val (.int (1 : Int32)), .val (.int kb), .val (.int (1 : Int32))]) rfl ?_
  refine g_iloadN W2 d9_19 (pc' := 20) rfl rfl ?_
  refine g_if W2 d9_20 (pcy := 59) (by decide) (pc' := 23) rfl (fun (h : ¬ (0 : Int32) < (1 : Int32)) => absurd h (by decide)) (fun _ => ?_)
  refine g_aloadN W2 d9_23 (pc' := 24) rfl rfl rfl ?_
  refine g_iloadN W2 d9_24 (pc' := 25) rfl rfl ?_
  refine g_aloadN W2 d9_25 (pc' := 26) rfl rfl rfl ?_
  refine g_getf W2 (wd_26 hw) Via.refl H2 (i := 0) rfl (jx := 7) rfl d9_26 (pc' := 29) rfl ?_
  intro T3 W3 H3
  refine g_iloadN W3 d9_29 (pc' := 30) rfl rfl ?_
  refine g_iconst W3 d9_30 (pc' := 31) rfl (v := (1 : Int32)) (by decide) ?_
  refine g_isub W3 d9_31 (pc' := 32) rfl (v := (0 : Int32)) (by decide) ?_
  refine g_iaload W3 H3 (i := 3) rfl (jx := 0) (by decide) (v := .int ka) rfl d9_32 (pc' := 33) rfl ?_
  have H4f := Hp.fr2 H3
  have H5f := Hp.fr2 H4f
  have H6f := Hp.fr2 H5f
  refine g_callP W3 (argsL := [.int kb, .int ka]) (st := []) (wd_70 hw) (wd_71 hw) (wd_72 hw) (wd_2 hw) (wd_3 hw) (wd_73 hw) (by decide) (a := sh) H6f (i := 0) rfl (c_cb0zz l Z a0 hw n0 sh loA hiA owA otA liA raA olA ohA zlA zhA ru fo fz at0 kb ka ib ia hib hia ow ot e2 e1 h2 h1 wb zb wa za _ _ H6f) pd_6 rfl rfl rfl d9_33 (pc' := 36) rfl (by decide) (Wn := 0) (Nat.le_of_eq rfl) (by decide) (kc' := 0) (ks' := 0) rfl rfl (by decide) (by decide) ?_
  intro T7 v7 W7 hp7
  obtain ⟨rfl, H7⟩ := hp7
  show Goes _ _ _ _ (State.setTop _ (mkF _ _ _ [.int (0 : Int32)]))
  refine g_if W7 d9_36 (pcy := 59) (by decide) (pc' := 39) rfl (fun _ => ?_) (fun (h : ¬ (0 : Int32) = (0 : Int32)) => absurd h (by decide))
  refine g_aloadN W7 d9_59 (pc' := 60) rfl rfl rfl ?_
  refine g_getf W7 (wd_26 hw) Via.refl H7 (i := 0) rfl (jx := 7) rfl d9_60 (pc' := 63) rfl ?_
  intro T8 W8 H8
  refine g_iloadN W8 d9_63 (pc' := 64) rfl rfl ?_
  refine g_iloadN W8 d9_64 (pc' := 65) rfl rfl ?_
  refine g_iastore W8 H8 (i := 3) rfl (jx := 1) (by decide) (by exact (by decide : 1 < 3)) d9_65 (pc' := 66) rfl (L' := ((sh, ObC Z "com/example/narrow_bounds/narrowbounds/Share" (fs_Share (.ref loA) (.ref hiA) (.int (0 : Int32)) (.int ru) (.ref owA) (.ref otA) (.ref liA) (.ref raA) (.ref olA) (.ref ohA) (.ref zlA) (.ref zhA) (.double fo) (.double fz) (.int (2 : Int32)) (.int at0))) :: (owA, ArC Z .double ow) :: (otA, ArC Z .double ot) :: (raA, ArC Z .int [.int ka, .int kb, .int (0 : Int32)]) :: F)) rfl ?_
  intro T9 W9 H9
  refine g_iinc W9 d9_66 (pc' := 69) rfl rfl (v := (2 : Int32)) (by decide) (ls' := #[.val (.ref sh), .val (.int (2 : Int32)), .val (.int kb), .val (.int (1 : Int32))]) rfl ?_
  refine g_goto W9 d9_69 (pc' := 2) (by decide) ?_
  refine g_iloadN W9 d9_2 (pc' := 3) rfl rfl ?_
  refine g_aloadN W9 d9_3 (pc' := 4) rfl rfl rfl ?_
  refine g_getf W9 (wd_59 hw) Via.refl H9 (i := 0) rfl (jx := 14) rfl d9_4 (pc' := 7) rfl ?_
  intro T10 W10 H10
  refine g_icmp W10 d9_7 (pcy := 72) (by decide) (pc' := 10) rfl (fun _ => ?_) (fun (h : ¬ ¬ (2 : Int32) < (2 : Int32)) => absurd h (by decide))
  have H11f := Hp.fr3 H10
  have H12f := Hp.fr3 H11f
  have H13f := Hp.fr3 H12f
  have H14f := Hp.fr3 H13f
  exact g_return W10 d9_72 ⟨rfl, H14f⟩ (by decide) (by decide)
theorem c_sr1oo (l : Launch) (Z : State) (a0 : Array Value) (hw : ∀ d ∈ tables_1, d.before a0 Z = true) (n0 : Nat) (sh loA hiA owA otA liA raA olA ohA zlA zhA : Addr) (ru : Int32) (fo fz : UInt64) (at0 : Int32) (ka kb : Int32) (ia ib : Nat) (hia : ka.toInt = (ia : Int)) (hib : kb.toInt = (ib : Int)) (ow ot : List Value) (e1 e2 : Int32) (h1 : e1 ∈ coL) (h2 : e2 ∈ coL) (wa : ow[ia]? = some (.double (FP.i2d e1))) (za : ot[ia]? = some (.double 0)) (wb : ow[ib]? = some (.double (FP.i2d e2))) (zb : ot[ib]? = some (.double 0))  (h0 : Heap) (F : List HRow) (H00 : Hp Z n0 h0 ((sh, ObC Z "com/example/narrow_bounds/narrowbounds/Share" (fs_Share (.ref loA) (.ref hiA) (.int (1 : Int32)) (.int ru) (.ref owA) (.ref otA) (.ref liA) (.ref raA) (.ref olA) (.ref ohA) (.ref zlA) (.ref zhA) (.double fo) (.double fz) (.int (2 : Int32)) (.int at0))) :: (owA, ArC Z .double ow) :: (otA, ArC Z .double ot) :: (raA, ArC Z .int [.int ka, .int kb, .int (0 : Int32)]) :: F)) :
    Con l Z n0 ⟨"com/example/narrow_bounds/narrowbounds/Share", "sortRanges", "()V"⟩ [] prog_45_method_8_code 4 none ({ frames := 5, cells := 0, slots := 0, locals := 112 } : Room) #[.ref sh] h0 (fun v h => v = none ∧ Hp Z n0 h ((sh, ObC Z "com/example/narrow_bounds/narrowbounds/Share" (fs_Share (.ref loA) (.ref hiA) (.int (1 : Int32)) (.int ru) (.ref owA) (.ref otA) (.ref liA) (.ref raA) (.ref olA) (.ref ohA) (.ref zlA) (.ref zhA) (.double fo) (.double fz) (.int (2 : Int32)) (.int at0))) :: (owA, ArC Z .double ow) :: (otA, ArC Z .double ot) :: (raA, ArC Z .int [.int ka, .int kb, .int (0 : Int32)]) :: F)) := by
  refine con_of (plainFor_of_name pn_Share) ?_
  intro p e s m below meth c T0 W0 e0
  subst e0
  have H0 := H00
  refine g_cast (ef_r4 m sh) ?_
  refine g_iconst W0 d9_0 (pc' := 1) rfl (v := (1 : Int32)) (by decide) ?_
  refine g_istoreN W0 d9_1 (pc' := 2) rfl (ls' := #[.val (.ref sh), .val (.int (1 : Int32)), .unset, .unset]) rfl ?_
  refine g_iloadN W0 d9_2 (pc' := 3) rfl rfl ?_
  refine g_aloadN W0 d9_3 (pc' := 4) rfl rfl rfl ?_
  refine g_getf W0 (wd_59 hw) Via.refl H0 (i := 0) rfl (jx := 14) rfl d9_4 (pc' := 7) rfl ?_
  intro T1 W1 H1
  refine g_icmp W1 d9_7 (pcy := 72) (by decide) (pc' := 10) rfl (fun (h : ¬ (1 : Int32) < (2 : Int32)) => absurd h (by decide)) (fun _ => ?_)
  refine g_aloadN W1 d9_10 (pc' := 11) rfl rfl rfl ?_
  refine g_getf W1 (wd_26 hw) Via.refl H1 (i := 0) rfl (jx := 7) rfl d9_11 (pc' := 14) rfl ?_
  intro T2 W2 H2
  refine g_iloadN W2 d9_14 (pc' := 15) rfl rfl ?_
  refine g_iaload W2 H2 (i := 3) rfl (jx := 1) (by decide) (v := .int kb) rfl d9_15 (pc' := 16) rfl ?_
  refine g_istoreN W2 d9_16 (pc' := 17) rfl (ls' := #[.val (.ref sh), .val (.int (1 : Int32)), .val (.int kb), .unset]) rfl ?_
  refine g_iloadN W2 d9_17 (pc' := 18) rfl rfl ?_
  refine g_istoreN W2 d9_18 (pc' := 19) rfl (ls' := #[.val (.ref sh), .val (.int (1 : Int32)), .val (.int kb), .val (.int (1 : Int32))]) rfl ?_
  refine g_iloadN W2 d9_19 (pc' := 20) rfl rfl ?_
  refine g_if W2 d9_20 (pcy := 59) (by decide) (pc' := 23) rfl (fun (h : ¬ (0 : Int32) < (1 : Int32)) => absurd h (by decide)) (fun _ => ?_)
  refine g_aloadN W2 d9_23 (pc' := 24) rfl rfl rfl ?_
  refine g_iloadN W2 d9_24 (pc' := 25) rfl rfl ?_
  refine g_aloadN W2 d9_25 (pc' := 26) rfl rfl rfl ?_
  refine g_getf W2 (wd_26 hw) Via.refl H2 (i := 0) rfl (jx := 7) rfl d9_26 (pc' := 29) rfl ?_
  intro T3 W3 H3
  refine g_iloadN W3 d9_29 (pc' := 30) rfl rfl ?_
  refine g_iconst W3 d9_30 (pc' := 31) rfl (v := (1 : Int32)) (by decide) ?_
  refine g_isub W3 d9_31 (pc' := 32) rfl (v := (0 : Int32)) (by decide) ?_
  refine g_iaload W3 H3 (i := 3) rfl (jx := 0) (by decide) (v := .int ka) rfl d9_32 (pc' := 33) rfl ?_
  have H4f := Hp.fr2 H3
  have H5f := Hp.fr2 H4f
  have H6f := Hp.fr2 H5f
  refine g_callP W3 (argsL := [.int kb, .int ka]) (st := []) (wd_70 hw) (wd_71 hw) (wd_72 hw) (wd_2 hw) (wd_3 hw) (wd_73 hw) (by decide) (a := sh) H6f (i := 0) rfl (c_cb1oo l Z a0 hw n0 sh loA hiA owA otA liA raA olA ohA zlA zhA ru fo fz at0 kb ka ib ia hib hia ow ot e2 e1 h2 h1 wb zb wa za _ _ H6f) pd_6 rfl rfl rfl d9_33 (pc' := 36) rfl (by decide) (Wn := 0) (Nat.le_of_eq rfl) (by decide) (kc' := 0) (ks' := 0) rfl rfl (by decide) (by decide) ?_
  intro T7 v7 W7 hp7
  obtain ⟨rfl, H7⟩ := hp7
  show Goes _ _ _ _ (State.setTop _ (mkF _ _ _ [.int (0 : Int32)]))
  refine g_if W7 d9_36 (pcy := 59) (by decide) (pc' := 39) rfl (fun _ => ?_) (fun (h : ¬ (0 : Int32) = (0 : Int32)) => absurd h (by decide))
  refine g_aloadN W7 d9_59 (pc' := 60) rfl rfl rfl ?_
  refine g_getf W7 (wd_26 hw) Via.refl H7 (i := 0) rfl (jx := 7) rfl d9_60 (pc' := 63) rfl ?_
  intro T8 W8 H8
  refine g_iloadN W8 d9_63 (pc' := 64) rfl rfl ?_
  refine g_iloadN W8 d9_64 (pc' := 65) rfl rfl ?_
  refine g_iastore W8 H8 (i := 3) rfl (jx := 1) (by decide) (by exact (by decide : 1 < 3)) d9_65 (pc' := 66) rfl (L' := ((sh, ObC Z "com/example/narrow_bounds/narrowbounds/Share" (fs_Share (.ref loA) (.ref hiA) (.int (1 : Int32)) (.int ru) (.ref owA) (.ref otA) (.ref liA) (.ref raA) (.ref olA) (.ref ohA) (.ref zlA) (.ref zhA) (.double fo) (.double fz) (.int (2 : Int32)) (.int at0))) :: (owA, ArC Z .double ow) :: (otA, ArC Z .double ot) :: (raA, ArC Z .int [.int ka, .int kb, .int (0 : Int32)]) :: F)) rfl ?_
  intro T9 W9 H9
  refine g_iinc W9 d9_66 (pc' := 69) rfl rfl (v := (2 : Int32)) (by decide) (ls' := #[.val (.ref sh), .val (.int (2 : Int32)), .val (.int kb), .val (.int (1 : Int32))]) rfl ?_
  refine g_goto W9 d9_69 (pc' := 2) (by decide) ?_
  refine g_iloadN W9 d9_2 (pc' := 3) rfl rfl ?_
  refine g_aloadN W9 d9_3 (pc' := 4) rfl rfl rfl ?_
  refine g_getf W9 (wd_59 hw) Via.refl H9 (i := 0) rfl (jx := 14) rfl d9_4 (pc' := 7) rfl ?_
  intro T10 W10 H10
  refine g_icmp W10 d9_7 (pcy := 72) (by decide) (pc' := 10) rfl (fun _ => ?_) (fun (h : ¬ ¬ (2 : Int32) < (2 : Int32)) => absurd h (by decide))
  have H11f := Hp.fr3 H10
  have H12f := Hp.fr3 H11f
  have H13f := Hp.fr3 H12f
  have H14f := Hp.fr3 H13f
  exact g_return W10 d9_72 ⟨rfl, H14f⟩ (by decide) (by decide)
theorem c_sr1oz (l : Launch) (Z : State) (a0 : Array Value) (hw : ∀ d ∈ tables_1, d.before a0 Z = true) (n0 : Nat) (sh loA hiA owA otA liA raA olA ohA zlA zhA : Addr) (ru : Int32) (fo fz : UInt64) (at0 : Int32) (ka kb : Int32) (ia ib : Nat) (hia : ka.toInt = (ia : Int)) (hib : kb.toInt = (ib : Int)) (ow ot : List Value) (e1 e2 : Int32) (h1 : e1 ∈ coL) (h2 : e2 ∈ coL) (wa : ow[ia]? = some (.double (FP.i2d e1))) (za : ot[ia]? = some (.double 0)) (wb : ow[ib]? = some (.double 0)) (zb : ot[ib]? = some (.double (FP.i2d e2)))  (h0 : Heap) (F : List HRow) (H00 : Hp Z n0 h0 ((sh, ObC Z "com/example/narrow_bounds/narrowbounds/Share" (fs_Share (.ref loA) (.ref hiA) (.int (1 : Int32)) (.int ru) (.ref owA) (.ref otA) (.ref liA) (.ref raA) (.ref olA) (.ref ohA) (.ref zlA) (.ref zhA) (.double fo) (.double fz) (.int (2 : Int32)) (.int at0))) :: (owA, ArC Z .double ow) :: (otA, ArC Z .double ot) :: (raA, ArC Z .int [.int ka, .int kb, .int (0 : Int32)]) :: F)) :
    Con l Z n0 ⟨"com/example/narrow_bounds/narrowbounds/Share", "sortRanges", "()V"⟩ [] prog_45_method_8_code 4 none ({ frames := 4, cells := 0, slots := 0, locals := 93 } : Room) #[.ref sh] h0 (fun v h => v = none ∧ Hp Z n0 h ((sh, ObC Z "com/example/narrow_bounds/narrowbounds/Share" (fs_Share (.ref loA) (.ref hiA) (.int (1 : Int32)) (.int ru) (.ref owA) (.ref otA) (.ref liA) (.ref raA) (.ref olA) (.ref ohA) (.ref zlA) (.ref zhA) (.double fo) (.double fz) (.int (2 : Int32)) (.int at0))) :: (owA, ArC Z .double ow) :: (otA, ArC Z .double ot) :: (raA, ArC Z .int [.int ka, .int kb, .int (0 : Int32)]) :: F)) := by
  refine con_of (plainFor_of_name pn_Share) ?_
  intro p e s m below meth c T0 W0 e0
  subst e0
  have H0 := H00
  refine g_cast (ef_r4 m sh) ?_
  refine g_iconst W0 d9_0 (pc' := 1) rfl (v := (1 : Int32)) (by decide) ?_
  refine g_istoreN W0 d9_1 (pc' := 2) rfl (ls' := #[.val (.ref sh), .val (.int (1 : Int32)), .unset, .unset]) rfl ?_
  refine g_iloadN W0 d9_2 (pc' := 3) rfl rfl ?_
  refine g_aloadN W0 d9_3 (pc' := 4) rfl rfl rfl ?_
  refine g_getf W0 (wd_59 hw) Via.refl H0 (i := 0) rfl (jx := 14) rfl d9_4 (pc' := 7) rfl ?_
  intro T1 W1 H1
  refine g_icmp W1 d9_7 (pcy := 72) (by decide) (pc' := 10) rfl (fun (h : ¬ (1 : Int32) < (2 : Int32)) => absurd h (by decide)) (fun _ => ?_)
  refine g_aloadN W1 d9_10 (pc' := 11) rfl rfl rfl ?_
  refine g_getf W1 (wd_26 hw) Via.refl H1 (i := 0) rfl (jx := 7) rfl d9_11 (pc' := 14) rfl ?_
  intro T2 W2 H2
  refine g_iloadN W2 d9_14 (pc' := 15) rfl rfl ?_
  refine g_iaload W2 H2 (i := 3) rfl (jx := 1) (by decide) (v := .int kb) rfl d9_15 (pc' := 16) rfl ?_
  refine g_istoreN W2 d9_16 (pc' := 17) rfl (ls' := #[.val (.ref sh), .val (.int (1 : Int32)), .val (.int kb), .unset]) rfl ?_
  refine g_iloadN W2 d9_17 (pc' := 18) rfl rfl ?_
  refine g_istoreN W2 d9_18 (pc' := 19) rfl (ls' := #[.val (.ref sh), .val (.int (1 : Int32)), .val (.int kb), .val (.int (1 : Int32))]) rfl ?_
  refine g_iloadN W2 d9_19 (pc' := 20) rfl rfl ?_
  refine g_if W2 d9_20 (pcy := 59) (by decide) (pc' := 23) rfl (fun (h : ¬ (0 : Int32) < (1 : Int32)) => absurd h (by decide)) (fun _ => ?_)
  refine g_aloadN W2 d9_23 (pc' := 24) rfl rfl rfl ?_
  refine g_iloadN W2 d9_24 (pc' := 25) rfl rfl ?_
  refine g_aloadN W2 d9_25 (pc' := 26) rfl rfl rfl ?_
  refine g_getf W2 (wd_26 hw) Via.refl H2 (i := 0) rfl (jx := 7) rfl d9_26 (pc' := 29) rfl ?_
  intro T3 W3 H3
  refine g_iloadN W3 d9_29 (pc' := 30) rfl rfl ?_
  refine g_iconst W3 d9_30 (pc' := 31) rfl (v := (1 : Int32)) (by decide) ?_
  refine g_isub W3 d9_31 (pc' := 32) rfl (v := (0 : Int32)) (by decide) ?_
  refine g_iaload W3 H3 (i := 3) rfl (jx := 0) (by decide) (v := .int ka) rfl d9_32 (pc' := 33) rfl ?_
  have H4f := Hp.fr2 H3
  have H5f := Hp.fr2 H4f
  have H6f := Hp.fr2 H5f
  refine g_callP W3 (argsL := [.int kb, .int ka]) (st := []) (wd_70 hw) (wd_71 hw) (wd_72 hw) (wd_2 hw) (wd_3 hw) (wd_73 hw) (by decide) (a := sh) H6f (i := 0) rfl (c_cb1zo l Z a0 hw n0 sh loA hiA owA otA liA raA olA ohA zlA zhA ru fo fz at0 kb ka ib ia hib hia ow ot e2 e1 h2 h1 wb zb wa za _ _ H6f) pd_6 rfl rfl rfl d9_33 (pc' := 36) rfl (by decide) (Wn := 0) (Nat.le_of_eq rfl) (by decide) (kc' := 0) (ks' := 0) rfl rfl (by decide) (by decide) ?_
  intro T7 v7 W7 hp7
  obtain ⟨rfl, H7⟩ := hp7
  show Goes _ _ _ _ (State.setTop _ (mkF _ _ _ [.int (0 : Int32)]))
  refine g_if W7 d9_36 (pcy := 59) (by decide) (pc' := 39) rfl (fun _ => ?_) (fun (h : ¬ (0 : Int32) = (0 : Int32)) => absurd h (by decide))
  refine g_aloadN W7 d9_59 (pc' := 60) rfl rfl rfl ?_
  refine g_getf W7 (wd_26 hw) Via.refl H7 (i := 0) rfl (jx := 7) rfl d9_60 (pc' := 63) rfl ?_
  intro T8 W8 H8
  refine g_iloadN W8 d9_63 (pc' := 64) rfl rfl ?_
  refine g_iloadN W8 d9_64 (pc' := 65) rfl rfl ?_
  refine g_iastore W8 H8 (i := 3) rfl (jx := 1) (by decide) (by exact (by decide : 1 < 3)) d9_65 (pc' := 66) rfl (L' := ((sh, ObC Z "com/example/narrow_bounds/narrowbounds/Share" (fs_Share (.ref loA) (.ref hiA) (.int (1 : Int32)) (.int ru) (.ref owA) (.ref otA) (.ref liA) (.ref raA) (.ref olA) (.ref ohA) (.ref zlA) (.ref zhA) (.double fo) (.double fz) (.int (2 : Int32)) (.int at0))) :: (owA, ArC Z .double ow) :: (otA, ArC Z .double ot) :: (raA, ArC Z .int [.int ka, .int kb, .int (0 : Int32)]) :: F)) rfl ?_
  intro T9 W9 H9
  refine g_iinc W9 d9_66 (pc' := 69) rfl rfl (v := (2 : Int32)) (by decide) (ls' := #[.val (.ref sh), .val (.int (2 : Int32)), .val (.int kb), .val (.int (1 : Int32))]) rfl ?_
  refine g_goto W9 d9_69 (pc' := 2) (by decide) ?_
  refine g_iloadN W9 d9_2 (pc' := 3) rfl rfl ?_
  refine g_aloadN W9 d9_3 (pc' := 4) rfl rfl rfl ?_
  refine g_getf W9 (wd_59 hw) Via.refl H9 (i := 0) rfl (jx := 14) rfl d9_4 (pc' := 7) rfl ?_
  intro T10 W10 H10
  refine g_icmp W10 d9_7 (pcy := 72) (by decide) (pc' := 10) rfl (fun _ => ?_) (fun (h : ¬ ¬ (2 : Int32) < (2 : Int32)) => absurd h (by decide))
  have H11f := Hp.fr3 H10
  have H12f := Hp.fr3 H11f
  have H13f := Hp.fr3 H12f
  have H14f := Hp.fr3 H13f
  exact g_return W10 d9_72 ⟨rfl, H14f⟩ (by decide) (by decide)
theorem c_sr1zo (l : Launch) (Z : State) (a0 : Array Value) (hw : ∀ d ∈ tables_1, d.before a0 Z = true) (n0 : Nat) (sh loA hiA owA otA liA raA olA ohA zlA zhA : Addr) (ru : Int32) (fo fz : UInt64) (at0 : Int32) (ka kb : Int32) (ia ib : Nat) (hia : ka.toInt = (ia : Int)) (hib : kb.toInt = (ib : Int)) (ow ot : List Value) (e1 e2 : Int32) (h1 : e1 ∈ coL) (h2 : e2 ∈ coL) (wa : ow[ia]? = some (.double 0)) (za : ot[ia]? = some (.double (FP.i2d e1))) (wb : ow[ib]? = some (.double (FP.i2d e2))) (zb : ot[ib]? = some (.double 0))  (h0 : Heap) (F : List HRow) (H00 : Hp Z n0 h0 ((sh, ObC Z "com/example/narrow_bounds/narrowbounds/Share" (fs_Share (.ref loA) (.ref hiA) (.int (1 : Int32)) (.int ru) (.ref owA) (.ref otA) (.ref liA) (.ref raA) (.ref olA) (.ref ohA) (.ref zlA) (.ref zhA) (.double fo) (.double fz) (.int (2 : Int32)) (.int at0))) :: (owA, ArC Z .double ow) :: (otA, ArC Z .double ot) :: (raA, ArC Z .int [.int ka, .int kb, .int (0 : Int32)]) :: F)) :
    Con l Z n0 ⟨"com/example/narrow_bounds/narrowbounds/Share", "sortRanges", "()V"⟩ [] prog_45_method_8_code 4 none ({ frames := 4, cells := 0, slots := 0, locals := 93 } : Room) #[.ref sh] h0 (fun v h => v = none ∧ Hp Z n0 h ((sh, ObC Z "com/example/narrow_bounds/narrowbounds/Share" (fs_Share (.ref loA) (.ref hiA) (.int (1 : Int32)) (.int ru) (.ref owA) (.ref otA) (.ref liA) (.ref raA) (.ref olA) (.ref ohA) (.ref zlA) (.ref zhA) (.double fo) (.double fz) (.int (2 : Int32)) (.int at0))) :: (owA, ArC Z .double ow) :: (otA, ArC Z .double ot) :: (raA, ArC Z .int [.int kb, .int ka, .int (0 : Int32)]) :: F)) := by
  refine con_of (plainFor_of_name pn_Share) ?_
  intro p e s m below meth c T0 W0 e0
  subst e0
  have H0 := H00
  refine g_cast (ef_r4 m sh) ?_
  refine g_iconst W0 d9_0 (pc' := 1) rfl (v := (1 : Int32)) (by decide) ?_
  refine g_istoreN W0 d9_1 (pc' := 2) rfl (ls' := #[.val (.ref sh), .val (.int (1 : Int32)), .unset, .unset]) rfl ?_
  refine g_iloadN W0 d9_2 (pc' := 3) rfl rfl ?_
  refine g_aloadN W0 d9_3 (pc' := 4) rfl rfl rfl ?_
  refine g_getf W0 (wd_59 hw) Via.refl H0 (i := 0) rfl (jx := 14) rfl d9_4 (pc' := 7) rfl ?_
  intro T1 W1 H1
  refine g_icmp W1 d9_7 (pcy := 72) (by decide) (pc' := 10) rfl (fun (h : ¬ (1 : Int32) < (2 : Int32)) => absurd h (by decide)) (fun _ => ?_)
  refine g_aloadN W1 d9_10 (pc' := 11) rfl rfl rfl ?_
  refine g_getf W1 (wd_26 hw) Via.refl H1 (i := 0) rfl (jx := 7) rfl d9_11 (pc' := 14) rfl ?_
  intro T2 W2 H2
  refine g_iloadN W2 d9_14 (pc' := 15) rfl rfl ?_
  refine g_iaload W2 H2 (i := 3) rfl (jx := 1) (by decide) (v := .int kb) rfl d9_15 (pc' := 16) rfl ?_
  refine g_istoreN W2 d9_16 (pc' := 17) rfl (ls' := #[.val (.ref sh), .val (.int (1 : Int32)), .val (.int kb), .unset]) rfl ?_
  refine g_iloadN W2 d9_17 (pc' := 18) rfl rfl ?_
  refine g_istoreN W2 d9_18 (pc' := 19) rfl (ls' := #[.val (.ref sh), .val (.int (1 : Int32)), .val (.int kb), .val (.int (1 : Int32))]) rfl ?_
  refine g_iloadN W2 d9_19 (pc' := 20) rfl rfl ?_
  refine g_if W2 d9_20 (pcy := 59) (by decide) (pc' := 23) rfl (fun (h : ¬ (0 : Int32) < (1 : Int32)) => absurd h (by decide)) (fun _ => ?_)
  refine g_aloadN W2 d9_23 (pc' := 24) rfl rfl rfl ?_
  refine g_iloadN W2 d9_24 (pc' := 25) rfl rfl ?_
  refine g_aloadN W2 d9_25 (pc' := 26) rfl rfl rfl ?_
  refine g_getf W2 (wd_26 hw) Via.refl H2 (i := 0) rfl (jx := 7) rfl d9_26 (pc' := 29) rfl ?_
  intro T3 W3 H3
  refine g_iloadN W3 d9_29 (pc' := 30) rfl rfl ?_
  refine g_iconst W3 d9_30 (pc' := 31) rfl (v := (1 : Int32)) (by decide) ?_
  refine g_isub W3 d9_31 (pc' := 32) rfl (v := (0 : Int32)) (by decide) ?_
  refine g_iaload W3 H3 (i := 3) rfl (jx := 0) (by decide) (v := .int ka) rfl d9_32 (pc' := 33) rfl ?_
  have H4f := Hp.fr2 H3
  have H5f := Hp.fr2 H4f
  have H6f := Hp.fr2 H5f
  refine g_callP W3 (argsL := [.int kb, .int ka]) (st := []) (wd_70 hw) (wd_71 hw) (wd_72 hw) (wd_2 hw) (wd_3 hw) (wd_73 hw) (by decide) (a := sh) H6f (i := 0) rfl (c_cb1oz l Z a0 hw n0 sh loA hiA owA otA liA raA olA ohA zlA zhA ru fo fz at0 kb ka ib ia hib hia ow ot e2 e1 h2 h1 wb zb wa za _ _ H6f) pd_6 rfl rfl rfl d9_33 (pc' := 36) rfl (by decide) (Wn := 0) (Nat.le_of_eq rfl) (by decide) (kc' := 0) (ks' := 0) rfl rfl (by decide) (by decide) ?_
  intro T7 v7 W7 hp7
  obtain ⟨rfl, H7⟩ := hp7
  show Goes _ _ _ _ (State.setTop _ (mkF _ _ _ [.int (1 : Int32)]))
  refine g_if W7 d9_36 (pcy := 59) (by decide) (pc' := 39) rfl (fun (h : (1 : Int32) = (0 : Int32)) => absurd h (by decide)) (fun _ => ?_)
  refine g_aloadN W7 d9_39 (pc' := 40) rfl rfl rfl ?_
  refine g_getf W7 (wd_26 hw) Via.refl H7 (i := 0) rfl (jx := 7) rfl d9_40 (pc' := 43) rfl ?_
  intro T8 W8 H8
  refine g_iloadN W8 d9_43 (pc' := 44) rfl rfl ?_
  refine g_aloadN W8 d9_44 (pc' := 45) rfl rfl rfl ?_
  refine g_getf W8 (wd_26 hw) Via.refl H8 (i := 0) rfl (jx := 7) rfl d9_45 (pc' := 48) rfl ?_
  intro T9 W9 H9
  refine g_iloadN W9 d9_48 (pc' := 49) rfl rfl ?_
  refine g_iconst W9 d9_49 (pc' := 50) rfl (v := (1 : Int32)) (by decide) ?_
  refine g_isub W9 d9_50 (pc' := 51) rfl (v := (0 : Int32)) (by decide) ?_
  refine g_iaload W9 H9 (i := 3) rfl (jx := 0) (by decide) (v := .int ka) rfl d9_51 (pc' := 52) rfl ?_
  refine g_iastore W9 H9 (i := 3) rfl (jx := 1) (by decide) (by exact (by decide : 1 < 3)) d9_52 (pc' := 53) rfl (L' := ((sh, ObC Z "com/example/narrow_bounds/narrowbounds/Share" (fs_Share (.ref loA) (.ref hiA) (.int (1 : Int32)) (.int ru) (.ref owA) (.ref otA) (.ref liA) (.ref raA) (.ref olA) (.ref ohA) (.ref zlA) (.ref zhA) (.double fo) (.double fz) (.int (2 : Int32)) (.int at0))) :: (owA, ArC Z .double ow) :: (otA, ArC Z .double ot) :: (raA, ArC Z .int [.int ka, .int ka, .int (0 : Int32)]) :: F)) rfl ?_
  intro T10 W10 H10
  refine g_iinc W10 d9_53 (pc' := 56) rfl rfl (v := (0 : Int32)) (by decide) (ls' := #[.val (.ref sh), .val (.int (1 : Int32)), .val (.int kb), .val (.int (0 : Int32))]) rfl ?_
  refine g_goto W10 d9_56 (pc' := 19) (by decide) ?_
  refine g_iloadN W10 d9_19 (pc' := 20) rfl rfl ?_
  refine g_if W10 d9_20 (pcy := 59) (by decide) (pc' := 23) rfl (fun _ => ?_) (fun (h : ¬ ¬ (0 : Int32) < (0 : Int32)) => absurd h (by decide))
  refine g_aloadN W10 d9_59 (pc' := 60) rfl rfl rfl ?_
  refine g_getf W10 (wd_26 hw) Via.refl H10 (i := 0) rfl (jx := 7) rfl d9_60 (pc' := 63) rfl ?_
  intro T11 W11 H11
  refine g_iloadN W11 d9_63 (pc' := 64) rfl rfl ?_
  refine g_iloadN W11 d9_64 (pc' := 65) rfl rfl ?_
  refine g_iastore W11 H11 (i := 3) rfl (jx := 0) (by decide) (by exact (by decide : 0 < 3)) d9_65 (pc' := 66) rfl (L' := ((sh, ObC Z "com/example/narrow_bounds/narrowbounds/Share" (fs_Share (.ref loA) (.ref hiA) (.int (1 : Int32)) (.int ru) (.ref owA) (.ref otA) (.ref liA) (.ref raA) (.ref olA) (.ref ohA) (.ref zlA) (.ref zhA) (.double fo) (.double fz) (.int (2 : Int32)) (.int at0))) :: (owA, ArC Z .double ow) :: (otA, ArC Z .double ot) :: (raA, ArC Z .int [.int kb, .int ka, .int (0 : Int32)]) :: F)) rfl ?_
  intro T12 W12 H12
  refine g_iinc W12 d9_66 (pc' := 69) rfl rfl (v := (2 : Int32)) (by decide) (ls' := #[.val (.ref sh), .val (.int (2 : Int32)), .val (.int kb), .val (.int (0 : Int32))]) rfl ?_
  refine g_goto W12 d9_69 (pc' := 2) (by decide) ?_
  refine g_iloadN W12 d9_2 (pc' := 3) rfl rfl ?_
  refine g_aloadN W12 d9_3 (pc' := 4) rfl rfl rfl ?_
  refine g_getf W12 (wd_59 hw) Via.refl H12 (i := 0) rfl (jx := 14) rfl d9_4 (pc' := 7) rfl ?_
  intro T13 W13 H13
  refine g_icmp W13 d9_7 (pcy := 72) (by decide) (pc' := 10) rfl (fun _ => ?_) (fun (h : ¬ ¬ (2 : Int32) < (2 : Int32)) => absurd h (by decide))
  have H14f := Hp.fr3 H13
  have H15f := Hp.fr3 H14f
  have H16f := Hp.fr3 H15f
  have H17f := Hp.fr3 H16f
  exact g_return W13 d9_72 ⟨rfl, H17f⟩ (by decide) (by decide)
theorem c_sr1zz (l : Launch) (Z : State) (a0 : Array Value) (hw : ∀ d ∈ tables_1, d.before a0 Z = true) (n0 : Nat) (sh loA hiA owA otA liA raA olA ohA zlA zhA : Addr) (ru : Int32) (fo fz : UInt64) (at0 : Int32) (ka kb : Int32) (ia ib : Nat) (hia : ka.toInt = (ia : Int)) (hib : kb.toInt = (ib : Int)) (ow ot : List Value) (e1 e2 : Int32) (h1 : e1 ∈ coL) (h2 : e2 ∈ coL) (wa : ow[ia]? = some (.double 0)) (za : ot[ia]? = some (.double (FP.i2d e1))) (wb : ow[ib]? = some (.double 0)) (zb : ot[ib]? = some (.double (FP.i2d e2)))  (h0 : Heap) (F : List HRow) (H00 : Hp Z n0 h0 ((sh, ObC Z "com/example/narrow_bounds/narrowbounds/Share" (fs_Share (.ref loA) (.ref hiA) (.int (1 : Int32)) (.int ru) (.ref owA) (.ref otA) (.ref liA) (.ref raA) (.ref olA) (.ref ohA) (.ref zlA) (.ref zhA) (.double fo) (.double fz) (.int (2 : Int32)) (.int at0))) :: (owA, ArC Z .double ow) :: (otA, ArC Z .double ot) :: (raA, ArC Z .int [.int ka, .int kb, .int (0 : Int32)]) :: F)) :
    Con l Z n0 ⟨"com/example/narrow_bounds/narrowbounds/Share", "sortRanges", "()V"⟩ [] prog_45_method_8_code 4 none ({ frames := 5, cells := 0, slots := 0, locals := 112 } : Room) #[.ref sh] h0 (fun v h => v = none ∧ Hp Z n0 h ((sh, ObC Z "com/example/narrow_bounds/narrowbounds/Share" (fs_Share (.ref loA) (.ref hiA) (.int (1 : Int32)) (.int ru) (.ref owA) (.ref otA) (.ref liA) (.ref raA) (.ref olA) (.ref ohA) (.ref zlA) (.ref zhA) (.double fo) (.double fz) (.int (2 : Int32)) (.int at0))) :: (owA, ArC Z .double ow) :: (otA, ArC Z .double ot) :: (raA, ArC Z .int [.int ka, .int kb, .int (0 : Int32)]) :: F)) := by
  refine con_of (plainFor_of_name pn_Share) ?_
  intro p e s m below meth c T0 W0 e0
  subst e0
  have H0 := H00
  refine g_cast (ef_r4 m sh) ?_
  refine g_iconst W0 d9_0 (pc' := 1) rfl (v := (1 : Int32)) (by decide) ?_
  refine g_istoreN W0 d9_1 (pc' := 2) rfl (ls' := #[.val (.ref sh), .val (.int (1 : Int32)), .unset, .unset]) rfl ?_
  refine g_iloadN W0 d9_2 (pc' := 3) rfl rfl ?_
  refine g_aloadN W0 d9_3 (pc' := 4) rfl rfl rfl ?_
  refine g_getf W0 (wd_59 hw) Via.refl H0 (i := 0) rfl (jx := 14) rfl d9_4 (pc' := 7) rfl ?_
  intro T1 W1 H1
  refine g_icmp W1 d9_7 (pcy := 72) (by decide) (pc' := 10) rfl (fun (h : ¬ (1 : Int32) < (2 : Int32)) => absurd h (by decide)) (fun _ => ?_)
  refine g_aloadN W1 d9_10 (pc' := 11) rfl rfl rfl ?_
  refine g_getf W1 (wd_26 hw) Via.refl H1 (i := 0) rfl (jx := 7) rfl d9_11 (pc' := 14) rfl ?_
  intro T2 W2 H2
  refine g_iloadN W2 d9_14 (pc' := 15) rfl rfl ?_
  refine g_iaload W2 H2 (i := 3) rfl (jx := 1) (by decide) (v := .int kb) rfl d9_15 (pc' := 16) rfl ?_
  refine g_istoreN W2 d9_16 (pc' := 17) rfl (ls' := #[.val (.ref sh), .val (.int (1 : Int32)), .val (.int kb), .unset]) rfl ?_
  refine g_iloadN W2 d9_17 (pc' := 18) rfl rfl ?_
  refine g_istoreN W2 d9_18 (pc' := 19) rfl (ls' := #[.val (.ref sh), .val (.int (1 : Int32)), .val (.int kb), .val (.int (1 : Int32))]) rfl ?_
  refine g_iloadN W2 d9_19 (pc' := 20) rfl rfl ?_
  refine g_if W2 d9_20 (pcy := 59) (by decide) (pc' := 23) rfl (fun (h : ¬ (0 : Int32) < (1 : Int32)) => absurd h (by decide)) (fun _ => ?_)
  refine g_aloadN W2 d9_23 (pc' := 24) rfl rfl rfl ?_
  refine g_iloadN W2 d9_24 (pc' := 25) rfl rfl ?_
  refine g_aloadN W2 d9_25 (pc' := 26) rfl rfl rfl ?_
  refine g_getf W2 (wd_26 hw) Via.refl H2 (i := 0) rfl (jx := 7) rfl d9_26 (pc' := 29) rfl ?_
  intro T3 W3 H3
  refine g_iloadN W3 d9_29 (pc' := 30) rfl rfl ?_
  refine g_iconst W3 d9_30 (pc' := 31) rfl (v := (1 : Int32)) (by decide) ?_
  refine g_isub W3 d9_31 (pc' := 32) rfl (v := (0 : Int32)) (by decide) ?_
  refine g_iaload W3 H3 (i := 3) rfl (jx := 0) (by decide) (v := .int ka) rfl d9_32 (pc' := 33) rfl ?_
  have H4f := Hp.fr2 H3
  have H5f := Hp.fr2 H4f
  have H6f := Hp.fr2 H5f
  refine g_callP W3 (argsL := [.int kb, .int ka]) (st := []) (wd_70 hw) (wd_71 hw) (wd_72 hw) (wd_2 hw) (wd_3 hw) (wd_73 hw) (by decide) (a := sh) H6f (i := 0) rfl (c_cb1zz l Z a0 hw n0 sh loA hiA owA otA liA raA olA ohA zlA zhA ru fo fz at0 kb ka ib ia hib hia ow ot e2 e1 h2 h1 wb zb wa za _ _ H6f) pd_6 rfl rfl rfl d9_33 (pc' := 36) rfl (by decide) (Wn := 0) (Nat.le_of_eq rfl) (by decide) (kc' := 0) (ks' := 0) rfl rfl (by decide) (by decide) ?_
  intro T7 v7 W7 hp7
  obtain ⟨rfl, H7⟩ := hp7
  show Goes _ _ _ _ (State.setTop _ (mkF _ _ _ [.int (0 : Int32)]))
  refine g_if W7 d9_36 (pcy := 59) (by decide) (pc' := 39) rfl (fun _ => ?_) (fun (h : ¬ (0 : Int32) = (0 : Int32)) => absurd h (by decide))
  refine g_aloadN W7 d9_59 (pc' := 60) rfl rfl rfl ?_
  refine g_getf W7 (wd_26 hw) Via.refl H7 (i := 0) rfl (jx := 7) rfl d9_60 (pc' := 63) rfl ?_
  intro T8 W8 H8
  refine g_iloadN W8 d9_63 (pc' := 64) rfl rfl ?_
  refine g_iloadN W8 d9_64 (pc' := 65) rfl rfl ?_
  refine g_iastore W8 H8 (i := 3) rfl (jx := 1) (by decide) (by exact (by decide : 1 < 3)) d9_65 (pc' := 66) rfl (L' := ((sh, ObC Z "com/example/narrow_bounds/narrowbounds/Share" (fs_Share (.ref loA) (.ref hiA) (.int (1 : Int32)) (.int ru) (.ref owA) (.ref otA) (.ref liA) (.ref raA) (.ref olA) (.ref ohA) (.ref zlA) (.ref zhA) (.double fo) (.double fz) (.int (2 : Int32)) (.int at0))) :: (owA, ArC Z .double ow) :: (otA, ArC Z .double ot) :: (raA, ArC Z .int [.int ka, .int kb, .int (0 : Int32)]) :: F)) rfl ?_
  intro T9 W9 H9
  refine g_iinc W9 d9_66 (pc' := 69) rfl rfl (v := (2 : Int32)) (by decide) (ls' := #[.val (.ref sh), .val (.int (2 : Int32)), .val (.int kb), .val (.int (1 : Int32))]) rfl ?_
  refine g_goto W9 d9_69 (pc' := 2) (by decide) ?_
  refine g_iloadN W9 d9_2 (pc' := 3) rfl rfl ?_
  refine g_aloadN W9 d9_3 (pc' := 4) rfl rfl rfl ?_
  refine g_getf W9 (wd_59 hw) Via.refl H9 (i := 0) rfl (jx := 14) rfl d9_4 (pc' := 7) rfl ?_
  intro T10 W10 H10
  refine g_icmp W10 d9_7 (pcy := 72) (by decide) (pc' := 10) rfl (fun _ => ?_) (fun (h : ¬ ¬ (2 : Int32) < (2 : Int32)) => absurd h (by decide))
  have H11f := Hp.fr3 H10
  have H12f := Hp.fr3 H11f
  have H13f := Hp.fr3 H12f
  have H14f := Hp.fr3 H13f
  exact g_return W10 d9_72 ⟨rfl, H14f⟩ (by decide) (by decide)

theorem sh_pos {p t : Nat} {r : UInt64} (h : Sh p t r) (hp : 1 ≤ p) (h0 : 1 ≤ t) (ht : t ≤ 1024) : FP.dcmp r 0 = some .gt := by
  have := sh_big (t := t) hp ht h0
  exact iv_gt h iv_zero (by omega)
theorem sh_one {p t : Nat} {r : UInt64} (h : Sh p t r) (hp : p < t) (ht : t ≤ 1024) : FP.dcmp r (4607182418800017408 : UInt64) = some .lt := by
  have := sh_small hp ht
  exact iv_lt h iv_one (by omega)
def gtD (x y : UInt64) : Prop := (0 : Int32) < cmpValue (FP.dcmp x y) .l
def ltD (x y : UInt64) : Prop := cmpValue (FP.dcmp x y) .g < (0 : Int32)
def ChG (t : Int32) (r0 r1 r2 : UInt64) : Prop := (t = 0 ∧ ¬ gtD r1 r0 ∧ ¬ gtD r2 r0) ∨ (t = 1 ∧ gtD r1 r0 ∧ ¬ gtD r2 r1) ∨ (t = 2 ∧ ((gtD r1 r0 ∧ gtD r2 r1) ∨ (¬ gtD r1 r0 ∧ gtD r2 r0)))
def ChL (t : Int32) (r0 r1 r2 : UInt64) : Prop := (t = 0 ∧ ¬ ltD r1 r0 ∧ ¬ ltD r2 r0) ∨ (t = 1 ∧ ltD r1 r0 ∧ ¬ ltD r2 r1) ∨ (t = 2 ∧ ((ltD r1 r0 ∧ ltD r2 r1) ∨ (¬ ltD r1 r0 ∧ ltD r2 r0)))

theorem ex_tail0 (l : Launch) (Z : State) (a0 : Array Value) (hw : HW Z a0) (n0 : Nat) (sh loA hiA owA otA liA raA olA ohA zlA zhA : Addr) (ru : Int32) (fo fz : UInt64) (at0 : Int32) (lo hi ow ot : List Value) (k1 k2 : Int32) (i1 i2 : Nat) (hi1 : k1.toInt = (i1 : Int)) (hi2 : k2.toInt = (i2 : Int)) (xL1 xH1 xW1 xZ1 xL2 xH2 xW2 xZ2 : UInt64) (nl1 nh1 nw1 nz1 nl2 nh2 nw2 nz2 nf ng : Nat) (gL1 : lo[i1]? = some (.double xL1)) (dL1 : Jvm.OwnKit.Dy (nl1 : Int) 0 xL1) (bL1 : nl1 ≤ 64) (gH1 : hi[i1]? = some (.double xH1)) (dH1 : Jvm.OwnKit.Dy (nh1 : Int) 0 xH1) (bH1 : nh1 ≤ 64) (gW1 : ow[i1]? = some (.double xW1)) (dW1 : Jvm.OwnKit.Dy (nw1 : Int) 0 xW1) (bW1 : nw1 ≤ 64) (gZ1 : ot[i1]? = some (.double xZ1)) (dZ1 : Jvm.OwnKit.Dy (nz1 : Int) 0 xZ1) (bZ1 : nz1 ≤ 64) (c1l : nl1 * nw1 + nl1 * nz1 ≤ 496) (c1h : nh1 * nw1 + nh1 * nz1 ≤ 496) (gL2 : lo[i2]? = some (.double xL2)) (dL2 : Jvm.OwnKit.Dy (nl2 : Int) 0 xL2) (bL2 : nl2 ≤ 64) (gH2 : hi[i2]? = some (.double xH2)) (dH2 : Jvm.OwnKit.Dy (nh2 : Int) 0 xH2) (bH2 : nh2 ≤ 64) (gW2 : ow[i2]? = some (.double xW2)) (dW2 : Jvm.OwnKit.Dy (nw2 : Int) 0 xW2) (bW2 : nw2 ≤ 64) (gZ2 : ot[i2]? = some (.double xZ2)) (dZ2 : Jvm.OwnKit.Dy (nz2 : Int) 0 xZ2) (bZ2 : nz2 ≤ 64) (c2l : nl2 * nw2 + nl2 * nz2 ≤ 496) (c2h : nh2 * nw2 + nh2 * nz2 ≤ 496) (hfo : Nr nf 0 fo) (hfz : Nr ng 0 fz) (nf1 : 1 ≤ nf) (nf2 : nf ≤ 16) (ng1 : 1 ≤ ng) (ng2 : ng ≤ 16) (F : List HRow) (as0 : Array Value)
    (p : Program) (e : Env) (R : Room) (s : State) (m : MethodId) (below : List Frame) (meth : Method) (c : Code) (hRf : 4 ≤ R.frames) (hRl : 90 ≤ R.locals)
    (T : State) (W : Wk Z ⟨"com/example/narrow_bounds/narrowbounds/Share", "extreme", "()D"⟩ prog_45_method_4_code 15 (some .double) n0 p l e R s m as0 below meth c T 0 0) (H : Hp Z n0 T.heap ((sh, ObC Z "com/example/narrow_bounds/narrowbounds/Share" (fs_Share (.ref loA) (.ref hiA) (.int (0 : Int32)) (.int ru) (.ref owA) (.ref otA) (.ref liA) (.ref raA) (.ref olA) (.ref ohA) (.ref zlA) (.ref zhA) (.double fo) (.double fz) (.int (2 : Int32)) (.int at0))) :: (loA, ArC Z .double lo) :: (hiA, ArC Z .double hi) :: (raA, ArC Z .int [.int k1, .int k2, .int (0 : Int32)]) :: (owA, ArC Z .double ow) :: (otA, ArC Z .double ot) :: (olA, ArC Z .double [.double 0, .double 0, .double 0]) :: (ohA, ArC Z .double [.double 0, .double 0, .double 0]) :: (zlA, ArC Z .double [.double 0, .double 0, .double 0]) :: (zhA, ArC Z .double [.double 0, .double 0, .double 0]) :: F)) : Goes p e below (En s n0 R.cells R.slots (fun v h => ∃ (g r0 r1 r2 : UInt64) (t : Int32) (J : List HRow), v = some (.double g) ∧ Sh (nf + nl1 * nw1 + nl2 * nw2) ((nf + nl1 * nw1 + nl2 * nw2) + (ng + nl1 * nz1 + nl2 * nz2)) r0 ∧ Sh (nf + nh1 * nw1 + nl2 * nw2) ((nf + nh1 * nw1 + nl2 * nw2) + (ng + nh1 * nz1 + nl2 * nz2)) r1 ∧ Sh (nf + nh1 * nw1 + nh2 * nw2) ((nf + nh1 * nw1 + nh2 * nw2) + (ng + nh1 * nz1 + nh2 * nz2)) r2 ∧ ChL t r0 r1 r2 ∧ Hp Z n0 h ((sh, ObC Z "com/example/narrow_bounds/narrowbounds/Share" (fs_Share (.ref loA) (.ref hiA) (.int (0 : Int32)) (.int ru) (.ref owA) (.ref otA) (.ref liA) (.ref raA) (.ref olA) (.ref ohA) (.ref zlA) (.ref zhA) (.double fo) (.double fz) (.int (2 : Int32)) (.int t))) :: (loA, ArC Z .double lo) :: (hiA, ArC Z .double hi) :: (raA, ArC Z .int [.int k1, .int k2, .int (0 : Int32)]) :: J))) (T.setTop (mkF m 4 #[.val (.ref sh), .unset, .unset, .unset, .unset, .unset, .unset, .unset, .unset, .unset, .unset, .unset, .unset, .unset, .unset] [])) := by
  refine g_iconst W d8_4 (pc' := 5) rfl (v := (0 : Int32)) (by decide) ?_
  refine g_istoreN W d8_5 (pc' := 6) rfl (ls' := #[.val (.ref sh), .val (.int (0 : Int32)), .unset, .unset, .unset, .unset, .unset, .unset, .unset, .unset, .unset, .unset, .unset, .unset, .unset]) rfl ?_
  refine g_iloadN W d8_6 (pc' := 7) rfl rfl ?_
  refine g_aloadN W d8_7 (pc' := 8) rfl rfl rfl ?_
  refine g_getf W (wd_59 hw) Via.refl H (i := 0) rfl (jx := 14) rfl d8_8 (pc' := 11) rfl ?_
  intro T1 W1 H1
  refine g_icmp W1 d8_11 (pcy := 143) (by decide) (pc' := 14) rfl (fun (h : ¬ (0 : Int32) < (2 : Int32)) => absurd h (by decide)) (fun _ => ?_)
  refine g_aloadN W1 d8_14 (pc' := 15) rfl rfl rfl ?_
  refine g_getf W1 (wd_26 hw) Via.refl H1 (i := 0) rfl (jx := 7) rfl d8_15 (pc' := 18) rfl ?_
  intro T2 W2 H2
  refine g_iloadN W2 d8_18 (pc' := 19) rfl rfl ?_
  refine g_iaload W2 H2 (i := 3) rfl (jx := 0) (by decide) (v := .int k1) rfl d8_19 (pc' := 20) rfl ?_
  refine g_istoreN W2 d8_20 (pc' := 21) rfl (ls' := #[.val (.ref sh), .val (.int (0 : Int32)), .val (.int k1), .unset, .unset, .unset, .unset, .unset, .unset, .unset, .unset, .unset, .unset, .unset, .unset]) rfl ?_
  refine g_aloadN W2 d8_21 (pc' := 22) rfl rfl rfl ?_
  refine g_getf W2 (wd_28 hw) Via.refl H2 (i := 0) rfl (jx := 8) rfl d8_22 (pc' := 25) rfl ?_
  intro T3 W3 H3
  refine g_iloadN W3 d8_25 (pc' := 26) rfl rfl ?_
  refine g_aloadN W3 d8_26 (pc' := 27) rfl rfl rfl ?_
  refine g_getf W3 (wd_10 hw) Via.refl H3 (i := 0) rfl (jx := 0) rfl d8_27 (pc' := 30) rfl ?_
  intro T4 W4 H4
  refine g_iloadN W4 d8_30 (pc' := 31) rfl rfl ?_
  refine g_daload W4 H4 (i := 1) rfl (jx := i1) hi1 (v := .double xL1) gL1 d8_31 (pc' := 32) rfl ?_
  refine g_aloadN W4 d8_32 (pc' := 33) rfl rfl rfl ?_
  refine g_getf W4 (wd_18 hw) Via.refl H4 (i := 0) rfl (jx := 4) rfl d8_33 (pc' := 36) rfl ?_
  intro T5 W5 H5
  refine g_iloadN W5 d8_36 (pc' := 37) rfl rfl ?_
  refine g_daload W5 H5 (i := 4) rfl (jx := i1) hi1 (v := .double xW1) gW1 d8_37 (pc' := 38) rfl ?_
  refine g_aloadN W5 d8_38 (pc' := 39) rfl rfl rfl ?_
  refine g_getf W5 (wd_14 hw) Via.refl H5 (i := 0) rfl (jx := 2) rfl d8_39 (pc' := 42) rfl ?_
  intro T6 W6 H6
  refine g_callS W6 (argsL := [.double xL1, .double xW1, .int (0 : Int32)]) (st := [.int (0 : Int32), .ref olA]) (wd_98 hw) (wd_99 hw) (wd_45 hw) (wd_100 hw) (by decide) (c_mul0 l Z a0 hw n0 xL1 xW1 nl1 nw1 dL1 dW1 bL1 bW1 _ _ H6) pd_7 rfl rfl rfl d8_42 (pc' := 45) rfl (Nat.le_trans (by decide) hRf) (Wn := 2) (Nat.le_of_eq rfl) (Nat.le_trans (by decide) hRl) (kc' := 0) (ks' := 0) rfl rfl (by omega) (by omega) ?_
  intro T7 v7 W7 hp7
  obtain ⟨ol1, rfl, hol1, H7⟩ := hp7
  show Goes _ _ _ _ (State.setTop _ (mkF _ _ _ [.double ol1, .int (0 : Int32), .ref olA]))
  refine g_dastore W7 H7 (i := 6) rfl (jx := 0) (by decide) (by exact (by decide : 0 < 3)) d8_45 (pc' := 46) rfl (L' := ((sh, ObC Z "com/example/narrow_bounds/narrowbounds/Share" (fs_Share (.ref loA) (.ref hiA) (.int (0 : Int32)) (.int ru) (.ref owA) (.ref otA) (.ref liA) (.ref raA) (.ref olA) (.ref ohA) (.ref zlA) (.ref zhA) (.double fo) (.double fz) (.int (2 : Int32)) (.int at0))) :: (loA, ArC Z .double lo) :: (hiA, ArC Z .double hi) :: (raA, ArC Z .int [.int k1, .int k2, .int (0 : Int32)]) :: (owA, ArC Z .double ow) :: (otA, ArC Z .double ot) :: (olA, ArC Z .double [.double ol1, .double 0, .double 0]) :: (ohA, ArC Z .double [.double 0, .double 0, .double 0]) :: (zlA, ArC Z .double [.double 0, .double 0, .double 0]) :: (zhA, ArC Z .double [.double 0, .double 0, .double 0]) :: F)) rfl ?_
  intro T8 W8 H8
  refine g_aloadN W8 d8_46 (pc' := 47) rfl rfl rfl ?_
  refine g_getf W8 (wd_30 hw) Via.refl H8 (i := 0) rfl (jx := 9) rfl d8_47 (pc' := 50) rfl ?_
  intro T9 W9 H9
  refine g_iloadN W9 d8_50 (pc' := 51) rfl rfl ?_
  refine g_aloadN W9 d8_51 (pc' := 52) rfl rfl rfl ?_
  refine g_getf W9 (wd_12 hw) Via.refl H9 (i := 0) rfl (jx := 1) rfl d8_52 (pc' := 55) rfl ?_
  intro T10 W10 H10
  refine g_iloadN W10 d8_55 (pc' := 56) rfl rfl ?_
  refine g_daload W10 H10 (i := 2) rfl (jx := i1) hi1 (v := .double xH1) gH1 d8_56 (pc' := 57) rfl ?_
  refine g_aloadN W10 d8_57 (pc' := 58) rfl rfl rfl ?_
  refine g_getf W10 (wd_18 hw) Via.refl H10 (i := 0) rfl (jx := 4) rfl d8_58 (pc' := 61) rfl ?_
  intro T11 W11 H11
  refine g_iloadN W11 d8_61 (pc' := 62) rfl rfl ?_
  refine g_daload W11 H11 (i := 4) rfl (jx := i1) hi1 (v := .double xW1) gW1 d8_62 (pc' := 63) rfl ?_
  refine g_aloadN W11 d8_63 (pc' := 64) rfl rfl rfl ?_
  refine g_getf W11 (wd_14 hw) Via.refl H11 (i := 0) rfl (jx := 2) rfl d8_64 (pc' := 67) rfl ?_
  intro T12 W12 H12
  refine g_callS W12 (argsL := [.double xH1, .double xW1, .int (0 : Int32)]) (st := [.int (0 : Int32), .ref ohA]) (wd_98 hw) (wd_99 hw) (wd_45 hw) (wd_100 hw) (by decide) (c_mul0 l Z a0 hw n0 xH1 xW1 nh1 nw1 dH1 dW1 bH1 bW1 _ _ H12) pd_7 rfl rfl rfl d8_67 (pc' := 70) rfl (Nat.le_trans (by decide) hRf) (Wn := 2) (Nat.le_of_eq rfl) (Nat.le_trans (by decide) hRl) (kc' := 0) (ks' := 0) rfl rfl (by omega) (by omega) ?_
  intro T13 v13 W13 hp13
  obtain ⟨oh1, rfl, hoh1, H13⟩ := hp13
  show Goes _ _ _ _ (State.setTop _ (mkF _ _ _ [.double oh1, .int (0 : Int32), .ref ohA]))
  refine g_dastore W13 H13 (i := 7) rfl (jx := 0) (by decide) (by exact (by decide : 0 < 3)) d8_70 (pc' := 71) rfl (L' := ((sh, ObC Z "com/example/narrow_bounds/narrowbounds/Share" (fs_Share (.ref loA) (.ref hiA) (.int (0 : Int32)) (.int ru) (.ref owA) (.ref otA) (.ref liA) (.ref raA) (.ref olA) (.ref ohA) (.ref zlA) (.ref zhA) (.double fo) (.double fz) (.int (2 : Int32)) (.int at0))) :: (loA, ArC Z .double lo) :: (hiA, ArC Z .double hi) :: (raA, ArC Z .int [.int k1, .int k2, .int (0 : Int32)]) :: (owA, ArC Z .double ow) :: (otA, ArC Z .double ot) :: (olA, ArC Z .double [.double ol1, .double 0, .double 0]) :: (ohA, ArC Z .double [.double oh1, .double 0, .double 0]) :: (zlA, ArC Z .double [.double 0, .double 0, .double 0]) :: (zhA, ArC Z .double [.double 0, .double 0, .double 0]) :: F)) rfl ?_
  intro T14 W14 H14
  refine g_aloadN W14 d8_71 (pc' := 72) rfl rfl rfl ?_
  refine g_getf W14 (wd_32 hw) Via.refl H14 (i := 0) rfl (jx := 10) rfl d8_72 (pc' := 75) rfl ?_
  intro T15 W15 H15
  refine g_iloadN W15 d8_75 (pc' := 76) rfl rfl ?_
  refine g_aloadN W15 d8_76 (pc' := 77) rfl rfl rfl ?_
  refine g_getf W15 (wd_10 hw) Via.refl H15 (i := 0) rfl (jx := 0) rfl d8_77 (pc' := 80) rfl ?_
  intro T16 W16 H16
  refine g_iloadN W16 d8_80 (pc' := 81) rfl rfl ?_
  refine g_daload W16 H16 (i := 1) rfl (jx := i1) hi1 (v := .double xL1) gL1 d8_81 (pc' := 82) rfl ?_
  refine g_aloadN W16 d8_82 (pc' := 83) rfl rfl rfl ?_
  refine g_getf W16 (wd_20 hw) Via.refl H16 (i := 0) rfl (jx := 5) rfl d8_83 (pc' := 86) rfl ?_
  intro T17 W17 H17
  refine g_iloadN W17 d8_86 (pc' := 87) rfl rfl ?_
  refine g_daload W17 H17 (i := 5) rfl (jx := i1) hi1 (v := .double xZ1) gZ1 d8_87 (pc' := 88) rfl ?_
  refine g_aloadN W17 d8_88 (pc' := 89) rfl rfl rfl ?_
  refine g_getf W17 (wd_14 hw) Via.refl H17 (i := 0) rfl (jx := 2) rfl d8_89 (pc' := 92) rfl ?_
  intro T18 W18 H18
  refine g_if W18 d8_92 (pcy := 99) (by decide) (pc' := 95) rfl (fun (h : ¬ (0 : Int32) = (0 : Int32)) => absurd h (by decide)) (fun _ => ?_)
  refine g_iconst W18 d8_95 (pc' := 96) rfl (v := (1 : Int32)) (by decide) ?_
  refine g_goto W18 d8_96 (pc' := 100) (by decide) ?_
  refine g_callS W18 (argsL := [.double xL1, .double xZ1, .int (1 : Int32)]) (st := [.int (0 : Int32), .ref zlA]) (wd_98 hw) (wd_99 hw) (wd_45 hw) (wd_100 hw) (by decide) (c_mul1 l Z a0 hw n0 xL1 xZ1 nl1 nz1 dL1 dZ1 bL1 bZ1 _ _ H18) pd_7 rfl rfl rfl d8_100 (pc' := 103) rfl (Nat.le_trans (by decide) hRf) (Wn := 2) (Nat.le_of_eq rfl) (Nat.le_trans (by decide) hRl) (kc' := 0) (ks' := 0) rfl rfl (by omega) (by omega) ?_
  intro T19 v19 W19 hp19
  obtain ⟨zl1, rfl, hzl1, H19⟩ := hp19
  show Goes _ _ _ _ (State.setTop _ (mkF _ _ _ [.double zl1, .int (0 : Int32), .ref zlA]))
  refine g_dastore W19 H19 (i := 8) rfl (jx := 0) (by decide) (by exact (by decide : 0 < 3)) d8_103 (pc' := 104) rfl (L' := ((sh, ObC Z "com/example/narrow_bounds/narrowbounds/Share" (fs_Share (.ref loA) (.ref hiA) (.int (0 : Int32)) (.int ru) (.ref owA) (.ref otA) (.ref liA) (.ref raA) (.ref olA) (.ref ohA) (.ref zlA) (.ref zhA) (.double fo) (.double fz) (.int (2 : Int32)) (.int at0))) :: (loA, ArC Z .double lo) :: (hiA, ArC Z .double hi) :: (raA, ArC Z .int [.int k1, .int k2, .int (0 : Int32)]) :: (owA, ArC Z .double ow) :: (otA, ArC Z .double ot) :: (olA, ArC Z .double [.double ol1, .double 0, .double 0]) :: (ohA, ArC Z .double [.double oh1, .double 0, .double 0]) :: (zlA, ArC Z .double [.double zl1, .double 0, .double 0]) :: (zhA, ArC Z .double [.double 0, .double 0, .double 0]) :: F)) rfl ?_
  intro T20 W20 H20
  refine g_aloadN W20 d8_104 (pc' := 105) rfl rfl rfl ?_
  refine g_getf W20 (wd_34 hw) Via.refl H20 (i := 0) rfl (jx := 11) rfl d8_105 (pc' := 108) rfl ?_
  intro T21 W21 H21
  refine g_iloadN W21 d8_108 (pc' := 109) rfl rfl ?_
  refine g_aloadN W21 d8_109 (pc' := 110) rfl rfl rfl ?_
  refine g_getf W21 (wd_12 hw) Via.refl H21 (i := 0) rfl (jx := 1) rfl d8_110 (pc' := 113) rfl ?_
  intro T22 W22 H22
  refine g_iloadN W22 d8_113 (pc' := 114) rfl rfl ?_
  refine g_daload W22 H22 (i := 2) rfl (jx := i1) hi1 (v := .double xH1) gH1 d8_114 (pc' := 115) rfl ?_
  refine g_aloadN W22 d8_115 (pc' := 116) rfl rfl rfl ?_
  refine g_getf W22 (wd_20 hw) Via.refl H22 (i := 0) rfl (jx := 5) rfl d8_116 (pc' := 119) rfl ?_
  intro T23 W23 H23
  refine g_iloadN W23 d8_119 (pc' := 120) rfl rfl ?_
  refine g_daload W23 H23 (i := 5) rfl (jx := i1) hi1 (v := .double xZ1) gZ1 d8_120 (pc' := 121) rfl ?_
  refine g_aloadN W23 d8_121 (pc' := 122) rfl rfl rfl ?_
  refine g_getf W23 (wd_14 hw) Via.refl H23 (i := 0) rfl (jx := 2) rfl d8_122 (pc' := 125) rfl ?_
  intro T24 W24 H24
  refine g_if W24 d8_125 (pcy := 132) (by decide) (pc' := 128) rfl (fun (h : ¬ (0 : Int32) = (0 : Int32)) => absurd h (by decide)) (fun _ => ?_)
  refine g_iconst W24 d8_128 (pc' := 129) rfl (v := (1 : Int32)) (by decide) ?_
  refine g_goto W24 d8_129 (pc' := 133) (by decide) ?_
  refine g_callS W24 (argsL := [.double xH1, .double xZ1, .int (1 : Int32)]) (st := [.int (0 : Int32), .ref zhA]) (wd_98 hw) (wd_99 hw) (wd_45 hw) (wd_100 hw) (by decide) (c_mul1 l Z a0 hw n0 xH1 xZ1 nh1 nz1 dH1 dZ1 bH1 bZ1 _ _ H24) pd_7 rfl rfl rfl d8_133 (pc' := 136) rfl (Nat.le_trans (by decide) hRf) (Wn := 2) (Nat.le_of_eq rfl) (Nat.le_trans (by decide) hRl) (kc' := 0) (ks' := 0) rfl rfl (by omega) (by omega) ?_
  intro T25 v25 W25 hp25
  obtain ⟨zh1, rfl, hzh1, H25⟩ := hp25
  show Goes _ _ _ _ (State.setTop _ (mkF _ _ _ [.double zh1, .int (0 : Int32), .ref zhA]))
  refine g_dastore W25 H25 (i := 9) rfl (jx := 0) (by decide) (by exact (by decide : 0 < 3)) d8_136 (pc' := 137) rfl (L' := ((sh, ObC Z "com/example/narrow_bounds/narrowbounds/Share" (fs_Share (.ref loA) (.ref hiA) (.int (0 : Int32)) (.int ru) (.ref owA) (.ref otA) (.ref liA) (.ref raA) (.ref olA) (.ref ohA) (.ref zlA) (.ref zhA) (.double fo) (.double fz) (.int (2 : Int32)) (.int at0))) :: (loA, ArC Z .double lo) :: (hiA, ArC Z .double hi) :: (raA, ArC Z .int [.int k1, .int k2, .int (0 : Int32)]) :: (owA, ArC Z .double ow) :: (otA, ArC Z .double ot) :: (olA, ArC Z .double [.double ol1, .double 0, .double 0]) :: (ohA, ArC Z .double [.double oh1, .double 0, .double 0]) :: (zlA, ArC Z .double [.double zl1, .double 0, .double 0]) :: (zhA, ArC Z .double [.double zh1, .double 0, .double 0]) :: F)) rfl ?_
  intro T26 W26 H26
  refine g_iinc W26 d8_137 (pc' := 140) rfl rfl (v := (1 : Int32)) (by decide) (ls' := #[.val (.ref sh), .val (.int (1 : Int32)), .val (.int k1), .unset, .unset, .unset, .unset, .unset, .unset, .unset, .unset, .unset, .unset, .unset, .unset]) rfl ?_
  refine g_goto W26 d8_140 (pc' := 6) (by decide) ?_
  refine g_iloadN W26 d8_6 (pc' := 7) rfl rfl ?_
  refine g_aloadN W26 d8_7 (pc' := 8) rfl rfl rfl ?_
  refine g_getf W26 (wd_59 hw) Via.refl H26 (i := 0) rfl (jx := 14) rfl d8_8 (pc' := 11) rfl ?_
  intro T27 W27 H27
  refine g_icmp W27 d8_11 (pcy := 143) (by decide) (pc' := 14) rfl (fun (h : ¬ (1 : Int32) < (2 : Int32)) => absurd h (by decide)) (fun _ => ?_)
  refine g_aloadN W27 d8_14 (pc' := 15) rfl rfl rfl ?_
  refine g_getf W27 (wd_26 hw) Via.refl H27 (i := 0) rfl (jx := 7) rfl d8_15 (pc' := 18) rfl ?_
  intro T28 W28 H28
  refine g_iloadN W28 d8_18 (pc' := 19) rfl rfl ?_
  refine g_iaload W28 H28 (i := 3) rfl (jx := 1) (by decide) (v := .int k2) rfl d8_19 (pc' := 20) rfl ?_
  refine g_istoreN W28 d8_20 (pc' := 21) rfl (ls' := #[.val (.ref sh), .val (.int (1 : Int32)), .val (.int k2), .unset, .unset, .unset, .unset, .unset, .unset, .unset, .unset, .unset, .unset, .unset, .unset]) rfl ?_
  refine g_aloadN W28 d8_21 (pc' := 22) rfl rfl rfl ?_
  refine g_getf W28 (wd_28 hw) Via.refl H28 (i := 0) rfl (jx := 8) rfl d8_22 (pc' := 25) rfl ?_
  intro T29 W29 H29
  refine g_iloadN W29 d8_25 (pc' := 26) rfl rfl ?_
  refine g_aloadN W29 d8_26 (pc' := 27) rfl rfl rfl ?_
  refine g_getf W29 (wd_10 hw) Via.refl H29 (i := 0) rfl (jx := 0) rfl d8_27 (pc' := 30) rfl ?_
  intro T30 W30 H30
  refine g_iloadN W30 d8_30 (pc' := 31) rfl rfl ?_
  refine g_daload W30 H30 (i := 1) rfl (jx := i2) hi2 (v := .double xL2) gL2 d8_31 (pc' := 32) rfl ?_
  refine g_aloadN W30 d8_32 (pc' := 33) rfl rfl rfl ?_
  refine g_getf W30 (wd_18 hw) Via.refl H30 (i := 0) rfl (jx := 4) rfl d8_33 (pc' := 36) rfl ?_
  intro T31 W31 H31
  refine g_iloadN W31 d8_36 (pc' := 37) rfl rfl ?_
  refine g_daload W31 H31 (i := 4) rfl (jx := i2) hi2 (v := .double xW2) gW2 d8_37 (pc' := 38) rfl ?_
  refine g_aloadN W31 d8_38 (pc' := 39) rfl rfl rfl ?_
  refine g_getf W31 (wd_14 hw) Via.refl H31 (i := 0) rfl (jx := 2) rfl d8_39 (pc' := 42) rfl ?_
  intro T32 W32 H32
  refine g_callS W32 (argsL := [.double xL2, .double xW2, .int (0 : Int32)]) (st := [.int (1 : Int32), .ref olA]) (wd_98 hw) (wd_99 hw) (wd_45 hw) (wd_100 hw) (by decide) (c_mul0 l Z a0 hw n0 xL2 xW2 nl2 nw2 dL2 dW2 bL2 bW2 _ _ H32) pd_7 rfl rfl rfl d8_42 (pc' := 45) rfl (Nat.le_trans (by decide) hRf) (Wn := 2) (Nat.le_of_eq rfl) (Nat.le_trans (by decide) hRl) (kc' := 0) (ks' := 0) rfl rfl (by omega) (by omega) ?_
  intro T33 v33 W33 hp33
  obtain ⟨ol2, rfl, hol2, H33⟩ := hp33
  show Goes _ _ _ _ (State.setTop _ (mkF _ _ _ [.double ol2, .int (1 : Int32), .ref olA]))
  refine g_dastore W33 H33 (i := 6) rfl (jx := 1) (by decide) (by exact (by decide : 1 < 3)) d8_45 (pc' := 46) rfl (L' := ((sh, ObC Z "com/example/narrow_bounds/narrowbounds/Share" (fs_Share (.ref loA) (.ref hiA) (.int (0 : Int32)) (.int ru) (.ref owA) (.ref otA) (.ref liA) (.ref raA) (.ref olA) (.ref ohA) (.ref zlA) (.ref zhA) (.double fo) (.double fz) (.int (2 : Int32)) (.int at0))) :: (loA, ArC Z .double lo) :: (hiA, ArC Z .double hi) :: (raA, ArC Z .int [.int k1, .int k2, .int (0 : Int32)]) :: (owA, ArC Z .double ow) :: (otA, ArC Z .double ot) :: (olA, ArC Z .double [.double ol1, .double ol2, .double 0]) :: (ohA, ArC Z .double [.double oh1, .double 0, .double 0]) :: (zlA, ArC Z .double [.double zl1, .double 0, .double 0]) :: (zhA, ArC Z .double [.double zh1, .double 0, .double 0]) :: F)) rfl ?_
  intro T34 W34 H34
  refine g_aloadN W34 d8_46 (pc' := 47) rfl rfl rfl ?_
  refine g_getf W34 (wd_30 hw) Via.refl H34 (i := 0) rfl (jx := 9) rfl d8_47 (pc' := 50) rfl ?_
  intro T35 W35 H35
  refine g_iloadN W35 d8_50 (pc' := 51) rfl rfl ?_
  refine g_aloadN W35 d8_51 (pc' := 52) rfl rfl rfl ?_
  refine g_getf W35 (wd_12 hw) Via.refl H35 (i := 0) rfl (jx := 1) rfl d8_52 (pc' := 55) rfl ?_
  intro T36 W36 H36
  refine g_iloadN W36 d8_55 (pc' := 56) rfl rfl ?_
  refine g_daload W36 H36 (i := 2) rfl (jx := i2) hi2 (v := .double xH2) gH2 d8_56 (pc' := 57) rfl ?_
  refine g_aloadN W36 d8_57 (pc' := 58) rfl rfl rfl ?_
  refine g_getf W36 (wd_18 hw) Via.refl H36 (i := 0) rfl (jx := 4) rfl d8_58 (pc' := 61) rfl ?_
  intro T37 W37 H37
  refine g_iloadN W37 d8_61 (pc' := 62) rfl rfl ?_
  refine g_daload W37 H37 (i := 4) rfl (jx := i2) hi2 (v := .double xW2) gW2 d8_62 (pc' := 63) rfl ?_
  refine g_aloadN W37 d8_63 (pc' := 64) rfl rfl rfl ?_
  refine g_getf W37 (wd_14 hw) Via.refl H37 (i := 0) rfl (jx := 2) rfl d8_64 (pc' := 67) rfl ?_
  intro T38 W38 H38
  refine g_callS W38 (argsL := [.double xH2, .double xW2, .int (0 : Int32)]) (st := [.int (1 : Int32), .ref ohA]) (wd_98 hw) (wd_99 hw) (wd_45 hw) (wd_100 hw) (by decide) (c_mul0 l Z a0 hw n0 xH2 xW2 nh2 nw2 dH2 dW2 bH2 bW2 _ _ H38) pd_7 rfl rfl rfl d8_67 (pc' := 70) rfl (Nat.le_trans (by decide) hRf) (Wn := 2) (Nat.le_of_eq rfl) (Nat.le_trans (by decide) hRl) (kc' := 0) (ks' := 0) rfl rfl (by omega) (by omega) ?_
  intro T39 v39 W39 hp39
  obtain ⟨oh2, rfl, hoh2, H39⟩ := hp39
  show Goes _ _ _ _ (State.setTop _ (mkF _ _ _ [.double oh2, .int (1 : Int32), .ref ohA]))
  refine g_dastore W39 H39 (i := 7) rfl (jx := 1) (by decide) (by exact (by decide : 1 < 3)) d8_70 (pc' := 71) rfl (L' := ((sh, ObC Z "com/example/narrow_bounds/narrowbounds/Share" (fs_Share (.ref loA) (.ref hiA) (.int (0 : Int32)) (.int ru) (.ref owA) (.ref otA) (.ref liA) (.ref raA) (.ref olA) (.ref ohA) (.ref zlA) (.ref zhA) (.double fo) (.double fz) (.int (2 : Int32)) (.int at0))) :: (loA, ArC Z .double lo) :: (hiA, ArC Z .double hi) :: (raA, ArC Z .int [.int k1, .int k2, .int (0 : Int32)]) :: (owA, ArC Z .double ow) :: (otA, ArC Z .double ot) :: (olA, ArC Z .double [.double ol1, .double ol2, .double 0]) :: (ohA, ArC Z .double [.double oh1, .double oh2, .double 0]) :: (zlA, ArC Z .double [.double zl1, .double 0, .double 0]) :: (zhA, ArC Z .double [.double zh1, .double 0, .double 0]) :: F)) rfl ?_
  intro T40 W40 H40
  refine g_aloadN W40 d8_71 (pc' := 72) rfl rfl rfl ?_
  refine g_getf W40 (wd_32 hw) Via.refl H40 (i := 0) rfl (jx := 10) rfl d8_72 (pc' := 75) rfl ?_
  intro T41 W41 H41
  refine g_iloadN W41 d8_75 (pc' := 76) rfl rfl ?_
  refine g_aloadN W41 d8_76 (pc' := 77) rfl rfl rfl ?_
  refine g_getf W41 (wd_10 hw) Via.refl H41 (i := 0) rfl (jx := 0) rfl d8_77 (pc' := 80) rfl ?_
  intro T42 W42 H42
  refine g_iloadN W42 d8_80 (pc' := 81) rfl rfl ?_
  refine g_daload W42 H42 (i := 1) rfl (jx := i2) hi2 (v := .double xL2) gL2 d8_81 (pc' := 82) rfl ?_
  refine g_aloadN W42 d8_82 (pc' := 83) rfl rfl rfl ?_
  refine g_getf W42 (wd_20 hw) Via.refl H42 (i := 0) rfl (jx := 5) rfl d8_83 (pc' := 86) rfl ?_
  intro T43 W43 H43
  refine g_iloadN W43 d8_86 (pc' := 87) rfl rfl ?_
  refine g_daload W43 H43 (i := 5) rfl (jx := i2) hi2 (v := .double xZ2) gZ2 d8_87 (pc' := 88) rfl ?_
  refine g_aloadN W43 d8_88 (pc' := 89) rfl rfl rfl ?_
  refine g_getf W43 (wd_14 hw) Via.refl H43 (i := 0) rfl (jx := 2) rfl d8_89 (pc' := 92) rfl ?_
  intro T44 W44 H44
  refine g_if W44 d8_92 (pcy := 99) (by decide) (pc' := 95) rfl (fun (h : ¬ (0 : Int32) = (0 : Int32)) => absurd h (by decide)) (fun _ => ?_)
  refine g_iconst W44 d8_95 (pc' := 96) rfl (v := (1 : Int32)) (by decide) ?_
  refine g_goto W44 d8_96 (pc' := 100) (by decide) ?_
  refine g_callS W44 (argsL := [.double xL2, .double xZ2, .int (1 : Int32)]) (st := [.int (1 : Int32), .ref zlA]) (wd_98 hw) (wd_99 hw) (wd_45 hw) (wd_100 hw) (by decide) (c_mul1 l Z a0 hw n0 xL2 xZ2 nl2 nz2 dL2 dZ2 bL2 bZ2 _ _ H44) pd_7 rfl rfl rfl d8_100 (pc' := 103) rfl (Nat.le_trans (by decide) hRf) (Wn := 2) (Nat.le_of_eq rfl) (Nat.le_trans (by decide) hRl) (kc' := 0) (ks' := 0) rfl rfl (by omega) (by omega) ?_
  intro T45 v45 W45 hp45
  obtain ⟨zl2, rfl, hzl2, H45⟩ := hp45
  show Goes _ _ _ _ (State.setTop _ (mkF _ _ _ [.double zl2, .int (1 : Int32), .ref zlA]))
  refine g_dastore W45 H45 (i := 8) rfl (jx := 1) (by decide) (by exact (by decide : 1 < 3)) d8_103 (pc' := 104) rfl (L' := ((sh, ObC Z "com/example/narrow_bounds/narrowbounds/Share" (fs_Share (.ref loA) (.ref hiA) (.int (0 : Int32)) (.int ru) (.ref owA) (.ref otA) (.ref liA) (.ref raA) (.ref olA) (.ref ohA) (.ref zlA) (.ref zhA) (.double fo) (.double fz) (.int (2 : Int32)) (.int at0))) :: (loA, ArC Z .double lo) :: (hiA, ArC Z .double hi) :: (raA, ArC Z .int [.int k1, .int k2, .int (0 : Int32)]) :: (owA, ArC Z .double ow) :: (otA, ArC Z .double ot) :: (olA, ArC Z .double [.double ol1, .double ol2, .double 0]) :: (ohA, ArC Z .double [.double oh1, .double oh2, .double 0]) :: (zlA, ArC Z .double [.double zl1, .double zl2, .double 0]) :: (zhA, ArC Z .double [.double zh1, .double 0, .double 0]) :: F)) rfl ?_
  intro T46 W46 H46
  refine g_aloadN W46 d8_104 (pc' := 105) rfl rfl rfl ?_
  refine g_getf W46 (wd_34 hw) Via.refl H46 (i := 0) rfl (jx := 11) rfl d8_105 (pc' := 108) rfl ?_
  intro T47 W47 H47
  refine g_iloadN W47 d8_108 (pc' := 109) rfl rfl ?_
  refine g_aloadN W47 d8_109 (pc' := 110) rfl rfl rfl ?_
  refine g_getf W47 (wd_12 hw) Via.refl H47 (i := 0) rfl (jx := 1) rfl d8_110 (pc' := 113) rfl ?_
  intro T48 W48 H48
  refine g_iloadN W48 d8_113 (pc' := 114) rfl rfl ?_
  refine g_daload W48 H48 (i := 2) rfl (jx := i2) hi2 (v := .double xH2) gH2 d8_114 (pc' := 115) rfl ?_
  refine g_aloadN W48 d8_115 (pc' := 116) rfl rfl rfl ?_
  refine g_getf W48 (wd_20 hw) Via.refl H48 (i := 0) rfl (jx := 5) rfl d8_116 (pc' := 119) rfl ?_
  intro T49 W49 H49
  refine g_iloadN W49 d8_119 (pc' := 120) rfl rfl ?_
  refine g_daload W49 H49 (i := 5) rfl (jx := i2) hi2 (v := .double xZ2) gZ2 d8_120 (pc' := 121) rfl ?_
  refine g_aloadN W49 d8_121 (pc' := 122) rfl rfl rfl ?_
  refine g_getf W49 (wd_14 hw) Via.refl H49 (i := 0) rfl (jx := 2) rfl d8_122 (pc' := 125) rfl ?_
  intro T50 W50 H50
  refine g_if W50 d8_125 (pcy := 132) (by decide) (pc' := 128) rfl (fun (h : ¬ (0 : Int32) = (0 : Int32)) => absurd h (by decide)) (fun _ => ?_)
  refine g_iconst W50 d8_128 (pc' := 129) rfl (v := (1 : Int32)) (by decide) ?_
  refine g_goto W50 d8_129 (pc' := 133) (by decide) ?_
  refine g_callS W50 (argsL := [.double xH2, .double xZ2, .int (1 : Int32)]) (st := [.int (1 : Int32), .ref zhA]) (wd_98 hw) (wd_99 hw) (wd_45 hw) (wd_100 hw) (by decide) (c_mul1 l Z a0 hw n0 xH2 xZ2 nh2 nz2 dH2 dZ2 bH2 bZ2 _ _ H50) pd_7 rfl rfl rfl d8_133 (pc' := 136) rfl (Nat.le_trans (by decide) hRf) (Wn := 2) (Nat.le_of_eq rfl) (Nat.le_trans (by decide) hRl) (kc' := 0) (ks' := 0) rfl rfl (by omega) (by omega) ?_
  intro T51 v51 W51 hp51
  obtain ⟨zh2, rfl, hzh2, H51⟩ := hp51
  show Goes _ _ _ _ (State.setTop _ (mkF _ _ _ [.double zh2, .int (1 : Int32), .ref zhA]))
  refine g_dastore W51 H51 (i := 9) rfl (jx := 1) (by decide) (by exact (by decide : 1 < 3)) d8_136 (pc' := 137) rfl (L' := ((sh, ObC Z "com/example/narrow_bounds/narrowbounds/Share" (fs_Share (.ref loA) (.ref hiA) (.int (0 : Int32)) (.int ru) (.ref owA) (.ref otA) (.ref liA) (.ref raA) (.ref olA) (.ref ohA) (.ref zlA) (.ref zhA) (.double fo) (.double fz) (.int (2 : Int32)) (.int at0))) :: (loA, ArC Z .double lo) :: (hiA, ArC Z .double hi) :: (raA, ArC Z .int [.int k1, .int k2, .int (0 : Int32)]) :: (owA, ArC Z .double ow) :: (otA, ArC Z .double ot) :: (olA, ArC Z .double [.double ol1, .double ol2, .double 0]) :: (ohA, ArC Z .double [.double oh1, .double oh2, .double 0]) :: (zlA, ArC Z .double [.double zl1, .double zl2, .double 0]) :: (zhA, ArC Z .double [.double zh1, .double zh2, .double 0]) :: F)) rfl ?_
  intro T52 W52 H52
  refine g_iinc W52 d8_137 (pc' := 140) rfl rfl (v := (2 : Int32)) (by decide) (ls' := #[.val (.ref sh), .val (.int (2 : Int32)), .val (.int k2), .unset, .unset, .unset, .unset, .unset, .unset, .unset, .unset, .unset, .unset, .unset, .unset]) rfl ?_
  refine g_goto W52 d8_140 (pc' := 6) (by decide) ?_
  refine g_iloadN W52 d8_6 (pc' := 7) rfl rfl ?_
  refine g_aloadN W52 d8_7 (pc' := 8) rfl rfl rfl ?_
  refine g_getf W52 (wd_59 hw) Via.refl H52 (i := 0) rfl (jx := 14) rfl d8_8 (pc' := 11) rfl ?_
  intro T53 W53 H53
  refine g_icmp W53 d8_11 (pcy := 143) (by decide) (pc' := 14) rfl (fun _ => ?_) (fun (h : ¬ ¬ (2 : Int32) < (2 : Int32)) => absurd h (by decide))
  refine g_aloadN W53 d8_143 (pc' := 144) rfl rfl rfl ?_
  refine g_getf W53 (wd_14 hw) Via.refl H53 (i := 0) rfl (jx := 2) rfl d8_144 (pc' := 147) rfl ?_
  intro T54 W54 H54
  refine g_if W54 d8_147 (pcy := 154) (by decide) (pc' := 150) rfl (fun _ => ?_) (fun (h : ¬ (0 : Int32) = (0 : Int32)) => absurd h (by decide))
  refine g_dconst1 W54 d8_154 (pc' := 155) rfl ?_
  refine g_dstoreN W54 d8_155 (pc' := 156) rfl (ls' := #[.val (.ref sh), .val (.double (4607182418800017408 : UInt64)), .second, .unset, .unset, .unset, .unset, .unset, .unset, .unset, .unset, .unset, .unset, .unset, .unset]) rfl ?_
  refine g_aloadN W54 d8_156 (pc' := 157) rfl rfl rfl ?_
  refine g_iconst W54 d8_157 (pc' := 158) rfl (v := (0 : Int32)) (by decide) ?_
  refine g_putf W54 (wd_115 hw) Via.refl (Or.inl (wd_116 hw)) (wd_2 hw) (ty := .int) (by decide) rfl rfl H54 (i := 0) rfl (jx := 15) rfl d8_158 (pc' := 161) rfl (L' := ((sh, ObC Z "com/example/narrow_bounds/narrowbounds/Share" (fs_Share (.ref loA) (.ref hiA) (.int (0 : Int32)) (.int ru) (.ref owA) (.ref otA) (.ref liA) (.ref raA) (.ref olA) (.ref ohA) (.ref zlA) (.ref zhA) (.double fo) (.double fz) (.int (2 : Int32)) (.int (0 : Int32)))) :: (loA, ArC Z .double lo) :: (hiA, ArC Z .double hi) :: (raA, ArC Z .int [.int k1, .int k2, .int (0 : Int32)]) :: (owA, ArC Z .double ow) :: (otA, ArC Z .double ot) :: (olA, ArC Z .double [.double ol1, .double ol2, .double 0]) :: (ohA, ArC Z .double [.double oh1, .double oh2, .double 0]) :: (zlA, ArC Z .double [.double zl1, .double zl2, .double 0]) :: (zhA, ArC Z .double [.double zh1, .double zh2, .double 0]) :: F)) rfl ?_
  intro T55 W55 H55
  refine g_aloadN W55 d8_161 (pc' := 162) rfl rfl rfl ?_
  refine g_getf W55 (wd_41 hw) Via.refl H55 (i := 0) rfl (jx := 12) rfl d8_162 (pc' := 165) rfl ?_
  intro T56 W56 H56
  refine g_dstoreN W56 d8_165 (pc' := 166) rfl (ls' := #[.val (.ref sh), .val (.double (4607182418800017408 : UInt64)), .second, .val (.double fo), .second, .unset, .unset, .unset, .unset, .unset, .unset, .unset, .unset, .unset, .unset]) rfl ?_
  refine g_aloadN W56 d8_166 (pc' := 167) rfl rfl rfl ?_
  refine g_getf W56 (wd_50 hw) Via.refl H56 (i := 0) rfl (jx := 13) rfl d8_167 (pc' := 170) rfl ?_
  intro T57 W57 H57
  refine g_dstore W57 d8_170 (pc' := 172) rfl (ls' := #[.val (.ref sh), .val (.double (4607182418800017408 : UInt64)), .second, .val (.double fo), .second, .val (.double fz), .second, .unset, .unset, .unset, .unset, .unset, .unset, .unset, .unset]) rfl ?_
  refine g_iconst W57 d8_172 (pc' := 173) rfl (v := (0 : Int32)) (by decide) ?_
  refine g_istore W57 d8_173 (pc' := 175) rfl (ls' := #[.val (.ref sh), .val (.double (4607182418800017408 : UInt64)), .second, .val (.double fo), .second, .val (.double fz), .second, .val (.int (0 : Int32)), .unset, .unset, .unset, .unset, .unset, .unset, .unset]) rfl ?_
  refine g_iload W57 d8_175 (pc' := 177) rfl rfl ?_
  refine g_aloadN W57 d8_177 (pc' := 178) rfl rfl rfl ?_
  refine g_getf W57 (wd_59 hw) Via.refl H57 (i := 0) rfl (jx := 14) rfl d8_178 (pc' := 181) rfl ?_
  intro T58 W58 H58
  refine g_icmp W58 d8_181 (pcy := 403) (by decide) (pc' := 184) rfl (fun (h : (2 : Int32) < (0 : Int32)) => absurd h (by decide)) (fun _ => ?_)
  refine g_dloadN W58 d8_184 (pc' := 185) rfl rfl ?_
  refine g_dstore W58 d8_185 (pc' := 187) rfl (ls' := #[.val (.ref sh), .val (.double (4607182418800017408 : UInt64)), .second, .val (.double fo), .second, .val (.double fz), .second, .val (.int (0 : Int32)), .val (.double fo), .second, .unset, .unset, .unset, .unset, .unset]) rfl ?_
  refine g_dload W58 d8_187 (pc' := 189) rfl rfl ?_
  refine g_dstore W58 d8_189 (pc' := 191) rfl (ls' := #[.val (.ref sh), .val (.double (4607182418800017408 : UInt64)), .second, .val (.double fo), .second, .val (.double fz), .second, .val (.int (0 : Int32)), .val (.double fo), .second, .val (.double fz), .second, .unset, .unset, .unset]) rfl ?_
  refine g_iload W58 d8_191 (pc' := 193) rfl rfl ?_
  refine g_istore W58 d8_193 (pc' := 195) rfl (ls' := #[.val (.ref sh), .val (.double (4607182418800017408 : UInt64)), .second, .val (.double fo), .second, .val (.double fz), .second, .val (.int (0 : Int32)), .val (.double fo), .second, .val (.double fz), .second, .val (.int (0 : Int32)), .unset, .unset]) rfl ?_
  refine g_iload W58 d8_195 (pc' := 197) rfl rfl ?_
  refine g_aloadN W58 d8_197 (pc' := 198) rfl rfl rfl ?_
  refine g_getf W58 (wd_59 hw) Via.refl H58 (i := 0) rfl (jx := 14) rfl d8_198 (pc' := 201) rfl ?_
  intro T59 W59 H59
  refine g_icmp W59 d8_201 (pcy := 254) (by decide) (pc' := 204) rfl (fun (h : ¬ (0 : Int32) < (2 : Int32)) => absurd h (by decide)) (fun _ => ?_)
  refine g_dload W59 d8_204 (pc' := 206) rfl rfl ?_
  refine g_aloadN W59 d8_206 (pc' := 207) rfl rfl rfl ?_
  refine g_getf W59 (wd_28 hw) Via.refl H59 (i := 0) rfl (jx := 8) rfl d8_207 (pc' := 210) rfl ?_
  intro T60 W60 H60
  refine g_iload W60 d8_210 (pc' := 212) rfl rfl ?_
  refine g_daload W60 H60 (i := 6) rfl (jx := 0) (by decide) (v := .double ol1) rfl d8_212 (pc' := 213) rfl ?_
  refine g_aloadN W60 d8_213 (pc' := 214) rfl rfl rfl ?_
  refine g_getf W60 (wd_14 hw) Via.refl H60 (i := 0) rfl (jx := 2) rfl d8_214 (pc' := 217) rfl ?_
  intro T61 W61 H61
  refine g_callS W61 (argsL := [.double fo, .double ol1, .int (0 : Int32)]) (st := []) (wd_43 hw) (wd_44 hw) (wd_45 hw) (wd_46 hw) (by decide) (c_add0 l Z a0 hw n0 fo ol1 _ _ _ _ hfo hol1 (by omega) (by omega) _ _ H61) pd_7 rfl rfl rfl d8_217 (pc' := 220) rfl (Nat.le_trans (by decide) hRf) (Wn := 0) (Nat.le_of_eq rfl) (Nat.le_trans (by decide) hRl) (kc' := 0) (ks' := 0) rfl rfl (by omega) (by omega) ?_
  intro T62 v62 W62 hp62
  obtain ⟨s1, rfl, hs1, -, H62⟩ := hp62
  show Goes _ _ _ _ (State.setTop _ (mkF _ _ _ [.double s1]))
  refine g_dstore W62 d8_220 (pc' := 222) rfl (ls' := #[.val (.ref sh), .val (.double (4607182418800017408 : UInt64)), .second, .val (.double fo), .second, .val (.double fz), .second, .val (.int (0 : Int32)), .val (.double s1), .second, .val (.double fz), .second, .val (.int (0 : Int32)), .unset, .unset]) rfl ?_
  refine g_dload W62 d8_222 (pc' := 224) rfl rfl ?_
  refine g_aloadN W62 d8_224 (pc' := 225) rfl rfl rfl ?_
  refine g_getf W62 (wd_32 hw) Via.refl H62 (i := 0) rfl (jx := 10) rfl d8_225 (pc' := 228) rfl ?_
  intro T63 W63 H63
  refine g_iload W63 d8_228 (pc' := 230) rfl rfl ?_
  refine g_daload W63 H63 (i := 8) rfl (jx := 0) (by decide) (v := .double zl1) rfl d8_230 (pc' := 231) rfl ?_
  refine g_aloadN W63 d8_231 (pc' := 232) rfl rfl rfl ?_
  refine g_getf W63 (wd_14 hw) Via.refl H63 (i := 0) rfl (jx := 2) rfl d8_232 (pc' := 235) rfl ?_
  intro T64 W64 H64
  refine g_if W64 d8_235 (pcy := 242) (by decide) (pc' := 238) rfl (fun (h : ¬ (0 : Int32) = (0 : Int32)) => absurd h (by decide)) (fun _ => ?_)
  refine g_iconst W64 d8_238 (pc' := 239) rfl (v := (1 : Int32)) (by decide) ?_
  refine g_goto W64 d8_239 (pc' := 243) (by decide) ?_
  refine g_callS W64 (argsL := [.double fz, .double zl1, .int (1 : Int32)]) (st := []) (wd_43 hw) (wd_44 hw) (wd_45 hw) (wd_46 hw) (by decide) (c_add1 l Z a0 hw n0 fz zl1 _ _ _ _ hfz hzl1 (by omega) (by omega) _ _ H64) pd_7 rfl rfl rfl d8_243 (pc' := 246) rfl (Nat.le_trans (by decide) hRf) (Wn := 0) (Nat.le_of_eq rfl) (Nat.le_trans (by decide) hRl) (kc' := 0) (ks' := 0) rfl rfl (by omega) (by omega) ?_
  intro T65 v65 W65 hp65
  obtain ⟨s2, rfl, hs2, -, H65⟩ := hp65
  show Goes _ _ _ _ (State.setTop _ (mkF _ _ _ [.double s2]))
  refine g_dstore W65 d8_246 (pc' := 248) rfl (ls' := #[.val (.ref sh), .val (.double (4607182418800017408 : UInt64)), .second, .val (.double fo), .second, .val (.double fz), .second, .val (.int (0 : Int32)), .val (.double s1), .second, .val (.double s2), .second, .val (.int (0 : Int32)), .unset, .unset]) rfl ?_
  refine g_iinc W65 d8_248 (pc' := 251) rfl rfl (v := (1 : Int32)) (by decide) (ls' := #[.val (.ref sh), .val (.double (4607182418800017408 : UInt64)), .second, .val (.double fo), .second, .val (.double fz), .second, .val (.int (0 : Int32)), .val (.double s1), .second, .val (.double s2), .second, .val (.int (1 : Int32)), .unset, .unset]) rfl ?_
  refine g_goto W65 d8_251 (pc' := 195) (by decide) ?_
  refine g_iload W65 d8_195 (pc' := 197) rfl rfl ?_
  refine g_aloadN W65 d8_197 (pc' := 198) rfl rfl rfl ?_
  refine g_getf W65 (wd_59 hw) Via.refl H65 (i := 0) rfl (jx := 14) rfl d8_198 (pc' := 201) rfl ?_
  intro T66 W66 H66
  refine g_icmp W66 d8_201 (pcy := 254) (by decide) (pc' := 204) rfl (fun (h : ¬ (1 : Int32) < (2 : Int32)) => absurd h (by decide)) (fun _ => ?_)
  refine g_dload W66 d8_204 (pc' := 206) rfl rfl ?_
  refine g_aloadN W66 d8_206 (pc' := 207) rfl rfl rfl ?_
  refine g_getf W66 (wd_28 hw) Via.refl H66 (i := 0) rfl (jx := 8) rfl d8_207 (pc' := 210) rfl ?_
  intro T67 W67 H67
  refine g_iload W67 d8_210 (pc' := 212) rfl rfl ?_
  refine g_daload W67 H67 (i := 6) rfl (jx := 1) (by decide) (v := .double ol2) rfl d8_212 (pc' := 213) rfl ?_
  refine g_aloadN W67 d8_213 (pc' := 214) rfl rfl rfl ?_
  refine g_getf W67 (wd_14 hw) Via.refl H67 (i := 0) rfl (jx := 2) rfl d8_214 (pc' := 217) rfl ?_
  intro T68 W68 H68
  refine g_callS W68 (argsL := [.double s1, .double ol2, .int (0 : Int32)]) (st := []) (wd_43 hw) (wd_44 hw) (wd_45 hw) (wd_46 hw) (by decide) (c_add0 l Z a0 hw n0 s1 ol2 _ _ _ _ hs1 hol2 (by omega) (by omega) _ _ H68) pd_7 rfl rfl rfl d8_217 (pc' := 220) rfl (Nat.le_trans (by decide) hRf) (Wn := 0) (Nat.le_of_eq rfl) (Nat.le_trans (by decide) hRl) (kc' := 0) (ks' := 0) rfl rfl (by omega) (by omega) ?_
  intro T69 v69 W69 hp69
  obtain ⟨s3, rfl, hs3, -, H69⟩ := hp69
  show Goes _ _ _ _ (State.setTop _ (mkF _ _ _ [.double s3]))
  refine g_dstore W69 d8_220 (pc' := 222) rfl (ls' := #[.val (.ref sh), .val (.double (4607182418800017408 : UInt64)), .second, .val (.double fo), .second, .val (.double fz), .second, .val (.int (0 : Int32)), .val (.double s3), .second, .val (.double s2), .second, .val (.int (1 : Int32)), .unset, .unset]) rfl ?_
  refine g_dload W69 d8_222 (pc' := 224) rfl rfl ?_
  refine g_aloadN W69 d8_224 (pc' := 225) rfl rfl rfl ?_
  refine g_getf W69 (wd_32 hw) Via.refl H69 (i := 0) rfl (jx := 10) rfl d8_225 (pc' := 228) rfl ?_
  intro T70 W70 H70
  refine g_iload W70 d8_228 (pc' := 230) rfl rfl ?_
  refine g_daload W70 H70 (i := 8) rfl (jx := 1) (by decide) (v := .double zl2) rfl d8_230 (pc' := 231) rfl ?_
  refine g_aloadN W70 d8_231 (pc' := 232) rfl rfl rfl ?_
  refine g_getf W70 (wd_14 hw) Via.refl H70 (i := 0) rfl (jx := 2) rfl d8_232 (pc' := 235) rfl ?_
  intro T71 W71 H71
  refine g_if W71 d8_235 (pcy := 242) (by decide) (pc' := 238) rfl (fun (h : ¬ (0 : Int32) = (0 : Int32)) => absurd h (by decide)) (fun _ => ?_)
  refine g_iconst W71 d8_238 (pc' := 239) rfl (v := (1 : Int32)) (by decide) ?_
  refine g_goto W71 d8_239 (pc' := 243) (by decide) ?_
  refine g_callS W71 (argsL := [.double s2, .double zl2, .int (1 : Int32)]) (st := []) (wd_43 hw) (wd_44 hw) (wd_45 hw) (wd_46 hw) (by decide) (c_add1 l Z a0 hw n0 s2 zl2 _ _ _ _ hs2 hzl2 (by omega) (by omega) _ _ H71) pd_7 rfl rfl rfl d8_243 (pc' := 246) rfl (Nat.le_trans (by decide) hRf) (Wn := 0) (Nat.le_of_eq rfl) (Nat.le_trans (by decide) hRl) (kc' := 0) (ks' := 0) rfl rfl (by omega) (by omega) ?_
  intro T72 v72 W72 hp72
  obtain ⟨s4, rfl, hs4, -, H72⟩ := hp72
  show Goes _ _ _ _ (State.setTop _ (mkF _ _ _ [.double s4]))
  refine g_dstore W72 d8_246 (pc' := 248) rfl (ls' := #[.val (.ref sh), .val (.double (4607182418800017408 : UInt64)), .second, .val (.double fo), .second, .val (.double fz), .second, .val (.int (0 : Int32)), .val (.double s3), .second, .val (.double s4), .second, .val (.int (1 : Int32)), .unset, .unset]) rfl ?_
  refine g_iinc W72 d8_248 (pc' := 251) rfl rfl (v := (2 : Int32)) (by decide) (ls' := #[.val (.ref sh), .val (.double (4607182418800017408 : UInt64)), .second, .val (.double fo), .second, .val (.double fz), .second, .val (.int (0 : Int32)), .val (.double s3), .second, .val (.double s4), .second, .val (.int (2 : Int32)), .unset, .unset]) rfl ?_
  refine g_goto W72 d8_251 (pc' := 195) (by decide) ?_
  refine g_iload W72 d8_195 (pc' := 197) rfl rfl ?_
  refine g_aloadN W72 d8_197 (pc' := 198) rfl rfl rfl ?_
  refine g_getf W72 (wd_59 hw) Via.refl H72 (i := 0) rfl (jx := 14) rfl d8_198 (pc' := 201) rfl ?_
  intro T73 W73 H73
  refine g_icmp W73 d8_201 (pcy := 254) (by decide) (pc' := 204) rfl (fun _ => ?_) (fun (h : ¬ ¬ (2 : Int32) < (2 : Int32)) => absurd h (by decide))
  refine g_aloadN W73 d8_254 (pc' := 255) rfl rfl rfl ?_
  refine g_getf W73 (wd_14 hw) Via.refl H73 (i := 0) rfl (jx := 2) rfl d8_255 (pc' := 258) rfl ?_
  intro T74 W74 H74
  refine g_if W74 d8_258 (pcy := 271) (by decide) (pc' := 261) rfl (fun _ => ?_) (fun (h : ¬ (0 : Int32) = (0 : Int32)) => absurd h (by decide))
  refine g_dload W74 d8_271 (pc' := 273) rfl rfl ?_
  refine g_dload W74 d8_273 (pc' := 275) rfl rfl ?_
  refine g_callS W74 (argsL := [.double s3, .double s4]) (st := []) (wd_117 hw) (wd_118 hw) (wd_3 hw) (wd_119 hw) (by decide) (c_least l Z a0 hw n0 s3 s4 _ _ _ _ hs3 hs4 (by omega) (by omega) (by omega) (by omega) _ _ H74) pd_2 rfl rfl rfl d8_275 (pc' := 278) rfl (Nat.le_trans (by decide) hRf) (Wn := 0) (Nat.le_of_eq rfl) (Nat.le_trans (by decide) hRl) (kc' := 0) (ks' := 0) rfl rfl (by omega) (by omega) ?_
  intro T75 v75 W75 hp75
  obtain ⟨r0, rfl, hr0, H75⟩ := hp75
  show Goes _ _ _ _ (State.setTop _ (mkF _ _ _ [.double r0]))
  refine g_dstore W75 d8_278 (pc' := 280) rfl (ls' := #[.val (.ref sh), .val (.double (4607182418800017408 : UInt64)), .second, .val (.double fo), .second, .val (.double fz), .second, .val (.int (0 : Int32)), .val (.double s3), .second, .val (.double s4), .second, .val (.double r0), .second, .unset]) rfl ?_
  refine g_dload W75 d8_280 (pc' := 282) rfl rfl ?_
  refine g_dconst0 W75 d8_282 (pc' := 283) rfl ?_
  refine g_dcmp W75 d8_283 (pc' := 284) rfl rfl ?_
  rw [show (cmpValue (FP.dcmp s3 0) .l) = (1 : Int32) from (by rw [pos_gt (hs3.get (by omega)) (by omega)]; rfl)]
  refine g_if W75 d8_284 (pcy := 294) (by decide) (pc' := 287) rfl (fun _ => ?_) (fun (h : ¬ (0 : Int32) < (1 : Int32)) => absurd h (by decide))
  refine g_iconst W75 d8_294 (pc' := 295) rfl (v := (1 : Int32)) (by decide) ?_
  refine g_goto W75 d8_295 (pc' := 299) (by decide) ?_
  refine g_istore W75 d8_299 (pc' := 301) rfl (ls' := #[.val (.ref sh), .val (.double (4607182418800017408 : UInt64)), .second, .val (.double fo), .second, .val (.double fz), .second, .val (.int (0 : Int32)), .val (.double s3), .second, .val (.double s4), .second, .val (.double r0), .second, .val (.int (1 : Int32))]) rfl ?_
  refine g_iload W75 d8_301 (pc' := 303) rfl rfl ?_
  refine g_if W75 d8_303 (pcy := 313) (by decide) (pc' := 306) rfl (fun _ => ?_) (fun (h : ¬ ¬ (1 : Int32) = (0 : Int32)) => absurd h (by decide))
  refine g_aloadN W75 d8_313 (pc' := 314) rfl rfl rfl ?_
  refine g_getf W75 (wd_14 hw) Via.refl H75 (i := 0) rfl (jx := 2) rfl d8_314 (pc' := 317) rfl ?_
  intro T76 W76 H76
  refine g_if W76 d8_317 (pcy := 330) (by decide) (pc' := 320) rfl (fun _ => ?_) (fun (h : ¬ (0 : Int32) = (0 : Int32)) => absurd h (by decide))
  refine g_dload W76 d8_330 (pc' := 332) rfl rfl ?_
  refine g_dloadN W76 d8_332 (pc' := 333) rfl rfl ?_
  refine g_dcmp W76 d8_333 (pc' := 334) rfl rfl ?_
  rw [show (cmpValue (FP.dcmp r0 (4607182418800017408 : UInt64)) .g) = (-1 : Int32) from (by rw [sh_one hr0 (by omega) (by omega)]; rfl)]
  refine g_if W76 d8_334 (pcy := 346) (by decide) (pc' := 337) rfl (fun (h : ¬ (-1 : Int32) < (0 : Int32)) => absurd h (by decide)) (fun _ => ?_)
  refine g_dload W76 d8_337 (pc' := 339) rfl rfl ?_
  refine g_dstoreN W76 d8_339 (pc' := 340) rfl (ls' := #[.val (.ref sh), .val (.double r0), .second, .val (.double fo), .second, .val (.double fz), .second, .val (.int (0 : Int32)), .val (.double s3), .second, .val (.double s4), .second, .val (.double r0), .second, .val (.int (1 : Int32))]) rfl ?_
  refine g_aloadN W76 d8_340 (pc' := 341) rfl rfl rfl ?_
  refine g_iload W76 d8_341 (pc' := 343) rfl rfl ?_
  refine g_putf W76 (wd_115 hw) Via.refl (Or.inl (wd_116 hw)) (wd_2 hw) (ty := .int) (by decide) rfl rfl H76 (i := 0) rfl (jx := 15) rfl d8_343 (pc' := 346) rfl (L' := ((sh, ObC Z "com/example/narrow_bounds/narrowbounds/Share" (fs_Share (.ref loA) (.ref hiA) (.int (0 : Int32)) (.int ru) (.ref owA) (.ref otA) (.ref liA) (.ref raA) (.ref olA) (.ref ohA) (.ref zlA) (.ref zhA) (.double fo) (.double fz) (.int (2 : Int32)) (.int (0 : Int32)))) :: (loA, ArC Z .double lo) :: (hiA, ArC Z .double hi) :: (raA, ArC Z .int [.int k1, .int k2, .int (0 : Int32)]) :: (owA, ArC Z .double ow) :: (otA, ArC Z .double ot) :: (olA, ArC Z .double [.double ol1, .double ol2, .double 0]) :: (ohA, ArC Z .double [.double oh1, .double oh2, .double 0]) :: (zlA, ArC Z .double [.double zl1, .double zl2, .double 0]) :: (zhA, ArC Z .double [.double zh1, .double zh2, .double 0]) :: F)) rfl ?_
  intro T77 W77 H77
  refine g_iload W77 d8_346 (pc' := 348) rfl rfl ?_
  refine g_aloadN W77 d8_348 (pc' := 349) rfl rfl rfl ?_
  refine g_getf W77 (wd_59 hw) Via.refl H77 (i := 0) rfl (jx := 14) rfl d8_349 (pc' := 352) rfl ?_
  intro T78 W78 H78
  refine g_icmp W78 d8_352 (pcy := 397) (by decide) (pc' := 355) rfl (fun (h : ¬ (0 : Int32) < (2 : Int32)) => absurd h (by decide)) (fun _ => ?_)
  refine g_dloadN W78 d8_355 (pc' := 356) rfl rfl ?_
  refine g_aloadN W78 d8_356 (pc' := 357) rfl rfl rfl ?_
  refine g_getf W78 (wd_30 hw) Via.refl H78 (i := 0) rfl (jx := 9) rfl d8_357 (pc' := 360) rfl ?_
  intro T79 W79 H79
  refine g_iload W79 d8_360 (pc' := 362) rfl rfl ?_
  refine g_daload W79 H79 (i := 7) rfl (jx := 0) (by decide) (v := .double oh1) rfl d8_362 (pc' := 363) rfl ?_
  refine g_aloadN W79 d8_363 (pc' := 364) rfl rfl rfl ?_
  refine g_getf W79 (wd_14 hw) Via.refl H79 (i := 0) rfl (jx := 2) rfl d8_364 (pc' := 367) rfl ?_
  intro T80 W80 H80
  refine g_callS W80 (argsL := [.double fo, .double oh1, .int (0 : Int32)]) (st := []) (wd_43 hw) (wd_44 hw) (wd_45 hw) (wd_46 hw) (by decide) (c_add0 l Z a0 hw n0 fo oh1 _ _ _ _ hfo hoh1 (by omega) (by omega) _ _ H80) pd_7 rfl rfl rfl d8_367 (pc' := 370) rfl (Nat.le_trans (by decide) hRf) (Wn := 0) (Nat.le_of_eq rfl) (Nat.le_trans (by decide) hRl) (kc' := 0) (ks' := 0) rfl rfl (by omega) (by omega) ?_
  intro T81 v81 W81 hp81
  obtain ⟨s5, rfl, hs5, -, H81⟩ := hp81
  show Goes _ _ _ _ (State.setTop _ (mkF _ _ _ [.double s5]))
  refine g_dstoreN W81 d8_370 (pc' := 371) rfl (ls' := #[.val (.ref sh), .val (.double r0), .second, .val (.double s5), .second, .val (.double fz), .second, .val (.int (0 : Int32)), .val (.double s3), .second, .val (.double s4), .second, .val (.double r0), .second, .val (.int (1 : Int32))]) rfl ?_
  refine g_dload W81 d8_371 (pc' := 373) rfl rfl ?_
  refine g_aloadN W81 d8_373 (pc' := 374) rfl rfl rfl ?_
  refine g_getf W81 (wd_34 hw) Via.refl H81 (i := 0) rfl (jx := 11) rfl d8_374 (pc' := 377) rfl ?_
  intro T82 W82 H82
  refine g_iload W82 d8_377 (pc' := 379) rfl rfl ?_
  refine g_daload W82 H82 (i := 9) rfl (jx := 0) (by decide) (v := .double zh1) rfl d8_379 (pc' := 380) rfl ?_
  refine g_aloadN W82 d8_380 (pc' := 381) rfl rfl rfl ?_
  refine g_getf W82 (wd_14 hw) Via.refl H82 (i := 0) rfl (jx := 2) rfl d8_381 (pc' := 384) rfl ?_
  intro T83 W83 H83
  refine g_if W83 d8_384 (pcy := 391) (by decide) (pc' := 387) rfl (fun (h : ¬ (0 : Int32) = (0 : Int32)) => absurd h (by decide)) (fun _ => ?_)
  refine g_iconst W83 d8_387 (pc' := 388) rfl (v := (1 : Int32)) (by decide) ?_
  refine g_goto W83 d8_388 (pc' := 392) (by decide) ?_
  refine g_callS W83 (argsL := [.double fz, .double zh1, .int (1 : Int32)]) (st := []) (wd_43 hw) (wd_44 hw) (wd_45 hw) (wd_46 hw) (by decide) (c_add1 l Z a0 hw n0 fz zh1 _ _ _ _ hfz hzh1 (by omega) (by omega) _ _ H83) pd_7 rfl rfl rfl d8_392 (pc' := 395) rfl (Nat.le_trans (by decide) hRf) (Wn := 0) (Nat.le_of_eq rfl) (Nat.le_trans (by decide) hRl) (kc' := 0) (ks' := 0) rfl rfl (by omega) (by omega) ?_
  intro T84 v84 W84 hp84
  obtain ⟨s6, rfl, hs6, -, H84⟩ := hp84
  show Goes _ _ _ _ (State.setTop _ (mkF _ _ _ [.double s6]))
  refine g_dstore W84 d8_395 (pc' := 397) rfl (ls' := #[.val (.ref sh), .val (.double r0), .second, .val (.double s5), .second, .val (.double s6), .second, .val (.int (0 : Int32)), .val (.double s3), .second, .val (.double s4), .second, .val (.double r0), .second, .val (.int (1 : Int32))]) rfl ?_
  refine g_iinc W84 d8_397 (pc' := 400) rfl rfl (v := (1 : Int32)) (by decide) (ls' := #[.val (.ref sh), .val (.double r0), .second, .val (.double s5), .second, .val (.double s6), .second, .val (.int (1 : Int32)), .val (.double s3), .second, .val (.double s4), .second, .val (.double r0), .second, .val (.int (1 : Int32))]) rfl ?_
  refine g_goto W84 d8_400 (pc' := 175) (by decide) ?_
  refine g_iload W84 d8_175 (pc' := 177) rfl rfl ?_
  refine g_aloadN W84 d8_177 (pc' := 178) rfl rfl rfl ?_
  refine g_getf W84 (wd_59 hw) Via.refl H84 (i := 0) rfl (jx := 14) rfl d8_178 (pc' := 181) rfl ?_
  intro T85 W85 H85
  refine g_icmp W85 d8_181 (pcy := 403) (by decide) (pc' := 184) rfl (fun (h : (2 : Int32) < (1 : Int32)) => absurd h (by decide)) (fun _ => ?_)
  refine g_dloadN W85 d8_184 (pc' := 185) rfl rfl ?_
  refine g_dstore W85 d8_185 (pc' := 187) rfl (ls' := #[.val (.ref sh), .val (.double r0), .second, .val (.double s5), .second, .val (.double s6), .second, .val (.int (1 : Int32)), .val (.double s5), .second, .val (.double s4), .second, .val (.double r0), .second, .val (.int (1 : Int32))]) rfl ?_
  refine g_dload W85 d8_187 (pc' := 189) rfl rfl ?_
  refine g_dstore W85 d8_189 (pc' := 191) rfl (ls' := #[.val (.ref sh), .val (.double r0), .second, .val (.double s5), .second, .val (.double s6), .second, .val (.int (1 : Int32)), .val (.double s5), .second, .val (.double s6), .second, .val (.double r0), .second, .val (.int (1 : Int32))]) rfl ?_
  refine g_iload W85 d8_191 (pc' := 193) rfl rfl ?_
  refine g_istore W85 d8_193 (pc' := 195) rfl (ls' := #[.val (.ref sh), .val (.double r0), .second, .val (.double s5), .second, .val (.double s6), .second, .val (.int (1 : Int32)), .val (.double s5), .second, .val (.double s6), .second, .val (.int (1 : Int32)), .unset, .val (.int (1 : Int32))]) rfl ?_
  refine g_iload W85 d8_195 (pc' := 197) rfl rfl ?_
  refine g_aloadN W85 d8_197 (pc' := 198) rfl rfl rfl ?_
  refine g_getf W85 (wd_59 hw) Via.refl H85 (i := 0) rfl (jx := 14) rfl d8_198 (pc' := 201) rfl ?_
  intro T86 W86 H86
  refine g_icmp W86 d8_201 (pcy := 254) (by decide) (pc' := 204) rfl (fun (h : ¬ (1 : Int32) < (2 : Int32)) => absurd h (by decide)) (fun _ => ?_)
  refine g_dload W86 d8_204 (pc' := 206) rfl rfl ?_
  refine g_aloadN W86 d8_206 (pc' := 207) rfl rfl rfl ?_
  refine g_getf W86 (wd_28 hw) Via.refl H86 (i := 0) rfl (jx := 8) rfl d8_207 (pc' := 210) rfl ?_
  intro T87 W87 H87
  refine g_iload W87 d8_210 (pc' := 212) rfl rfl ?_
  refine g_daload W87 H87 (i := 6) rfl (jx := 1) (by decide) (v := .double ol2) rfl d8_212 (pc' := 213) rfl ?_
  refine g_aloadN W87 d8_213 (pc' := 214) rfl rfl rfl ?_
  refine g_getf W87 (wd_14 hw) Via.refl H87 (i := 0) rfl (jx := 2) rfl d8_214 (pc' := 217) rfl ?_
  intro T88 W88 H88
  refine g_callS W88 (argsL := [.double s5, .double ol2, .int (0 : Int32)]) (st := []) (wd_43 hw) (wd_44 hw) (wd_45 hw) (wd_46 hw) (by decide) (c_add0 l Z a0 hw n0 s5 ol2 _ _ _ _ hs5 hol2 (by omega) (by omega) _ _ H88) pd_7 rfl rfl rfl d8_217 (pc' := 220) rfl (Nat.le_trans (by decide) hRf) (Wn := 0) (Nat.le_of_eq rfl) (Nat.le_trans (by decide) hRl) (kc' := 0) (ks' := 0) rfl rfl (by omega) (by omega) ?_
  intro T89 v89 W89 hp89
  obtain ⟨s7, rfl, hs7, -, H89⟩ := hp89
  show Goes _ _ _ _ (State.setTop _ (mkF _ _ _ [.double s7]))
  refine g_dstore W89 d8_220 (pc' := 222) rfl (ls' := #[.val (.ref sh), .val (.double r0), .second, .val (.double s5), .second, .val (.double s6), .second, .val (.int (1 : Int32)), .val (.double s7), .second, .val (.double s6), .second, .val (.int (1 : Int32)), .unset, .val (.int (1 : Int32))]) rfl ?_
  refine g_dload W89 d8_222 (pc' := 224) rfl rfl ?_
  refine g_aloadN W89 d8_224 (pc' := 225) rfl rfl rfl ?_
  refine g_getf W89 (wd_32 hw) Via.refl H89 (i := 0) rfl (jx := 10) rfl d8_225 (pc' := 228) rfl ?_
  intro T90 W90 H90
  refine g_iload W90 d8_228 (pc' := 230) rfl rfl ?_
  refine g_daload W90 H90 (i := 8) rfl (jx := 1) (by decide) (v := .double zl2) rfl d8_230 (pc' := 231) rfl ?_
  refine g_aloadN W90 d8_231 (pc' := 232) rfl rfl rfl ?_
  refine g_getf W90 (wd_14 hw) Via.refl H90 (i := 0) rfl (jx := 2) rfl d8_232 (pc' := 235) rfl ?_
  intro T91 W91 H91
  refine g_if W91 d8_235 (pcy := 242) (by decide) (pc' := 238) rfl (fun (h : ¬ (0 : Int32) = (0 : Int32)) => absurd h (by decide)) (fun _ => ?_)
  refine g_iconst W91 d8_238 (pc' := 239) rfl (v := (1 : Int32)) (by decide) ?_
  refine g_goto W91 d8_239 (pc' := 243) (by decide) ?_
  refine g_callS W91 (argsL := [.double s6, .double zl2, .int (1 : Int32)]) (st := []) (wd_43 hw) (wd_44 hw) (wd_45 hw) (wd_46 hw) (by decide) (c_add1 l Z a0 hw n0 s6 zl2 _ _ _ _ hs6 hzl2 (by omega) (by omega) _ _ H91) pd_7 rfl rfl rfl d8_243 (pc' := 246) rfl (Nat.le_trans (by decide) hRf) (Wn := 0) (Nat.le_of_eq rfl) (Nat.le_trans (by decide) hRl) (kc' := 0) (ks' := 0) rfl rfl (by omega) (by omega) ?_
  intro T92 v92 W92 hp92
  obtain ⟨s8, rfl, hs8, -, H92⟩ := hp92
  show Goes _ _ _ _ (State.setTop _ (mkF _ _ _ [.double s8]))
  refine g_dstore W92 d8_246 (pc' := 248) rfl (ls' := #[.val (.ref sh), .val (.double r0), .second, .val (.double s5), .second, .val (.double s6), .second, .val (.int (1 : Int32)), .val (.double s7), .second, .val (.double s8), .second, .val (.int (1 : Int32)), .unset, .val (.int (1 : Int32))]) rfl ?_
  refine g_iinc W92 d8_248 (pc' := 251) rfl rfl (v := (2 : Int32)) (by decide) (ls' := #[.val (.ref sh), .val (.double r0), .second, .val (.double s5), .second, .val (.double s6), .second, .val (.int (1 : Int32)), .val (.double s7), .second, .val (.double s8), .second, .val (.int (2 : Int32)), .unset, .val (.int (1 : Int32))]) rfl ?_
  refine g_goto W92 d8_251 (pc' := 195) (by decide) ?_
  refine g_iload W92 d8_195 (pc' := 197) rfl rfl ?_
  refine g_aloadN W92 d8_197 (pc' := 198) rfl rfl rfl ?_
  refine g_getf W92 (wd_59 hw) Via.refl H92 (i := 0) rfl (jx := 14) rfl d8_198 (pc' := 201) rfl ?_
  intro T93 W93 H93
  refine g_icmp W93 d8_201 (pcy := 254) (by decide) (pc' := 204) rfl (fun _ => ?_) (fun (h : ¬ ¬ (2 : Int32) < (2 : Int32)) => absurd h (by decide))
  refine g_aloadN W93 d8_254 (pc' := 255) rfl rfl rfl ?_
  refine g_getf W93 (wd_14 hw) Via.refl H93 (i := 0) rfl (jx := 2) rfl d8_255 (pc' := 258) rfl ?_
  intro T94 W94 H94
  refine g_if W94 d8_258 (pcy := 271) (by decide) (pc' := 261) rfl (fun _ => ?_) (fun (h : ¬ (0 : Int32) = (0 : Int32)) => absurd h (by decide))
  refine g_dload W94 d8_271 (pc' := 273) rfl rfl ?_
  refine g_dload W94 d8_273 (pc' := 275) rfl rfl ?_
  refine g_callS W94 (argsL := [.double s7, .double s8]) (st := []) (wd_117 hw) (wd_118 hw) (wd_3 hw) (wd_119 hw) (by decide) (c_least l Z a0 hw n0 s7 s8 _ _ _ _ hs7 hs8 (by omega) (by omega) (by omega) (by omega) _ _ H94) pd_2 rfl rfl rfl d8_275 (pc' := 278) rfl (Nat.le_trans (by decide) hRf) (Wn := 0) (Nat.le_of_eq rfl) (Nat.le_trans (by decide) hRl) (kc' := 0) (ks' := 0) rfl rfl (by omega) (by omega) ?_
  intro T95 v95 W95 hp95
  obtain ⟨r1, rfl, hr1, H95⟩ := hp95
  show Goes _ _ _ _ (State.setTop _ (mkF _ _ _ [.double r1]))
  refine g_dstore W95 d8_278 (pc' := 280) rfl (ls' := #[.val (.ref sh), .val (.double r0), .second, .val (.double s5), .second, .val (.double s6), .second, .val (.int (1 : Int32)), .val (.double s7), .second, .val (.double s8), .second, .val (.double r1), .second, .val (.int (1 : Int32))]) rfl ?_
  refine g_dload W95 d8_280 (pc' := 282) rfl rfl ?_
  refine g_dconst0 W95 d8_282 (pc' := 283) rfl ?_
  refine g_dcmp W95 d8_283 (pc' := 284) rfl rfl ?_
  rw [show (cmpValue (FP.dcmp s7 0) .l) = (1 : Int32) from (by rw [pos_gt (hs7.get (by omega)) (by omega)]; rfl)]
  refine g_if W95 d8_284 (pcy := 294) (by decide) (pc' := 287) rfl (fun _ => ?_) (fun (h : ¬ (0 : Int32) < (1 : Int32)) => absurd h (by decide))
  refine g_iconst W95 d8_294 (pc' := 295) rfl (v := (1 : Int32)) (by decide) ?_
  refine g_goto W95 d8_295 (pc' := 299) (by decide) ?_
  refine g_istore W95 d8_299 (pc' := 301) rfl (ls' := #[.val (.ref sh), .val (.double r0), .second, .val (.double s5), .second, .val (.double s6), .second, .val (.int (1 : Int32)), .val (.double s7), .second, .val (.double s8), .second, .val (.double r1), .second, .val (.int (1 : Int32))]) rfl ?_
  refine g_iload W95 d8_301 (pc' := 303) rfl rfl ?_
  refine g_if W95 d8_303 (pcy := 313) (by decide) (pc' := 306) rfl (fun _ => ?_) (fun (h : ¬ ¬ (1 : Int32) = (0 : Int32)) => absurd h (by decide))
  refine g_aloadN W95 d8_313 (pc' := 314) rfl rfl rfl ?_
  refine g_getf W95 (wd_14 hw) Via.refl H95 (i := 0) rfl (jx := 2) rfl d8_314 (pc' := 317) rfl ?_
  intro T96 W96 H96
  refine g_if W96 d8_317 (pcy := 330) (by decide) (pc' := 320) rfl (fun _ => ?_) (fun (h : ¬ (0 : Int32) = (0 : Int32)) => absurd h (by decide))
  refine g_dload W96 d8_330 (pc' := 332) rfl rfl ?_
  refine g_dloadN W96 d8_332 (pc' := 333) rfl rfl ?_
  refine g_dcmp W96 d8_333 (pc' := 334) rfl rfl ?_
  refine g_if W96 d8_334 (pcy := 346) (by decide) (pc' := 337) rfl (fun (c97 : ¬ (cmpValue (FP.dcmp r1 r0) .g) < (0 : Int32)) => ?_) (fun (c97 : ¬ ¬ (cmpValue (FP.dcmp r1 r0) .g) < (0 : Int32)) => ?_)
  · refine g_iload W96 d8_346 (pc' := 348) rfl rfl ?_
    refine g_aloadN W96 d8_348 (pc' := 349) rfl rfl rfl ?_
    refine g_getf W96 (wd_59 hw) Via.refl H96 (i := 0) rfl (jx := 14) rfl d8_349 (pc' := 352) rfl ?_
    intro T98 W98 H98
    refine g_icmp W98 d8_352 (pcy := 397) (by decide) (pc' := 355) rfl (fun (h : ¬ (1 : Int32) < (2 : Int32)) => absurd h (by decide)) (fun _ => ?_)
    refine g_dloadN W98 d8_355 (pc' := 356) rfl rfl ?_
    refine g_aloadN W98 d8_356 (pc' := 357) rfl rfl rfl ?_
    refine g_getf W98 (wd_30 hw) Via.refl H98 (i := 0) rfl (jx := 9) rfl d8_357 (pc' := 360) rfl ?_
    intro T99 W99 H99
    refine g_iload W99 d8_360 (pc' := 362) rfl rfl ?_
    refine g_daload W99 H99 (i := 7) rfl (jx := 1) (by decide) (v := .double oh2) rfl d8_362 (pc' := 363) rfl ?_
    refine g_aloadN W99 d8_363 (pc' := 364) rfl rfl rfl ?_
    refine g_getf W99 (wd_14 hw) Via.refl H99 (i := 0) rfl (jx := 2) rfl d8_364 (pc' := 367) rfl ?_
    intro T100 W100 H100
    refine g_callS W100 (argsL := [.double s5, .double oh2, .int (0 : Int32)]) (st := []) (wd_43 hw) (wd_44 hw) (wd_45 hw) (wd_46 hw) (by decide) (c_add0 l Z a0 hw n0 s5 oh2 _ _ _ _ hs5 hoh2 (by omega) (by omega) _ _ H100) pd_7 rfl rfl rfl d8_367 (pc' := 370) rfl (Nat.le_trans (by decide) hRf) (Wn := 0) (Nat.le_of_eq rfl) (Nat.le_trans (by decide) hRl) (kc' := 0) (ks' := 0) rfl rfl (by omega) (by omega) ?_
    intro T101 v101 W101 hp101
    obtain ⟨s9, rfl, hs9, -, H101⟩ := hp101
    show Goes _ _ _ _ (State.setTop _ (mkF _ _ _ [.double s9]))
    refine g_dstoreN W101 d8_370 (pc' := 371) rfl (ls' := #[.val (.ref sh), .val (.double r0), .second, .val (.double s9), .second, .val (.double s6), .second, .val (.int (1 : Int32)), .val (.double s7), .second, .val (.double s8), .second, .val (.double r1), .second, .val (.int (1 : Int32))]) rfl ?_
    refine g_dload W101 d8_371 (pc' := 373) rfl rfl ?_
    refine g_aloadN W101 d8_373 (pc' := 374) rfl rfl rfl ?_
    refine g_getf W101 (wd_34 hw) Via.refl H101 (i := 0) rfl (jx := 11) rfl d8_374 (pc' := 377) rfl ?_
    intro T102 W102 H102
    refine g_iload W102 d8_377 (pc' := 379) rfl rfl ?_
    refine g_daload W102 H102 (i := 9) rfl (jx := 1) (by decide) (v := .double zh2) rfl d8_379 (pc' := 380) rfl ?_
    refine g_aloadN W102 d8_380 (pc' := 381) rfl rfl rfl ?_
    refine g_getf W102 (wd_14 hw) Via.refl H102 (i := 0) rfl (jx := 2) rfl d8_381 (pc' := 384) rfl ?_
    intro T103 W103 H103
    refine g_if W103 d8_384 (pcy := 391) (by decide) (pc' := 387) rfl (fun (h : ¬ (0 : Int32) = (0 : Int32)) => absurd h (by decide)) (fun _ => ?_)
    refine g_iconst W103 d8_387 (pc' := 388) rfl (v := (1 : Int32)) (by decide) ?_
    refine g_goto W103 d8_388 (pc' := 392) (by decide) ?_
    refine g_callS W103 (argsL := [.double s6, .double zh2, .int (1 : Int32)]) (st := []) (wd_43 hw) (wd_44 hw) (wd_45 hw) (wd_46 hw) (by decide) (c_add1 l Z a0 hw n0 s6 zh2 _ _ _ _ hs6 hzh2 (by omega) (by omega) _ _ H103) pd_7 rfl rfl rfl d8_392 (pc' := 395) rfl (Nat.le_trans (by decide) hRf) (Wn := 0) (Nat.le_of_eq rfl) (Nat.le_trans (by decide) hRl) (kc' := 0) (ks' := 0) rfl rfl (by omega) (by omega) ?_
    intro T104 v104 W104 hp104
    obtain ⟨s10, rfl, hs10, -, H104⟩ := hp104
    show Goes _ _ _ _ (State.setTop _ (mkF _ _ _ [.double s10]))
    refine g_dstore W104 d8_395 (pc' := 397) rfl (ls' := #[.val (.ref sh), .val (.double r0), .second, .val (.double s9), .second, .val (.double s10), .second, .val (.int (1 : Int32)), .val (.double s7), .second, .val (.double s8), .second, .val (.double r1), .second, .val (.int (1 : Int32))]) rfl ?_
    refine g_iinc W104 d8_397 (pc' := 400) rfl rfl (v := (2 : Int32)) (by decide) (ls' := #[.val (.ref sh), .val (.double r0), .second, .val (.double s9), .second, .val (.double s10), .second, .val (.int (2 : Int32)), .val (.double s7), .second, .val (.double s8), .second, .val (.double r1), .second, .val (.int (1 : Int32))]) rfl ?_
    refine g_goto W104 d8_400 (pc' := 175) (by decide) ?_
    refine g_iload W104 d8_175 (pc' := 177) rfl rfl ?_
    refine g_aloadN W104 d8_177 (pc' := 178) rfl rfl rfl ?_
    refine g_getf W104 (wd_59 hw) Via.refl H104 (i := 0) rfl (jx := 14) rfl d8_178 (pc' := 181) rfl ?_
    intro T105 W105 H105
    refine g_icmp W105 d8_181 (pcy := 403) (by decide) (pc' := 184) rfl (fun (h : (2 : Int32) < (2 : Int32)) => absurd h (by decide)) (fun _ => ?_)
    refine g_dloadN W105 d8_184 (pc' := 185) rfl rfl ?_
    refine g_dstore W105 d8_185 (pc' := 187) rfl (ls' := #[.val (.ref sh), .val (.double r0), .second, .val (.double s9), .second, .val (.double s10), .second, .val (.int (2 : Int32)), .val (.double s9), .second, .val (.double s8), .second, .val (.double r1), .second, .val (.int (1 : Int32))]) rfl ?_
    refine g_dload W105 d8_187 (pc' := 189) rfl rfl ?_
    refine g_dstore W105 d8_189 (pc' := 191) rfl (ls' := #[.val (.ref sh), .val (.double r0), .second, .val (.double s9), .second, .val (.double s10), .second, .val (.int (2 : Int32)), .val (.double s9), .second, .val (.double s10), .second, .val (.double r1), .second, .val (.int (1 : Int32))]) rfl ?_
    refine g_iload W105 d8_191 (pc' := 193) rfl rfl ?_
    refine g_istore W105 d8_193 (pc' := 195) rfl (ls' := #[.val (.ref sh), .val (.double r0), .second, .val (.double s9), .second, .val (.double s10), .second, .val (.int (2 : Int32)), .val (.double s9), .second, .val (.double s10), .second, .val (.int (2 : Int32)), .unset, .val (.int (1 : Int32))]) rfl ?_
    refine g_iload W105 d8_195 (pc' := 197) rfl rfl ?_
    refine g_aloadN W105 d8_197 (pc' := 198) rfl rfl rfl ?_
    refine g_getf W105 (wd_59 hw) Via.refl H105 (i := 0) rfl (jx := 14) rfl d8_198 (pc' := 201) rfl ?_
    intro T106 W106 H106
    refine g_icmp W106 d8_201 (pcy := 254) (by decide) (pc' := 204) rfl (fun _ => ?_) (fun (h : ¬ ¬ (2 : Int32) < (2 : Int32)) => absurd h (by decide))
    refine g_aloadN W106 d8_254 (pc' := 255) rfl rfl rfl ?_
    refine g_getf W106 (wd_14 hw) Via.refl H106 (i := 0) rfl (jx := 2) rfl d8_255 (pc' := 258) rfl ?_
    intro T107 W107 H107
    refine g_if W107 d8_258 (pcy := 271) (by decide) (pc' := 261) rfl (fun _ => ?_) (fun (h : ¬ (0 : Int32) = (0 : Int32)) => absurd h (by decide))
    refine g_dload W107 d8_271 (pc' := 273) rfl rfl ?_
    refine g_dload W107 d8_273 (pc' := 275) rfl rfl ?_
    refine g_callS W107 (argsL := [.double s9, .double s10]) (st := []) (wd_117 hw) (wd_118 hw) (wd_3 hw) (wd_119 hw) (by decide) (c_least l Z a0 hw n0 s9 s10 _ _ _ _ hs9 hs10 (by omega) (by omega) (by omega) (by omega) _ _ H107) pd_2 rfl rfl rfl d8_275 (pc' := 278) rfl (Nat.le_trans (by decide) hRf) (Wn := 0) (Nat.le_of_eq rfl) (Nat.le_trans (by decide) hRl) (kc' := 0) (ks' := 0) rfl rfl (by omega) (by omega) ?_
    intro T108 v108 W108 hp108
    obtain ⟨r2, rfl, hr2, H108⟩ := hp108
    show Goes _ _ _ _ (State.setTop _ (mkF _ _ _ [.double r2]))
    refine g_dstore W108 d8_278 (pc' := 280) rfl (ls' := #[.val (.ref sh), .val (.double r0), .second, .val (.double s9), .second, .val (.double s10), .second, .val (.int (2 : Int32)), .val (.double s9), .second, .val (.double s10), .second, .val (.double r2), .second, .val (.int (1 : Int32))]) rfl ?_
    refine g_dload W108 d8_280 (pc' := 282) rfl rfl ?_
    refine g_dconst0 W108 d8_282 (pc' := 283) rfl ?_
    refine g_dcmp W108 d8_283 (pc' := 284) rfl rfl ?_
    rw [show (cmpValue (FP.dcmp s9 0) .l) = (1 : Int32) from (by rw [pos_gt (hs9.get (by omega)) (by omega)]; rfl)]
    refine g_if W108 d8_284 (pcy := 294) (by decide) (pc' := 287) rfl (fun _ => ?_) (fun (h : ¬ (0 : Int32) < (1 : Int32)) => absurd h (by decide))
    refine g_iconst W108 d8_294 (pc' := 295) rfl (v := (1 : Int32)) (by decide) ?_
    refine g_goto W108 d8_295 (pc' := 299) (by decide) ?_
    refine g_istore W108 d8_299 (pc' := 301) rfl (ls' := #[.val (.ref sh), .val (.double r0), .second, .val (.double s9), .second, .val (.double s10), .second, .val (.int (2 : Int32)), .val (.double s9), .second, .val (.double s10), .second, .val (.double r2), .second, .val (.int (1 : Int32))]) rfl ?_
    refine g_iload W108 d8_301 (pc' := 303) rfl rfl ?_
    refine g_if W108 d8_303 (pcy := 313) (by decide) (pc' := 306) rfl (fun _ => ?_) (fun (h : ¬ ¬ (1 : Int32) = (0 : Int32)) => absurd h (by decide))
    refine g_aloadN W108 d8_313 (pc' := 314) rfl rfl rfl ?_
    refine g_getf W108 (wd_14 hw) Via.refl H108 (i := 0) rfl (jx := 2) rfl d8_314 (pc' := 317) rfl ?_
    intro T109 W109 H109
    refine g_if W109 d8_317 (pcy := 330) (by decide) (pc' := 320) rfl (fun _ => ?_) (fun (h : ¬ (0 : Int32) = (0 : Int32)) => absurd h (by decide))
    refine g_dload W109 d8_330 (pc' := 332) rfl rfl ?_
    refine g_dloadN W109 d8_332 (pc' := 333) rfl rfl ?_
    refine g_dcmp W109 d8_333 (pc' := 334) rfl rfl ?_
    refine g_if W109 d8_334 (pcy := 346) (by decide) (pc' := 337) rfl (fun (c110 : ¬ (cmpValue (FP.dcmp r2 r0) .g) < (0 : Int32)) => ?_) (fun (c110 : ¬ ¬ (cmpValue (FP.dcmp r2 r0) .g) < (0 : Int32)) => ?_)
    · refine g_iload W109 d8_346 (pc' := 348) rfl rfl ?_
      refine g_aloadN W109 d8_348 (pc' := 349) rfl rfl rfl ?_
      refine g_getf W109 (wd_59 hw) Via.refl H109 (i := 0) rfl (jx := 14) rfl d8_349 (pc' := 352) rfl ?_
      intro T111 W111 H111
      refine g_icmp W111 d8_352 (pcy := 397) (by decide) (pc' := 355) rfl (fun _ => ?_) (fun (h : ¬ ¬ (2 : Int32) < (2 : Int32)) => absurd h (by decide))
      refine g_iinc W111 d8_397 (pc' := 400) rfl rfl (v := (3 : Int32)) (by decide) (ls' := #[.val (.ref sh), .val (.double r0), .second, .val (.double s9), .second, .val (.double s10), .second, .val (.int (3 : Int32)), .val (.double s9), .second, .val (.double s10), .second, .val (.double r2), .second, .val (.int (1 : Int32))]) rfl ?_
      refine g_goto W111 d8_400 (pc' := 175) (by decide) ?_
      refine g_iload W111 d8_175 (pc' := 177) rfl rfl ?_
      refine g_aloadN W111 d8_177 (pc' := 178) rfl rfl rfl ?_
      refine g_getf W111 (wd_59 hw) Via.refl H111 (i := 0) rfl (jx := 14) rfl d8_178 (pc' := 181) rfl ?_
      intro T112 W112 H112
      refine g_icmp W112 d8_181 (pcy := 403) (by decide) (pc' := 184) rfl (fun _ => ?_) (fun (h : ¬ (2 : Int32) < (3 : Int32)) => absurd h (by decide))
      refine g_dloadN W112 d8_403 (pc' := 404) rfl rfl ?_
      have H113f := Hp.fr3 H112
      have H114f := Hp.fr3 H113f
      have H115f := Hp.fr3 H114f
      have H116f := Hp.fr3 H115f
      exact g_dreturn W112 d8_404 ⟨_, r0, r1, r2, _, _, rfl, hr0, hr1, hr2, Or.inl ⟨rfl, c97, c110⟩, H116f⟩ (Nat.zero_le _) (Nat.zero_le _)
    · replace c110 := Classical.not_not.mp c110
      refine g_dload W109 d8_337 (pc' := 339) rfl rfl ?_
      refine g_dstoreN W109 d8_339 (pc' := 340) rfl (ls' := #[.val (.ref sh), .val (.double r2), .second, .val (.double s9), .second, .val (.double s10), .second, .val (.int (2 : Int32)), .val (.double s9), .second, .val (.double s10), .second, .val (.double r2), .second, .val (.int (1 : Int32))]) rfl ?_
      refine g_aloadN W109 d8_340 (pc' := 341) rfl rfl rfl ?_
      refine g_iload W109 d8_341 (pc' := 343) rfl rfl ?_
      refine g_putf W109 (wd_115 hw) Via.refl (Or.inl (wd_116 hw)) (wd_2 hw) (ty := .int) (by decide) rfl rfl H109 (i := 0) rfl (jx := 15) rfl d8_343 (pc' := 346) rfl (L' := ((sh, ObC Z "com/example/narrow_bounds/narrowbounds/Share" (fs_Share (.ref loA) (.ref hiA) (.int (0 : Int32)) (.int ru) (.ref owA) (.ref otA) (.ref liA) (.ref raA) (.ref olA) (.ref ohA) (.ref zlA) (.ref zhA) (.double fo) (.double fz) (.int (2 : Int32)) (.int (2 : Int32)))) :: (loA, ArC Z .double lo) :: (hiA, ArC Z .double hi) :: (raA, ArC Z .int [.int k1, .int k2, .int (0 : Int32)]) :: (owA, ArC Z .double ow) :: (otA, ArC Z .double ot) :: (olA, ArC Z .double [.double ol1, .double ol2, .double 0]) :: (ohA, ArC Z .double [.double oh1, .double oh2, .double 0]) :: (zlA, ArC Z .double [.double zl1, .double zl2, .double 0]) :: (zhA, ArC Z .double [.double zh1, .double zh2, .double 0]) :: F)) rfl ?_
      intro T117 W117 H117
      refine g_iload W117 d8_346 (pc' := 348) rfl rfl ?_
      refine g_aloadN W117 d8_348 (pc' := 349) rfl rfl rfl ?_
      refine g_getf W117 (wd_59 hw) Via.refl H117 (i := 0) rfl (jx := 14) rfl d8_349 (pc' := 352) rfl ?_
      intro T118 W118 H118
      refine g_icmp W118 d8_352 (pcy := 397) (by decide) (pc' := 355) rfl (fun _ => ?_) (fun (h : ¬ ¬ (2 : Int32) < (2 : Int32)) => absurd h (by decide))
      refine g_iinc W118 d8_397 (pc' := 400) rfl rfl (v := (3 : Int32)) (by decide) (ls' := #[.val (.ref sh), .val (.double r2), .second, .val (.double s9), .second, .val (.double s10), .second, .val (.int (3 : Int32)), .val (.double s9), .second, .val (.double s10), .second, .val (.double r2), .second, .val (.int (1 : Int32))]) rfl ?_
      refine g_goto W118 d8_400 (pc' := 175) (by decide) ?_
      refine g_iload W118 d8_175 (pc' := 177) rfl rfl ?_
      refine g_aloadN W118 d8_177 (pc' := 178) rfl rfl rfl ?_
      refine g_getf W118 (wd_59 hw) Via.refl H118 (i := 0) rfl (jx := 14) rfl d8_178 (pc' := 181) rfl ?_
      intro T119 W119 H119
      refine g_icmp W119 d8_181 (pcy := 403) (by decide) (pc' := 184) rfl (fun _ => ?_) (fun (h : ¬ (2 : Int32) < (3 : Int32)) => absurd h (by decide))
      refine g_dloadN W119 d8_403 (pc' := 404) rfl rfl ?_
      have H120f := Hp.fr3 H119
      have H121f := Hp.fr3 H120f
      have H122f := Hp.fr3 H121f
      have H123f := Hp.fr3 H122f
      exact g_dreturn W119 d8_404 ⟨_, r0, r1, r2, _, _, rfl, hr0, hr1, hr2, Or.inr (Or.inr ⟨rfl, Or.inr ⟨c97, c110⟩⟩), H123f⟩ (Nat.zero_le _) (Nat.zero_le _)
  · replace c97 := Classical.not_not.mp c97
    refine g_dload W96 d8_337 (pc' := 339) rfl rfl ?_
    refine g_dstoreN W96 d8_339 (pc' := 340) rfl (ls' := #[.val (.ref sh), .val (.double r1), .second, .val (.double s5), .second, .val (.double s6), .second, .val (.int (1 : Int32)), .val (.double s7), .second, .val (.double s8), .second, .val (.double r1), .second, .val (.int (1 : Int32))]) rfl ?_
    refine g_aloadN W96 d8_340 (pc' := 341) rfl rfl rfl ?_
    refine g_iload W96 d8_341 (pc' := 343) rfl rfl ?_
    refine g_putf W96 (wd_115 hw) Via.refl (Or.inl (wd_116 hw)) (wd_2 hw) (ty := .int) (by decide) rfl rfl H96 (i := 0) rfl (jx := 15) rfl d8_343 (pc' := 346) rfl (L' := ((sh, ObC Z "com/example/narrow_bounds/narrowbounds/Share" (fs_Share (.ref loA) (.ref hiA) (.int (0 : Int32)) (.int ru) (.ref owA) (.ref otA) (.ref liA) (.ref raA) (.ref olA) (.ref ohA) (.ref zlA) (.ref zhA) (.double fo) (.double fz) (.int (2 : Int32)) (.int (1 : Int32)))) :: (loA, ArC Z .double lo) :: (hiA, ArC Z .double hi) :: (raA, ArC Z .int [.int k1, .int k2, .int (0 : Int32)]) :: (owA, ArC Z .double ow) :: (otA, ArC Z .double ot) :: (olA, ArC Z .double [.double ol1, .double ol2, .double 0]) :: (ohA, ArC Z .double [.double oh1, .double oh2, .double 0]) :: (zlA, ArC Z .double [.double zl1, .double zl2, .double 0]) :: (zhA, ArC Z .double [.double zh1, .double zh2, .double 0]) :: F)) rfl ?_
    intro T124 W124 H124
    refine g_iload W124 d8_346 (pc' := 348) rfl rfl ?_
    refine g_aloadN W124 d8_348 (pc' := 349) rfl rfl rfl ?_
    refine g_getf W124 (wd_59 hw) Via.refl H124 (i := 0) rfl (jx := 14) rfl d8_349 (pc' := 352) rfl ?_
    intro T125 W125 H125
    refine g_icmp W125 d8_352 (pcy := 397) (by decide) (pc' := 355) rfl (fun (h : ¬ (1 : Int32) < (2 : Int32)) => absurd h (by decide)) (fun _ => ?_)
    refine g_dloadN W125 d8_355 (pc' := 356) rfl rfl ?_
    refine g_aloadN W125 d8_356 (pc' := 357) rfl rfl rfl ?_
    refine g_getf W125 (wd_30 hw) Via.refl H125 (i := 0) rfl (jx := 9) rfl d8_357 (pc' := 360) rfl ?_
    intro T126 W126 H126
    refine g_iload W126 d8_360 (pc' := 362) rfl rfl ?_
    refine g_daload W126 H126 (i := 7) rfl (jx := 1) (by decide) (v := .double oh2) rfl d8_362 (pc' := 363) rfl ?_
    refine g_aloadN W126 d8_363 (pc' := 364) rfl rfl rfl ?_
    refine g_getf W126 (wd_14 hw) Via.refl H126 (i := 0) rfl (jx := 2) rfl d8_364 (pc' := 367) rfl ?_
    intro T127 W127 H127
    refine g_callS W127 (argsL := [.double s5, .double oh2, .int (0 : Int32)]) (st := []) (wd_43 hw) (wd_44 hw) (wd_45 hw) (wd_46 hw) (by decide) (c_add0 l Z a0 hw n0 s5 oh2 _ _ _ _ hs5 hoh2 (by omega) (by omega) _ _ H127) pd_7 rfl rfl rfl d8_367 (pc' := 370) rfl (Nat.le_trans (by decide) hRf) (Wn := 0) (Nat.le_of_eq rfl) (Nat.le_trans (by decide) hRl) (kc' := 0) (ks' := 0) rfl rfl (by omega) (by omega) ?_
    intro T128 v128 W128 hp128
    obtain ⟨s11, rfl, hs11, -, H128⟩ := hp128
    show Goes _ _ _ _ (State.setTop _ (mkF _ _ _ [.double s11]))
    refine g_dstoreN W128 d8_370 (pc' := 371) rfl (ls' := #[.val (.ref sh), .val (.double r1), .second, .val (.double s11), .second, .val (.double s6), .second, .val (.int (1 : Int32)), .val (.double s7), .second, .val (.double s8), .second, .val (.double r1), .second, .val (.int (1 : Int32))]) rfl ?_
    refine g_dload W128 d8_371 (pc' := 373) rfl rfl ?_
    refine g_aloadN W128 d8_373 (pc' := 374) rfl rfl rfl ?_
    refine g_getf W128 (wd_34 hw) Via.refl H128 (i := 0) rfl (jx := 11) rfl d8_374 (pc' := 377) rfl ?_
    intro T129 W129 H129
    refine g_iload W129 d8_377 (pc' := 379) rfl rfl ?_
    refine g_daload W129 H129 (i := 9) rfl (jx := 1) (by decide) (v := .double zh2) rfl d8_379 (pc' := 380) rfl ?_
    refine g_aloadN W129 d8_380 (pc' := 381) rfl rfl rfl ?_
    refine g_getf W129 (wd_14 hw) Via.refl H129 (i := 0) rfl (jx := 2) rfl d8_381 (pc' := 384) rfl ?_
    intro T130 W130 H130
    refine g_if W130 d8_384 (pcy := 391) (by decide) (pc' := 387) rfl (fun (h : ¬ (0 : Int32) = (0 : Int32)) => absurd h (by decide)) (fun _ => ?_)
    refine g_iconst W130 d8_387 (pc' := 388) rfl (v := (1 : Int32)) (by decide) ?_
    refine g_goto W130 d8_388 (pc' := 392) (by decide) ?_
    refine g_callS W130 (argsL := [.double s6, .double zh2, .int (1 : Int32)]) (st := []) (wd_43 hw) (wd_44 hw) (wd_45 hw) (wd_46 hw) (by decide) (c_add1 l Z a0 hw n0 s6 zh2 _ _ _ _ hs6 hzh2 (by omega) (by omega) _ _ H130) pd_7 rfl rfl rfl d8_392 (pc' := 395) rfl (Nat.le_trans (by decide) hRf) (Wn := 0) (Nat.le_of_eq rfl) (Nat.le_trans (by decide) hRl) (kc' := 0) (ks' := 0) rfl rfl (by omega) (by omega) ?_
    intro T131 v131 W131 hp131
    obtain ⟨s12, rfl, hs12, -, H131⟩ := hp131
    show Goes _ _ _ _ (State.setTop _ (mkF _ _ _ [.double s12]))
    refine g_dstore W131 d8_395 (pc' := 397) rfl (ls' := #[.val (.ref sh), .val (.double r1), .second, .val (.double s11), .second, .val (.double s12), .second, .val (.int (1 : Int32)), .val (.double s7), .second, .val (.double s8), .second, .val (.double r1), .second, .val (.int (1 : Int32))]) rfl ?_
    refine g_iinc W131 d8_397 (pc' := 400) rfl rfl (v := (2 : Int32)) (by decide) (ls' := #[.val (.ref sh), .val (.double r1), .second, .val (.double s11), .second, .val (.double s12), .second, .val (.int (2 : Int32)), .val (.double s7), .second, .val (.double s8), .second, .val (.double r1), .second, .val (.int (1 : Int32))]) rfl ?_
    refine g_goto W131 d8_400 (pc' := 175) (by decide) ?_
    refine g_iload W131 d8_175 (pc' := 177) rfl rfl ?_
    refine g_aloadN W131 d8_177 (pc' := 178) rfl rfl rfl ?_
    refine g_getf W131 (wd_59 hw) Via.refl H131 (i := 0) rfl (jx := 14) rfl d8_178 (pc' := 181) rfl ?_
    intro T132 W132 H132
    refine g_icmp W132 d8_181 (pcy := 403) (by decide) (pc' := 184) rfl (fun (h : (2 : Int32) < (2 : Int32)) => absurd h (by decide)) (fun _ => ?_)
    refine g_dloadN W132 d8_184 (pc' := 185) rfl rfl ?_
    refine g_dstore W132 d8_185 (pc' := 187) rfl (ls' := #[.val (.ref sh), .val (.double r1), .second, .val (.double s11), .second, .val (.double s12), .second, .val (.int (2 : Int32)), .val (.double s11), .second, .val (.double s8), .second, .val (.double r1), .second, .val (.int (1 : Int32))]) rfl ?_
    refine g_dload W132 d8_187 (pc' := 189) rfl rfl ?_
    refine g_dstore W132 d8_189 (pc' := 191) rfl (ls' := #[.val (.ref sh), .val (.double r1), .second, .val (.double s11), .second, .val (.double s12), .second, .val (.int (2 : Int32)), .val (.double s11), .second, .val (.double s12), .second, .val (.double r1), .second, .val (.int (1 : Int32))]) rfl ?_
    refine g_iload W132 d8_191 (pc' := 193) rfl rfl ?_
    refine g_istore W132 d8_193 (pc' := 195) rfl (ls' := #[.val (.ref sh), .val (.double r1), .second, .val (.double s11), .second, .val (.double s12), .second, .val (.int (2 : Int32)), .val (.double s11), .second, .val (.double s12), .second, .val (.int (2 : Int32)), .unset, .val (.int (1 : Int32))]) rfl ?_
    refine g_iload W132 d8_195 (pc' := 197) rfl rfl ?_
    refine g_aloadN W132 d8_197 (pc' := 198) rfl rfl rfl ?_
    refine g_getf W132 (wd_59 hw) Via.refl H132 (i := 0) rfl (jx := 14) rfl d8_198 (pc' := 201) rfl ?_
    intro T133 W133 H133
    refine g_icmp W133 d8_201 (pcy := 254) (by decide) (pc' := 204) rfl (fun _ => ?_) (fun (h : ¬ ¬ (2 : Int32) < (2 : Int32)) => absurd h (by decide))
    refine g_aloadN W133 d8_254 (pc' := 255) rfl rfl rfl ?_
    refine g_getf W133 (wd_14 hw) Via.refl H133 (i := 0) rfl (jx := 2) rfl d8_255 (pc' := 258) rfl ?_
    intro T134 W134 H134
    refine g_if W134 d8_258 (pcy := 271) (by decide) (pc' := 261) rfl (fun _ => ?_) (fun (h : ¬ (0 : Int32) = (0 : Int32)) => absurd h (by decide))
    refine g_dload W134 d8_271 (pc' := 273) rfl rfl ?_
    refine g_dload W134 d8_273 (pc' := 275) rfl rfl ?_
    refine g_callS W134 (argsL := [.double s11, .double s12]) (st := []) (wd_117 hw) (wd_118 hw) (wd_3 hw) (wd_119 hw) (by decide) (c_least l Z a0 hw n0 s11 s12 _ _ _ _ hs11 hs12 (by omega) (by omega) (by omega) (by omega) _ _ H134) pd_2 rfl rfl rfl d8_275 (pc' := 278) rfl (Nat.le_trans (by decide) hRf) (Wn := 0) (Nat.le_of_eq rfl) (Nat.le_trans (by decide) hRl) (kc' := 0) (ks' := 0) rfl rfl (by omega) (by omega) ?_
    intro T135 v135 W135 hp135
    obtain ⟨r2, rfl, hr2, H135⟩ := hp135
    show Goes _ _ _ _ (State.setTop _ (mkF _ _ _ [.double r2]))
    refine g_dstore W135 d8_278 (pc' := 280) rfl (ls' := #[.val (.ref sh), .val (.double r1), .second, .val (.double s11), .second, .val (.double s12), .second, .val (.int (2 : Int32)), .val (.double s11), .second, .val (.double s12), .second, .val (.double r2), .second, .val (.int (1 : Int32))]) rfl ?_
    refine g_dload W135 d8_280 (pc' := 282) rfl rfl ?_
    refine g_dconst0 W135 d8_282 (pc' := 283) rfl ?_
    refine g_dcmp W135 d8_283 (pc' := 284) rfl rfl ?_
    rw [show (cmpValue (FP.dcmp s11 0) .l) = (1 : Int32) from (by rw [pos_gt (hs11.get (by omega)) (by omega)]; rfl)]
    refine g_if W135 d8_284 (pcy := 294) (by decide) (pc' := 287) rfl (fun _ => ?_) (fun (h : ¬ (0 : Int32) < (1 : Int32)) => absurd h (by decide))
    refine g_iconst W135 d8_294 (pc' := 295) rfl (v := (1 : Int32)) (by decide) ?_
    refine g_goto W135 d8_295 (pc' := 299) (by decide) ?_
    refine g_istore W135 d8_299 (pc' := 301) rfl (ls' := #[.val (.ref sh), .val (.double r1), .second, .val (.double s11), .second, .val (.double s12), .second, .val (.int (2 : Int32)), .val (.double s11), .second, .val (.double s12), .second, .val (.double r2), .second, .val (.int (1 : Int32))]) rfl ?_
    refine g_iload W135 d8_301 (pc' := 303) rfl rfl ?_
    refine g_if W135 d8_303 (pcy := 313) (by decide) (pc' := 306) rfl (fun _ => ?_) (fun (h : ¬ ¬ (1 : Int32) = (0 : Int32)) => absurd h (by decide))
    refine g_aloadN W135 d8_313 (pc' := 314) rfl rfl rfl ?_
    refine g_getf W135 (wd_14 hw) Via.refl H135 (i := 0) rfl (jx := 2) rfl d8_314 (pc' := 317) rfl ?_
    intro T136 W136 H136
    refine g_if W136 d8_317 (pcy := 330) (by decide) (pc' := 320) rfl (fun _ => ?_) (fun (h : ¬ (0 : Int32) = (0 : Int32)) => absurd h (by decide))
    refine g_dload W136 d8_330 (pc' := 332) rfl rfl ?_
    refine g_dloadN W136 d8_332 (pc' := 333) rfl rfl ?_
    refine g_dcmp W136 d8_333 (pc' := 334) rfl rfl ?_
    refine g_if W136 d8_334 (pcy := 346) (by decide) (pc' := 337) rfl (fun (c137 : ¬ (cmpValue (FP.dcmp r2 r1) .g) < (0 : Int32)) => ?_) (fun (c137 : ¬ ¬ (cmpValue (FP.dcmp r2 r1) .g) < (0 : Int32)) => ?_)
    · refine g_iload W136 d8_346 (pc' := 348) rfl rfl ?_
      refine g_aloadN W136 d8_348 (pc' := 349) rfl rfl rfl ?_
      refine g_getf W136 (wd_59 hw) Via.refl H136 (i := 0) rfl (jx := 14) rfl d8_349 (pc' := 352) rfl ?_
      intro T138 W138 H138
      refine g_icmp W138 d8_352 (pcy := 397) (by decide) (pc' := 355) rfl (fun _ => ?_) (fun (h : ¬ ¬ (2 : Int32) < (2 : Int32)) => absurd h (by decide))
      refine g_iinc W138 d8_397 (pc' := 400) rfl rfl (v := (3 : Int32)) (by decide) (ls' := #[.val (.ref sh), .val (.double r1), .second, .val (.double s11), .second, .val (.double s12), .second, .val (.int (3 : Int32)), .val (.double s11), .second, .val (.double s12), .second, .val (.double r2), .second, .val (.int (1 : Int32))]) rfl ?_
      refine g_goto W138 d8_400 (pc' := 175) (by decide) ?_
      refine g_iload W138 d8_175 (pc' := 177) rfl rfl ?_
      refine g_aloadN W138 d8_177 (pc' := 178) rfl rfl rfl ?_
      refine g_getf W138 (wd_59 hw) Via.refl H138 (i := 0) rfl (jx := 14) rfl d8_178 (pc' := 181) rfl ?_
      intro T139 W139 H139
      refine g_icmp W139 d8_181 (pcy := 403) (by decide) (pc' := 184) rfl (fun _ => ?_) (fun (h : ¬ (2 : Int32) < (3 : Int32)) => absurd h (by decide))
      refine g_dloadN W139 d8_403 (pc' := 404) rfl rfl ?_
      have H140f := Hp.fr3 H139
      have H141f := Hp.fr3 H140f
      have H142f := Hp.fr3 H141f
      have H143f := Hp.fr3 H142f
      exact g_dreturn W139 d8_404 ⟨_, r0, r1, r2, _, _, rfl, hr0, hr1, hr2, Or.inr (Or.inl ⟨rfl, c97, c137⟩), H143f⟩ (Nat.zero_le _) (Nat.zero_le _)
    · replace c137 := Classical.not_not.mp c137
      refine g_dload W136 d8_337 (pc' := 339) rfl rfl ?_
      refine g_dstoreN W136 d8_339 (pc' := 340) rfl (ls' := #[.val (.ref sh), .val (.double r2), .second, .val (.double s11), .second, .val (.double s12), .second, .val (.int (2 : Int32)), .val (.double s11), .second, .val (.double s12), .second, .val (.double r2), .second, .val (.int (1 : Int32))]) rfl ?_
      refine g_aloadN W136 d8_340 (pc' := 341) rfl rfl rfl ?_
      refine g_iload W136 d8_341 (pc' := 343) rfl rfl ?_
      refine g_putf W136 (wd_115 hw) Via.refl (Or.inl (wd_116 hw)) (wd_2 hw) (ty := .int) (by decide) rfl rfl H136 (i := 0) rfl (jx := 15) rfl d8_343 (pc' := 346) rfl (L' := ((sh, ObC Z "com/example/narrow_bounds/narrowbounds/Share" (fs_Share (.ref loA) (.ref hiA) (.int (0 : Int32)) (.int ru) (.ref owA) (.ref otA) (.ref liA) (.ref raA) (.ref olA) (.ref ohA) (.ref zlA) (.ref zhA) (.double fo) (.double fz) (.int (2 : Int32)) (.int (2 : Int32)))) :: (loA, ArC Z .double lo) :: (hiA, ArC Z .double hi) :: (raA, ArC Z .int [.int k1, .int k2, .int (0 : Int32)]) :: (owA, ArC Z .double ow) :: (otA, ArC Z .double ot) :: (olA, ArC Z .double [.double ol1, .double ol2, .double 0]) :: (ohA, ArC Z .double [.double oh1, .double oh2, .double 0]) :: (zlA, ArC Z .double [.double zl1, .double zl2, .double 0]) :: (zhA, ArC Z .double [.double zh1, .double zh2, .double 0]) :: F)) rfl ?_
      intro T144 W144 H144
      refine g_iload W144 d8_346 (pc' := 348) rfl rfl ?_
      refine g_aloadN W144 d8_348 (pc' := 349) rfl rfl rfl ?_
      refine g_getf W144 (wd_59 hw) Via.refl H144 (i := 0) rfl (jx := 14) rfl d8_349 (pc' := 352) rfl ?_
      intro T145 W145 H145
      refine g_icmp W145 d8_352 (pcy := 397) (by decide) (pc' := 355) rfl (fun _ => ?_) (fun (h : ¬ ¬ (2 : Int32) < (2 : Int32)) => absurd h (by decide))
      refine g_iinc W145 d8_397 (pc' := 400) rfl rfl (v := (3 : Int32)) (by decide) (ls' := #[.val (.ref sh), .val (.double r2), .second, .val (.double s11), .second, .val (.double s12), .second, .val (.int (3 : Int32)), .val (.double s11), .second, .val (.double s12), .second, .val (.double r2), .second, .val (.int (1 : Int32))]) rfl ?_
      refine g_goto W145 d8_400 (pc' := 175) (by decide) ?_
      refine g_iload W145 d8_175 (pc' := 177) rfl rfl ?_
      refine g_aloadN W145 d8_177 (pc' := 178) rfl rfl rfl ?_
      refine g_getf W145 (wd_59 hw) Via.refl H145 (i := 0) rfl (jx := 14) rfl d8_178 (pc' := 181) rfl ?_
      intro T146 W146 H146
      refine g_icmp W146 d8_181 (pcy := 403) (by decide) (pc' := 184) rfl (fun _ => ?_) (fun (h : ¬ (2 : Int32) < (3 : Int32)) => absurd h (by decide))
      refine g_dloadN W146 d8_403 (pc' := 404) rfl rfl ?_
      have H147f := Hp.fr3 H146
      have H148f := Hp.fr3 H147f
      have H149f := Hp.fr3 H148f
      have H150f := Hp.fr3 H149f
      exact g_dreturn W146 d8_404 ⟨_, r0, r1, r2, _, _, rfl, hr0, hr1, hr2, Or.inr (Or.inr ⟨rfl, Or.inl ⟨c97, c137⟩⟩), H150f⟩ (Nat.zero_le _) (Nat.zero_le _)
theorem ex_tail1 (l : Launch) (Z : State) (a0 : Array Value) (hw : HW Z a0) (n0 : Nat) (sh loA hiA owA otA liA raA olA ohA zlA zhA : Addr) (ru : Int32) (fo fz : UInt64) (at0 : Int32) (lo hi ow ot : List Value) (k1 k2 : Int32) (i1 i2 : Nat) (hi1 : k1.toInt = (i1 : Int)) (hi2 : k2.toInt = (i2 : Int)) (xL1 xH1 xW1 xZ1 xL2 xH2 xW2 xZ2 : UInt64) (nl1 nh1 nw1 nz1 nl2 nh2 nw2 nz2 nf ng : Nat) (gL1 : lo[i1]? = some (.double xL1)) (dL1 : Jvm.OwnKit.Dy (nl1 : Int) 0 xL1) (bL1 : nl1 ≤ 64) (gH1 : hi[i1]? = some (.double xH1)) (dH1 : Jvm.OwnKit.Dy (nh1 : Int) 0 xH1) (bH1 : nh1 ≤ 64) (gW1 : ow[i1]? = some (.double xW1)) (dW1 : Jvm.OwnKit.Dy (nw1 : Int) 0 xW1) (bW1 : nw1 ≤ 64) (gZ1 : ot[i1]? = some (.double xZ1)) (dZ1 : Jvm.OwnKit.Dy (nz1 : Int) 0 xZ1) (bZ1 : nz1 ≤ 64) (c1l : nl1 * nw1 + nl1 * nz1 ≤ 496) (c1h : nh1 * nw1 + nh1 * nz1 ≤ 496) (gL2 : lo[i2]? = some (.double xL2)) (dL2 : Jvm.OwnKit.Dy (nl2 : Int) 0 xL2) (bL2 : nl2 ≤ 64) (gH2 : hi[i2]? = some (.double xH2)) (dH2 : Jvm.OwnKit.Dy (nh2 : Int) 0 xH2) (bH2 : nh2 ≤ 64) (gW2 : ow[i2]? = some (.double xW2)) (dW2 : Jvm.OwnKit.Dy (nw2 : Int) 0 xW2) (bW2 : nw2 ≤ 64) (gZ2 : ot[i2]? = some (.double xZ2)) (dZ2 : Jvm.OwnKit.Dy (nz2 : Int) 0 xZ2) (bZ2 : nz2 ≤ 64) (c2l : nl2 * nw2 + nl2 * nz2 ≤ 496) (c2h : nh2 * nw2 + nh2 * nz2 ≤ 496) (hfo : Nr nf 0 fo) (hfz : Nr ng 0 fz) (nf1 : 1 ≤ nf) (nf2 : nf ≤ 16) (ng1 : 1 ≤ ng) (ng2 : ng ≤ 16) (F : List HRow) (as0 : Array Value)
    (p : Program) (e : Env) (R : Room) (s : State) (m : MethodId) (below : List Frame) (meth : Method) (c : Code) (hRf : 4 ≤ R.frames) (hRl : 90 ≤ R.locals)
    (T : State) (W : Wk Z ⟨"com/example/narrow_bounds/narrowbounds/Share", "extreme", "()D"⟩ prog_45_method_4_code 15 (some .double) n0 p l e R s m as0 below meth c T 0 0) (H : Hp Z n0 T.heap ((sh, ObC Z "com/example/narrow_bounds/narrowbounds/Share" (fs_Share (.ref loA) (.ref hiA) (.int (1 : Int32)) (.int ru) (.ref owA) (.ref otA) (.ref liA) (.ref raA) (.ref olA) (.ref ohA) (.ref zlA) (.ref zhA) (.double fo) (.double fz) (.int (2 : Int32)) (.int at0))) :: (loA, ArC Z .double lo) :: (hiA, ArC Z .double hi) :: (raA, ArC Z .int [.int k1, .int k2, .int (0 : Int32)]) :: (owA, ArC Z .double ow) :: (otA, ArC Z .double ot) :: (olA, ArC Z .double [.double 0, .double 0, .double 0]) :: (ohA, ArC Z .double [.double 0, .double 0, .double 0]) :: (zlA, ArC Z .double [.double 0, .double 0, .double 0]) :: (zhA, ArC Z .double [.double 0, .double 0, .double 0]) :: F)) : Goes p e below (En s n0 R.cells R.slots (fun v h => ∃ (g r0 r1 r2 : UInt64) (t : Int32) (J : List HRow), v = some (.double g) ∧ Sh (nf + nl1 * nw1 + nl2 * nw2) ((nf + nl1 * nw1 + nl2 * nw2) + (ng + nl1 * nz1 + nl2 * nz2)) r0 ∧ Sh (nf + nh1 * nw1 + nl2 * nw2) ((nf + nh1 * nw1 + nl2 * nw2) + (ng + nh1 * nz1 + nl2 * nz2)) r1 ∧ Sh (nf + nh1 * nw1 + nh2 * nw2) ((nf + nh1 * nw1 + nh2 * nw2) + (ng + nh1 * nz1 + nh2 * nz2)) r2 ∧ ChG t r0 r1 r2 ∧ Hp Z n0 h ((sh, ObC Z "com/example/narrow_bounds/narrowbounds/Share" (fs_Share (.ref loA) (.ref hiA) (.int (1 : Int32)) (.int ru) (.ref owA) (.ref otA) (.ref liA) (.ref raA) (.ref olA) (.ref ohA) (.ref zlA) (.ref zhA) (.double fo) (.double fz) (.int (2 : Int32)) (.int t))) :: (loA, ArC Z .double lo) :: (hiA, ArC Z .double hi) :: (raA, ArC Z .int [.int k1, .int k2, .int (0 : Int32)]) :: J))) (T.setTop (mkF m 4 #[.val (.ref sh), .unset, .unset, .unset, .unset, .unset, .unset, .unset, .unset, .unset, .unset, .unset, .unset, .unset, .unset] [])) := by
  refine g_iconst W d8_4 (pc' := 5) rfl (v := (0 : Int32)) (by decide) ?_
  refine g_istoreN W d8_5 (pc' := 6) rfl (ls' := #[.val (.ref sh), .val (.int (0 : Int32)), .unset, .unset, .unset, .unset, .unset, .unset, .unset, .unset, .unset, .unset, .unset, .unset, .unset]) rfl ?_
  refine g_iloadN W d8_6 (pc' := 7) rfl rfl ?_
  refine g_aloadN W d8_7 (pc' := 8) rfl rfl rfl ?_
  refine g_getf W (wd_59 hw) Via.refl H (i := 0) rfl (jx := 14) rfl d8_8 (pc' := 11) rfl ?_
  intro T1 W1 H1
  refine g_icmp W1 d8_11 (pcy := 143) (by decide) (pc' := 14) rfl (fun (h : ¬ (0 : Int32) < (2 : Int32)) => absurd h (by decide)) (fun _ => ?_)
  refine g_aloadN W1 d8_14 (pc' := 15) rfl rfl rfl ?_
  refine g_getf W1 (wd_26 hw) Via.refl H1 (i := 0) rfl (jx := 7) rfl d8_15 (pc' := 18) rfl ?_
  intro T2 W2 H2
  refine g_iloadN W2 d8_18 (pc' := 19) rfl rfl ?_
  refine g_iaload W2 H2 (i := 3) rfl (jx := 0) (by decide) (v := .int k1) rfl d8_19 (pc' := 20) rfl ?_
  refine g_istoreN W2 d8_20 (pc' := 21) rfl (ls' := #[.val (.ref sh), .val (.int (0 : Int32)), .val (.int k1), .unset, .unset, .unset, .unset, .unset, .unset, .unset, .unset, .unset, .unset, .unset, .unset]) rfl ?_
  refine g_aloadN W2 d8_21 (pc' := 22) rfl rfl rfl ?_
  refine g_getf W2 (wd_28 hw) Via.refl H2 (i := 0) rfl (jx := 8) rfl d8_22 (pc' := 25) rfl ?_
  intro T3 W3 H3
  refine g_iloadN W3 d8_25 (pc' := 26) rfl rfl ?_
  refine g_aloadN W3 d8_26 (pc' := 27) rfl rfl rfl ?_
  refine g_getf W3 (wd_10 hw) Via.refl H3 (i := 0) rfl (jx := 0) rfl d8_27 (pc' := 30) rfl ?_
  intro T4 W4 H4
  refine g_iloadN W4 d8_30 (pc' := 31) rfl rfl ?_
  refine g_daload W4 H4 (i := 1) rfl (jx := i1) hi1 (v := .double xL1) gL1 d8_31 (pc' := 32) rfl ?_
  refine g_aloadN W4 d8_32 (pc' := 33) rfl rfl rfl ?_
  refine g_getf W4 (wd_18 hw) Via.refl H4 (i := 0) rfl (jx := 4) rfl d8_33 (pc' := 36) rfl ?_
  intro T5 W5 H5
  refine g_iloadN W5 d8_36 (pc' := 37) rfl rfl ?_
  refine g_daload W5 H5 (i := 4) rfl (jx := i1) hi1 (v := .double xW1) gW1 d8_37 (pc' := 38) rfl ?_
  refine g_aloadN W5 d8_38 (pc' := 39) rfl rfl rfl ?_
  refine g_getf W5 (wd_14 hw) Via.refl H5 (i := 0) rfl (jx := 2) rfl d8_39 (pc' := 42) rfl ?_
  intro T6 W6 H6
  refine g_callS W6 (argsL := [.double xL1, .double xW1, .int (1 : Int32)]) (st := [.int (0 : Int32), .ref olA]) (wd_98 hw) (wd_99 hw) (wd_45 hw) (wd_100 hw) (by decide) (c_mul1 l Z a0 hw n0 xL1 xW1 nl1 nw1 dL1 dW1 bL1 bW1 _ _ H6) pd_7 rfl rfl rfl d8_42 (pc' := 45) rfl (Nat.le_trans (by decide) hRf) (Wn := 2) (Nat.le_of_eq rfl) (Nat.le_trans (by decide) hRl) (kc' := 0) (ks' := 0) rfl rfl (by omega) (by omega) ?_
  intro T7 v7 W7 hp7
  obtain ⟨ol1, rfl, hol1, H7⟩ := hp7
  show Goes _ _ _ _ (State.setTop _ (mkF _ _ _ [.double ol1, .int (0 : Int32), .ref olA]))
  refine g_dastore W7 H7 (i := 6) rfl (jx := 0) (by decide) (by exact (by decide : 0 < 3)) d8_45 (pc' := 46) rfl (L' := ((sh, ObC Z "com/example/narrow_bounds/narrowbounds/Share" (fs_Share (.ref loA) (.ref hiA) (.int (1 : Int32)) (.int ru) (.ref owA) (.ref otA) (.ref liA) (.ref raA) (.ref olA) (.ref ohA) (.ref zlA) (.ref zhA) (.double fo) (.double fz) (.int (2 : Int32)) (.int at0))) :: (loA, ArC Z .double lo) :: (hiA, ArC Z .double hi) :: (raA, ArC Z .int [.int k1, .int k2, .int (0 : Int32)]) :: (owA, ArC Z .double ow) :: (otA, ArC Z .double ot) :: (olA, ArC Z .double [.double ol1, .double 0, .double 0]) :: (ohA, ArC Z .double [.double 0, .double 0, .double 0]) :: (zlA, ArC Z .double [.double 0, .double 0, .double 0]) :: (zhA, ArC Z .double [.double 0, .double 0, .double 0]) :: F)) rfl ?_
  intro T8 W8 H8
  refine g_aloadN W8 d8_46 (pc' := 47) rfl rfl rfl ?_
  refine g_getf W8 (wd_30 hw) Via.refl H8 (i := 0) rfl (jx := 9) rfl d8_47 (pc' := 50) rfl ?_
  intro T9 W9 H9
  refine g_iloadN W9 d8_50 (pc' := 51) rfl rfl ?_
  refine g_aloadN W9 d8_51 (pc' := 52) rfl rfl rfl ?_
  refine g_getf W9 (wd_12 hw) Via.refl H9 (i := 0) rfl (jx := 1) rfl d8_52 (pc' := 55) rfl ?_
  intro T10 W10 H10
  refine g_iloadN W10 d8_55 (pc' := 56) rfl rfl ?_
  refine g_daload W10 H10 (i := 2) rfl (jx := i1) hi1 (v := .double xH1) gH1 d8_56 (pc' := 57) rfl ?_
  refine g_aloadN W10 d8_57 (pc' := 58) rfl rfl rfl ?_
  refine g_getf W10 (wd_18 hw) Via.refl H10 (i := 0) rfl (jx := 4) rfl d8_58 (pc' := 61) rfl ?_
  intro T11 W11 H11
  refine g_iloadN W11 d8_61 (pc' := 62) rfl rfl ?_
  refine g_daload W11 H11 (i := 4) rfl (jx := i1) hi1 (v := .double xW1) gW1 d8_62 (pc' := 63) rfl ?_
  refine g_aloadN W11 d8_63 (pc' := 64) rfl rfl rfl ?_
  refine g_getf W11 (wd_14 hw) Via.refl H11 (i := 0) rfl (jx := 2) rfl d8_64 (pc' := 67) rfl ?_
  intro T12 W12 H12
  refine g_callS W12 (argsL := [.double xH1, .double xW1, .int (1 : Int32)]) (st := [.int (0 : Int32), .ref ohA]) (wd_98 hw) (wd_99 hw) (wd_45 hw) (wd_100 hw) (by decide) (c_mul1 l Z a0 hw n0 xH1 xW1 nh1 nw1 dH1 dW1 bH1 bW1 _ _ H12) pd_7 rfl rfl rfl d8_67 (pc' := 70) rfl (Nat.le_trans (by decide) hRf) (Wn := 2) (Nat.le_of_eq rfl) (Nat.le_trans (by decide) hRl) (kc' := 0) (ks' := 0) rfl rfl (by omega) (by omega) ?_
  intro T13 v13 W13 hp13
  obtain ⟨oh1, rfl, hoh1, H13⟩ := hp13
  show Goes _ _ _ _ (State.setTop _ (mkF _ _ _ [.double oh1, .int (0 : Int32), .ref ohA]))
  refine g_dastore W13 H13 (i := 7) rfl (jx := 0) (by decide) (by exact (by decide : 0 < 3)) d8_70 (pc' := 71) rfl (L' := ((sh, ObC Z "com/example/narrow_bounds/narrowbounds/Share" (fs_Share (.ref loA) (.ref hiA) (.int (1 : Int32)) (.int ru) (.ref owA) (.ref otA) (.ref liA) (.ref raA) (.ref olA) (.ref ohA) (.ref zlA) (.ref zhA) (.double fo) (.double fz) (.int (2 : Int32)) (.int at0))) :: (loA, ArC Z .double lo) :: (hiA, ArC Z .double hi) :: (raA, ArC Z .int [.int k1, .int k2, .int (0 : Int32)]) :: (owA, ArC Z .double ow) :: (otA, ArC Z .double ot) :: (olA, ArC Z .double [.double ol1, .double 0, .double 0]) :: (ohA, ArC Z .double [.double oh1, .double 0, .double 0]) :: (zlA, ArC Z .double [.double 0, .double 0, .double 0]) :: (zhA, ArC Z .double [.double 0, .double 0, .double 0]) :: F)) rfl ?_
  intro T14 W14 H14
  refine g_aloadN W14 d8_71 (pc' := 72) rfl rfl rfl ?_
  refine g_getf W14 (wd_32 hw) Via.refl H14 (i := 0) rfl (jx := 10) rfl d8_72 (pc' := 75) rfl ?_
  intro T15 W15 H15
  refine g_iloadN W15 d8_75 (pc' := 76) rfl rfl ?_
  refine g_aloadN W15 d8_76 (pc' := 77) rfl rfl rfl ?_
  refine g_getf W15 (wd_10 hw) Via.refl H15 (i := 0) rfl (jx := 0) rfl d8_77 (pc' := 80) rfl ?_
  intro T16 W16 H16
  refine g_iloadN W16 d8_80 (pc' := 81) rfl rfl ?_
  refine g_daload W16 H16 (i := 1) rfl (jx := i1) hi1 (v := .double xL1) gL1 d8_81 (pc' := 82) rfl ?_
  refine g_aloadN W16 d8_82 (pc' := 83) rfl rfl rfl ?_
  refine g_getf W16 (wd_20 hw) Via.refl H16 (i := 0) rfl (jx := 5) rfl d8_83 (pc' := 86) rfl ?_
  intro T17 W17 H17
  refine g_iloadN W17 d8_86 (pc' := 87) rfl rfl ?_
  refine g_daload W17 H17 (i := 5) rfl (jx := i1) hi1 (v := .double xZ1) gZ1 d8_87 (pc' := 88) rfl ?_
  refine g_aloadN W17 d8_88 (pc' := 89) rfl rfl rfl ?_
  refine g_getf W17 (wd_14 hw) Via.refl H17 (i := 0) rfl (jx := 2) rfl d8_89 (pc' := 92) rfl ?_
  intro T18 W18 H18
  refine g_if W18 d8_92 (pcy := 99) (by decide) (pc' := 95) rfl (fun _ => ?_) (fun (h : ¬ ¬ (1 : Int32) = (0 : Int32)) => absurd h (by decide))
  refine g_iconst W18 d8_99 (pc' := 100) rfl (v := (0 : Int32)) (by decide) ?_
  refine g_callS W18 (argsL := [.double xL1, .double xZ1, .int (0 : Int32)]) (st := [.int (0 : Int32), .ref zlA]) (wd_98 hw) (wd_99 hw) (wd_45 hw) (wd_100 hw) (by decide) (c_mul0 l Z a0 hw n0 xL1 xZ1 nl1 nz1 dL1 dZ1 bL1 bZ1 _ _ H18) pd_7 rfl rfl rfl d8_100 (pc' := 103) rfl (Nat.le_trans (by decide) hRf) (Wn := 2) (Nat.le_of_eq rfl) (Nat.le_trans (by decide) hRl) (kc' := 0) (ks' := 0) rfl rfl (by omega) (by omega) ?_
  intro T19 v19 W19 hp19
  obtain ⟨zl1, rfl, hzl1, H19⟩ := hp19
  show Goes _ _ _ _ (State.setTop _ (mkF _ _ _ [.double zl1, .int (0 : Int32), .ref zlA]))
  refine g_dastore W19 H19 (i := 8) rfl (jx := 0) (by decide) (by exact (by decide : 0 < 3)) d8_103 (pc' := 104) rfl (L' := ((sh, ObC Z "com/example/narrow_bounds/narrowbounds/Share" (fs_Share (.ref loA) (.ref hiA) (.int (1 : Int32)) (.int ru) (.ref owA) (.ref otA) (.ref liA) (.ref raA) (.ref olA) (.ref ohA) (.ref zlA) (.ref zhA) (.double fo) (.double fz) (.int (2 : Int32)) (.int at0))) :: (loA, ArC Z .double lo) :: (hiA, ArC Z .double hi) :: (raA, ArC Z .int [.int k1, .int k2, .int (0 : Int32)]) :: (owA, ArC Z .double ow) :: (otA, ArC Z .double ot) :: (olA, ArC Z .double [.double ol1, .double 0, .double 0]) :: (ohA, ArC Z .double [.double oh1, .double 0, .double 0]) :: (zlA, ArC Z .double [.double zl1, .double 0, .double 0]) :: (zhA, ArC Z .double [.double 0, .double 0, .double 0]) :: F)) rfl ?_
  intro T20 W20 H20
  refine g_aloadN W20 d8_104 (pc' := 105) rfl rfl rfl ?_
  refine g_getf W20 (wd_34 hw) Via.refl H20 (i := 0) rfl (jx := 11) rfl d8_105 (pc' := 108) rfl ?_
  intro T21 W21 H21
  refine g_iloadN W21 d8_108 (pc' := 109) rfl rfl ?_
  refine g_aloadN W21 d8_109 (pc' := 110) rfl rfl rfl ?_
  refine g_getf W21 (wd_12 hw) Via.refl H21 (i := 0) rfl (jx := 1) rfl d8_110 (pc' := 113) rfl ?_
  intro T22 W22 H22
  refine g_iloadN W22 d8_113 (pc' := 114) rfl rfl ?_
  refine g_daload W22 H22 (i := 2) rfl (jx := i1) hi1 (v := .double xH1) gH1 d8_114 (pc' := 115) rfl ?_
  refine g_aloadN W22 d8_115 (pc' := 116) rfl rfl rfl ?_
  refine g_getf W22 (wd_20 hw) Via.refl H22 (i := 0) rfl (jx := 5) rfl d8_116 (pc' := 119) rfl ?_
  intro T23 W23 H23
  refine g_iloadN W23 d8_119 (pc' := 120) rfl rfl ?_
  refine g_daload W23 H23 (i := 5) rfl (jx := i1) hi1 (v := .double xZ1) gZ1 d8_120 (pc' := 121) rfl ?_
  refine g_aloadN W23 d8_121 (pc' := 122) rfl rfl rfl ?_
  refine g_getf W23 (wd_14 hw) Via.refl H23 (i := 0) rfl (jx := 2) rfl d8_122 (pc' := 125) rfl ?_
  intro T24 W24 H24
  refine g_if W24 d8_125 (pcy := 132) (by decide) (pc' := 128) rfl (fun _ => ?_) (fun (h : ¬ ¬ (1 : Int32) = (0 : Int32)) => absurd h (by decide))
  refine g_iconst W24 d8_132 (pc' := 133) rfl (v := (0 : Int32)) (by decide) ?_
  refine g_callS W24 (argsL := [.double xH1, .double xZ1, .int (0 : Int32)]) (st := [.int (0 : Int32), .ref zhA]) (wd_98 hw) (wd_99 hw) (wd_45 hw) (wd_100 hw) (by decide) (c_mul0 l Z a0 hw n0 xH1 xZ1 nh1 nz1 dH1 dZ1 bH1 bZ1 _ _ H24) pd_7 rfl rfl rfl d8_133 (pc' := 136) rfl (Nat.le_trans (by decide) hRf) (Wn := 2) (Nat.le_of_eq rfl) (Nat.le_trans (by decide) hRl) (kc' := 0) (ks' := 0) rfl rfl (by omega) (by omega) ?_
  intro T25 v25 W25 hp25
  obtain ⟨zh1, rfl, hzh1, H25⟩ := hp25
  show Goes _ _ _ _ (State.setTop _ (mkF _ _ _ [.double zh1, .int (0 : Int32), .ref zhA]))
  refine g_dastore W25 H25 (i := 9) rfl (jx := 0) (by decide) (by exact (by decide : 0 < 3)) d8_136 (pc' := 137) rfl (L' := ((sh, ObC Z "com/example/narrow_bounds/narrowbounds/Share" (fs_Share (.ref loA) (.ref hiA) (.int (1 : Int32)) (.int ru) (.ref owA) (.ref otA) (.ref liA) (.ref raA) (.ref olA) (.ref ohA) (.ref zlA) (.ref zhA) (.double fo) (.double fz) (.int (2 : Int32)) (.int at0))) :: (loA, ArC Z .double lo) :: (hiA, ArC Z .double hi) :: (raA, ArC Z .int [.int k1, .int k2, .int (0 : Int32)]) :: (owA, ArC Z .double ow) :: (otA, ArC Z .double ot) :: (olA, ArC Z .double [.double ol1, .double 0, .double 0]) :: (ohA, ArC Z .double [.double oh1, .double 0, .double 0]) :: (zlA, ArC Z .double [.double zl1, .double 0, .double 0]) :: (zhA, ArC Z .double [.double zh1, .double 0, .double 0]) :: F)) rfl ?_
  intro T26 W26 H26
  refine g_iinc W26 d8_137 (pc' := 140) rfl rfl (v := (1 : Int32)) (by decide) (ls' := #[.val (.ref sh), .val (.int (1 : Int32)), .val (.int k1), .unset, .unset, .unset, .unset, .unset, .unset, .unset, .unset, .unset, .unset, .unset, .unset]) rfl ?_
  refine g_goto W26 d8_140 (pc' := 6) (by decide) ?_
  refine g_iloadN W26 d8_6 (pc' := 7) rfl rfl ?_
  refine g_aloadN W26 d8_7 (pc' := 8) rfl rfl rfl ?_
  refine g_getf W26 (wd_59 hw) Via.refl H26 (i := 0) rfl (jx := 14) rfl d8_8 (pc' := 11) rfl ?_
  intro T27 W27 H27
  refine g_icmp W27 d8_11 (pcy := 143) (by decide) (pc' := 14) rfl (fun (h : ¬ (1 : Int32) < (2 : Int32)) => absurd h (by decide)) (fun _ => ?_)
  refine g_aloadN W27 d8_14 (pc' := 15) rfl rfl rfl ?_
  refine g_getf W27 (wd_26 hw) Via.refl H27 (i := 0) rfl (jx := 7) rfl d8_15 (pc' := 18) rfl ?_
  intro T28 W28 H28
  refine g_iloadN W28 d8_18 (pc' := 19) rfl rfl ?_
  refine g_iaload W28 H28 (i := 3) rfl (jx := 1) (by decide) (v := .int k2) rfl d8_19 (pc' := 20) rfl ?_
  refine g_istoreN W28 d8_20 (pc' := 21) rfl (ls' := #[.val (.ref sh), .val (.int (1 : Int32)), .val (.int k2), .unset, .unset, .unset, .unset, .unset, .unset, .unset, .unset, .unset, .unset, .unset, .unset]) rfl ?_
  refine g_aloadN W28 d8_21 (pc' := 22) rfl rfl rfl ?_
  refine g_getf W28 (wd_28 hw) Via.refl H28 (i := 0) rfl (jx := 8) rfl d8_22 (pc' := 25) rfl ?_
  intro T29 W29 H29
  refine g_iloadN W29 d8_25 (pc' := 26) rfl rfl ?_
  refine g_aloadN W29 d8_26 (pc' := 27) rfl rfl rfl ?_
  refine g_getf W29 (wd_10 hw) Via.refl H29 (i := 0) rfl (jx := 0) rfl d8_27 (pc' := 30) rfl ?_
  intro T30 W30 H30
  refine g_iloadN W30 d8_30 (pc' := 31) rfl rfl ?_
  refine g_daload W30 H30 (i := 1) rfl (jx := i2) hi2 (v := .double xL2) gL2 d8_31 (pc' := 32) rfl ?_
  refine g_aloadN W30 d8_32 (pc' := 33) rfl rfl rfl ?_
  refine g_getf W30 (wd_18 hw) Via.refl H30 (i := 0) rfl (jx := 4) rfl d8_33 (pc' := 36) rfl ?_
  intro T31 W31 H31
  refine g_iloadN W31 d8_36 (pc' := 37) rfl rfl ?_
  refine g_daload W31 H31 (i := 4) rfl (jx := i2) hi2 (v := .double xW2) gW2 d8_37 (pc' := 38) rfl ?_
  refine g_aloadN W31 d8_38 (pc' := 39) rfl rfl rfl ?_
  refine g_getf W31 (wd_14 hw) Via.refl H31 (i := 0) rfl (jx := 2) rfl d8_39 (pc' := 42) rfl ?_
  intro T32 W32 H32
  refine g_callS W32 (argsL := [.double xL2, .double xW2, .int (1 : Int32)]) (st := [.int (1 : Int32), .ref olA]) (wd_98 hw) (wd_99 hw) (wd_45 hw) (wd_100 hw) (by decide) (c_mul1 l Z a0 hw n0 xL2 xW2 nl2 nw2 dL2 dW2 bL2 bW2 _ _ H32) pd_7 rfl rfl rfl d8_42 (pc' := 45) rfl (Nat.le_trans (by decide) hRf) (Wn := 2) (Nat.le_of_eq rfl) (Nat.le_trans (by decide) hRl) (kc' := 0) (ks' := 0) rfl rfl (by omega) (by omega) ?_
  intro T33 v33 W33 hp33
  obtain ⟨ol2, rfl, hol2, H33⟩ := hp33
  show Goes _ _ _ _ (State.setTop _ (mkF _ _ _ [.double ol2, .int (1 : Int32), .ref olA]))
  refine g_dastore W33 H33 (i := 6) rfl (jx := 1) (by decide) (by exact (by decide : 1 < 3)) d8_45 (pc' := 46) rfl (L' := ((sh, ObC Z "com/example/narrow_bounds/narrowbounds/Share" (fs_Share (.ref loA) (.ref hiA) (.int (1 : Int32)) (.int ru) (.ref owA) (.ref otA) (.ref liA) (.ref raA) (.ref olA) (.ref ohA) (.ref zlA) (.ref zhA) (.double fo) (.double fz) (.int (2 : Int32)) (.int at0))) :: (loA, ArC Z .double lo) :: (hiA, ArC Z .double hi) :: (raA, ArC Z .int [.int k1, .int k2, .int (0 : Int32)]) :: (owA, ArC Z .double ow) :: (otA, ArC Z .double ot) :: (olA, ArC Z .double [.double ol1, .double ol2, .double 0]) :: (ohA, ArC Z .double [.double oh1, .double 0, .double 0]) :: (zlA, ArC Z .double [.double zl1, .double 0, .double 0]) :: (zhA, ArC Z .double [.double zh1, .double 0, .double 0]) :: F)) rfl ?_
  intro T34 W34 H34
  refine g_aloadN W34 d8_46 (pc' := 47) rfl rfl rfl ?_
  refine g_getf W34 (wd_30 hw) Via.refl H34 (i := 0) rfl (jx := 9) rfl d8_47 (pc' := 50) rfl ?_
  intro T35 W35 H35
  refine g_iloadN W35 d8_50 (pc' := 51) rfl rfl ?_
  refine g_aloadN W35 d8_51 (pc' := 52) rfl rfl rfl ?_
  refine g_getf W35 (wd_12 hw) Via.refl H35 (i := 0) rfl (jx := 1) rfl d8_52 (pc' := 55) rfl ?_
  intro T36 W36 H36
  refine g_iloadN W36 d8_55 (pc' := 56) rfl rfl ?_
  refine g_daload W36 H36 (i := 2) rfl (jx := i2) hi2 (v := .double xH2) gH2 d8_56 (pc' := 57) rfl ?_
  refine g_aloadN W36 d8_57 (pc' := 58) rfl rfl rfl ?_
  refine g_getf W36 (wd_18 hw) Via.refl H36 (i := 0) rfl (jx := 4) rfl d8_58 (pc' := 61) rfl ?_
  intro T37 W37 H37
  refine g_iloadN W37 d8_61 (pc' := 62) rfl rfl ?_
  refine g_daload W37 H37 (i := 4) rfl (jx := i2) hi2 (v := .double xW2) gW2 d8_62 (pc' := 63) rfl ?_
  refine g_aloadN W37 d8_63 (pc' := 64) rfl rfl rfl ?_
  refine g_getf W37 (wd_14 hw) Via.refl H37 (i := 0) rfl (jx := 2) rfl d8_64 (pc' := 67) rfl ?_
  intro T38 W38 H38
  refine g_callS W38 (argsL := [.double xH2, .double xW2, .int (1 : Int32)]) (st := [.int (1 : Int32), .ref ohA]) (wd_98 hw) (wd_99 hw) (wd_45 hw) (wd_100 hw) (by decide) (c_mul1 l Z a0 hw n0 xH2 xW2 nh2 nw2 dH2 dW2 bH2 bW2 _ _ H38) pd_7 rfl rfl rfl d8_67 (pc' := 70) rfl (Nat.le_trans (by decide) hRf) (Wn := 2) (Nat.le_of_eq rfl) (Nat.le_trans (by decide) hRl) (kc' := 0) (ks' := 0) rfl rfl (by omega) (by omega) ?_
  intro T39 v39 W39 hp39
  obtain ⟨oh2, rfl, hoh2, H39⟩ := hp39
  show Goes _ _ _ _ (State.setTop _ (mkF _ _ _ [.double oh2, .int (1 : Int32), .ref ohA]))
  refine g_dastore W39 H39 (i := 7) rfl (jx := 1) (by decide) (by exact (by decide : 1 < 3)) d8_70 (pc' := 71) rfl (L' := ((sh, ObC Z "com/example/narrow_bounds/narrowbounds/Share" (fs_Share (.ref loA) (.ref hiA) (.int (1 : Int32)) (.int ru) (.ref owA) (.ref otA) (.ref liA) (.ref raA) (.ref olA) (.ref ohA) (.ref zlA) (.ref zhA) (.double fo) (.double fz) (.int (2 : Int32)) (.int at0))) :: (loA, ArC Z .double lo) :: (hiA, ArC Z .double hi) :: (raA, ArC Z .int [.int k1, .int k2, .int (0 : Int32)]) :: (owA, ArC Z .double ow) :: (otA, ArC Z .double ot) :: (olA, ArC Z .double [.double ol1, .double ol2, .double 0]) :: (ohA, ArC Z .double [.double oh1, .double oh2, .double 0]) :: (zlA, ArC Z .double [.double zl1, .double 0, .double 0]) :: (zhA, ArC Z .double [.double zh1, .double 0, .double 0]) :: F)) rfl ?_
  intro T40 W40 H40
  refine g_aloadN W40 d8_71 (pc' := 72) rfl rfl rfl ?_
  refine g_getf W40 (wd_32 hw) Via.refl H40 (i := 0) rfl (jx := 10) rfl d8_72 (pc' := 75) rfl ?_
  intro T41 W41 H41
  refine g_iloadN W41 d8_75 (pc' := 76) rfl rfl ?_
  refine g_aloadN W41 d8_76 (pc' := 77) rfl rfl rfl ?_
  refine g_getf W41 (wd_10 hw) Via.refl H41 (i := 0) rfl (jx := 0) rfl d8_77 (pc' := 80) rfl ?_
  intro T42 W42 H42
  refine g_iloadN W42 d8_80 (pc' := 81) rfl rfl ?_
  refine g_daload W42 H42 (i := 1) rfl (jx := i2) hi2 (v := .double xL2) gL2 d8_81 (pc' := 82) rfl ?_
  refine g_aloadN W42 d8_82 (pc' := 83) rfl rfl rfl ?_
  refine g_getf W42 (wd_20 hw) Via.refl H42 (i := 0) rfl (jx := 5) rfl d8_83 (pc' := 86) rfl ?_
  intro T43 W43 H43
  refine g_iloadN W43 d8_86 (pc' := 87) rfl rfl ?_
  refine g_daload W43 H43 (i := 5) rfl (jx := i2) hi2 (v := .double xZ2) gZ2 d8_87 (pc' := 88) rfl ?_
  refine g_aloadN W43 d8_88 (pc' := 89) rfl rfl rfl ?_
  refine g_getf W43 (wd_14 hw) Via.refl H43 (i := 0) rfl (jx := 2) rfl d8_89 (pc' := 92) rfl ?_
  intro T44 W44 H44
  refine g_if W44 d8_92 (pcy := 99) (by decide) (pc' := 95) rfl (fun _ => ?_) (fun (h : ¬ ¬ (1 : Int32) = (0 : Int32)) => absurd h (by decide))
  refine g_iconst W44 d8_99 (pc' := 100) rfl (v := (0 : Int32)) (by decide) ?_
  refine g_callS W44 (argsL := [.double xL2, .double xZ2, .int (0 : Int32)]) (st := [.int (1 : Int32), .ref zlA]) (wd_98 hw) (wd_99 hw) (wd_45 hw) (wd_100 hw) (by decide) (c_mul0 l Z a0 hw n0 xL2 xZ2 nl2 nz2 dL2 dZ2 bL2 bZ2 _ _ H44) pd_7 rfl rfl rfl d8_100 (pc' := 103) rfl (Nat.le_trans (by decide) hRf) (Wn := 2) (Nat.le_of_eq rfl) (Nat.le_trans (by decide) hRl) (kc' := 0) (ks' := 0) rfl rfl (by omega) (by omega) ?_
  intro T45 v45 W45 hp45
  obtain ⟨zl2, rfl, hzl2, H45⟩ := hp45
  show Goes _ _ _ _ (State.setTop _ (mkF _ _ _ [.double zl2, .int (1 : Int32), .ref zlA]))
  refine g_dastore W45 H45 (i := 8) rfl (jx := 1) (by decide) (by exact (by decide : 1 < 3)) d8_103 (pc' := 104) rfl (L' := ((sh, ObC Z "com/example/narrow_bounds/narrowbounds/Share" (fs_Share (.ref loA) (.ref hiA) (.int (1 : Int32)) (.int ru) (.ref owA) (.ref otA) (.ref liA) (.ref raA) (.ref olA) (.ref ohA) (.ref zlA) (.ref zhA) (.double fo) (.double fz) (.int (2 : Int32)) (.int at0))) :: (loA, ArC Z .double lo) :: (hiA, ArC Z .double hi) :: (raA, ArC Z .int [.int k1, .int k2, .int (0 : Int32)]) :: (owA, ArC Z .double ow) :: (otA, ArC Z .double ot) :: (olA, ArC Z .double [.double ol1, .double ol2, .double 0]) :: (ohA, ArC Z .double [.double oh1, .double oh2, .double 0]) :: (zlA, ArC Z .double [.double zl1, .double zl2, .double 0]) :: (zhA, ArC Z .double [.double zh1, .double 0, .double 0]) :: F)) rfl ?_
  intro T46 W46 H46
  refine g_aloadN W46 d8_104 (pc' := 105) rfl rfl rfl ?_
  refine g_getf W46 (wd_34 hw) Via.refl H46 (i := 0) rfl (jx := 11) rfl d8_105 (pc' := 108) rfl ?_
  intro T47 W47 H47
  refine g_iloadN W47 d8_108 (pc' := 109) rfl rfl ?_
  refine g_aloadN W47 d8_109 (pc' := 110) rfl rfl rfl ?_
  refine g_getf W47 (wd_12 hw) Via.refl H47 (i := 0) rfl (jx := 1) rfl d8_110 (pc' := 113) rfl ?_
  intro T48 W48 H48
  refine g_iloadN W48 d8_113 (pc' := 114) rfl rfl ?_
  refine g_daload W48 H48 (i := 2) rfl (jx := i2) hi2 (v := .double xH2) gH2 d8_114 (pc' := 115) rfl ?_
  refine g_aloadN W48 d8_115 (pc' := 116) rfl rfl rfl ?_
  refine g_getf W48 (wd_20 hw) Via.refl H48 (i := 0) rfl (jx := 5) rfl d8_116 (pc' := 119) rfl ?_
  intro T49 W49 H49
  refine g_iloadN W49 d8_119 (pc' := 120) rfl rfl ?_
  refine g_daload W49 H49 (i := 5) rfl (jx := i2) hi2 (v := .double xZ2) gZ2 d8_120 (pc' := 121) rfl ?_
  refine g_aloadN W49 d8_121 (pc' := 122) rfl rfl rfl ?_
  refine g_getf W49 (wd_14 hw) Via.refl H49 (i := 0) rfl (jx := 2) rfl d8_122 (pc' := 125) rfl ?_
  intro T50 W50 H50
  refine g_if W50 d8_125 (pcy := 132) (by decide) (pc' := 128) rfl (fun _ => ?_) (fun (h : ¬ ¬ (1 : Int32) = (0 : Int32)) => absurd h (by decide))
  refine g_iconst W50 d8_132 (pc' := 133) rfl (v := (0 : Int32)) (by decide) ?_
  refine g_callS W50 (argsL := [.double xH2, .double xZ2, .int (0 : Int32)]) (st := [.int (1 : Int32), .ref zhA]) (wd_98 hw) (wd_99 hw) (wd_45 hw) (wd_100 hw) (by decide) (c_mul0 l Z a0 hw n0 xH2 xZ2 nh2 nz2 dH2 dZ2 bH2 bZ2 _ _ H50) pd_7 rfl rfl rfl d8_133 (pc' := 136) rfl (Nat.le_trans (by decide) hRf) (Wn := 2) (Nat.le_of_eq rfl) (Nat.le_trans (by decide) hRl) (kc' := 0) (ks' := 0) rfl rfl (by omega) (by omega) ?_
  intro T51 v51 W51 hp51
  obtain ⟨zh2, rfl, hzh2, H51⟩ := hp51
  show Goes _ _ _ _ (State.setTop _ (mkF _ _ _ [.double zh2, .int (1 : Int32), .ref zhA]))
  refine g_dastore W51 H51 (i := 9) rfl (jx := 1) (by decide) (by exact (by decide : 1 < 3)) d8_136 (pc' := 137) rfl (L' := ((sh, ObC Z "com/example/narrow_bounds/narrowbounds/Share" (fs_Share (.ref loA) (.ref hiA) (.int (1 : Int32)) (.int ru) (.ref owA) (.ref otA) (.ref liA) (.ref raA) (.ref olA) (.ref ohA) (.ref zlA) (.ref zhA) (.double fo) (.double fz) (.int (2 : Int32)) (.int at0))) :: (loA, ArC Z .double lo) :: (hiA, ArC Z .double hi) :: (raA, ArC Z .int [.int k1, .int k2, .int (0 : Int32)]) :: (owA, ArC Z .double ow) :: (otA, ArC Z .double ot) :: (olA, ArC Z .double [.double ol1, .double ol2, .double 0]) :: (ohA, ArC Z .double [.double oh1, .double oh2, .double 0]) :: (zlA, ArC Z .double [.double zl1, .double zl2, .double 0]) :: (zhA, ArC Z .double [.double zh1, .double zh2, .double 0]) :: F)) rfl ?_
  intro T52 W52 H52
  refine g_iinc W52 d8_137 (pc' := 140) rfl rfl (v := (2 : Int32)) (by decide) (ls' := #[.val (.ref sh), .val (.int (2 : Int32)), .val (.int k2), .unset, .unset, .unset, .unset, .unset, .unset, .unset, .unset, .unset, .unset, .unset, .unset]) rfl ?_
  refine g_goto W52 d8_140 (pc' := 6) (by decide) ?_
  refine g_iloadN W52 d8_6 (pc' := 7) rfl rfl ?_
  refine g_aloadN W52 d8_7 (pc' := 8) rfl rfl rfl ?_
  refine g_getf W52 (wd_59 hw) Via.refl H52 (i := 0) rfl (jx := 14) rfl d8_8 (pc' := 11) rfl ?_
  intro T53 W53 H53
  refine g_icmp W53 d8_11 (pcy := 143) (by decide) (pc' := 14) rfl (fun _ => ?_) (fun (h : ¬ ¬ (2 : Int32) < (2 : Int32)) => absurd h (by decide))
  refine g_aloadN W53 d8_143 (pc' := 144) rfl rfl rfl ?_
  refine g_getf W53 (wd_14 hw) Via.refl H53 (i := 0) rfl (jx := 2) rfl d8_144 (pc' := 147) rfl ?_
  intro T54 W54 H54
  refine g_if W54 d8_147 (pcy := 154) (by decide) (pc' := 150) rfl (fun (h : (1 : Int32) = (0 : Int32)) => absurd h (by decide)) (fun _ => ?_)
  refine g_dconst0 W54 d8_150 (pc' := 151) rfl ?_
  refine g_goto W54 d8_151 (pc' := 155) (by decide) ?_
  refine g_dstoreN W54 d8_155 (pc' := 156) rfl (ls' := #[.val (.ref sh), .val (.double 0), .second, .unset, .unset, .unset, .unset, .unset, .unset, .unset, .unset, .unset, .unset, .unset, .unset]) rfl ?_
  refine g_aloadN W54 d8_156 (pc' := 157) rfl rfl rfl ?_
  refine g_iconst W54 d8_157 (pc' := 158) rfl (v := (0 : Int32)) (by decide) ?_
  refine g_putf W54 (wd_115 hw) Via.refl (Or.inl (wd_116 hw)) (wd_2 hw) (ty := .int) (by decide) rfl rfl H54 (i := 0) rfl (jx := 15) rfl d8_158 (pc' := 161) rfl (L' := ((sh, ObC Z "com/example/narrow_bounds/narrowbounds/Share" (fs_Share (.ref loA) (.ref hiA) (.int (1 : Int32)) (.int ru) (.ref owA) (.ref otA) (.ref liA) (.ref raA) (.ref olA) (.ref ohA) (.ref zlA) (.ref zhA) (.double fo) (.double fz) (.int (2 : Int32)) (.int (0 : Int32)))) :: (loA, ArC Z .double lo) :: (hiA, ArC Z .double hi) :: (raA, ArC Z .int [.int k1, .int k2, .int (0 : Int32)]) :: (owA, ArC Z .double ow) :: (otA, ArC Z .double ot) :: (olA, ArC Z .double [.double ol1, .double ol2, .double 0]) :: (ohA, ArC Z .double [.double oh1, .double oh2, .double 0]) :: (zlA, ArC Z .double [.double zl1, .double zl2, .double 0]) :: (zhA, ArC Z .double [.double zh1, .double zh2, .double 0]) :: F)) rfl ?_
  intro T55 W55 H55
  refine g_aloadN W55 d8_161 (pc' := 162) rfl rfl rfl ?_
  refine g_getf W55 (wd_41 hw) Via.refl H55 (i := 0) rfl (jx := 12) rfl d8_162 (pc' := 165) rfl ?_
  intro T56 W56 H56
  refine g_dstoreN W56 d8_165 (pc' := 166) rfl (ls' := #[.val (.ref sh), .val (.double 0), .second, .val (.double fo), .second, .unset, .unset, .unset, .unset, .unset, .unset, .unset, .unset, .unset, .unset]) rfl ?_
  refine g_aloadN W56 d8_166 (pc' := 167) rfl rfl rfl ?_
  refine g_getf W56 (wd_50 hw) Via.refl H56 (i := 0) rfl (jx := 13) rfl d8_167 (pc' := 170) rfl ?_
  intro T57 W57 H57
  refine g_dstore W57 d8_170 (pc' := 172) rfl (ls' := #[.val (.ref sh), .val (.double 0), .second, .val (.double fo), .second, .val (.double fz), .second, .unset, .unset, .unset, .unset, .unset, .unset, .unset, .unset]) rfl ?_
  refine g_iconst W57 d8_172 (pc' := 173) rfl (v := (0 : Int32)) (by decide) ?_
  refine g_istore W57 d8_173 (pc' := 175) rfl (ls' := #[.val (.ref sh), .val (.double 0), .second, .val (.double fo), .second, .val (.double fz), .second, .val (.int (0 : Int32)), .unset, .unset, .unset, .unset, .unset, .unset, .unset]) rfl ?_
  refine g_iload W57 d8_175 (pc' := 177) rfl rfl ?_
  refine g_aloadN W57 d8_177 (pc' := 178) rfl rfl rfl ?_
  refine g_getf W57 (wd_59 hw) Via.refl H57 (i := 0) rfl (jx := 14) rfl d8_178 (pc' := 181) rfl ?_
  intro T58 W58 H58
  refine g_icmp W58 d8_181 (pcy := 403) (by decide) (pc' := 184) rfl (fun (h : (2 : Int32) < (0 : Int32)) => absurd h (by decide)) (fun _ => ?_)
  refine g_dloadN W58 d8_184 (pc' := 185) rfl rfl ?_
  refine g_dstore W58 d8_185 (pc' := 187) rfl (ls' := #[.val (.ref sh), .val (.double 0), .second, .val (.double fo), .second, .val (.double fz), .second, .val (.int (0 : Int32)), .val (.double fo), .second, .unset, .unset, .unset, .unset, .unset]) rfl ?_
  refine g_dload W58 d8_187 (pc' := 189) rfl rfl ?_
  refine g_dstore W58 d8_189 (pc' := 191) rfl (ls' := #[.val (.ref sh), .val (.double 0), .second, .val (.double fo), .second, .val (.double fz), .second, .val (.int (0 : Int32)), .val (.double fo), .second, .val (.double fz), .second, .unset, .unset, .unset]) rfl ?_
  refine g_iload W58 d8_191 (pc' := 193) rfl rfl ?_
  refine g_istore W58 d8_193 (pc' := 195) rfl (ls' := #[.val (.ref sh), .val (.double 0), .second, .val (.double fo), .second, .val (.double fz), .second, .val (.int (0 : Int32)), .val (.double fo), .second, .val (.double fz), .second, .val (.int (0 : Int32)), .unset, .unset]) rfl ?_
  refine g_iload W58 d8_195 (pc' := 197) rfl rfl ?_
  refine g_aloadN W58 d8_197 (pc' := 198) rfl rfl rfl ?_
  refine g_getf W58 (wd_59 hw) Via.refl H58 (i := 0) rfl (jx := 14) rfl d8_198 (pc' := 201) rfl ?_
  intro T59 W59 H59
  refine g_icmp W59 d8_201 (pcy := 254) (by decide) (pc' := 204) rfl (fun (h : ¬ (0 : Int32) < (2 : Int32)) => absurd h (by decide)) (fun _ => ?_)
  refine g_dload W59 d8_204 (pc' := 206) rfl rfl ?_
  refine g_aloadN W59 d8_206 (pc' := 207) rfl rfl rfl ?_
  refine g_getf W59 (wd_28 hw) Via.refl H59 (i := 0) rfl (jx := 8) rfl d8_207 (pc' := 210) rfl ?_
  intro T60 W60 H60
  refine g_iload W60 d8_210 (pc' := 212) rfl rfl ?_
  refine g_daload W60 H60 (i := 6) rfl (jx := 0) (by decide) (v := .double ol1) rfl d8_212 (pc' := 213) rfl ?_
  refine g_aloadN W60 d8_213 (pc' := 214) rfl rfl rfl ?_
  refine g_getf W60 (wd_14 hw) Via.refl H60 (i := 0) rfl (jx := 2) rfl d8_214 (pc' := 217) rfl ?_
  intro T61 W61 H61
  refine g_callS W61 (argsL := [.double fo, .double ol1, .int (1 : Int32)]) (st := []) (wd_43 hw) (wd_44 hw) (wd_45 hw) (wd_46 hw) (by decide) (c_add1 l Z a0 hw n0 fo ol1 _ _ _ _ hfo hol1 (by omega) (by omega) _ _ H61) pd_7 rfl rfl rfl d8_217 (pc' := 220) rfl (Nat.le_trans (by decide) hRf) (Wn := 0) (Nat.le_of_eq rfl) (Nat.le_trans (by decide) hRl) (kc' := 0) (ks' := 0) rfl rfl (by omega) (by omega) ?_
  intro T62 v62 W62 hp62
  obtain ⟨s1, rfl, hs1, -, H62⟩ := hp62
  show Goes _ _ _ _ (State.setTop _ (mkF _ _ _ [.double s1]))
  refine g_dstore W62 d8_220 (pc' := 222) rfl (ls' := #[.val (.ref sh), .val (.double 0), .second, .val (.double fo), .second, .val (.double fz), .second, .val (.int (0 : Int32)), .val (.double s1), .second, .val (.double fz), .second, .val (.int (0 : Int32)), .unset, .unset]) rfl ?_
  refine g_dload W62 d8_222 (pc' := 224) rfl rfl ?_
  refine g_aloadN W62 d8_224 (pc' := 225) rfl rfl rfl ?_
  refine g_getf W62 (wd_32 hw) Via.refl H62 (i := 0) rfl (jx := 10) rfl d8_225 (pc' := 228) rfl ?_
  intro T63 W63 H63
  refine g_iload W63 d8_228 (pc' := 230) rfl rfl ?_
  refine g_daload W63 H63 (i := 8) rfl (jx := 0) (by decide) (v := .double zl1) rfl d8_230 (pc' := 231) rfl ?_
  refine g_aloadN W63 d8_231 (pc' := 232) rfl rfl rfl ?_
  refine g_getf W63 (wd_14 hw) Via.refl H63 (i := 0) rfl (jx := 2) rfl d8_232 (pc' := 235) rfl ?_
  intro T64 W64 H64
  refine g_if W64 d8_235 (pcy := 242) (by decide) (pc' := 238) rfl (fun _ => ?_) (fun (h : ¬ ¬ (1 : Int32) = (0 : Int32)) => absurd h (by decide))
  refine g_iconst W64 d8_242 (pc' := 243) rfl (v := (0 : Int32)) (by decide) ?_
  refine g_callS W64 (argsL := [.double fz, .double zl1, .int (0 : Int32)]) (st := []) (wd_43 hw) (wd_44 hw) (wd_45 hw) (wd_46 hw) (by decide) (c_add0 l Z a0 hw n0 fz zl1 _ _ _ _ hfz hzl1 (by omega) (by omega) _ _ H64) pd_7 rfl rfl rfl d8_243 (pc' := 246) rfl (Nat.le_trans (by decide) hRf) (Wn := 0) (Nat.le_of_eq rfl) (Nat.le_trans (by decide) hRl) (kc' := 0) (ks' := 0) rfl rfl (by omega) (by omega) ?_
  intro T65 v65 W65 hp65
  obtain ⟨s2, rfl, hs2, -, H65⟩ := hp65
  show Goes _ _ _ _ (State.setTop _ (mkF _ _ _ [.double s2]))
  refine g_dstore W65 d8_246 (pc' := 248) rfl (ls' := #[.val (.ref sh), .val (.double 0), .second, .val (.double fo), .second, .val (.double fz), .second, .val (.int (0 : Int32)), .val (.double s1), .second, .val (.double s2), .second, .val (.int (0 : Int32)), .unset, .unset]) rfl ?_
  refine g_iinc W65 d8_248 (pc' := 251) rfl rfl (v := (1 : Int32)) (by decide) (ls' := #[.val (.ref sh), .val (.double 0), .second, .val (.double fo), .second, .val (.double fz), .second, .val (.int (0 : Int32)), .val (.double s1), .second, .val (.double s2), .second, .val (.int (1 : Int32)), .unset, .unset]) rfl ?_
  refine g_goto W65 d8_251 (pc' := 195) (by decide) ?_
  refine g_iload W65 d8_195 (pc' := 197) rfl rfl ?_
  refine g_aloadN W65 d8_197 (pc' := 198) rfl rfl rfl ?_
  refine g_getf W65 (wd_59 hw) Via.refl H65 (i := 0) rfl (jx := 14) rfl d8_198 (pc' := 201) rfl ?_
  intro T66 W66 H66
  refine g_icmp W66 d8_201 (pcy := 254) (by decide) (pc' := 204) rfl (fun (h : ¬ (1 : Int32) < (2 : Int32)) => absurd h (by decide)) (fun _ => ?_)
  refine g_dload W66 d8_204 (pc' := 206) rfl rfl ?_
  refine g_aloadN W66 d8_206 (pc' := 207) rfl rfl rfl ?_
  refine g_getf W66 (wd_28 hw) Via.refl H66 (i := 0) rfl (jx := 8) rfl d8_207 (pc' := 210) rfl ?_
  intro T67 W67 H67
  refine g_iload W67 d8_210 (pc' := 212) rfl rfl ?_
  refine g_daload W67 H67 (i := 6) rfl (jx := 1) (by decide) (v := .double ol2) rfl d8_212 (pc' := 213) rfl ?_
  refine g_aloadN W67 d8_213 (pc' := 214) rfl rfl rfl ?_
  refine g_getf W67 (wd_14 hw) Via.refl H67 (i := 0) rfl (jx := 2) rfl d8_214 (pc' := 217) rfl ?_
  intro T68 W68 H68
  refine g_callS W68 (argsL := [.double s1, .double ol2, .int (1 : Int32)]) (st := []) (wd_43 hw) (wd_44 hw) (wd_45 hw) (wd_46 hw) (by decide) (c_add1 l Z a0 hw n0 s1 ol2 _ _ _ _ hs1 hol2 (by omega) (by omega) _ _ H68) pd_7 rfl rfl rfl d8_217 (pc' := 220) rfl (Nat.le_trans (by decide) hRf) (Wn := 0) (Nat.le_of_eq rfl) (Nat.le_trans (by decide) hRl) (kc' := 0) (ks' := 0) rfl rfl (by omega) (by omega) ?_
  intro T69 v69 W69 hp69
  obtain ⟨s3, rfl, hs3, -, H69⟩ := hp69
  show Goes _ _ _ _ (State.setTop _ (mkF _ _ _ [.double s3]))
  refine g_dstore W69 d8_220 (pc' := 222) rfl (ls' := #[.val (.ref sh), .val (.double 0), .second, .val (.double fo), .second, .val (.double fz), .second, .val (.int (0 : Int32)), .val (.double s3), .second, .val (.double s2), .second, .val (.int (1 : Int32)), .unset, .unset]) rfl ?_
  refine g_dload W69 d8_222 (pc' := 224) rfl rfl ?_
  refine g_aloadN W69 d8_224 (pc' := 225) rfl rfl rfl ?_
  refine g_getf W69 (wd_32 hw) Via.refl H69 (i := 0) rfl (jx := 10) rfl d8_225 (pc' := 228) rfl ?_
  intro T70 W70 H70
  refine g_iload W70 d8_228 (pc' := 230) rfl rfl ?_
  refine g_daload W70 H70 (i := 8) rfl (jx := 1) (by decide) (v := .double zl2) rfl d8_230 (pc' := 231) rfl ?_
  refine g_aloadN W70 d8_231 (pc' := 232) rfl rfl rfl ?_
  refine g_getf W70 (wd_14 hw) Via.refl H70 (i := 0) rfl (jx := 2) rfl d8_232 (pc' := 235) rfl ?_
  intro T71 W71 H71
  refine g_if W71 d8_235 (pcy := 242) (by decide) (pc' := 238) rfl (fun _ => ?_) (fun (h : ¬ ¬ (1 : Int32) = (0 : Int32)) => absurd h (by decide))
  refine g_iconst W71 d8_242 (pc' := 243) rfl (v := (0 : Int32)) (by decide) ?_
  refine g_callS W71 (argsL := [.double s2, .double zl2, .int (0 : Int32)]) (st := []) (wd_43 hw) (wd_44 hw) (wd_45 hw) (wd_46 hw) (by decide) (c_add0 l Z a0 hw n0 s2 zl2 _ _ _ _ hs2 hzl2 (by omega) (by omega) _ _ H71) pd_7 rfl rfl rfl d8_243 (pc' := 246) rfl (Nat.le_trans (by decide) hRf) (Wn := 0) (Nat.le_of_eq rfl) (Nat.le_trans (by decide) hRl) (kc' := 0) (ks' := 0) rfl rfl (by omega) (by omega) ?_
  intro T72 v72 W72 hp72
  obtain ⟨s4, rfl, hs4, -, H72⟩ := hp72
  show Goes _ _ _ _ (State.setTop _ (mkF _ _ _ [.double s4]))
  refine g_dstore W72 d8_246 (pc' := 248) rfl (ls' := #[.val (.ref sh), .val (.double 0), .second, .val (.double fo), .second, .val (.double fz), .second, .val (.int (0 : Int32)), .val (.double s3), .second, .val (.double s4), .second, .val (.int (1 : Int32)), .unset, .unset]) rfl ?_
  refine g_iinc W72 d8_248 (pc' := 251) rfl rfl (v := (2 : Int32)) (by decide) (ls' := #[.val (.ref sh), .val (.double 0), .second, .val (.double fo), .second, .val (.double fz), .second, .val (.int (0 : Int32)), .val (.double s3), .second, .val (.double s4), .second, .val (.int (2 : Int32)), .unset, .unset]) rfl ?_
  refine g_goto W72 d8_251 (pc' := 195) (by decide) ?_
  refine g_iload W72 d8_195 (pc' := 197) rfl rfl ?_
  refine g_aloadN W72 d8_197 (pc' := 198) rfl rfl rfl ?_
  refine g_getf W72 (wd_59 hw) Via.refl H72 (i := 0) rfl (jx := 14) rfl d8_198 (pc' := 201) rfl ?_
  intro T73 W73 H73
  refine g_icmp W73 d8_201 (pcy := 254) (by decide) (pc' := 204) rfl (fun _ => ?_) (fun (h : ¬ ¬ (2 : Int32) < (2 : Int32)) => absurd h (by decide))
  refine g_aloadN W73 d8_254 (pc' := 255) rfl rfl rfl ?_
  refine g_getf W73 (wd_14 hw) Via.refl H73 (i := 0) rfl (jx := 2) rfl d8_255 (pc' := 258) rfl ?_
  intro T74 W74 H74
  refine g_if W74 d8_258 (pcy := 271) (by decide) (pc' := 261) rfl (fun (h : (1 : Int32) = (0 : Int32)) => absurd h (by decide)) (fun _ => ?_)
  refine g_dload W74 d8_261 (pc' := 263) rfl rfl ?_
  refine g_dload W74 d8_263 (pc' := 265) rfl rfl ?_
  refine g_callS W74 (argsL := [.double s3, .double s4]) (st := []) (wd_135 hw) (wd_136 hw) (wd_3 hw) (wd_137 hw) (by decide) (c_great l Z a0 hw n0 s3 s4 _ _ _ _ hs3 hs4 (by omega) (by omega) (by omega) (by omega) _ _ H74) pd_2 rfl rfl rfl d8_265 (pc' := 268) rfl (Nat.le_trans (by decide) hRf) (Wn := 0) (Nat.le_of_eq rfl) (Nat.le_trans (by decide) hRl) (kc' := 0) (ks' := 0) rfl rfl (by omega) (by omega) ?_
  intro T75 v75 W75 hp75
  obtain ⟨r0, rfl, hr0, H75⟩ := hp75
  show Goes _ _ _ _ (State.setTop _ (mkF _ _ _ [.double r0]))
  refine g_goto W75 d8_268 (pc' := 278) (by decide) ?_
  refine g_dstore W75 d8_278 (pc' := 280) rfl (ls' := #[.val (.ref sh), .val (.double 0), .second, .val (.double fo), .second, .val (.double fz), .second, .val (.int (0 : Int32)), .val (.double s3), .second, .val (.double s4), .second, .val (.double r0), .second, .unset]) rfl ?_
  refine g_dload W75 d8_280 (pc' := 282) rfl rfl ?_
  refine g_dconst0 W75 d8_282 (pc' := 283) rfl ?_
  refine g_dcmp W75 d8_283 (pc' := 284) rfl rfl ?_
  rw [show (cmpValue (FP.dcmp s3 0) .l) = (1 : Int32) from (by rw [pos_gt (hs3.get (by omega)) (by omega)]; rfl)]
  refine g_if W75 d8_284 (pcy := 294) (by decide) (pc' := 287) rfl (fun _ => ?_) (fun (h : ¬ (0 : Int32) < (1 : Int32)) => absurd h (by decide))
  refine g_iconst W75 d8_294 (pc' := 295) rfl (v := (1 : Int32)) (by decide) ?_
  refine g_goto W75 d8_295 (pc' := 299) (by decide) ?_
  refine g_istore W75 d8_299 (pc' := 301) rfl (ls' := #[.val (.ref sh), .val (.double 0), .second, .val (.double fo), .second, .val (.double fz), .second, .val (.int (0 : Int32)), .val (.double s3), .second, .val (.double s4), .second, .val (.double r0), .second, .val (.int (1 : Int32))]) rfl ?_
  refine g_iload W75 d8_301 (pc' := 303) rfl rfl ?_
  refine g_if W75 d8_303 (pcy := 313) (by decide) (pc' := 306) rfl (fun _ => ?_) (fun (h : ¬ ¬ (1 : Int32) = (0 : Int32)) => absurd h (by decide))
  refine g_aloadN W75 d8_313 (pc' := 314) rfl rfl rfl ?_
  refine g_getf W75 (wd_14 hw) Via.refl H75 (i := 0) rfl (jx := 2) rfl d8_314 (pc' := 317) rfl ?_
  intro T76 W76 H76
  refine g_if W76 d8_317 (pcy := 330) (by decide) (pc' := 320) rfl (fun (h : (1 : Int32) = (0 : Int32)) => absurd h (by decide)) (fun _ => ?_)
  refine g_dload W76 d8_320 (pc' := 322) rfl rfl ?_
  refine g_dloadN W76 d8_322 (pc' := 323) rfl rfl ?_
  refine g_dcmp W76 d8_323 (pc' := 324) rfl rfl ?_
  rw [show (cmpValue (FP.dcmp r0 0) .l) = (1 : Int32) from (by rw [sh_pos hr0 (by omega) (by omega) (by omega)]; rfl)]
  refine g_if W76 d8_324 (pcy := 346) (by decide) (pc' := 327) rfl (fun (h : ¬ (0 : Int32) < (1 : Int32)) => absurd h (by decide)) (fun _ => ?_)
  refine g_goto W76 d8_327 (pc' := 337) (by decide) ?_
  refine g_dload W76 d8_337 (pc' := 339) rfl rfl ?_
  refine g_dstoreN W76 d8_339 (pc' := 340) rfl (ls' := #[.val (.ref sh), .val (.double r0), .second, .val (.double fo), .second, .val (.double fz), .second, .val (.int (0 : Int32)), .val (.double s3), .second, .val (.double s4), .second, .val (.double r0), .second, .val (.int (1 : Int32))]) rfl ?_
  refine g_aloadN W76 d8_340 (pc' := 341) rfl rfl rfl ?_
  refine g_iload W76 d8_341 (pc' := 343) rfl rfl ?_
  refine g_putf W76 (wd_115 hw) Via.refl (Or.inl (wd_116 hw)) (wd_2 hw) (ty := .int) (by decide) rfl rfl H76 (i := 0) rfl (jx := 15) rfl d8_343 (pc' := 346) rfl (L' := ((sh, ObC Z "com/example/narrow_bounds/narrowbounds/Share" (fs_Share (.ref loA) (.ref hiA) (.int (1 : Int32)) (.int ru) (.ref owA) (.ref otA) (.ref liA) (.ref raA) (.ref olA) (.ref ohA) (.ref zlA) (.ref zhA) (.double fo) (.double fz) (.int (2 : Int32)) (.int (0 : Int32)))) :: (loA, ArC Z .double lo) :: (hiA, ArC Z .double hi) :: (raA, ArC Z .int [.int k1, .int k2, .int (0 : Int32)]) :: (owA, ArC Z .double ow) :: (otA, ArC Z .double ot) :: (olA, ArC Z .double [.double ol1, .double ol2, .double 0]) :: (ohA, ArC Z .double [.double oh1, .double oh2, .double 0]) :: (zlA, ArC Z .double [.double zl1, .double zl2, .double 0]) :: (zhA, ArC Z .double [.double zh1, .double zh2, .double 0]) :: F)) rfl ?_
  intro T77 W77 H77
  refine g_iload W77 d8_346 (pc' := 348) rfl rfl ?_
  refine g_aloadN W77 d8_348 (pc' := 349) rfl rfl rfl ?_
  refine g_getf W77 (wd_59 hw) Via.refl H77 (i := 0) rfl (jx := 14) rfl d8_349 (pc' := 352) rfl ?_
  intro T78 W78 H78
  refine g_icmp W78 d8_352 (pcy := 397) (by decide) (pc' := 355) rfl (fun (h : ¬ (0 : Int32) < (2 : Int32)) => absurd h (by decide)) (fun _ => ?_)
  refine g_dloadN W78 d8_355 (pc' := 356) rfl rfl ?_
  refine g_aloadN W78 d8_356 (pc' := 357) rfl rfl rfl ?_
  refine g_getf W78 (wd_30 hw) Via.refl H78 (i := 0) rfl (jx := 9) rfl d8_357 (pc' := 360) rfl ?_
  intro T79 W79 H79
  refine g_iload W79 d8_360 (pc' := 362) rfl rfl ?_
  refine g_daload W79 H79 (i := 7) rfl (jx := 0) (by decide) (v := .double oh1) rfl d8_362 (pc' := 363) rfl ?_
  refine g_aloadN W79 d8_363 (pc' := 364) rfl rfl rfl ?_
  refine g_getf W79 (wd_14 hw) Via.refl H79 (i := 0) rfl (jx := 2) rfl d8_364 (pc' := 367) rfl ?_
  intro T80 W80 H80
  refine g_callS W80 (argsL := [.double fo, .double oh1, .int (1 : Int32)]) (st := []) (wd_43 hw) (wd_44 hw) (wd_45 hw) (wd_46 hw) (by decide) (c_add1 l Z a0 hw n0 fo oh1 _ _ _ _ hfo hoh1 (by omega) (by omega) _ _ H80) pd_7 rfl rfl rfl d8_367 (pc' := 370) rfl (Nat.le_trans (by decide) hRf) (Wn := 0) (Nat.le_of_eq rfl) (Nat.le_trans (by decide) hRl) (kc' := 0) (ks' := 0) rfl rfl (by omega) (by omega) ?_
  intro T81 v81 W81 hp81
  obtain ⟨s5, rfl, hs5, -, H81⟩ := hp81
  show Goes _ _ _ _ (State.setTop _ (mkF _ _ _ [.double s5]))
  refine g_dstoreN W81 d8_370 (pc' := 371) rfl (ls' := #[.val (.ref sh), .val (.double r0), .second, .val (.double s5), .second, .val (.double fz), .second, .val (.int (0 : Int32)), .val (.double s3), .second, .val (.double s4), .second, .val (.double r0), .second, .val (.int (1 : Int32))]) rfl ?_
  refine g_dload W81 d8_371 (pc' := 373) rfl rfl ?_
  refine g_aloadN W81 d8_373 (pc' := 374) rfl rfl rfl ?_
  refine g_getf W81 (wd_34 hw) Via.refl H81 (i := 0) rfl (jx := 11) rfl d8_374 (pc' := 377) rfl ?_
  intro T82 W82 H82
  refine g_iload W82 d8_377 (pc' := 379) rfl rfl ?_
  refine g_daload W82 H82 (i := 9) rfl (jx := 0) (by decide) (v := .double zh1) rfl d8_379 (pc' := 380) rfl ?_
  refine g_aloadN W82 d8_380 (pc' := 381) rfl rfl rfl ?_
  refine g_getf W82 (wd_14 hw) Via.refl H82 (i := 0) rfl (jx := 2) rfl d8_381 (pc' := 384) rfl ?_
  intro T83 W83 H83
  refine g_if W83 d8_384 (pcy := 391) (by decide) (pc' := 387) rfl (fun _ => ?_) (fun (h : ¬ ¬ (1 : Int32) = (0 : Int32)) => absurd h (by decide))
  refine g_iconst W83 d8_391 (pc' := 392) rfl (v := (0 : Int32)) (by decide) ?_
  refine g_callS W83 (argsL := [.double fz, .double zh1, .int (0 : Int32)]) (st := []) (wd_43 hw) (wd_44 hw) (wd_45 hw) (wd_46 hw) (by decide) (c_add0 l Z a0 hw n0 fz zh1 _ _ _ _ hfz hzh1 (by omega) (by omega) _ _ H83) pd_7 rfl rfl rfl d8_392 (pc' := 395) rfl (Nat.le_trans (by decide) hRf) (Wn := 0) (Nat.le_of_eq rfl) (Nat.le_trans (by decide) hRl) (kc' := 0) (ks' := 0) rfl rfl (by omega) (by omega) ?_
  intro T84 v84 W84 hp84
  obtain ⟨s6, rfl, hs6, -, H84⟩ := hp84
  show Goes _ _ _ _ (State.setTop _ (mkF _ _ _ [.double s6]))
  refine g_dstore W84 d8_395 (pc' := 397) rfl (ls' := #[.val (.ref sh), .val (.double r0), .second, .val (.double s5), .second, .val (.double s6), .second, .val (.int (0 : Int32)), .val (.double s3), .second, .val (.double s4), .second, .val (.double r0), .second, .val (.int (1 : Int32))]) rfl ?_
  refine g_iinc W84 d8_397 (pc' := 400) rfl rfl (v := (1 : Int32)) (by decide) (ls' := #[.val (.ref sh), .val (.double r0), .second, .val (.double s5), .second, .val (.double s6), .second, .val (.int (1 : Int32)), .val (.double s3), .second, .val (.double s4), .second, .val (.double r0), .second, .val (.int (1 : Int32))]) rfl ?_
  refine g_goto W84 d8_400 (pc' := 175) (by decide) ?_
  refine g_iload W84 d8_175 (pc' := 177) rfl rfl ?_
  refine g_aloadN W84 d8_177 (pc' := 178) rfl rfl rfl ?_
  refine g_getf W84 (wd_59 hw) Via.refl H84 (i := 0) rfl (jx := 14) rfl d8_178 (pc' := 181) rfl ?_
  intro T85 W85 H85
  refine g_icmp W85 d8_181 (pcy := 403) (by decide) (pc' := 184) rfl (fun (h : (2 : Int32) < (1 : Int32)) => absurd h (by decide)) (fun _ => ?_)
  refine g_dloadN W85 d8_184 (pc' := 185) rfl rfl ?_
  refine g_dstore W85 d8_185 (pc' := 187) rfl (ls' := #[.val (.ref sh), .val (.double r0), .second, .val (.double s5), .second, .val (.double s6), .second, .val (.int (1 : Int32)), .val (.double s5), .second, .val (.double s4), .second, .val (.double r0), .second, .val (.int (1 : Int32))]) rfl ?_
  refine g_dload W85 d8_187 (pc' := 189) rfl rfl ?_
  refine g_dstore W85 d8_189 (pc' := 191) rfl (ls' := #[.val (.ref sh), .val (.double r0), .second, .val (.double s5), .second, .val (.double s6), .second, .val (.int (1 : Int32)), .val (.double s5), .second, .val (.double s6), .second, .val (.double r0), .second, .val (.int (1 : Int32))]) rfl ?_
  refine g_iload W85 d8_191 (pc' := 193) rfl rfl ?_
  refine g_istore W85 d8_193 (pc' := 195) rfl (ls' := #[.val (.ref sh), .val (.double r0), .second, .val (.double s5), .second, .val (.double s6), .second, .val (.int (1 : Int32)), .val (.double s5), .second, .val (.double s6), .second, .val (.int (1 : Int32)), .unset, .val (.int (1 : Int32))]) rfl ?_
  refine g_iload W85 d8_195 (pc' := 197) rfl rfl ?_
  refine g_aloadN W85 d8_197 (pc' := 198) rfl rfl rfl ?_
  refine g_getf W85 (wd_59 hw) Via.refl H85 (i := 0) rfl (jx := 14) rfl d8_198 (pc' := 201) rfl ?_
  intro T86 W86 H86
  refine g_icmp W86 d8_201 (pcy := 254) (by decide) (pc' := 204) rfl (fun (h : ¬ (1 : Int32) < (2 : Int32)) => absurd h (by decide)) (fun _ => ?_)
  refine g_dload W86 d8_204 (pc' := 206) rfl rfl ?_
  refine g_aloadN W86 d8_206 (pc' := 207) rfl rfl rfl ?_
  refine g_getf W86 (wd_28 hw) Via.refl H86 (i := 0) rfl (jx := 8) rfl d8_207 (pc' := 210) rfl ?_
  intro T87 W87 H87
  refine g_iload W87 d8_210 (pc' := 212) rfl rfl ?_
  refine g_daload W87 H87 (i := 6) rfl (jx := 1) (by decide) (v := .double ol2) rfl d8_212 (pc' := 213) rfl ?_
  refine g_aloadN W87 d8_213 (pc' := 214) rfl rfl rfl ?_
  refine g_getf W87 (wd_14 hw) Via.refl H87 (i := 0) rfl (jx := 2) rfl d8_214 (pc' := 217) rfl ?_
  intro T88 W88 H88
  refine g_callS W88 (argsL := [.double s5, .double ol2, .int (1 : Int32)]) (st := []) (wd_43 hw) (wd_44 hw) (wd_45 hw) (wd_46 hw) (by decide) (c_add1 l Z a0 hw n0 s5 ol2 _ _ _ _ hs5 hol2 (by omega) (by omega) _ _ H88) pd_7 rfl rfl rfl d8_217 (pc' := 220) rfl (Nat.le_trans (by decide) hRf) (Wn := 0) (Nat.le_of_eq rfl) (Nat.le_trans (by decide) hRl) (kc' := 0) (ks' := 0) rfl rfl (by omega) (by omega) ?_
  intro T89 v89 W89 hp89
  obtain ⟨s7, rfl, hs7, -, H89⟩ := hp89
  show Goes _ _ _ _ (State.setTop _ (mkF _ _ _ [.double s7]))
  refine g_dstore W89 d8_220 (pc' := 222) rfl (ls' := #[.val (.ref sh), .val (.double r0), .second, .val (.double s5), .second, .val (.double s6), .second, .val (.int (1 : Int32)), .val (.double s7), .second, .val (.double s6), .second, .val (.int (1 : Int32)), .unset, .val (.int (1 : Int32))]) rfl ?_
  refine g_dload W89 d8_222 (pc' := 224) rfl rfl ?_
  refine g_aloadN W89 d8_224 (pc' := 225) rfl rfl rfl ?_
  refine g_getf W89 (wd_32 hw) Via.refl H89 (i := 0) rfl (jx := 10) rfl d8_225 (pc' := 228) rfl ?_
  intro T90 W90 H90
  refine g_iload W90 d8_228 (pc' := 230) rfl rfl ?_
  refine g_daload W90 H90 (i := 8) rfl (jx := 1) (by decide) (v := .double zl2) rfl d8_230 (pc' := 231) rfl ?_
  refine g_aloadN W90 d8_231 (pc' := 232) rfl rfl rfl ?_
  refine g_getf W90 (wd_14 hw) Via.refl H90 (i := 0) rfl (jx := 2) rfl d8_232 (pc' := 235) rfl ?_
  intro T91 W91 H91
  refine g_if W91 d8_235 (pcy := 242) (by decide) (pc' := 238) rfl (fun _ => ?_) (fun (h : ¬ ¬ (1 : Int32) = (0 : Int32)) => absurd h (by decide))
  refine g_iconst W91 d8_242 (pc' := 243) rfl (v := (0 : Int32)) (by decide) ?_
  refine g_callS W91 (argsL := [.double s6, .double zl2, .int (0 : Int32)]) (st := []) (wd_43 hw) (wd_44 hw) (wd_45 hw) (wd_46 hw) (by decide) (c_add0 l Z a0 hw n0 s6 zl2 _ _ _ _ hs6 hzl2 (by omega) (by omega) _ _ H91) pd_7 rfl rfl rfl d8_243 (pc' := 246) rfl (Nat.le_trans (by decide) hRf) (Wn := 0) (Nat.le_of_eq rfl) (Nat.le_trans (by decide) hRl) (kc' := 0) (ks' := 0) rfl rfl (by omega) (by omega) ?_
  intro T92 v92 W92 hp92
  obtain ⟨s8, rfl, hs8, -, H92⟩ := hp92
  show Goes _ _ _ _ (State.setTop _ (mkF _ _ _ [.double s8]))
  refine g_dstore W92 d8_246 (pc' := 248) rfl (ls' := #[.val (.ref sh), .val (.double r0), .second, .val (.double s5), .second, .val (.double s6), .second, .val (.int (1 : Int32)), .val (.double s7), .second, .val (.double s8), .second, .val (.int (1 : Int32)), .unset, .val (.int (1 : Int32))]) rfl ?_
  refine g_iinc W92 d8_248 (pc' := 251) rfl rfl (v := (2 : Int32)) (by decide) (ls' := #[.val (.ref sh), .val (.double r0), .second, .val (.double s5), .second, .val (.double s6), .second, .val (.int (1 : Int32)), .val (.double s7), .second, .val (.double s8), .second, .val (.int (2 : Int32)), .unset, .val (.int (1 : Int32))]) rfl ?_
  refine g_goto W92 d8_251 (pc' := 195) (by decide) ?_
  refine g_iload W92 d8_195 (pc' := 197) rfl rfl ?_
  refine g_aloadN W92 d8_197 (pc' := 198) rfl rfl rfl ?_
  refine g_getf W92 (wd_59 hw) Via.refl H92 (i := 0) rfl (jx := 14) rfl d8_198 (pc' := 201) rfl ?_
  intro T93 W93 H93
  refine g_icmp W93 d8_201 (pcy := 254) (by decide) (pc' := 204) rfl (fun _ => ?_) (fun (h : ¬ ¬ (2 : Int32) < (2 : Int32)) => absurd h (by decide))
  refine g_aloadN W93 d8_254 (pc' := 255) rfl rfl rfl ?_
  refine g_getf W93 (wd_14 hw) Via.refl H93 (i := 0) rfl (jx := 2) rfl d8_255 (pc' := 258) rfl ?_
  intro T94 W94 H94
  refine g_if W94 d8_258 (pcy := 271) (by decide) (pc' := 261) rfl (fun (h : (1 : Int32) = (0 : Int32)) => absurd h (by decide)) (fun _ => ?_)
  refine g_dload W94 d8_261 (pc' := 263) rfl rfl ?_
  refine g_dload W94 d8_263 (pc' := 265) rfl rfl ?_
  refine g_callS W94 (argsL := [.double s7, .double s8]) (st := []) (wd_135 hw) (wd_136 hw) (wd_3 hw) (wd_137 hw) (by decide) (c_great l Z a0 hw n0 s7 s8 _ _ _ _ hs7 hs8 (by omega) (by omega) (by omega) (by omega) _ _ H94) pd_2 rfl rfl rfl d8_265 (pc' := 268) rfl (Nat.le_trans (by decide) hRf) (Wn := 0) (Nat.le_of_eq rfl) (Nat.le_trans (by decide) hRl) (kc' := 0) (ks' := 0) rfl rfl (by omega) (by omega) ?_
  intro T95 v95 W95 hp95
  obtain ⟨r1, rfl, hr1, H95⟩ := hp95
  show Goes _ _ _ _ (State.setTop _ (mkF _ _ _ [.double r1]))
  refine g_goto W95 d8_268 (pc' := 278) (by decide) ?_
  refine g_dstore W95 d8_278 (pc' := 280) rfl (ls' := #[.val (.ref sh), .val (.double r0), .second, .val (.double s5), .second, .val (.double s6), .second, .val (.int (1 : Int32)), .val (.double s7), .second, .val (.double s8), .second, .val (.double r1), .second, .val (.int (1 : Int32))]) rfl ?_
  refine g_dload W95 d8_280 (pc' := 282) rfl rfl ?_
  refine g_dconst0 W95 d8_282 (pc' := 283) rfl ?_
  refine g_dcmp W95 d8_283 (pc' := 284) rfl rfl ?_
  rw [show (cmpValue (FP.dcmp s7 0) .l) = (1 : Int32) from (by rw [pos_gt (hs7.get (by omega)) (by omega)]; rfl)]
  refine g_if W95 d8_284 (pcy := 294) (by decide) (pc' := 287) rfl (fun _ => ?_) (fun (h : ¬ (0 : Int32) < (1 : Int32)) => absurd h (by decide))
  refine g_iconst W95 d8_294 (pc' := 295) rfl (v := (1 : Int32)) (by decide) ?_
  refine g_goto W95 d8_295 (pc' := 299) (by decide) ?_
  refine g_istore W95 d8_299 (pc' := 301) rfl (ls' := #[.val (.ref sh), .val (.double r0), .second, .val (.double s5), .second, .val (.double s6), .second, .val (.int (1 : Int32)), .val (.double s7), .second, .val (.double s8), .second, .val (.double r1), .second, .val (.int (1 : Int32))]) rfl ?_
  refine g_iload W95 d8_301 (pc' := 303) rfl rfl ?_
  refine g_if W95 d8_303 (pcy := 313) (by decide) (pc' := 306) rfl (fun _ => ?_) (fun (h : ¬ ¬ (1 : Int32) = (0 : Int32)) => absurd h (by decide))
  refine g_aloadN W95 d8_313 (pc' := 314) rfl rfl rfl ?_
  refine g_getf W95 (wd_14 hw) Via.refl H95 (i := 0) rfl (jx := 2) rfl d8_314 (pc' := 317) rfl ?_
  intro T96 W96 H96
  refine g_if W96 d8_317 (pcy := 330) (by decide) (pc' := 320) rfl (fun (h : (1 : Int32) = (0 : Int32)) => absurd h (by decide)) (fun _ => ?_)
  refine g_dload W96 d8_320 (pc' := 322) rfl rfl ?_
  refine g_dloadN W96 d8_322 (pc' := 323) rfl rfl ?_
  refine g_dcmp W96 d8_323 (pc' := 324) rfl rfl ?_
  refine g_if W96 d8_324 (pcy := 346) (by decide) (pc' := 327) rfl (fun (c97 : ¬ (0 : Int32) < (cmpValue (FP.dcmp r1 r0) .l)) => ?_) (fun (c97 : ¬ ¬ (0 : Int32) < (cmpValue (FP.dcmp r1 r0) .l)) => ?_)
  · refine g_iload W96 d8_346 (pc' := 348) rfl rfl ?_
    refine g_aloadN W96 d8_348 (pc' := 349) rfl rfl rfl ?_
    refine g_getf W96 (wd_59 hw) Via.refl H96 (i := 0) rfl (jx := 14) rfl d8_349 (pc' := 352) rfl ?_
    intro T98 W98 H98
    refine g_icmp W98 d8_352 (pcy := 397) (by decide) (pc' := 355) rfl (fun (h : ¬ (1 : Int32) < (2 : Int32)) => absurd h (by decide)) (fun _ => ?_)
    refine g_dloadN W98 d8_355 (pc' := 356) rfl rfl ?_
    refine g_aloadN W98 d8_356 (pc' := 357) rfl rfl rfl ?_
    refine g_getf W98 (wd_30 hw) Via.refl H98 (i := 0) rfl (jx := 9) rfl d8_357 (pc' := 360) rfl ?_
    intro T99 W99 H99
    refine g_iload W99 d8_360 (pc' := 362) rfl rfl ?_
    refine g_daload W99 H99 (i := 7) rfl (jx := 1) (by decide) (v := .double oh2) rfl d8_362 (pc' := 363) rfl ?_
    refine g_aloadN W99 d8_363 (pc' := 364) rfl rfl rfl ?_
    refine g_getf W99 (wd_14 hw) Via.refl H99 (i := 0) rfl (jx := 2) rfl d8_364 (pc' := 367) rfl ?_
    intro T100 W100 H100
    refine g_callS W100 (argsL := [.double s5, .double oh2, .int (1 : Int32)]) (st := []) (wd_43 hw) (wd_44 hw) (wd_45 hw) (wd_46 hw) (by decide) (c_add1 l Z a0 hw n0 s5 oh2 _ _ _ _ hs5 hoh2 (by omega) (by omega) _ _ H100) pd_7 rfl rfl rfl d8_367 (pc' := 370) rfl (Nat.le_trans (by decide) hRf) (Wn := 0) (Nat.le_of_eq rfl) (Nat.le_trans (by decide) hRl) (kc' := 0) (ks' := 0) rfl rfl (by omega) (by omega) ?_
    intro T101 v101 W101 hp101
    obtain ⟨s9, rfl, hs9, -, H101⟩ := hp101
    show Goes _ _ _ _ (State.setTop _ (mkF _ _ _ [.double s9]))
    refine g_dstoreN W101 d8_370 (pc' := 371) rfl (ls' := #[.val (.ref sh), .val (.double r0), .second, .val (.double s9), .second, .val (.double s6), .second, .val (.int (1 : Int32)), .val (.double s7), .second, .val (.double s8), .second, .val (.double r1), .second, .val (.int (1 : Int32))]) rfl ?_
    refine g_dload W101 d8_371 (pc' := 373) rfl rfl ?_
    refine g_aloadN W101 d8_373 (pc' := 374) rfl rfl rfl ?_
    refine g_getf W101 (wd_34 hw) Via.refl H101 (i := 0) rfl (jx := 11) rfl d8_374 (pc' := 377) rfl ?_
    intro T102 W102 H102
    refine g_iload W102 d8_377 (pc' := 379) rfl rfl ?_
    refine g_daload W102 H102 (i := 9) rfl (jx := 1) (by decide) (v := .double zh2) rfl d8_379 (pc' := 380) rfl ?_
    refine g_aloadN W102 d8_380 (pc' := 381) rfl rfl rfl ?_
    refine g_getf W102 (wd_14 hw) Via.refl H102 (i := 0) rfl (jx := 2) rfl d8_381 (pc' := 384) rfl ?_
    intro T103 W103 H103
    refine g_if W103 d8_384 (pcy := 391) (by decide) (pc' := 387) rfl (fun _ => ?_) (fun (h : ¬ ¬ (1 : Int32) = (0 : Int32)) => absurd h (by decide))
    refine g_iconst W103 d8_391 (pc' := 392) rfl (v := (0 : Int32)) (by decide) ?_
    refine g_callS W103 (argsL := [.double s6, .double zh2, .int (0 : Int32)]) (st := []) (wd_43 hw) (wd_44 hw) (wd_45 hw) (wd_46 hw) (by decide) (c_add0 l Z a0 hw n0 s6 zh2 _ _ _ _ hs6 hzh2 (by omega) (by omega) _ _ H103) pd_7 rfl rfl rfl d8_392 (pc' := 395) rfl (Nat.le_trans (by decide) hRf) (Wn := 0) (Nat.le_of_eq rfl) (Nat.le_trans (by decide) hRl) (kc' := 0) (ks' := 0) rfl rfl (by omega) (by omega) ?_
    intro T104 v104 W104 hp104
    obtain ⟨s10, rfl, hs10, -, H104⟩ := hp104
    show Goes _ _ _ _ (State.setTop _ (mkF _ _ _ [.double s10]))
    refine g_dstore W104 d8_395 (pc' := 397) rfl (ls' := #[.val (.ref sh), .val (.double r0), .second, .val (.double s9), .second, .val (.double s10), .second, .val (.int (1 : Int32)), .val (.double s7), .second, .val (.double s8), .second, .val (.double r1), .second, .val (.int (1 : Int32))]) rfl ?_
    refine g_iinc W104 d8_397 (pc' := 400) rfl rfl (v := (2 : Int32)) (by decide) (ls' := #[.val (.ref sh), .val (.double r0), .second, .val (.double s9), .second, .val (.double s10), .second, .val (.int (2 : Int32)), .val (.double s7), .second, .val (.double s8), .second, .val (.double r1), .second, .val (.int (1 : Int32))]) rfl ?_
    refine g_goto W104 d8_400 (pc' := 175) (by decide) ?_
    refine g_iload W104 d8_175 (pc' := 177) rfl rfl ?_
    refine g_aloadN W104 d8_177 (pc' := 178) rfl rfl rfl ?_
    refine g_getf W104 (wd_59 hw) Via.refl H104 (i := 0) rfl (jx := 14) rfl d8_178 (pc' := 181) rfl ?_
    intro T105 W105 H105
    refine g_icmp W105 d8_181 (pcy := 403) (by decide) (pc' := 184) rfl (fun (h : (2 : Int32) < (2 : Int32)) => absurd h (by decide)) (fun _ => ?_)
    refine g_dloadN W105 d8_184 (pc' := 185) rfl rfl ?_
    refine g_dstore W105 d8_185 (pc' := 187) rfl (ls' := #[.val (.ref sh), .val (.double r0), .second, .val (.double s9), .second, .val (.double s10), .second, .val (.int (2 : Int32)), .val (.double s9), .second, .val (.double s8), .second, .val (.double r1), .second, .val (.int (1 : Int32))]) rfl ?_
    refine g_dload W105 d8_187 (pc' := 189) rfl rfl ?_
    refine g_dstore W105 d8_189 (pc' := 191) rfl (ls' := #[.val (.ref sh), .val (.double r0), .second, .val (.double s9), .second, .val (.double s10), .second, .val (.int (2 : Int32)), .val (.double s9), .second, .val (.double s10), .second, .val (.double r1), .second, .val (.int (1 : Int32))]) rfl ?_
    refine g_iload W105 d8_191 (pc' := 193) rfl rfl ?_
    refine g_istore W105 d8_193 (pc' := 195) rfl (ls' := #[.val (.ref sh), .val (.double r0), .second, .val (.double s9), .second, .val (.double s10), .second, .val (.int (2 : Int32)), .val (.double s9), .second, .val (.double s10), .second, .val (.int (2 : Int32)), .unset, .val (.int (1 : Int32))]) rfl ?_
    refine g_iload W105 d8_195 (pc' := 197) rfl rfl ?_
    refine g_aloadN W105 d8_197 (pc' := 198) rfl rfl rfl ?_
    refine g_getf W105 (wd_59 hw) Via.refl H105 (i := 0) rfl (jx := 14) rfl d8_198 (pc' := 201) rfl ?_
    intro T106 W106 H106
    refine g_icmp W106 d8_201 (pcy := 254) (by decide) (pc' := 204) rfl (fun _ => ?_) (fun (h : ¬ ¬ (2 : Int32) < (2 : Int32)) => absurd h (by decide))
    refine g_aloadN W106 d8_254 (pc' := 255) rfl rfl rfl ?_
    refine g_getf W106 (wd_14 hw) Via.refl H106 (i := 0) rfl (jx := 2) rfl d8_255 (pc' := 258) rfl ?_
    intro T107 W107 H107
    refine g_if W107 d8_258 (pcy := 271) (by decide) (pc' := 261) rfl (fun (h : (1 : Int32) = (0 : Int32)) => absurd h (by decide)) (fun _ => ?_)
    refine g_dload W107 d8_261 (pc' := 263) rfl rfl ?_
    refine g_dload W107 d8_263 (pc' := 265) rfl rfl ?_
    refine g_callS W107 (argsL := [.double s9, .double s10]) (st := []) (wd_135 hw) (wd_136 hw) (wd_3 hw) (wd_137 hw) (by decide) (c_great l Z a0 hw n0 s9 s10 _ _ _ _ hs9 hs10 (by omega) (by omega) (by omega) (by omega) _ _ H107) pd_2 rfl rfl rfl d8_265 (pc' := 268) rfl (Nat.le_trans (by decide) hRf) (Wn := 0) (Nat.le_of_eq rfl) (Nat.le_trans (by decide) hRl) (kc' := 0) (ks' := 0) rfl rfl (by omega) (by omega) ?_
    intro T108 v108 W108 hp108
    obtain ⟨r2, rfl, hr2, H108⟩ := hp108
    show Goes _ _ _ _ (State.setTop _ (mkF _ _ _ [.double r2]))
    refine g_goto W108 d8_268 (pc' := 278) (by decide) ?_
    refine g_dstore W108 d8_278 (pc' := 280) rfl (ls' := #[.val (.ref sh), .val (.double r0), .second, .val (.double s9), .second, .val (.double s10), .second, .val (.int (2 : Int32)), .val (.double s9), .second, .val (.double s10), .second, .val (.double r2), .second, .val (.int (1 : Int32))]) rfl ?_
    refine g_dload W108 d8_280 (pc' := 282) rfl rfl ?_
    refine g_dconst0 W108 d8_282 (pc' := 283) rfl ?_
    refine g_dcmp W108 d8_283 (pc' := 284) rfl rfl ?_
    rw [show (cmpValue (FP.dcmp s9 0) .l) = (1 : Int32) from (by rw [pos_gt (hs9.get (by omega)) (by omega)]; rfl)]
    refine g_if W108 d8_284 (pcy := 294) (by decide) (pc' := 287) rfl (fun _ => ?_) (fun (h : ¬ (0 : Int32) < (1 : Int32)) => absurd h (by decide))
    refine g_iconst W108 d8_294 (pc' := 295) rfl (v := (1 : Int32)) (by decide) ?_
    refine g_goto W108 d8_295 (pc' := 299) (by decide) ?_
    refine g_istore W108 d8_299 (pc' := 301) rfl (ls' := #[.val (.ref sh), .val (.double r0), .second, .val (.double s9), .second, .val (.double s10), .second, .val (.int (2 : Int32)), .val (.double s9), .second, .val (.double s10), .second, .val (.double r2), .second, .val (.int (1 : Int32))]) rfl ?_
    refine g_iload W108 d8_301 (pc' := 303) rfl rfl ?_
    refine g_if W108 d8_303 (pcy := 313) (by decide) (pc' := 306) rfl (fun _ => ?_) (fun (h : ¬ ¬ (1 : Int32) = (0 : Int32)) => absurd h (by decide))
    refine g_aloadN W108 d8_313 (pc' := 314) rfl rfl rfl ?_
    refine g_getf W108 (wd_14 hw) Via.refl H108 (i := 0) rfl (jx := 2) rfl d8_314 (pc' := 317) rfl ?_
    intro T109 W109 H109
    refine g_if W109 d8_317 (pcy := 330) (by decide) (pc' := 320) rfl (fun (h : (1 : Int32) = (0 : Int32)) => absurd h (by decide)) (fun _ => ?_)
    refine g_dload W109 d8_320 (pc' := 322) rfl rfl ?_
    refine g_dloadN W109 d8_322 (pc' := 323) rfl rfl ?_
    refine g_dcmp W109 d8_323 (pc' := 324) rfl rfl ?_
    refine g_if W109 d8_324 (pcy := 346) (by decide) (pc' := 327) rfl (fun (c110 : ¬ (0 : Int32) < (cmpValue (FP.dcmp r2 r0) .l)) => ?_) (fun (c110 : ¬ ¬ (0 : Int32) < (cmpValue (FP.dcmp r2 r0) .l)) => ?_)
    · refine g_iload W109 d8_346 (pc' := 348) rfl rfl ?_
      refine g_aloadN W109 d8_348 (pc' := 349) rfl rfl rfl ?_
      refine g_getf W109 (wd_59 hw) Via.refl H109 (i := 0) rfl (jx := 14) rfl d8_349 (pc' := 352) rfl ?_
      intro T111 W111 H111
      refine g_icmp W111 d8_352 (pcy := 397) (by decide) (pc' := 355) rfl (fun _ => ?_) (fun (h : ¬ ¬ (2 : Int32) < (2 : Int32)) => absurd h (by decide))
      refine g_iinc W111 d8_397 (pc' := 400) rfl rfl (v := (3 : Int32)) (by decide) (ls' := #[.val (.ref sh), .val (.double r0), .second, .val (.double s9), .second, .val (.double s10), .second, .val (.int (3 : Int32)), .val (.double s9), .second, .val (.double s10), .second, .val (.double r2), .second, .val (.int (1 : Int32))]) rfl ?_
      refine g_goto W111 d8_400 (pc' := 175) (by decide) ?_
      refine g_iload W111 d8_175 (pc' := 177) rfl rfl ?_
      refine g_aloadN W111 d8_177 (pc' := 178) rfl rfl rfl ?_
      refine g_getf W111 (wd_59 hw) Via.refl H111 (i := 0) rfl (jx := 14) rfl d8_178 (pc' := 181) rfl ?_
      intro T112 W112 H112
      refine g_icmp W112 d8_181 (pcy := 403) (by decide) (pc' := 184) rfl (fun _ => ?_) (fun (h : ¬ (2 : Int32) < (3 : Int32)) => absurd h (by decide))
      refine g_dloadN W112 d8_403 (pc' := 404) rfl rfl ?_
      have H113f := Hp.fr3 H112
      have H114f := Hp.fr3 H113f
      have H115f := Hp.fr3 H114f
      have H116f := Hp.fr3 H115f
      exact g_dreturn W112 d8_404 ⟨_, r0, r1, r2, _, _, rfl, hr0, hr1, hr2, Or.inl ⟨rfl, c97, c110⟩, H116f⟩ (Nat.zero_le _) (Nat.zero_le _)
    · replace c110 := Classical.not_not.mp c110
      refine g_goto W109 d8_327 (pc' := 337) (by decide) ?_
      refine g_dload W109 d8_337 (pc' := 339) rfl rfl ?_
      refine g_dstoreN W109 d8_339 (pc' := 340) rfl (ls' := #[.val (.ref sh), .val (.double r2), .second, .val (.double s9), .second, .val (.double s10), .second, .val (.int (2 : Int32)), .val (.double s9), .second, .val (.double s10), .second, .val (.double r2), .second, .val (.int (1 : Int32))]) rfl ?_
      refine g_aloadN W109 d8_340 (pc' := 341) rfl rfl rfl ?_
      refine g_iload W109 d8_341 (pc' := 343) rfl rfl ?_
      refine g_putf W109 (wd_115 hw) Via.refl (Or.inl (wd_116 hw)) (wd_2 hw) (ty := .int) (by decide) rfl rfl H109 (i := 0) rfl (jx := 15) rfl d8_343 (pc' := 346) rfl (L' := ((sh, ObC Z "com/example/narrow_bounds/narrowbounds/Share" (fs_Share (.ref loA) (.ref hiA) (.int (1 : Int32)) (.int ru) (.ref owA) (.ref otA) (.ref liA) (.ref raA) (.ref olA) (.ref ohA) (.ref zlA) (.ref zhA) (.double fo) (.double fz) (.int (2 : Int32)) (.int (2 : Int32)))) :: (loA, ArC Z .double lo) :: (hiA, ArC Z .double hi) :: (raA, ArC Z .int [.int k1, .int k2, .int (0 : Int32)]) :: (owA, ArC Z .double ow) :: (otA, ArC Z .double ot) :: (olA, ArC Z .double [.double ol1, .double ol2, .double 0]) :: (ohA, ArC Z .double [.double oh1, .double oh2, .double 0]) :: (zlA, ArC Z .double [.double zl1, .double zl2, .double 0]) :: (zhA, ArC Z .double [.double zh1, .double zh2, .double 0]) :: F)) rfl ?_
      intro T117 W117 H117
      refine g_iload W117 d8_346 (pc' := 348) rfl rfl ?_
      refine g_aloadN W117 d8_348 (pc' := 349) rfl rfl rfl ?_
      refine g_getf W117 (wd_59 hw) Via.refl H117 (i := 0) rfl (jx := 14) rfl d8_349 (pc' := 352) rfl ?_
      intro T118 W118 H118
      refine g_icmp W118 d8_352 (pcy := 397) (by decide) (pc' := 355) rfl (fun _ => ?_) (fun (h : ¬ ¬ (2 : Int32) < (2 : Int32)) => absurd h (by decide))
      refine g_iinc W118 d8_397 (pc' := 400) rfl rfl (v := (3 : Int32)) (by decide) (ls' := #[.val (.ref sh), .val (.double r2), .second, .val (.double s9), .second, .val (.double s10), .second, .val (.int (3 : Int32)), .val (.double s9), .second, .val (.double s10), .second, .val (.double r2), .second, .val (.int (1 : Int32))]) rfl ?_
      refine g_goto W118 d8_400 (pc' := 175) (by decide) ?_
      refine g_iload W118 d8_175 (pc' := 177) rfl rfl ?_
      refine g_aloadN W118 d8_177 (pc' := 178) rfl rfl rfl ?_
      refine g_getf W118 (wd_59 hw) Via.refl H118 (i := 0) rfl (jx := 14) rfl d8_178 (pc' := 181) rfl ?_
      intro T119 W119 H119
      refine g_icmp W119 d8_181 (pcy := 403) (by decide) (pc' := 184) rfl (fun _ => ?_) (fun (h : ¬ (2 : Int32) < (3 : Int32)) => absurd h (by decide))
      refine g_dloadN W119 d8_403 (pc' := 404) rfl rfl ?_
      have H120f := Hp.fr3 H119
      have H121f := Hp.fr3 H120f
      have H122f := Hp.fr3 H121f
      have H123f := Hp.fr3 H122f
      exact g_dreturn W119 d8_404 ⟨_, r0, r1, r2, _, _, rfl, hr0, hr1, hr2, Or.inr (Or.inr ⟨rfl, Or.inr ⟨c97, c110⟩⟩), H123f⟩ (Nat.zero_le _) (Nat.zero_le _)
  · replace c97 := Classical.not_not.mp c97
    refine g_goto W96 d8_327 (pc' := 337) (by decide) ?_
    refine g_dload W96 d8_337 (pc' := 339) rfl rfl ?_
    refine g_dstoreN W96 d8_339 (pc' := 340) rfl (ls' := #[.val (.ref sh), .val (.double r1), .second, .val (.double s5), .second, .val (.double s6), .second, .val (.int (1 : Int32)), .val (.double s7), .second, .val (.double s8), .second, .val (.double r1), .second, .val (.int (1 : Int32))]) rfl ?_
    refine g_aloadN W96 d8_340 (pc' := 341) rfl rfl rfl ?_
    refine g_iload W96 d8_341 (pc' := 343) rfl rfl ?_
    refine g_putf W96 (wd_115 hw) Via.refl (Or.inl (wd_116 hw)) (wd_2 hw) (ty := .int) (by decide) rfl rfl H96 (i := 0) rfl (jx := 15) rfl d8_343 (pc' := 346) rfl (L' := ((sh, ObC Z "com/example/narrow_bounds/narrowbounds/Share" (fs_Share (.ref loA) (.ref hiA) (.int (1 : Int32)) (.int ru) (.ref owA) (.ref otA) (.ref liA) (.ref raA) (.ref olA) (.ref ohA) (.ref zlA) (.ref zhA) (.double fo) (.double fz) (.int (2 : Int32)) (.int (1 : Int32)))) :: (loA, ArC Z .double lo) :: (hiA, ArC Z .double hi) :: (raA, ArC Z .int [.int k1, .int k2, .int (0 : Int32)]) :: (owA, ArC Z .double ow) :: (otA, ArC Z .double ot) :: (olA, ArC Z .double [.double ol1, .double ol2, .double 0]) :: (ohA, ArC Z .double [.double oh1, .double oh2, .double 0]) :: (zlA, ArC Z .double [.double zl1, .double zl2, .double 0]) :: (zhA, ArC Z .double [.double zh1, .double zh2, .double 0]) :: F)) rfl ?_
    intro T124 W124 H124
    refine g_iload W124 d8_346 (pc' := 348) rfl rfl ?_
    refine g_aloadN W124 d8_348 (pc' := 349) rfl rfl rfl ?_
    refine g_getf W124 (wd_59 hw) Via.refl H124 (i := 0) rfl (jx := 14) rfl d8_349 (pc' := 352) rfl ?_
    intro T125 W125 H125
    refine g_icmp W125 d8_352 (pcy := 397) (by decide) (pc' := 355) rfl (fun (h : ¬ (1 : Int32) < (2 : Int32)) => absurd h (by decide)) (fun _ => ?_)
    refine g_dloadN W125 d8_355 (pc' := 356) rfl rfl ?_
    refine g_aloadN W125 d8_356 (pc' := 357) rfl rfl rfl ?_
    refine g_getf W125 (wd_30 hw) Via.refl H125 (i := 0) rfl (jx := 9) rfl d8_357 (pc' := 360) rfl ?_
    intro T126 W126 H126
    refine g_iload W126 d8_360 (pc' := 362) rfl rfl ?_
    refine g_daload W126 H126 (i := 7) rfl (jx := 1) (by decide) (v := .double oh2) rfl d8_362 (pc' := 363) rfl ?_
    refine g_aloadN W126 d8_363 (pc' := 364) rfl rfl rfl ?_
    refine g_getf W126 (wd_14 hw) Via.refl H126 (i := 0) rfl (jx := 2) rfl d8_364 (pc' := 367) rfl ?_
    intro T127 W127 H127
    refine g_callS W127 (argsL := [.double s5, .double oh2, .int (1 : Int32)]) (st := []) (wd_43 hw) (wd_44 hw) (wd_45 hw) (wd_46 hw) (by decide) (c_add1 l Z a0 hw n0 s5 oh2 _ _ _ _ hs5 hoh2 (by omega) (by omega) _ _ H127) pd_7 rfl rfl rfl d8_367 (pc' := 370) rfl (Nat.le_trans (by decide) hRf) (Wn := 0) (Nat.le_of_eq rfl) (Nat.le_trans (by decide) hRl) (kc' := 0) (ks' := 0) rfl rfl (by omega) (by omega) ?_
    intro T128 v128 W128 hp128
    obtain ⟨s11, rfl, hs11, -, H128⟩ := hp128
    show Goes _ _ _ _ (State.setTop _ (mkF _ _ _ [.double s11]))
    refine g_dstoreN W128 d8_370 (pc' := 371) rfl (ls' := #[.val (.ref sh), .val (.double r1), .second, .val (.double s11), .second, .val (.double s6), .second, .val (.int (1 : Int32)), .val (.double s7), .second, .val (.double s8), .second, .val (.double r1), .second, .val (.int (1 : Int32))]) rfl ?_
    refine g_dload W128 d8_371 (pc' := 373) rfl rfl ?_
    refine g_aloadN W128 d8_373 (pc' := 374) rfl rfl rfl ?_
    refine g_getf W128 (wd_34 hw) Via.refl H128 (i := 0) rfl (jx := 11) rfl d8_374 (pc' := 377) rfl ?_
    intro T129 W129 H129
    refine g_iload W129 d8_377 (pc' := 379) rfl rfl ?_
    refine g_daload W129 H129 (i := 9) rfl (jx := 1) (by decide) (v := .double zh2) rfl d8_379 (pc' := 380) rfl ?_
    refine g_aloadN W129 d8_380 (pc' := 381) rfl rfl rfl ?_
    refine g_getf W129 (wd_14 hw) Via.refl H129 (i := 0) rfl (jx := 2) rfl d8_381 (pc' := 384) rfl ?_
    intro T130 W130 H130
    refine g_if W130 d8_384 (pcy := 391) (by decide) (pc' := 387) rfl (fun _ => ?_) (fun (h : ¬ ¬ (1 : Int32) = (0 : Int32)) => absurd h (by decide))
    refine g_iconst W130 d8_391 (pc' := 392) rfl (v := (0 : Int32)) (by decide) ?_
    refine g_callS W130 (argsL := [.double s6, .double zh2, .int (0 : Int32)]) (st := []) (wd_43 hw) (wd_44 hw) (wd_45 hw) (wd_46 hw) (by decide) (c_add0 l Z a0 hw n0 s6 zh2 _ _ _ _ hs6 hzh2 (by omega) (by omega) _ _ H130) pd_7 rfl rfl rfl d8_392 (pc' := 395) rfl (Nat.le_trans (by decide) hRf) (Wn := 0) (Nat.le_of_eq rfl) (Nat.le_trans (by decide) hRl) (kc' := 0) (ks' := 0) rfl rfl (by omega) (by omega) ?_
    intro T131 v131 W131 hp131
    obtain ⟨s12, rfl, hs12, -, H131⟩ := hp131
    show Goes _ _ _ _ (State.setTop _ (mkF _ _ _ [.double s12]))
    refine g_dstore W131 d8_395 (pc' := 397) rfl (ls' := #[.val (.ref sh), .val (.double r1), .second, .val (.double s11), .second, .val (.double s12), .second, .val (.int (1 : Int32)), .val (.double s7), .second, .val (.double s8), .second, .val (.double r1), .second, .val (.int (1 : Int32))]) rfl ?_
    refine g_iinc W131 d8_397 (pc' := 400) rfl rfl (v := (2 : Int32)) (by decide) (ls' := #[.val (.ref sh), .val (.double r1), .second, .val (.double s11), .second, .val (.double s12), .second, .val (.int (2 : Int32)), .val (.double s7), .second, .val (.double s8), .second, .val (.double r1), .second, .val (.int (1 : Int32))]) rfl ?_
    refine g_goto W131 d8_400 (pc' := 175) (by decide) ?_
    refine g_iload W131 d8_175 (pc' := 177) rfl rfl ?_
    refine g_aloadN W131 d8_177 (pc' := 178) rfl rfl rfl ?_
    refine g_getf W131 (wd_59 hw) Via.refl H131 (i := 0) rfl (jx := 14) rfl d8_178 (pc' := 181) rfl ?_
    intro T132 W132 H132
    refine g_icmp W132 d8_181 (pcy := 403) (by decide) (pc' := 184) rfl (fun (h : (2 : Int32) < (2 : Int32)) => absurd h (by decide)) (fun _ => ?_)
    refine g_dloadN W132 d8_184 (pc' := 185) rfl rfl ?_
    refine g_dstore W132 d8_185 (pc' := 187) rfl (ls' := #[.val (.ref sh), .val (.double r1), .second, .val (.double s11), .second, .val (.double s12), .second, .val (.int (2 : Int32)), .val (.double s11), .second, .val (.double s8), .second, .val (.double r1), .second, .val (.int (1 : Int32))]) rfl ?_
    refine g_dload W132 d8_187 (pc' := 189) rfl rfl ?_
    refine g_dstore W132 d8_189 (pc' := 191) rfl (ls' := #[.val (.ref sh), .val (.double r1), .second, .val (.double s11), .second, .val (.double s12), .second, .val (.int (2 : Int32)), .val (.double s11), .second, .val (.double s12), .second, .val (.double r1), .second, .val (.int (1 : Int32))]) rfl ?_
    refine g_iload W132 d8_191 (pc' := 193) rfl rfl ?_
    refine g_istore W132 d8_193 (pc' := 195) rfl (ls' := #[.val (.ref sh), .val (.double r1), .second, .val (.double s11), .second, .val (.double s12), .second, .val (.int (2 : Int32)), .val (.double s11), .second, .val (.double s12), .second, .val (.int (2 : Int32)), .unset, .val (.int (1 : Int32))]) rfl ?_
    refine g_iload W132 d8_195 (pc' := 197) rfl rfl ?_
    refine g_aloadN W132 d8_197 (pc' := 198) rfl rfl rfl ?_
    refine g_getf W132 (wd_59 hw) Via.refl H132 (i := 0) rfl (jx := 14) rfl d8_198 (pc' := 201) rfl ?_
    intro T133 W133 H133
    refine g_icmp W133 d8_201 (pcy := 254) (by decide) (pc' := 204) rfl (fun _ => ?_) (fun (h : ¬ ¬ (2 : Int32) < (2 : Int32)) => absurd h (by decide))
    refine g_aloadN W133 d8_254 (pc' := 255) rfl rfl rfl ?_
    refine g_getf W133 (wd_14 hw) Via.refl H133 (i := 0) rfl (jx := 2) rfl d8_255 (pc' := 258) rfl ?_
    intro T134 W134 H134
    refine g_if W134 d8_258 (pcy := 271) (by decide) (pc' := 261) rfl (fun (h : (1 : Int32) = (0 : Int32)) => absurd h (by decide)) (fun _ => ?_)
    refine g_dload W134 d8_261 (pc' := 263) rfl rfl ?_
    refine g_dload W134 d8_263 (pc' := 265) rfl rfl ?_
    refine g_callS W134 (argsL := [.double s11, .double s12]) (st := []) (wd_135 hw) (wd_136 hw) (wd_3 hw) (wd_137 hw) (by decide) (c_great l Z a0 hw n0 s11 s12 _ _ _ _ hs11 hs12 (by omega) (by omega) (by omega) (by omega) _ _ H134) pd_2 rfl rfl rfl d8_265 (pc' := 268) rfl (Nat.le_trans (by decide) hRf) (Wn := 0) (Nat.le_of_eq rfl) (Nat.le_trans (by decide) hRl) (kc' := 0) (ks' := 0) rfl rfl (by omega) (by omega) ?_
    intro T135 v135 W135 hp135
    obtain ⟨r2, rfl, hr2, H135⟩ := hp135
    show Goes _ _ _ _ (State.setTop _ (mkF _ _ _ [.double r2]))
    refine g_goto W135 d8_268 (pc' := 278) (by decide) ?_
    refine g_dstore W135 d8_278 (pc' := 280) rfl (ls' := #[.val (.ref sh), .val (.double r1), .second, .val (.double s11), .second, .val (.double s12), .second, .val (.int (2 : Int32)), .val (.double s11), .second, .val (.double s12), .second, .val (.double r2), .second, .val (.int (1 : Int32))]) rfl ?_
    refine g_dload W135 d8_280 (pc' := 282) rfl rfl ?_
    refine g_dconst0 W135 d8_282 (pc' := 283) rfl ?_
    refine g_dcmp W135 d8_283 (pc' := 284) rfl rfl ?_
    rw [show (cmpValue (FP.dcmp s11 0) .l) = (1 : Int32) from (by rw [pos_gt (hs11.get (by omega)) (by omega)]; rfl)]
    refine g_if W135 d8_284 (pcy := 294) (by decide) (pc' := 287) rfl (fun _ => ?_) (fun (h : ¬ (0 : Int32) < (1 : Int32)) => absurd h (by decide))
    refine g_iconst W135 d8_294 (pc' := 295) rfl (v := (1 : Int32)) (by decide) ?_
    refine g_goto W135 d8_295 (pc' := 299) (by decide) ?_
    refine g_istore W135 d8_299 (pc' := 301) rfl (ls' := #[.val (.ref sh), .val (.double r1), .second, .val (.double s11), .second, .val (.double s12), .second, .val (.int (2 : Int32)), .val (.double s11), .second, .val (.double s12), .second, .val (.double r2), .second, .val (.int (1 : Int32))]) rfl ?_
    refine g_iload W135 d8_301 (pc' := 303) rfl rfl ?_
    refine g_if W135 d8_303 (pcy := 313) (by decide) (pc' := 306) rfl (fun _ => ?_) (fun (h : ¬ ¬ (1 : Int32) = (0 : Int32)) => absurd h (by decide))
    refine g_aloadN W135 d8_313 (pc' := 314) rfl rfl rfl ?_
    refine g_getf W135 (wd_14 hw) Via.refl H135 (i := 0) rfl (jx := 2) rfl d8_314 (pc' := 317) rfl ?_
    intro T136 W136 H136
    refine g_if W136 d8_317 (pcy := 330) (by decide) (pc' := 320) rfl (fun (h : (1 : Int32) = (0 : Int32)) => absurd h (by decide)) (fun _ => ?_)
    refine g_dload W136 d8_320 (pc' := 322) rfl rfl ?_
    refine g_dloadN W136 d8_322 (pc' := 323) rfl rfl ?_
    refine g_dcmp W136 d8_323 (pc' := 324) rfl rfl ?_
    refine g_if W136 d8_324 (pcy := 346) (by decide) (pc' := 327) rfl (fun (c137 : ¬ (0 : Int32) < (cmpValue (FP.dcmp r2 r1) .l)) => ?_) (fun (c137 : ¬ ¬ (0 : Int32) < (cmpValue (FP.dcmp r2 r1) .l)) => ?_)
    · refine g_iload W136 d8_346 (pc' := 348) rfl rfl ?_
      refine g_aloadN W136 d8_348 (pc' := 349) rfl rfl rfl ?_
      refine g_getf W136 (wd_59 hw) Via.refl H136 (i := 0) rfl (jx := 14) rfl d8_349 (pc' := 352) rfl ?_
      intro T138 W138 H138
      refine g_icmp W138 d8_352 (pcy := 397) (by decide) (pc' := 355) rfl (fun _ => ?_) (fun (h : ¬ ¬ (2 : Int32) < (2 : Int32)) => absurd h (by decide))
      refine g_iinc W138 d8_397 (pc' := 400) rfl rfl (v := (3 : Int32)) (by decide) (ls' := #[.val (.ref sh), .val (.double r1), .second, .val (.double s11), .second, .val (.double s12), .second, .val (.int (3 : Int32)), .val (.double s11), .second, .val (.double s12), .second, .val (.double r2), .second, .val (.int (1 : Int32))]) rfl ?_
      refine g_goto W138 d8_400 (pc' := 175) (by decide) ?_
      refine g_iload W138 d8_175 (pc' := 177) rfl rfl ?_
      refine g_aloadN W138 d8_177 (pc' := 178) rfl rfl rfl ?_
      refine g_getf W138 (wd_59 hw) Via.refl H138 (i := 0) rfl (jx := 14) rfl d8_178 (pc' := 181) rfl ?_
      intro T139 W139 H139
      refine g_icmp W139 d8_181 (pcy := 403) (by decide) (pc' := 184) rfl (fun _ => ?_) (fun (h : ¬ (2 : Int32) < (3 : Int32)) => absurd h (by decide))
      refine g_dloadN W139 d8_403 (pc' := 404) rfl rfl ?_
      have H140f := Hp.fr3 H139
      have H141f := Hp.fr3 H140f
      have H142f := Hp.fr3 H141f
      have H143f := Hp.fr3 H142f
      exact g_dreturn W139 d8_404 ⟨_, r0, r1, r2, _, _, rfl, hr0, hr1, hr2, Or.inr (Or.inl ⟨rfl, c97, c137⟩), H143f⟩ (Nat.zero_le _) (Nat.zero_le _)
    · replace c137 := Classical.not_not.mp c137
      refine g_goto W136 d8_327 (pc' := 337) (by decide) ?_
      refine g_dload W136 d8_337 (pc' := 339) rfl rfl ?_
      refine g_dstoreN W136 d8_339 (pc' := 340) rfl (ls' := #[.val (.ref sh), .val (.double r2), .second, .val (.double s11), .second, .val (.double s12), .second, .val (.int (2 : Int32)), .val (.double s11), .second, .val (.double s12), .second, .val (.double r2), .second, .val (.int (1 : Int32))]) rfl ?_
      refine g_aloadN W136 d8_340 (pc' := 341) rfl rfl rfl ?_
      refine g_iload W136 d8_341 (pc' := 343) rfl rfl ?_
      refine g_putf W136 (wd_115 hw) Via.refl (Or.inl (wd_116 hw)) (wd_2 hw) (ty := .int) (by decide) rfl rfl H136 (i := 0) rfl (jx := 15) rfl d8_343 (pc' := 346) rfl (L' := ((sh, ObC Z "com/example/narrow_bounds/narrowbounds/Share" (fs_Share (.ref loA) (.ref hiA) (.int (1 : Int32)) (.int ru) (.ref owA) (.ref otA) (.ref liA) (.ref raA) (.ref olA) (.ref ohA) (.ref zlA) (.ref zhA) (.double fo) (.double fz) (.int (2 : Int32)) (.int (2 : Int32)))) :: (loA, ArC Z .double lo) :: (hiA, ArC Z .double hi) :: (raA, ArC Z .int [.int k1, .int k2, .int (0 : Int32)]) :: (owA, ArC Z .double ow) :: (otA, ArC Z .double ot) :: (olA, ArC Z .double [.double ol1, .double ol2, .double 0]) :: (ohA, ArC Z .double [.double oh1, .double oh2, .double 0]) :: (zlA, ArC Z .double [.double zl1, .double zl2, .double 0]) :: (zhA, ArC Z .double [.double zh1, .double zh2, .double 0]) :: F)) rfl ?_
      intro T144 W144 H144
      refine g_iload W144 d8_346 (pc' := 348) rfl rfl ?_
      refine g_aloadN W144 d8_348 (pc' := 349) rfl rfl rfl ?_
      refine g_getf W144 (wd_59 hw) Via.refl H144 (i := 0) rfl (jx := 14) rfl d8_349 (pc' := 352) rfl ?_
      intro T145 W145 H145
      refine g_icmp W145 d8_352 (pcy := 397) (by decide) (pc' := 355) rfl (fun _ => ?_) (fun (h : ¬ ¬ (2 : Int32) < (2 : Int32)) => absurd h (by decide))
      refine g_iinc W145 d8_397 (pc' := 400) rfl rfl (v := (3 : Int32)) (by decide) (ls' := #[.val (.ref sh), .val (.double r2), .second, .val (.double s11), .second, .val (.double s12), .second, .val (.int (3 : Int32)), .val (.double s11), .second, .val (.double s12), .second, .val (.double r2), .second, .val (.int (1 : Int32))]) rfl ?_
      refine g_goto W145 d8_400 (pc' := 175) (by decide) ?_
      refine g_iload W145 d8_175 (pc' := 177) rfl rfl ?_
      refine g_aloadN W145 d8_177 (pc' := 178) rfl rfl rfl ?_
      refine g_getf W145 (wd_59 hw) Via.refl H145 (i := 0) rfl (jx := 14) rfl d8_178 (pc' := 181) rfl ?_
      intro T146 W146 H146
      refine g_icmp W146 d8_181 (pcy := 403) (by decide) (pc' := 184) rfl (fun _ => ?_) (fun (h : ¬ (2 : Int32) < (3 : Int32)) => absurd h (by decide))
      refine g_dloadN W146 d8_403 (pc' := 404) rfl rfl ?_
      have H147f := Hp.fr3 H146
      have H148f := Hp.fr3 H147f
      have H149f := Hp.fr3 H148f
      have H150f := Hp.fr3 H149f
      exact g_dreturn W146 d8_404 ⟨_, r0, r1, r2, _, _, rfl, hr0, hr1, hr2, Or.inr (Or.inr ⟨rfl, Or.inl ⟨c97, c137⟩⟩), H150f⟩ (Nat.zero_le _) (Nat.zero_le _)
theorem c_ex0oo (l : Launch) (Z : State) (a0 : Array Value) (hw : ∀ d ∈ tables_1, d.before a0 Z = true) (n0 : Nat) (sh loA hiA owA otA liA raA olA ohA zlA zhA : Addr) (ru : Int32) (fo fz : UInt64) (at0 : Int32) (ka kb : Int32) (ia ib : Nat) (hia : ka.toInt = (ia : Int)) (hib : kb.toInt = (ib : Int)) (ow ot : List Value) (e1 e2 : Int32) (h1 : e1 ∈ coL) (h2 : e2 ∈ coL) (wa : ow[ia]? = some (.double (FP.i2d e1))) (za : ot[ia]? = some (.double 0)) (wb : ow[ib]? = some (.double (FP.i2d e2))) (zb : ot[ib]? = some (.double 0)) (lo hi : List Value) (La Ha : UInt64) (la ha n1 : Nat) (gLa : lo[ia]? = some (.double La)) (dLa : Jvm.OwnKit.Dy (la : Int) 0 La) (gHa : hi[ia]? = some (.double Ha)) (dHa : Jvm.OwnKit.Dy (ha : Int) 0 Ha) (bLa : la ≤ 31) (bHa : ha ≤ 31) (dn1 : Jvm.OwnKit.Dy (n1 : Int) 0 (FP.i2d e1)) (bn1 : n1 ≤ 16) (Lb Hb : UInt64) (lb hb n2 : Nat) (gLb : lo[ib]? = some (.double Lb)) (dLb : Jvm.OwnKit.Dy (lb : Int) 0 Lb) (gHb : hi[ib]? = some (.double Hb)) (dHb : Jvm.OwnKit.Dy (hb : Int) 0 Hb) (bLb : lb ≤ 31) (bHb : hb ≤ 31) (dn2 : Jvm.OwnKit.Dy (n2 : Int) 0 (FP.i2d e2)) (bn2 : n2 ≤ 16) (nf ng : Nat) (hfo : Nr nf 0 fo) (hfz : Nr ng 0 fz) (nf1 : 1 ≤ nf) (nf2 : nf ≤ 16) (ng1 : 1 ≤ ng) (ng2 : ng ≤ 16)  (h0 : Heap) (F : List HRow) (H00 : Hp Z n0 h0 ((sh, ObC Z "com/example/narrow_bounds/narrowbounds/Share" (fs_Share (.ref loA) (.ref hiA) (.int (0 : Int32)) (.int ru) (.ref owA) (.ref otA) (.ref liA) (.ref raA) (.ref olA) (.ref ohA) (.ref zlA) (.ref zhA) (.double fo) (.double fz) (.int (2 : Int32)) (.int at0))) :: (loA, ArC Z .double lo) :: (hiA, ArC Z .double hi) :: (raA, ArC Z .int [.int ka, .int kb, .int (0 : Int32)]) :: (owA, ArC Z .double ow) :: (otA, ArC Z .double ot) :: (olA, ArC Z .double [.double 0, .double 0, .double 0]) :: (ohA, ArC Z .double [.double 0, .double 0, .double 0]) :: (zlA, ArC Z .double [.double 0, .double 0, .double 0]) :: (zhA, ArC Z .double [.double 0, .double 0, .double 0]) :: F)) :
    Con l Z n0 ⟨"com/example/narrow_bounds/narrowbounds/Share", "extreme", "()D"⟩ [] prog_45_method_4_code 15 (some .double) ({ frames := 6, cells := 0, slots := 0, locals := 127 } : Room) #[.ref sh] h0 (fun v h => ∃ (g r0 r1 r2 : UInt64) (t : Int32) (J : List HRow), v = some (.double g) ∧ Sh (nf + la * n1 + lb * n2) ((nf + la * n1 + lb * n2) + (ng + la * 0 + lb * 0)) r0 ∧ Sh (nf + ha * n1 + lb * n2) ((nf + ha * n1 + lb * n2) + (ng + ha * 0 + lb * 0)) r1 ∧ Sh (nf + ha * n1 + hb * n2) ((nf + ha * n1 + hb * n2) + (ng + ha * 0 + hb * 0)) r2 ∧ ChL t r0 r1 r2 ∧ Hp Z n0 h ((sh, ObC Z "com/example/narrow_bounds/narrowbounds/Share" (fs_Share (.ref loA) (.ref hiA) (.int (0 : Int32)) (.int ru) (.ref owA) (.ref otA) (.ref liA) (.ref raA) (.ref olA) (.ref ohA) (.ref zlA) (.ref zhA) (.double fo) (.double fz) (.int (2 : Int32)) (.int t))) :: (loA, ArC Z .double lo) :: (hiA, ArC Z .double hi) :: (raA, ArC Z .int [.int ka, .int kb, .int (0 : Int32)]) :: J)) := by
  refine con_of (plainFor_of_name pn_Share) ?_
  intro p e s m below meth c T0 W0 e0
  subst e0
  have H0 := H00
  refine g_cast (ef_r15 m sh) ?_
  refine g_aloadN W0 d8_0 (pc' := 1) rfl rfl rfl ?_
  have H1f := Hp.fr3 H0
  have H2f := Hp.fr5 H1f
  have H3f := Hp.fr5 H2f
  have H4f := Hp.fr3 H3f
  refine g_callP W0 (argsL := []) (st := []) (wd_66 hw) (wd_67 hw) (wd_68 hw) (wd_2 hw) (wd_3 hw) (wd_69 hw) (by decide) (a := sh) H4f (i := 0) rfl (c_sr0oo l Z a0 hw n0 sh loA hiA owA otA liA raA olA ohA zlA zhA ru fo fz at0 ka kb ia ib hia hib ow ot e1 e2 h1 h2 wa za wb zb _ _ H4f) pd_8 rfl rfl rfl d8_1 (pc' := 4) rfl (by decide) (Wn := 0) (Nat.le_of_eq rfl) (by decide) (kc' := 0) (ks' := 0) rfl rfl (by decide) (by decide) ?_
  intro T5 v5 W5 hp5
  obtain ⟨rfl, H5⟩ := hp5
  show Goes _ _ _ _ (State.setTop _ (mkF _ _ _ []))
  have H6f := Hp.fr9 H5
  have H7f := Hp.fr9 H6f
  have H8f := Hp.fr9 H7f
  have H9f := Hp.fr9 H8f
  have H10f := Hp.fr6 H9f
  have H11f := Hp.fr6 H10f
  have H12f := Hp.fr7 H11f
  have H13f := Hp.fr9 H12f
  have H14f := Hp.fr9 H13f
  have H15f := Hp.fr9 H14f
  exact ex_tail0 l Z a0 hw n0 sh loA hiA owA otA liA raA olA ohA zlA zhA ru fo fz at0 lo hi ow ot ka kb ia ib hia hib La Ha (FP.i2d e1) 0 Lb Hb (FP.i2d e2) 0 la ha n1 0 lb hb n2 0 nf ng gLa dLa (by omega) gHa dHa (by omega) wa dn1 (by omega) za dy_z (by omega) (by have := Nat.mul_le_mul bLa bn1; omega) (by have := Nat.mul_le_mul bHa bn1; omega) gLb dLb (by omega) gHb dHb (by omega) wb dn2 (by omega) zb dy_z (by omega) (by have := Nat.mul_le_mul bLb bn2; omega) (by have := Nat.mul_le_mul bHb bn2; omega) hfo hfz nf1 nf2 ng1 ng2 _ _ p e _ s m below meth c (by decide) (by decide) _ W5 H15f
theorem c_ex0oz (l : Launch) (Z : State) (a0 : Array Value) (hw : ∀ d ∈ tables_1, d.before a0 Z = true) (n0 : Nat) (sh loA hiA owA otA liA raA olA ohA zlA zhA : Addr) (ru : Int32) (fo fz : UInt64) (at0 : Int32) (ka kb : Int32) (ia ib : Nat) (hia : ka.toInt = (ia : Int)) (hib : kb.toInt = (ib : Int)) (ow ot : List Value) (e1 e2 : Int32) (h1 : e1 ∈ coL) (h2 : e2 ∈ coL) (wa : ow[ia]? = some (.double (FP.i2d e1))) (za : ot[ia]? = some (.double 0)) (wb : ow[ib]? = some (.double 0)) (zb : ot[ib]? = some (.double (FP.i2d e2))) (lo hi : List Value) (La Ha : UInt64) (la ha n1 : Nat) (gLa : lo[ia]? = some (.double La)) (dLa : Jvm.OwnKit.Dy (la : Int) 0 La) (gHa : hi[ia]? = some (.double Ha)) (dHa : Jvm.OwnKit.Dy (ha : Int) 0 Ha) (bLa : la ≤ 31) (bHa : ha ≤ 31) (dn1 : Jvm.OwnKit.Dy (n1 : Int) 0 (FP.i2d e1)) (bn1 : n1 ≤ 16) (Lb Hb : UInt64) (lb hb n2 : Nat) (gLb : lo[ib]? = some (.double Lb)) (dLb : Jvm.OwnKit.Dy (lb : Int) 0 Lb) (gHb : hi[ib]? = some (.double Hb)) (dHb : Jvm.OwnKit.Dy (hb : Int) 0 Hb) (bLb : lb ≤ 31) (bHb : hb ≤ 31) (dn2 : Jvm.OwnKit.Dy (n2 : Int) 0 (FP.i2d e2)) (bn2 : n2 ≤ 16) (nf ng : Nat) (hfo : Nr nf 0 fo) (hfz : Nr ng 0 fz) (nf1 : 1 ≤ nf) (nf2 : nf ≤ 16) (ng1 : 1 ≤ ng) (ng2 : ng ≤ 16)  (h0 : Heap) (F : List HRow) (H00 : Hp Z n0 h0 ((sh, ObC Z "com/example/narrow_bounds/narrowbounds/Share" (fs_Share (.ref loA) (.ref hiA) (.int (0 : Int32)) (.int ru) (.ref owA) (.ref otA) (.ref liA) (.ref raA) (.ref olA) (.ref ohA) (.ref zlA) (.ref zhA) (.double fo) (.double fz) (.int (2 : Int32)) (.int at0))) :: (loA, ArC Z .double lo) :: (hiA, ArC Z .double hi) :: (raA, ArC Z .int [.int ka, .int kb, .int (0 : Int32)]) :: (owA, ArC Z .double ow) :: (otA, ArC Z .double ot) :: (olA, ArC Z .double [.double 0, .double 0, .double 0]) :: (ohA, ArC Z .double [.double 0, .double 0, .double 0]) :: (zlA, ArC Z .double [.double 0, .double 0, .double 0]) :: (zhA, ArC Z .double [.double 0, .double 0, .double 0]) :: F)) :
    Con l Z n0 ⟨"com/example/narrow_bounds/narrowbounds/Share", "extreme", "()D"⟩ [] prog_45_method_4_code 15 (some .double) ({ frames := 5, cells := 0, slots := 0, locals := 108 } : Room) #[.ref sh] h0 (fun v h => ∃ (g r0 r1 r2 : UInt64) (t : Int32) (J : List HRow), v = some (.double g) ∧ Sh (nf + lb * 0 + la * n1) ((nf + lb * 0 + la * n1) + (ng + lb * n2 + la * 0)) r0 ∧ Sh (nf + hb * 0 + la * n1) ((nf + hb * 0 + la * n1) + (ng + hb * n2 + la * 0)) r1 ∧ Sh (nf + hb * 0 + ha * n1) ((nf + hb * 0 + ha * n1) + (ng + hb * n2 + ha * 0)) r2 ∧ ChL t r0 r1 r2 ∧ Hp Z n0 h ((sh, ObC Z "com/example/narrow_bounds/narrowbounds/Share" (fs_Share (.ref loA) (.ref hiA) (.int (0 : Int32)) (.int ru) (.ref owA) (.ref otA) (.ref liA) (.ref raA) (.ref olA) (.ref ohA) (.ref zlA) (.ref zhA) (.double fo) (.double fz) (.int (2 : Int32)) (.int t))) :: (loA, ArC Z .double lo) :: (hiA, ArC Z .double hi) :: (raA, ArC Z .int [.int kb, .int ka, .int (0 : Int32)]) :: J)) := by
  refine con_of (plainFor_of_name pn_Share) ?_
  intro p e s m below meth c T0 W0 e0
  subst e0
  have H0 := H00
  refine g_cast (ef_r15 m sh) ?_
  refine g_aloadN W0 d8_0 (pc' := 1) rfl rfl rfl ?_
  have H1f := Hp.fr3 H0
  have H2f := Hp.fr5 H1f
  have H3f := Hp.fr5 H2f
  have H4f := Hp.fr3 H3f
  refine g_callP W0 (argsL := []) (st := []) (wd_66 hw) (wd_67 hw) (wd_68 hw) (wd_2 hw) (wd_3 hw) (wd_69 hw) (by decide) (a := sh) H4f (i := 0) rfl (c_sr0oz l Z a0 hw n0 sh loA hiA owA otA liA raA olA ohA zlA zhA ru fo fz at0 ka kb ia ib hia hib ow ot e1 e2 h1 h2 wa za wb zb _ _ H4f) pd_8 rfl rfl rfl d8_1 (pc' := 4) rfl (by decide) (Wn := 0) (Nat.le_of_eq rfl) (by decide) (kc' := 0) (ks' := 0) rfl rfl (by decide) (by decide) ?_
  intro T5 v5 W5 hp5
  obtain ⟨rfl, H5⟩ := hp5
  show Goes _ _ _ _ (State.setTop _ (mkF _ _ _ []))
  have H6f := Hp.fr9 H5
  have H7f := Hp.fr9 H6f
  have H8f := Hp.fr9 H7f
  have H9f := Hp.fr9 H8f
  have H10f := Hp.fr6 H9f
  have H11f := Hp.fr6 H10f
  have H12f := Hp.fr7 H11f
  have H13f := Hp.fr9 H12f
  have H14f := Hp.fr9 H13f
  have H15f := Hp.fr9 H14f
  exact ex_tail0 l Z a0 hw n0 sh loA hiA owA otA liA raA olA ohA zlA zhA ru fo fz at0 lo hi ow ot kb ka ib ia hib hia Lb Hb 0 (FP.i2d e2) La Ha (FP.i2d e1) 0 lb hb 0 n2 la ha n1 0 nf ng gLb dLb (by omega) gHb dHb (by omega) wb dy_z (by omega) zb dn2 (by omega) (by have := Nat.mul_le_mul bLb bn2; omega) (by have := Nat.mul_le_mul bHb bn2; omega) gLa dLa (by omega) gHa dHa (by omega) wa dn1 (by omega) za dy_z (by omega) (by have := Nat.mul_le_mul bLa bn1; omega) (by have := Nat.mul_le_mul bHa bn1; omega) hfo hfz nf1 nf2 ng1 ng2 _ _ p e _ s m below meth c (by decide) (by decide) _ W5 H15f
theorem c_ex0zo (l : Launch) (Z : State) (a0 : Array Value) (hw : ∀ d ∈ tables_1, d.before a0 Z = true) (n0 : Nat) (sh loA hiA owA otA liA raA olA ohA zlA zhA : Addr) (ru : Int32) (fo fz : UInt64) (at0 : Int32) (ka kb : Int32) (ia ib : Nat) (hia : ka.toInt = (ia : Int)) (hib : kb.toInt = (ib : Int)) (ow ot : List Value) (e1 e2 : Int32) (h1 : e1 ∈ coL) (h2 : e2 ∈ coL) (wa : ow[ia]? = some (.double 0)) (za : ot[ia]? = some (.double (FP.i2d e1))) (wb : ow[ib]? = some (.double (FP.i2d e2))) (zb : ot[ib]? = some (.double 0)) (lo hi : List Value) (La Ha : UInt64) (la ha n1 : Nat) (gLa : lo[ia]? = some (.double La)) (dLa : Jvm.OwnKit.Dy (la : Int) 0 La) (gHa : hi[ia]? = some (.double Ha)) (dHa : Jvm.OwnKit.Dy (ha : Int) 0 Ha) (bLa : la ≤ 31) (bHa : ha ≤ 31) (dn1 : Jvm.OwnKit.Dy (n1 : Int) 0 (FP.i2d e1)) (bn1 : n1 ≤ 16) (Lb Hb : UInt64) (lb hb n2 : Nat) (gLb : lo[ib]? = some (.double Lb)) (dLb : Jvm.OwnKit.Dy (lb : Int) 0 Lb) (gHb : hi[ib]? = some (.double Hb)) (dHb : Jvm.OwnKit.Dy (hb : Int) 0 Hb) (bLb : lb ≤ 31) (bHb : hb ≤ 31) (dn2 : Jvm.OwnKit.Dy (n2 : Int) 0 (FP.i2d e2)) (bn2 : n2 ≤ 16) (nf ng : Nat) (hfo : Nr nf 0 fo) (hfz : Nr ng 0 fz) (nf1 : 1 ≤ nf) (nf2 : nf ≤ 16) (ng1 : 1 ≤ ng) (ng2 : ng ≤ 16)  (h0 : Heap) (F : List HRow) (H00 : Hp Z n0 h0 ((sh, ObC Z "com/example/narrow_bounds/narrowbounds/Share" (fs_Share (.ref loA) (.ref hiA) (.int (0 : Int32)) (.int ru) (.ref owA) (.ref otA) (.ref liA) (.ref raA) (.ref olA) (.ref ohA) (.ref zlA) (.ref zhA) (.double fo) (.double fz) (.int (2 : Int32)) (.int at0))) :: (loA, ArC Z .double lo) :: (hiA, ArC Z .double hi) :: (raA, ArC Z .int [.int ka, .int kb, .int (0 : Int32)]) :: (owA, ArC Z .double ow) :: (otA, ArC Z .double ot) :: (olA, ArC Z .double [.double 0, .double 0, .double 0]) :: (ohA, ArC Z .double [.double 0, .double 0, .double 0]) :: (zlA, ArC Z .double [.double 0, .double 0, .double 0]) :: (zhA, ArC Z .double [.double 0, .double 0, .double 0]) :: F)) :
    Con l Z n0 ⟨"com/example/narrow_bounds/narrowbounds/Share", "extreme", "()D"⟩ [] prog_45_method_4_code 15 (some .double) ({ frames := 5, cells := 0, slots := 0, locals := 108 } : Room) #[.ref sh] h0 (fun v h => ∃ (g r0 r1 r2 : UInt64) (t : Int32) (J : List HRow), v = some (.double g) ∧ Sh (nf + la * 0 + lb * n2) ((nf + la * 0 + lb * n2) + (ng + la * n1 + lb * 0)) r0 ∧ Sh (nf + ha * 0 + lb * n2) ((nf + ha * 0 + lb * n2) + (ng + ha * n1 + lb * 0)) r1 ∧ Sh (nf + ha * 0 + hb * n2) ((nf + ha * 0 + hb * n2) + (ng + ha * n1 + hb * 0)) r2 ∧ ChL t r0 r1 r2 ∧ Hp Z n0 h ((sh, ObC Z "com/example/narrow_bounds/narrowbounds/Share" (fs_Share (.ref loA) (.ref hiA) (.int (0 : Int32)) (.int ru) (.ref owA) (.ref otA) (.ref liA) (.ref raA) (.ref olA) (.ref ohA) (.ref zlA) (.ref zhA) (.double fo) (.double fz) (.int (2 : Int32)) (.int t))) :: (loA, ArC Z .double lo) :: (hiA, ArC Z .double hi) :: (raA, ArC Z .int [.int ka, .int kb, .int (0 : Int32)]) :: J)) := by
  refine con_of (plainFor_of_name pn_Share) ?_
  intro p e s m below meth c T0 W0 e0
  subst e0
  have H0 := H00
  refine g_cast (ef_r15 m sh) ?_
  refine g_aloadN W0 d8_0 (pc' := 1) rfl rfl rfl ?_
  have H1f := Hp.fr3 H0
  have H2f := Hp.fr5 H1f
  have H3f := Hp.fr5 H2f
  have H4f := Hp.fr3 H3f
  refine g_callP W0 (argsL := []) (st := []) (wd_66 hw) (wd_67 hw) (wd_68 hw) (wd_2 hw) (wd_3 hw) (wd_69 hw) (by decide) (a := sh) H4f (i := 0) rfl (c_sr0zo l Z a0 hw n0 sh loA hiA owA otA liA raA olA ohA zlA zhA ru fo fz at0 ka kb ia ib hia hib ow ot e1 e2 h1 h2 wa za wb zb _ _ H4f) pd_8 rfl rfl rfl d8_1 (pc' := 4) rfl (by decide) (Wn := 0) (Nat.le_of_eq rfl) (by decide) (kc' := 0) (ks' := 0) rfl rfl (by decide) (by decide) ?_
  intro T5 v5 W5 hp5
  obtain ⟨rfl, H5⟩ := hp5
  show Goes _ _ _ _ (State.setTop _ (mkF _ _ _ []))
  have H6f := Hp.fr9 H5
  have H7f := Hp.fr9 H6f
  have H8f := Hp.fr9 H7f
  have H9f := Hp.fr9 H8f
  have H10f := Hp.fr6 H9f
  have H11f := Hp.fr6 H10f
  have H12f := Hp.fr7 H11f
  have H13f := Hp.fr9 H12f
  have H14f := Hp.fr9 H13f
  have H15f := Hp.fr9 H14f
  exact ex_tail0 l Z a0 hw n0 sh loA hiA owA otA liA raA olA ohA zlA zhA ru fo fz at0 lo hi ow ot ka kb ia ib hia hib La Ha 0 (FP.i2d e1) Lb Hb (FP.i2d e2) 0 la ha 0 n1 lb hb n2 0 nf ng gLa dLa (by omega) gHa dHa (by omega) wa dy_z (by omega) za dn1 (by omega) (by have := Nat.mul_le_mul bLa bn1; omega) (by have := Nat.mul_le_mul bHa bn1; omega) gLb dLb (by omega) gHb dHb (by omega) wb dn2 (by omega) zb dy_z (by omega) (by have := Nat.mul_le_mul bLb bn2; omega) (by have := Nat.mul_le_mul bHb bn2; omega) hfo hfz nf1 nf2 ng1 ng2 _ _ p e _ s m below meth c (by decide) (by decide) _ W5 H15f
theorem c_ex0zz (l : Launch) (Z : State) (a0 : Array Value) (hw : ∀ d ∈ tables_1, d.before a0 Z = true) (n0 : Nat) (sh loA hiA owA otA liA raA olA ohA zlA zhA : Addr) (ru : Int32) (fo fz : UInt64) (at0 : Int32) (ka kb : Int32) (ia ib : Nat) (hia : ka.toInt = (ia : Int)) (hib : kb.toInt = (ib : Int)) (ow ot : List Value) (e1 e2 : Int32) (h1 : e1 ∈ coL) (h2 : e2 ∈ coL) (wa : ow[ia]? = some (.double 0)) (za : ot[ia]? = some (.double (FP.i2d e1))) (wb : ow[ib]? = some (.double 0)) (zb : ot[ib]? = some (.double (FP.i2d e2))) (lo hi : List Value) (La Ha : UInt64) (la ha n1 : Nat) (gLa : lo[ia]? = some (.double La)) (dLa : Jvm.OwnKit.Dy (la : Int) 0 La) (gHa : hi[ia]? = some (.double Ha)) (dHa : Jvm.OwnKit.Dy (ha : Int) 0 Ha) (bLa : la ≤ 31) (bHa : ha ≤ 31) (dn1 : Jvm.OwnKit.Dy (n1 : Int) 0 (FP.i2d e1)) (bn1 : n1 ≤ 16) (Lb Hb : UInt64) (lb hb n2 : Nat) (gLb : lo[ib]? = some (.double Lb)) (dLb : Jvm.OwnKit.Dy (lb : Int) 0 Lb) (gHb : hi[ib]? = some (.double Hb)) (dHb : Jvm.OwnKit.Dy (hb : Int) 0 Hb) (bLb : lb ≤ 31) (bHb : hb ≤ 31) (dn2 : Jvm.OwnKit.Dy (n2 : Int) 0 (FP.i2d e2)) (bn2 : n2 ≤ 16) (nf ng : Nat) (hfo : Nr nf 0 fo) (hfz : Nr ng 0 fz) (nf1 : 1 ≤ nf) (nf2 : nf ≤ 16) (ng1 : 1 ≤ ng) (ng2 : ng ≤ 16)  (h0 : Heap) (F : List HRow) (H00 : Hp Z n0 h0 ((sh, ObC Z "com/example/narrow_bounds/narrowbounds/Share" (fs_Share (.ref loA) (.ref hiA) (.int (0 : Int32)) (.int ru) (.ref owA) (.ref otA) (.ref liA) (.ref raA) (.ref olA) (.ref ohA) (.ref zlA) (.ref zhA) (.double fo) (.double fz) (.int (2 : Int32)) (.int at0))) :: (loA, ArC Z .double lo) :: (hiA, ArC Z .double hi) :: (raA, ArC Z .int [.int ka, .int kb, .int (0 : Int32)]) :: (owA, ArC Z .double ow) :: (otA, ArC Z .double ot) :: (olA, ArC Z .double [.double 0, .double 0, .double 0]) :: (ohA, ArC Z .double [.double 0, .double 0, .double 0]) :: (zlA, ArC Z .double [.double 0, .double 0, .double 0]) :: (zhA, ArC Z .double [.double 0, .double 0, .double 0]) :: F)) :
    Con l Z n0 ⟨"com/example/narrow_bounds/narrowbounds/Share", "extreme", "()D"⟩ [] prog_45_method_4_code 15 (some .double) ({ frames := 6, cells := 0, slots := 0, locals := 127 } : Room) #[.ref sh] h0 (fun v h => ∃ (g r0 r1 r2 : UInt64) (t : Int32) (J : List HRow), v = some (.double g) ∧ Sh (nf + la * 0 + lb * 0) ((nf + la * 0 + lb * 0) + (ng + la * n1 + lb * n2)) r0 ∧ Sh (nf + ha * 0 + lb * 0) ((nf + ha * 0 + lb * 0) + (ng + ha * n1 + lb * n2)) r1 ∧ Sh (nf + ha * 0 + hb * 0) ((nf + ha * 0 + hb * 0) + (ng + ha * n1 + hb * n2)) r2 ∧ ChL t r0 r1 r2 ∧ Hp Z n0 h ((sh, ObC Z "com/example/narrow_bounds/narrowbounds/Share" (fs_Share (.ref loA) (.ref hiA) (.int (0 : Int32)) (.int ru) (.ref owA) (.ref otA) (.ref liA) (.ref raA) (.ref olA) (.ref ohA) (.ref zlA) (.ref zhA) (.double fo) (.double fz) (.int (2 : Int32)) (.int t))) :: (loA, ArC Z .double lo) :: (hiA, ArC Z .double hi) :: (raA, ArC Z .int [.int ka, .int kb, .int (0 : Int32)]) :: J)) := by
  refine con_of (plainFor_of_name pn_Share) ?_
  intro p e s m below meth c T0 W0 e0
  subst e0
  have H0 := H00
  refine g_cast (ef_r15 m sh) ?_
  refine g_aloadN W0 d8_0 (pc' := 1) rfl rfl rfl ?_
  have H1f := Hp.fr3 H0
  have H2f := Hp.fr5 H1f
  have H3f := Hp.fr5 H2f
  have H4f := Hp.fr3 H3f
  refine g_callP W0 (argsL := []) (st := []) (wd_66 hw) (wd_67 hw) (wd_68 hw) (wd_2 hw) (wd_3 hw) (wd_69 hw) (by decide) (a := sh) H4f (i := 0) rfl (c_sr0zz l Z a0 hw n0 sh loA hiA owA otA liA raA olA ohA zlA zhA ru fo fz at0 ka kb ia ib hia hib ow ot e1 e2 h1 h2 wa za wb zb _ _ H4f) pd_8 rfl rfl rfl d8_1 (pc' := 4) rfl (by decide) (Wn := 0) (Nat.le_of_eq rfl) (by decide) (kc' := 0) (ks' := 0) rfl rfl (by decide) (by decide) ?_
  intro T5 v5 W5 hp5
  obtain ⟨rfl, H5⟩ := hp5
  show Goes _ _ _ _ (State.setTop _ (mkF _ _ _ []))
  have H6f := Hp.fr9 H5
  have H7f := Hp.fr9 H6f
  have H8f := Hp.fr9 H7f
  have H9f := Hp.fr9 H8f
  have H10f := Hp.fr6 H9f
  have H11f := Hp.fr6 H10f
  have H12f := Hp.fr7 H11f
  have H13f := Hp.fr9 H12f
  have H14f := Hp.fr9 H13f
  have H15f := Hp.fr9 H14f
  exact ex_tail0 l Z a0 hw n0 sh loA hiA owA otA liA raA olA ohA zlA zhA ru fo fz at0 lo hi ow ot ka kb ia ib hia hib La Ha 0 (FP.i2d e1) Lb Hb 0 (FP.i2d e2) la ha 0 n1 lb hb 0 n2 nf ng gLa dLa (by omega) gHa dHa (by omega) wa dy_z (by omega) za dn1 (by omega) (by have := Nat.mul_le_mul bLa bn1; omega) (by have := Nat.mul_le_mul bHa bn1; omega) gLb dLb (by omega) gHb dHb (by omega) wb dy_z (by omega) zb dn2 (by omega) (by have := Nat.mul_le_mul bLb bn2; omega) (by have := Nat.mul_le_mul bHb bn2; omega) hfo hfz nf1 nf2 ng1 ng2 _ _ p e _ s m below meth c (by decide) (by decide) _ W5 H15f
theorem c_ex1oo (l : Launch) (Z : State) (a0 : Array Value) (hw : ∀ d ∈ tables_1, d.before a0 Z = true) (n0 : Nat) (sh loA hiA owA otA liA raA olA ohA zlA zhA : Addr) (ru : Int32) (fo fz : UInt64) (at0 : Int32) (ka kb : Int32) (ia ib : Nat) (hia : ka.toInt = (ia : Int)) (hib : kb.toInt = (ib : Int)) (ow ot : List Value) (e1 e2 : Int32) (h1 : e1 ∈ coL) (h2 : e2 ∈ coL) (wa : ow[ia]? = some (.double (FP.i2d e1))) (za : ot[ia]? = some (.double 0)) (wb : ow[ib]? = some (.double (FP.i2d e2))) (zb : ot[ib]? = some (.double 0)) (lo hi : List Value) (La Ha : UInt64) (la ha n1 : Nat) (gLa : lo[ia]? = some (.double La)) (dLa : Jvm.OwnKit.Dy (la : Int) 0 La) (gHa : hi[ia]? = some (.double Ha)) (dHa : Jvm.OwnKit.Dy (ha : Int) 0 Ha) (bLa : la ≤ 31) (bHa : ha ≤ 31) (dn1 : Jvm.OwnKit.Dy (n1 : Int) 0 (FP.i2d e1)) (bn1 : n1 ≤ 16) (Lb Hb : UInt64) (lb hb n2 : Nat) (gLb : lo[ib]? = some (.double Lb)) (dLb : Jvm.OwnKit.Dy (lb : Int) 0 Lb) (gHb : hi[ib]? = some (.double Hb)) (dHb : Jvm.OwnKit.Dy (hb : Int) 0 Hb) (bLb : lb ≤ 31) (bHb : hb ≤ 31) (dn2 : Jvm.OwnKit.Dy (n2 : Int) 0 (FP.i2d e2)) (bn2 : n2 ≤ 16) (nf ng : Nat) (hfo : Nr nf 0 fo) (hfz : Nr ng 0 fz) (nf1 : 1 ≤ nf) (nf2 : nf ≤ 16) (ng1 : 1 ≤ ng) (ng2 : ng ≤ 16)  (h0 : Heap) (F : List HRow) (H00 : Hp Z n0 h0 ((sh, ObC Z "com/example/narrow_bounds/narrowbounds/Share" (fs_Share (.ref loA) (.ref hiA) (.int (1 : Int32)) (.int ru) (.ref owA) (.ref otA) (.ref liA) (.ref raA) (.ref olA) (.ref ohA) (.ref zlA) (.ref zhA) (.double fo) (.double fz) (.int (2 : Int32)) (.int at0))) :: (loA, ArC Z .double lo) :: (hiA, ArC Z .double hi) :: (raA, ArC Z .int [.int ka, .int kb, .int (0 : Int32)]) :: (owA, ArC Z .double ow) :: (otA, ArC Z .double ot) :: (olA, ArC Z .double [.double 0, .double 0, .double 0]) :: (ohA, ArC Z .double [.double 0, .double 0, .double 0]) :: (zlA, ArC Z .double [.double 0, .double 0, .double 0]) :: (zhA, ArC Z .double [.double 0, .double 0, .double 0]) :: F)) :
    Con l Z n0 ⟨"com/example/narrow_bounds/narrowbounds/Share", "extreme", "()D"⟩ [] prog_45_method_4_code 15 (some .double) ({ frames := 6, cells := 0, slots := 0, locals := 127 } : Room) #[.ref sh] h0 (fun v h => ∃ (g r0 r1 r2 : UInt64) (t : Int32) (J : List HRow), v = some (.double g) ∧ Sh (nf + la * n1 + lb * n2) ((nf + la * n1 + lb * n2) + (ng + la * 0 + lb * 0)) r0 ∧ Sh (nf + ha * n1 + lb * n2) ((nf + ha * n1 + lb * n2) + (ng + ha * 0 + lb * 0)) r1 ∧ Sh (nf + ha * n1 + hb * n2) ((nf + ha * n1 + hb * n2) + (ng + ha * 0 + hb * 0)) r2 ∧ ChG t r0 r1 r2 ∧ Hp Z n0 h ((sh, ObC Z "com/example/narrow_bounds/narrowbounds/Share" (fs_Share (.ref loA) (.ref hiA) (.int (1 : Int32)) (.int ru) (.ref owA) (.ref otA) (.ref liA) (.ref raA) (.ref olA) (.ref ohA) (.ref zlA) (.ref zhA) (.double fo) (.double fz) (.int (2 : Int32)) (.int t))) :: (loA, ArC Z .double lo) :: (hiA, ArC Z .double hi) :: (raA, ArC Z .int [.int ka, .int kb, .int (0 : Int32)]) :: J)) := by
  refine con_of (plainFor_of_name pn_Share) ?_
  intro p e s m below meth c T0 W0 e0
  subst e0
  have H0 := H00
  refine g_cast (ef_r15 m sh) ?_
  refine g_aloadN W0 d8_0 (pc' := 1) rfl rfl rfl ?_
  have H1f := Hp.fr3 H0
  have H2f := Hp.fr5 H1f
  have H3f := Hp.fr5 H2f
  have H4f := Hp.fr3 H3f
  refine g_callP W0 (argsL := []) (st := []) (wd_66 hw) (wd_67 hw) (wd_68 hw) (wd_2 hw) (wd_3 hw) (wd_69 hw) (by decide) (a := sh) H4f (i := 0) rfl (c_sr1oo l Z a0 hw n0 sh loA hiA owA otA liA raA olA ohA zlA zhA ru fo fz at0 ka kb ia ib hia hib ow ot e1 e2 h1 h2 wa za wb zb _ _ H4f) pd_8 rfl rfl rfl d8_1 (pc' := 4) rfl (by decide) (Wn := 0) (Nat.le_of_eq rfl) (by decide) (kc' := 0) (ks' := 0) rfl rfl (by decide) (by decide) ?_
  intro T5 v5 W5 hp5
  obtain ⟨rfl, H5⟩ := hp5
  show Goes _ _ _ _ (State.setTop _ (mkF _ _ _ []))
  have H6f := Hp.fr9 H5
  have H7f := Hp.fr9 H6f
  have H8f := Hp.fr9 H7f
  have H9f := Hp.fr9 H8f
  have H10f := Hp.fr6 H9f
  have H11f := Hp.fr6 H10f
  have H12f := Hp.fr7 H11f
  have H13f := Hp.fr9 H12f
  have H14f := Hp.fr9 H13f
  have H15f := Hp.fr9 H14f
  exact ex_tail1 l Z a0 hw n0 sh loA hiA owA otA liA raA olA ohA zlA zhA ru fo fz at0 lo hi ow ot ka kb ia ib hia hib La Ha (FP.i2d e1) 0 Lb Hb (FP.i2d e2) 0 la ha n1 0 lb hb n2 0 nf ng gLa dLa (by omega) gHa dHa (by omega) wa dn1 (by omega) za dy_z (by omega) (by have := Nat.mul_le_mul bLa bn1; omega) (by have := Nat.mul_le_mul bHa bn1; omega) gLb dLb (by omega) gHb dHb (by omega) wb dn2 (by omega) zb dy_z (by omega) (by have := Nat.mul_le_mul bLb bn2; omega) (by have := Nat.mul_le_mul bHb bn2; omega) hfo hfz nf1 nf2 ng1 ng2 _ _ p e _ s m below meth c (by decide) (by decide) _ W5 H15f
theorem c_ex1oz (l : Launch) (Z : State) (a0 : Array Value) (hw : ∀ d ∈ tables_1, d.before a0 Z = true) (n0 : Nat) (sh loA hiA owA otA liA raA olA ohA zlA zhA : Addr) (ru : Int32) (fo fz : UInt64) (at0 : Int32) (ka kb : Int32) (ia ib : Nat) (hia : ka.toInt = (ia : Int)) (hib : kb.toInt = (ib : Int)) (ow ot : List Value) (e1 e2 : Int32) (h1 : e1 ∈ coL) (h2 : e2 ∈ coL) (wa : ow[ia]? = some (.double (FP.i2d e1))) (za : ot[ia]? = some (.double 0)) (wb : ow[ib]? = some (.double 0)) (zb : ot[ib]? = some (.double (FP.i2d e2))) (lo hi : List Value) (La Ha : UInt64) (la ha n1 : Nat) (gLa : lo[ia]? = some (.double La)) (dLa : Jvm.OwnKit.Dy (la : Int) 0 La) (gHa : hi[ia]? = some (.double Ha)) (dHa : Jvm.OwnKit.Dy (ha : Int) 0 Ha) (bLa : la ≤ 31) (bHa : ha ≤ 31) (dn1 : Jvm.OwnKit.Dy (n1 : Int) 0 (FP.i2d e1)) (bn1 : n1 ≤ 16) (Lb Hb : UInt64) (lb hb n2 : Nat) (gLb : lo[ib]? = some (.double Lb)) (dLb : Jvm.OwnKit.Dy (lb : Int) 0 Lb) (gHb : hi[ib]? = some (.double Hb)) (dHb : Jvm.OwnKit.Dy (hb : Int) 0 Hb) (bLb : lb ≤ 31) (bHb : hb ≤ 31) (dn2 : Jvm.OwnKit.Dy (n2 : Int) 0 (FP.i2d e2)) (bn2 : n2 ≤ 16) (nf ng : Nat) (hfo : Nr nf 0 fo) (hfz : Nr ng 0 fz) (nf1 : 1 ≤ nf) (nf2 : nf ≤ 16) (ng1 : 1 ≤ ng) (ng2 : ng ≤ 16)  (h0 : Heap) (F : List HRow) (H00 : Hp Z n0 h0 ((sh, ObC Z "com/example/narrow_bounds/narrowbounds/Share" (fs_Share (.ref loA) (.ref hiA) (.int (1 : Int32)) (.int ru) (.ref owA) (.ref otA) (.ref liA) (.ref raA) (.ref olA) (.ref ohA) (.ref zlA) (.ref zhA) (.double fo) (.double fz) (.int (2 : Int32)) (.int at0))) :: (loA, ArC Z .double lo) :: (hiA, ArC Z .double hi) :: (raA, ArC Z .int [.int ka, .int kb, .int (0 : Int32)]) :: (owA, ArC Z .double ow) :: (otA, ArC Z .double ot) :: (olA, ArC Z .double [.double 0, .double 0, .double 0]) :: (ohA, ArC Z .double [.double 0, .double 0, .double 0]) :: (zlA, ArC Z .double [.double 0, .double 0, .double 0]) :: (zhA, ArC Z .double [.double 0, .double 0, .double 0]) :: F)) :
    Con l Z n0 ⟨"com/example/narrow_bounds/narrowbounds/Share", "extreme", "()D"⟩ [] prog_45_method_4_code 15 (some .double) ({ frames := 5, cells := 0, slots := 0, locals := 108 } : Room) #[.ref sh] h0 (fun v h => ∃ (g r0 r1 r2 : UInt64) (t : Int32) (J : List HRow), v = some (.double g) ∧ Sh (nf + la * n1 + lb * 0) ((nf + la * n1 + lb * 0) + (ng + la * 0 + lb * n2)) r0 ∧ Sh (nf + ha * n1 + lb * 0) ((nf + ha * n1 + lb * 0) + (ng + ha * 0 + lb * n2)) r1 ∧ Sh (nf + ha * n1 + hb * 0) ((nf + ha * n1 + hb * 0) + (ng + ha * 0 + hb * n2)) r2 ∧ ChG t r0 r1 r2 ∧ Hp Z n0 h ((sh, ObC Z "com/example/narrow_bounds/narrowbounds/Share" (fs_Share (.ref loA) (.ref hiA) (.int (1 : Int32)) (.int ru) (.ref owA) (.ref otA) (.ref liA) (.ref raA) (.ref olA) (.ref ohA) (.ref zlA) (.ref zhA) (.double fo) (.double fz) (.int (2 : Int32)) (.int t))) :: (loA, ArC Z .double lo) :: (hiA, ArC Z .double hi) :: (raA, ArC Z .int [.int ka, .int kb, .int (0 : Int32)]) :: J)) := by
  refine con_of (plainFor_of_name pn_Share) ?_
  intro p e s m below meth c T0 W0 e0
  subst e0
  have H0 := H00
  refine g_cast (ef_r15 m sh) ?_
  refine g_aloadN W0 d8_0 (pc' := 1) rfl rfl rfl ?_
  have H1f := Hp.fr3 H0
  have H2f := Hp.fr5 H1f
  have H3f := Hp.fr5 H2f
  have H4f := Hp.fr3 H3f
  refine g_callP W0 (argsL := []) (st := []) (wd_66 hw) (wd_67 hw) (wd_68 hw) (wd_2 hw) (wd_3 hw) (wd_69 hw) (by decide) (a := sh) H4f (i := 0) rfl (c_sr1oz l Z a0 hw n0 sh loA hiA owA otA liA raA olA ohA zlA zhA ru fo fz at0 ka kb ia ib hia hib ow ot e1 e2 h1 h2 wa za wb zb _ _ H4f) pd_8 rfl rfl rfl d8_1 (pc' := 4) rfl (by decide) (Wn := 0) (Nat.le_of_eq rfl) (by decide) (kc' := 0) (ks' := 0) rfl rfl (by decide) (by decide) ?_
  intro T5 v5 W5 hp5
  obtain ⟨rfl, H5⟩ := hp5
  show Goes _ _ _ _ (State.setTop _ (mkF _ _ _ []))
  have H6f := Hp.fr9 H5
  have H7f := Hp.fr9 H6f
  have H8f := Hp.fr9 H7f
  have H9f := Hp.fr9 H8f
  have H10f := Hp.fr6 H9f
  have H11f := Hp.fr6 H10f
  have H12f := Hp.fr7 H11f
  have H13f := Hp.fr9 H12f
  have H14f := Hp.fr9 H13f
  have H15f := Hp.fr9 H14f
  exact ex_tail1 l Z a0 hw n0 sh loA hiA owA otA liA raA olA ohA zlA zhA ru fo fz at0 lo hi ow ot ka kb ia ib hia hib La Ha (FP.i2d e1) 0 Lb Hb 0 (FP.i2d e2) la ha n1 0 lb hb 0 n2 nf ng gLa dLa (by omega) gHa dHa (by omega) wa dn1 (by omega) za dy_z (by omega) (by have := Nat.mul_le_mul bLa bn1; omega) (by have := Nat.mul_le_mul bHa bn1; omega) gLb dLb (by omega) gHb dHb (by omega) wb dy_z (by omega) zb dn2 (by omega) (by have := Nat.mul_le_mul bLb bn2; omega) (by have := Nat.mul_le_mul bHb bn2; omega) hfo hfz nf1 nf2 ng1 ng2 _ _ p e _ s m below meth c (by decide) (by decide) _ W5 H15f
theorem c_ex1zo (l : Launch) (Z : State) (a0 : Array Value) (hw : ∀ d ∈ tables_1, d.before a0 Z = true) (n0 : Nat) (sh loA hiA owA otA liA raA olA ohA zlA zhA : Addr) (ru : Int32) (fo fz : UInt64) (at0 : Int32) (ka kb : Int32) (ia ib : Nat) (hia : ka.toInt = (ia : Int)) (hib : kb.toInt = (ib : Int)) (ow ot : List Value) (e1 e2 : Int32) (h1 : e1 ∈ coL) (h2 : e2 ∈ coL) (wa : ow[ia]? = some (.double 0)) (za : ot[ia]? = some (.double (FP.i2d e1))) (wb : ow[ib]? = some (.double (FP.i2d e2))) (zb : ot[ib]? = some (.double 0)) (lo hi : List Value) (La Ha : UInt64) (la ha n1 : Nat) (gLa : lo[ia]? = some (.double La)) (dLa : Jvm.OwnKit.Dy (la : Int) 0 La) (gHa : hi[ia]? = some (.double Ha)) (dHa : Jvm.OwnKit.Dy (ha : Int) 0 Ha) (bLa : la ≤ 31) (bHa : ha ≤ 31) (dn1 : Jvm.OwnKit.Dy (n1 : Int) 0 (FP.i2d e1)) (bn1 : n1 ≤ 16) (Lb Hb : UInt64) (lb hb n2 : Nat) (gLb : lo[ib]? = some (.double Lb)) (dLb : Jvm.OwnKit.Dy (lb : Int) 0 Lb) (gHb : hi[ib]? = some (.double Hb)) (dHb : Jvm.OwnKit.Dy (hb : Int) 0 Hb) (bLb : lb ≤ 31) (bHb : hb ≤ 31) (dn2 : Jvm.OwnKit.Dy (n2 : Int) 0 (FP.i2d e2)) (bn2 : n2 ≤ 16) (nf ng : Nat) (hfo : Nr nf 0 fo) (hfz : Nr ng 0 fz) (nf1 : 1 ≤ nf) (nf2 : nf ≤ 16) (ng1 : 1 ≤ ng) (ng2 : ng ≤ 16)  (h0 : Heap) (F : List HRow) (H00 : Hp Z n0 h0 ((sh, ObC Z "com/example/narrow_bounds/narrowbounds/Share" (fs_Share (.ref loA) (.ref hiA) (.int (1 : Int32)) (.int ru) (.ref owA) (.ref otA) (.ref liA) (.ref raA) (.ref olA) (.ref ohA) (.ref zlA) (.ref zhA) (.double fo) (.double fz) (.int (2 : Int32)) (.int at0))) :: (loA, ArC Z .double lo) :: (hiA, ArC Z .double hi) :: (raA, ArC Z .int [.int ka, .int kb, .int (0 : Int32)]) :: (owA, ArC Z .double ow) :: (otA, ArC Z .double ot) :: (olA, ArC Z .double [.double 0, .double 0, .double 0]) :: (ohA, ArC Z .double [.double 0, .double 0, .double 0]) :: (zlA, ArC Z .double [.double 0, .double 0, .double 0]) :: (zhA, ArC Z .double [.double 0, .double 0, .double 0]) :: F)) :
    Con l Z n0 ⟨"com/example/narrow_bounds/narrowbounds/Share", "extreme", "()D"⟩ [] prog_45_method_4_code 15 (some .double) ({ frames := 5, cells := 0, slots := 0, locals := 108 } : Room) #[.ref sh] h0 (fun v h => ∃ (g r0 r1 r2 : UInt64) (t : Int32) (J : List HRow), v = some (.double g) ∧ Sh (nf + lb * n2 + la * 0) ((nf + lb * n2 + la * 0) + (ng + lb * 0 + la * n1)) r0 ∧ Sh (nf + hb * n2 + la * 0) ((nf + hb * n2 + la * 0) + (ng + hb * 0 + la * n1)) r1 ∧ Sh (nf + hb * n2 + ha * 0) ((nf + hb * n2 + ha * 0) + (ng + hb * 0 + ha * n1)) r2 ∧ ChG t r0 r1 r2 ∧ Hp Z n0 h ((sh, ObC Z "com/example/narrow_bounds/narrowbounds/Share" (fs_Share (.ref loA) (.ref hiA) (.int (1 : Int32)) (.int ru) (.ref owA) (.ref otA) (.ref liA) (.ref raA) (.ref olA) (.ref ohA) (.ref zlA) (.ref zhA) (.double fo) (.double fz) (.int (2 : Int32)) (.int t))) :: (loA, ArC Z .double lo) :: (hiA, ArC Z .double hi) :: (raA, ArC Z .int [.int kb, .int ka, .int (0 : Int32)]) :: J)) := by
  refine con_of (plainFor_of_name pn_Share) ?_
  intro p e s m below meth c T0 W0 e0
  subst e0
  have H0 := H00
  refine g_cast (ef_r15 m sh) ?_
  refine g_aloadN W0 d8_0 (pc' := 1) rfl rfl rfl ?_
  have H1f := Hp.fr3 H0
  have H2f := Hp.fr5 H1f
  have H3f := Hp.fr5 H2f
  have H4f := Hp.fr3 H3f
  refine g_callP W0 (argsL := []) (st := []) (wd_66 hw) (wd_67 hw) (wd_68 hw) (wd_2 hw) (wd_3 hw) (wd_69 hw) (by decide) (a := sh) H4f (i := 0) rfl (c_sr1zo l Z a0 hw n0 sh loA hiA owA otA liA raA olA ohA zlA zhA ru fo fz at0 ka kb ia ib hia hib ow ot e1 e2 h1 h2 wa za wb zb _ _ H4f) pd_8 rfl rfl rfl d8_1 (pc' := 4) rfl (by decide) (Wn := 0) (Nat.le_of_eq rfl) (by decide) (kc' := 0) (ks' := 0) rfl rfl (by decide) (by decide) ?_
  intro T5 v5 W5 hp5
  obtain ⟨rfl, H5⟩ := hp5
  show Goes _ _ _ _ (State.setTop _ (mkF _ _ _ []))
  have H6f := Hp.fr9 H5
  have H7f := Hp.fr9 H6f
  have H8f := Hp.fr9 H7f
  have H9f := Hp.fr9 H8f
  have H10f := Hp.fr6 H9f
  have H11f := Hp.fr6 H10f
  have H12f := Hp.fr7 H11f
  have H13f := Hp.fr9 H12f
  have H14f := Hp.fr9 H13f
  have H15f := Hp.fr9 H14f
  exact ex_tail1 l Z a0 hw n0 sh loA hiA owA otA liA raA olA ohA zlA zhA ru fo fz at0 lo hi ow ot kb ka ib ia hib hia Lb Hb (FP.i2d e2) 0 La Ha 0 (FP.i2d e1) lb hb n2 0 la ha 0 n1 nf ng gLb dLb (by omega) gHb dHb (by omega) wb dn2 (by omega) zb dy_z (by omega) (by have := Nat.mul_le_mul bLb bn2; omega) (by have := Nat.mul_le_mul bHb bn2; omega) gLa dLa (by omega) gHa dHa (by omega) wa dy_z (by omega) za dn1 (by omega) (by have := Nat.mul_le_mul bLa bn1; omega) (by have := Nat.mul_le_mul bHa bn1; omega) hfo hfz nf1 nf2 ng1 ng2 _ _ p e _ s m below meth c (by decide) (by decide) _ W5 H15f
theorem c_ex1zz (l : Launch) (Z : State) (a0 : Array Value) (hw : ∀ d ∈ tables_1, d.before a0 Z = true) (n0 : Nat) (sh loA hiA owA otA liA raA olA ohA zlA zhA : Addr) (ru : Int32) (fo fz : UInt64) (at0 : Int32) (ka kb : Int32) (ia ib : Nat) (hia : ka.toInt = (ia : Int)) (hib : kb.toInt = (ib : Int)) (ow ot : List Value) (e1 e2 : Int32) (h1 : e1 ∈ coL) (h2 : e2 ∈ coL) (wa : ow[ia]? = some (.double 0)) (za : ot[ia]? = some (.double (FP.i2d e1))) (wb : ow[ib]? = some (.double 0)) (zb : ot[ib]? = some (.double (FP.i2d e2))) (lo hi : List Value) (La Ha : UInt64) (la ha n1 : Nat) (gLa : lo[ia]? = some (.double La)) (dLa : Jvm.OwnKit.Dy (la : Int) 0 La) (gHa : hi[ia]? = some (.double Ha)) (dHa : Jvm.OwnKit.Dy (ha : Int) 0 Ha) (bLa : la ≤ 31) (bHa : ha ≤ 31) (dn1 : Jvm.OwnKit.Dy (n1 : Int) 0 (FP.i2d e1)) (bn1 : n1 ≤ 16) (Lb Hb : UInt64) (lb hb n2 : Nat) (gLb : lo[ib]? = some (.double Lb)) (dLb : Jvm.OwnKit.Dy (lb : Int) 0 Lb) (gHb : hi[ib]? = some (.double Hb)) (dHb : Jvm.OwnKit.Dy (hb : Int) 0 Hb) (bLb : lb ≤ 31) (bHb : hb ≤ 31) (dn2 : Jvm.OwnKit.Dy (n2 : Int) 0 (FP.i2d e2)) (bn2 : n2 ≤ 16) (nf ng : Nat) (hfo : Nr nf 0 fo) (hfz : Nr ng 0 fz) (nf1 : 1 ≤ nf) (nf2 : nf ≤ 16) (ng1 : 1 ≤ ng) (ng2 : ng ≤ 16)  (h0 : Heap) (F : List HRow) (H00 : Hp Z n0 h0 ((sh, ObC Z "com/example/narrow_bounds/narrowbounds/Share" (fs_Share (.ref loA) (.ref hiA) (.int (1 : Int32)) (.int ru) (.ref owA) (.ref otA) (.ref liA) (.ref raA) (.ref olA) (.ref ohA) (.ref zlA) (.ref zhA) (.double fo) (.double fz) (.int (2 : Int32)) (.int at0))) :: (loA, ArC Z .double lo) :: (hiA, ArC Z .double hi) :: (raA, ArC Z .int [.int ka, .int kb, .int (0 : Int32)]) :: (owA, ArC Z .double ow) :: (otA, ArC Z .double ot) :: (olA, ArC Z .double [.double 0, .double 0, .double 0]) :: (ohA, ArC Z .double [.double 0, .double 0, .double 0]) :: (zlA, ArC Z .double [.double 0, .double 0, .double 0]) :: (zhA, ArC Z .double [.double 0, .double 0, .double 0]) :: F)) :
    Con l Z n0 ⟨"com/example/narrow_bounds/narrowbounds/Share", "extreme", "()D"⟩ [] prog_45_method_4_code 15 (some .double) ({ frames := 6, cells := 0, slots := 0, locals := 127 } : Room) #[.ref sh] h0 (fun v h => ∃ (g r0 r1 r2 : UInt64) (t : Int32) (J : List HRow), v = some (.double g) ∧ Sh (nf + la * 0 + lb * 0) ((nf + la * 0 + lb * 0) + (ng + la * n1 + lb * n2)) r0 ∧ Sh (nf + ha * 0 + lb * 0) ((nf + ha * 0 + lb * 0) + (ng + ha * n1 + lb * n2)) r1 ∧ Sh (nf + ha * 0 + hb * 0) ((nf + ha * 0 + hb * 0) + (ng + ha * n1 + hb * n2)) r2 ∧ ChG t r0 r1 r2 ∧ Hp Z n0 h ((sh, ObC Z "com/example/narrow_bounds/narrowbounds/Share" (fs_Share (.ref loA) (.ref hiA) (.int (1 : Int32)) (.int ru) (.ref owA) (.ref otA) (.ref liA) (.ref raA) (.ref olA) (.ref ohA) (.ref zlA) (.ref zhA) (.double fo) (.double fz) (.int (2 : Int32)) (.int t))) :: (loA, ArC Z .double lo) :: (hiA, ArC Z .double hi) :: (raA, ArC Z .int [.int ka, .int kb, .int (0 : Int32)]) :: J)) := by
  refine con_of (plainFor_of_name pn_Share) ?_
  intro p e s m below meth c T0 W0 e0
  subst e0
  have H0 := H00
  refine g_cast (ef_r15 m sh) ?_
  refine g_aloadN W0 d8_0 (pc' := 1) rfl rfl rfl ?_
  have H1f := Hp.fr3 H0
  have H2f := Hp.fr5 H1f
  have H3f := Hp.fr5 H2f
  have H4f := Hp.fr3 H3f
  refine g_callP W0 (argsL := []) (st := []) (wd_66 hw) (wd_67 hw) (wd_68 hw) (wd_2 hw) (wd_3 hw) (wd_69 hw) (by decide) (a := sh) H4f (i := 0) rfl (c_sr1zz l Z a0 hw n0 sh loA hiA owA otA liA raA olA ohA zlA zhA ru fo fz at0 ka kb ia ib hia hib ow ot e1 e2 h1 h2 wa za wb zb _ _ H4f) pd_8 rfl rfl rfl d8_1 (pc' := 4) rfl (by decide) (Wn := 0) (Nat.le_of_eq rfl) (by decide) (kc' := 0) (ks' := 0) rfl rfl (by decide) (by decide) ?_
  intro T5 v5 W5 hp5
  obtain ⟨rfl, H5⟩ := hp5
  show Goes _ _ _ _ (State.setTop _ (mkF _ _ _ []))
  have H6f := Hp.fr9 H5
  have H7f := Hp.fr9 H6f
  have H8f := Hp.fr9 H7f
  have H9f := Hp.fr9 H8f
  have H10f := Hp.fr6 H9f
  have H11f := Hp.fr6 H10f
  have H12f := Hp.fr7 H11f
  have H13f := Hp.fr9 H12f
  have H14f := Hp.fr9 H13f
  have H15f := Hp.fr9 H14f
  exact ex_tail1 l Z a0 hw n0 sh loA hiA owA otA liA raA olA ohA zlA zhA ru fo fz at0 lo hi ow ot ka kb ia ib hia hib La Ha 0 (FP.i2d e1) Lb Hb 0 (FP.i2d e2) la ha 0 n1 lb hb 0 n2 nf ng gLa dLa (by omega) gHa dHa (by omega) wa dy_z (by omega) za dn1 (by omega) (by have := Nat.mul_le_mul bLa bn1; omega) (by have := Nat.mul_le_mul bHa bn1; omega) gLb dLb (by omega) gHb dHb (by omega) wb dy_z (by omega) zb dn2 (by omega) (by have := Nat.mul_le_mul bLb bn2; omega) (by have := Nat.mul_le_mul bHb bn2; omega) hfo hfz nf1 nf2 ng1 ng2 _ _ p e _ s m below meth c (by decide) (by decide) _ W5 H15f
theorem c_vx (l : Launch) (Z : State) (a0 : Array Value) (hw : ∀ d ∈ tables_1, d.before a0 Z = true) (n0 : Nat) (sh loA hiA owA otA liA raA olA ohA zlA zhA : Addr) (gq ru : Int32) (fo fz : UInt64) (t : Int32) (ht : t = 0 ∨ t = 1 ∨ t = 2) (kk d1 d2 : Int32) (ik : Nat) (hik : kk.toInt = (ik : Int)) (lo hi : List Value) (Lk Hk : UInt64) (gLk : lo[ik]? = some (.double Lk)) (gHk : hi[ik]? = some (.double Hk)) (h0 : Heap) (F : List HRow) (H00 : Hp Z n0 h0 ((sh, ObC Z "com/example/narrow_bounds/narrowbounds/Share" (fs_Share (.ref loA) (.ref hiA) (.int (gq : Int32)) (.int ru) (.ref owA) (.ref otA) (.ref liA) (.ref raA) (.ref olA) (.ref ohA) (.ref zlA) (.ref zhA) (.double fo) (.double fz) (.int (2 : Int32)) (.int t))) :: (loA, ArC Z .double lo) :: (hiA, ArC Z .double hi) :: (raA, ArC Z .int [.int d1, .int d2, .int (0 : Int32)]) :: F)) :
    Con l Z n0 ⟨"com/example/narrow_bounds/narrowbounds/Share", "valueAtExtreme", "(I)D"⟩ [] prog_45_method_5_code 4 (some .double) ({ frames := 0, cells := 0, slots := 0, locals := 0 } : Room) #[.ref sh, .int kk] h0 (fun v h => ∃ r, v = some (.double r) ∧ (((¬ t = 0 ∧ d1 = kk) ∨ (t = 2 ∧ d2 = kk)) → r = Hk) ∧ (¬ ((¬ t = 0 ∧ d1 = kk) ∨ (t = 2 ∧ d2 = kk)) → r = Lk) ∧ Hp Z n0 h ((sh, ObC Z "com/example/narrow_bounds/narrowbounds/Share" (fs_Share (.ref loA) (.ref hiA) (.int (gq : Int32)) (.int ru) (.ref owA) (.ref otA) (.ref liA) (.ref raA) (.ref olA) (.ref ohA) (.ref zlA) (.ref zhA) (.double fo) (.double fz) (.int (2 : Int32)) (.int t))) :: (loA, ArC Z .double lo) :: (hiA, ArC Z .double hi) :: (raA, ArC Z .int [.int d1, .int d2, .int (0 : Int32)]) :: F)) := by
  refine con_of (plainFor_of_name pn_Share) ?_
  intro p e s m below meth c T0 W0 e0
  subst e0
  have H0 := H00
  refine g_cast (ef_ri4 m sh kk) ?_
  rcases ht with rfl | rfl | rfl
  · refine g_iconst W0 d24_0 (pc' := 1) rfl (v := (0 : Int32)) (by decide) ?_
    refine g_istoreN W0 d24_1 (pc' := 2) rfl (ls' := #[.val (.ref sh), .val (.int kk), .val (.int (0 : Int32)), .unset]) rfl ?_
    refine g_iconst W0 d24_2 (pc' := 3) rfl (v := (0 : Int32)) (by decide) ?_
    refine g_istoreN W0 d24_3 (pc' := 4) rfl (ls' := #[.val (.ref sh), .val (.int kk), .val (.int (0 : Int32)), .val (.int (0 : Int32))]) rfl ?_
    refine g_iloadN W0 d24_4 (pc' := 5) rfl rfl ?_
    refine g_aloadN W0 d24_5 (pc' := 6) rfl rfl rfl ?_
    refine g_getf W0 (wd_115 hw) Via.refl H0 (i := 0) rfl (jx := 15) rfl d24_6 (pc' := 9) rfl ?_
    intro T1 W1 H1
    refine g_icmp W1 d24_9 (pcy := 36) (by decide) (pc' := 12) rfl (fun _ => ?_) (fun (h : ¬ ¬ (0 : Int32) < (0 : Int32)) => absurd h (by decide))
    refine g_iloadN W1 d24_36 (pc' := 37) rfl rfl ?_
    refine g_if W1 d24_37 (pcy := 49) (by decide) (pc' := 40) rfl (fun _ => ?_) (fun (h : ¬ (0 : Int32) = (0 : Int32)) => absurd h (by decide))
    refine g_aloadN W1 d24_49 (pc' := 50) rfl rfl rfl ?_
    refine g_getf W1 (wd_10 hw) Via.refl H1 (i := 0) rfl (jx := 0) rfl d24_50 (pc' := 53) rfl ?_
    intro T2 W2 H2
    refine g_iloadN W2 d24_53 (pc' := 54) rfl rfl ?_
    refine g_daload W2 H2 (i := 1) rfl (jx := ik) hik (v := .double Lk) gLk d24_54 (pc' := 55) rfl ?_
    have H3f := Hp.fr3 H2
    have H4f := Hp.fr3 H3f
    have H5f := Hp.fr3 H4f
    have H6f := Hp.fr3 H5f
    exact g_dreturn W2 d24_55 ⟨_, rfl, fun q => (show False from by rcases q with ⟨q, -⟩ | ⟨q, -⟩ <;> exact absurd q (by decide)).elim, fun _ => rfl, H6f⟩ (by decide) (by decide)
  · refine g_iconst W0 d24_0 (pc' := 1) rfl (v := (0 : Int32)) (by decide) ?_
    refine g_istoreN W0 d24_1 (pc' := 2) rfl (ls' := #[.val (.ref sh), .val (.int kk), .val (.int (0 : Int32)), .unset]) rfl ?_
    refine g_iconst W0 d24_2 (pc' := 3) rfl (v := (0 : Int32)) (by decide) ?_
    refine g_istoreN W0 d24_3 (pc' := 4) rfl (ls' := #[.val (.ref sh), .val (.int kk), .val (.int (0 : Int32)), .val (.int (0 : Int32))]) rfl ?_
    refine g_iloadN W0 d24_4 (pc' := 5) rfl rfl ?_
    refine g_aloadN W0 d24_5 (pc' := 6) rfl rfl rfl ?_
    refine g_getf W0 (wd_115 hw) Via.refl H0 (i := 0) rfl (jx := 15) rfl d24_6 (pc' := 9) rfl ?_
    intro T7 W7 H7
    refine g_icmp W7 d24_9 (pcy := 36) (by decide) (pc' := 12) rfl (fun (h : ¬ (0 : Int32) < (1 : Int32)) => absurd h (by decide)) (fun _ => ?_)
    refine g_iloadN W7 d24_12 (pc' := 13) rfl rfl ?_
    refine g_aloadN W7 d24_13 (pc' := 14) rfl rfl rfl ?_
    refine g_getf W7 (wd_26 hw) Via.refl H7 (i := 0) rfl (jx := 7) rfl d24_14 (pc' := 17) rfl ?_
    intro T8 W8 H8
    refine g_iloadN W8 d24_17 (pc' := 18) rfl rfl ?_
    refine g_iaload W8 H8 (i := 3) rfl (jx := 0) (by decide) (v := .int d1) rfl d24_18 (pc' := 19) rfl ?_
    refine g_iloadN W8 d24_19 (pc' := 20) rfl rfl ?_
    refine g_icmp W8 d24_20 (pcy := 27) (by decide) (pc' := 23) rfl (fun (c9 : ¬ d1 = kk) => ?_) (fun (c9 : ¬ ¬ d1 = kk) => ?_)
    · refine g_iconst W8 d24_27 (pc' := 28) rfl (v := (0 : Int32)) (by decide) ?_
      refine g_ior W8 d24_28 (pc' := 29) rfl (v := (0 : Int32)) (by decide) ?_
      refine g_istoreN W8 d24_29 (pc' := 30) rfl (ls' := #[.val (.ref sh), .val (.int kk), .val (.int (0 : Int32)), .val (.int (0 : Int32))]) rfl ?_
      refine g_iinc W8 d24_30 (pc' := 33) rfl rfl (v := (1 : Int32)) (by decide) (ls' := #[.val (.ref sh), .val (.int kk), .val (.int (0 : Int32)), .val (.int (1 : Int32))]) rfl ?_
      refine g_goto W8 d24_33 (pc' := 4) (by decide) ?_
      refine g_iloadN W8 d24_4 (pc' := 5) rfl rfl ?_
      refine g_aloadN W8 d24_5 (pc' := 6) rfl rfl rfl ?_
      refine g_getf W8 (wd_115 hw) Via.refl H8 (i := 0) rfl (jx := 15) rfl d24_6 (pc' := 9) rfl ?_
      intro T10 W10 H10
      refine g_icmp W10 d24_9 (pcy := 36) (by decide) (pc' := 12) rfl (fun _ => ?_) (fun (h : ¬ ¬ (1 : Int32) < (1 : Int32)) => absurd h (by decide))
      refine g_iloadN W10 d24_36 (pc' := 37) rfl rfl ?_
      refine g_if W10 d24_37 (pcy := 49) (by decide) (pc' := 40) rfl (fun _ => ?_) (fun (h : ¬ (0 : Int32) = (0 : Int32)) => absurd h (by decide))
      refine g_aloadN W10 d24_49 (pc' := 50) rfl rfl rfl ?_
      refine g_getf W10 (wd_10 hw) Via.refl H10 (i := 0) rfl (jx := 0) rfl d24_50 (pc' := 53) rfl ?_
      intro T11 W11 H11
      refine g_iloadN W11 d24_53 (pc' := 54) rfl rfl ?_
      refine g_daload W11 H11 (i := 1) rfl (jx := ik) hik (v := .double Lk) gLk d24_54 (pc' := 55) rfl ?_
      have H12f := Hp.fr3 H11
      have H13f := Hp.fr3 H12f
      have H14f := Hp.fr3 H13f
      have H15f := Hp.fr3 H14f
      exact g_dreturn W11 d24_55 ⟨_, rfl, fun q => (show False from by rcases q with ⟨-, q⟩ | ⟨q, -⟩; exact c9 q; exact absurd q (by decide)).elim, fun _ => rfl, H15f⟩ (by decide) (by decide)
    · replace c9 := Classical.not_not.mp c9
      refine g_iconst W8 d24_23 (pc' := 24) rfl (v := (1 : Int32)) (by decide) ?_
      refine g_goto W8 d24_24 (pc' := 28) (by decide) ?_
      refine g_ior W8 d24_28 (pc' := 29) rfl (v := (1 : Int32)) (by decide) ?_
      refine g_istoreN W8 d24_29 (pc' := 30) rfl (ls' := #[.val (.ref sh), .val (.int kk), .val (.int (1 : Int32)), .val (.int (0 : Int32))]) rfl ?_
      refine g_iinc W8 d24_30 (pc' := 33) rfl rfl (v := (1 : Int32)) (by decide) (ls' := #[.val (.ref sh), .val (.int kk), .val (.int (1 : Int32)), .val (.int (1 : Int32))]) rfl ?_
      refine g_goto W8 d24_33 (pc' := 4) (by decide) ?_
      refine g_iloadN W8 d24_4 (pc' := 5) rfl rfl ?_
      refine g_aloadN W8 d24_5 (pc' := 6) rfl rfl rfl ?_
      refine g_getf W8 (wd_115 hw) Via.refl H8 (i := 0) rfl (jx := 15) rfl d24_6 (pc' := 9) rfl ?_
      intro T16 W16 H16
      refine g_icmp W16 d24_9 (pcy := 36) (by decide) (pc' := 12) rfl (fun _ => ?_) (fun (h : ¬ ¬ (1 : Int32) < (1 : Int32)) => absurd h (by decide))
      refine g_iloadN W16 d24_36 (pc' := 37) rfl rfl ?_
      refine g_if W16 d24_37 (pcy := 49) (by decide) (pc' := 40) rfl (fun (h : (1 : Int32) = (0 : Int32)) => absurd h (by decide)) (fun _ => ?_)
      refine g_aloadN W16 d24_40 (pc' := 41) rfl rfl rfl ?_
      refine g_getf W16 (wd_12 hw) Via.refl H16 (i := 0) rfl (jx := 1) rfl d24_41 (pc' := 44) rfl ?_
      intro T17 W17 H17
      refine g_iloadN W17 d24_44 (pc' := 45) rfl rfl ?_
      refine g_daload W17 H17 (i := 2) rfl (jx := ik) hik (v := .double Hk) gHk d24_45 (pc' := 46) rfl ?_
      refine g_goto W17 d24_46 (pc' := 55) (by decide) ?_
      have H18f := Hp.fr3 H17
      have H19f := Hp.fr3 H18f
      have H20f := Hp.fr3 H19f
      have H21f := Hp.fr3 H20f
      exact g_dreturn W17 d24_55 ⟨_, rfl, fun _ => rfl, fun q => absurd (Or.inl ⟨by decide, c9⟩) q, H21f⟩ (by decide) (by decide)
  · refine g_iconst W0 d24_0 (pc' := 1) rfl (v := (0 : Int32)) (by decide) ?_
    refine g_istoreN W0 d24_1 (pc' := 2) rfl (ls' := #[.val (.ref sh), .val (.int kk), .val (.int (0 : Int32)), .unset]) rfl ?_
    refine g_iconst W0 d24_2 (pc' := 3) rfl (v := (0 : Int32)) (by decide) ?_
    refine g_istoreN W0 d24_3 (pc' := 4) rfl (ls' := #[.val (.ref sh), .val (.int kk), .val (.int (0 : Int32)), .val (.int (0 : Int32))]) rfl ?_
    refine g_iloadN W0 d24_4 (pc' := 5) rfl rfl ?_
    refine g_aloadN W0 d24_5 (pc' := 6) rfl rfl rfl ?_
    refine g_getf W0 (wd_115 hw) Via.refl H0 (i := 0) rfl (jx := 15) rfl d24_6 (pc' := 9) rfl ?_
    intro T22 W22 H22
    refine g_icmp W22 d24_9 (pcy := 36) (by decide) (pc' := 12) rfl (fun (h : ¬ (0 : Int32) < (2 : Int32)) => absurd h (by decide)) (fun _ => ?_)
    refine g_iloadN W22 d24_12 (pc' := 13) rfl rfl ?_
    refine g_aloadN W22 d24_13 (pc' := 14) rfl rfl rfl ?_
    refine g_getf W22 (wd_26 hw) Via.refl H22 (i := 0) rfl (jx := 7) rfl d24_14 (pc' := 17) rfl ?_
    intro T23 W23 H23
    refine g_iloadN W23 d24_17 (pc' := 18) rfl rfl ?_
    refine g_iaload W23 H23 (i := 3) rfl (jx := 0) (by decide) (v := .int d1) rfl d24_18 (pc' := 19) rfl ?_
    refine g_iloadN W23 d24_19 (pc' := 20) rfl rfl ?_
    refine g_icmp W23 d24_20 (pcy := 27) (by decide) (pc' := 23) rfl (fun (c24 : ¬ d1 = kk) => ?_) (fun (c24 : ¬ ¬ d1 = kk) => ?_)
    · refine g_iconst W23 d24_27 (pc' := 28) rfl (v := (0 : Int32)) (by decide) ?_
      refine g_ior W23 d24_28 (pc' := 29) rfl (v := (0 : Int32)) (by decide) ?_
      refine g_istoreN W23 d24_29 (pc' := 30) rfl (ls' := #[.val (.ref sh), .val (.int kk), .val (.int (0 : Int32)), .val (.int (0 : Int32))]) rfl ?_
      refine g_iinc W23 d24_30 (pc' := 33) rfl rfl (v := (1 : Int32)) (by decide) (ls' := #[.val (.ref sh), .val (.int kk), .val (.int (0 : Int32)), .val (.int (1 : Int32))]) rfl ?_
      refine g_goto W23 d24_33 (pc' := 4) (by decide) ?_
      refine g_iloadN W23 d24_4 (pc' := 5) rfl rfl ?_
      refine g_aloadN W23 d24_5 (pc' := 6) rfl rfl rfl ?_
      refine g_getf W23 (wd_115 hw) Via.refl H23 (i := 0) rfl (jx := 15) rfl d24_6 (pc' := 9) rfl ?_
      intro T25 W25 H25
      refine g_icmp W25 d24_9 (pcy := 36) (by decide) (pc' := 12) rfl (fun (h : ¬ (1 : Int32) < (2 : Int32)) => absurd h (by decide)) (fun _ => ?_)
      refine g_iloadN W25 d24_12 (pc' := 13) rfl rfl ?_
      refine g_aloadN W25 d24_13 (pc' := 14) rfl rfl rfl ?_
      refine g_getf W25 (wd_26 hw) Via.refl H25 (i := 0) rfl (jx := 7) rfl d24_14 (pc' := 17) rfl ?_
      intro T26 W26 H26
      refine g_iloadN W26 d24_17 (pc' := 18) rfl rfl ?_
      refine g_iaload W26 H26 (i := 3) rfl (jx := 1) (by decide) (v := .int d2) rfl d24_18 (pc' := 19) rfl ?_
      refine g_iloadN W26 d24_19 (pc' := 20) rfl rfl ?_
      refine g_icmp W26 d24_20 (pcy := 27) (by decide) (pc' := 23) rfl (fun (c27 : ¬ d2 = kk) => ?_) (fun (c27 : ¬ ¬ d2 = kk) => ?_)
      · refine g_iconst W26 d24_27 (pc' := 28) rfl (v := (0 : Int32)) (by decide) ?_
        refine g_ior W26 d24_28 (pc' := 29) rfl (v := (0 : Int32)) (by decide) ?_
        refine g_istoreN W26 d24_29 (pc' := 30) rfl (ls' := #[.val (.ref sh), .val (.int kk), .val (.int (0 : Int32)), .val (.int (1 : Int32))]) rfl ?_
        refine g_iinc W26 d24_30 (pc' := 33) rfl rfl (v := (2 : Int32)) (by decide) (ls' := #[.val (.ref sh), .val (.int kk), .val (.int (0 : Int32)), .val (.int (2 : Int32))]) rfl ?_
        refine g_goto W26 d24_33 (pc' := 4) (by decide) ?_
        refine g_iloadN W26 d24_4 (pc' := 5) rfl rfl ?_
        refine g_aloadN W26 d24_5 (pc' := 6) rfl rfl rfl ?_
        refine g_getf W26 (wd_115 hw) Via.refl H26 (i := 0) rfl (jx := 15) rfl d24_6 (pc' := 9) rfl ?_
        intro T28 W28 H28
        refine g_icmp W28 d24_9 (pcy := 36) (by decide) (pc' := 12) rfl (fun _ => ?_) (fun (h : ¬ ¬ (2 : Int32) < (2 : Int32)) => absurd h (by decide))
        refine g_iloadN W28 d24_36 (pc' := 37) rfl rfl ?_
        refine g_if W28 d24_37 (pcy := 49) (by decide) (pc' := 40) rfl (fun _ => ?_) (fun (h : ¬ (0 : Int32) = (0 : Int32)) => absurd h (by decide))
        refine g_aloadN W28 d24_49 (pc' := 50) rfl rfl rfl ?_
        refine g_getf W28 (wd_10 hw) Via.refl H28 (i := 0) rfl (jx := 0) rfl d24_50 (pc' := 53) rfl ?_
        intro T29 W29 H29
        refine g_iloadN W29 d24_53 (pc' := 54) rfl rfl ?_
        refine g_daload W29 H29 (i := 1) rfl (jx := ik) hik (v := .double Lk) gLk d24_54 (pc' := 55) rfl ?_
        have H30f := Hp.fr3 H29
        have H31f := Hp.fr3 H30f
        have H32f := Hp.fr3 H31f
        have H33f := Hp.fr3 H32f
        exact g_dreturn W29 d24_55 ⟨_, rfl, fun q => (show False from by rcases q with ⟨-, q⟩ | ⟨-, q⟩; exact c24 q; exact c27 q).elim, fun _ => rfl, H33f⟩ (by decide) (by decide)
      · replace c27 := Classical.not_not.mp c27
        refine g_iconst W26 d24_23 (pc' := 24) rfl (v := (1 : Int32)) (by decide) ?_
        refine g_goto W26 d24_24 (pc' := 28) (by decide) ?_
        refine g_ior W26 d24_28 (pc' := 29) rfl (v := (1 : Int32)) (by decide) ?_
        refine g_istoreN W26 d24_29 (pc' := 30) rfl (ls' := #[.val (.ref sh), .val (.int kk), .val (.int (1 : Int32)), .val (.int (1 : Int32))]) rfl ?_
        refine g_iinc W26 d24_30 (pc' := 33) rfl rfl (v := (2 : Int32)) (by decide) (ls' := #[.val (.ref sh), .val (.int kk), .val (.int (1 : Int32)), .val (.int (2 : Int32))]) rfl ?_
        refine g_goto W26 d24_33 (pc' := 4) (by decide) ?_
        refine g_iloadN W26 d24_4 (pc' := 5) rfl rfl ?_
        refine g_aloadN W26 d24_5 (pc' := 6) rfl rfl rfl ?_
        refine g_getf W26 (wd_115 hw) Via.refl H26 (i := 0) rfl (jx := 15) rfl d24_6 (pc' := 9) rfl ?_
        intro T34 W34 H34
        refine g_icmp W34 d24_9 (pcy := 36) (by decide) (pc' := 12) rfl (fun _ => ?_) (fun (h : ¬ ¬ (2 : Int32) < (2 : Int32)) => absurd h (by decide))
        refine g_iloadN W34 d24_36 (pc' := 37) rfl rfl ?_
        refine g_if W34 d24_37 (pcy := 49) (by decide) (pc' := 40) rfl (fun (h : (1 : Int32) = (0 : Int32)) => absurd h (by decide)) (fun _ => ?_)
        refine g_aloadN W34 d24_40 (pc' := 41) rfl rfl rfl ?_
        refine g_getf W34 (wd_12 hw) Via.refl H34 (i := 0) rfl (jx := 1) rfl d24_41 (pc' := 44) rfl ?_
        intro T35 W35 H35
        refine g_iloadN W35 d24_44 (pc' := 45) rfl rfl ?_
        refine g_daload W35 H35 (i := 2) rfl (jx := ik) hik (v := .double Hk) gHk d24_45 (pc' := 46) rfl ?_
        refine g_goto W35 d24_46 (pc' := 55) (by decide) ?_
        have H36f := Hp.fr3 H35
        have H37f := Hp.fr3 H36f
        have H38f := Hp.fr3 H37f
        have H39f := Hp.fr3 H38f
        exact g_dreturn W35 d24_55 ⟨_, rfl, fun _ => rfl, fun q => absurd (Or.inr ⟨rfl, c27⟩) q, H39f⟩ (by decide) (by decide)
    · replace c24 := Classical.not_not.mp c24
      refine g_iconst W23 d24_23 (pc' := 24) rfl (v := (1 : Int32)) (by decide) ?_
      refine g_goto W23 d24_24 (pc' := 28) (by decide) ?_
      refine g_ior W23 d24_28 (pc' := 29) rfl (v := (1 : Int32)) (by decide) ?_
      refine g_istoreN W23 d24_29 (pc' := 30) rfl (ls' := #[.val (.ref sh), .val (.int kk), .val (.int (1 : Int32)), .val (.int (0 : Int32))]) rfl ?_
      refine g_iinc W23 d24_30 (pc' := 33) rfl rfl (v := (1 : Int32)) (by decide) (ls' := #[.val (.ref sh), .val (.int kk), .val (.int (1 : Int32)), .val (.int (1 : Int32))]) rfl ?_
      refine g_goto W23 d24_33 (pc' := 4) (by decide) ?_
      refine g_iloadN W23 d24_4 (pc' := 5) rfl rfl ?_
      refine g_aloadN W23 d24_5 (pc' := 6) rfl rfl rfl ?_
      refine g_getf W23 (wd_115 hw) Via.refl H23 (i := 0) rfl (jx := 15) rfl d24_6 (pc' := 9) rfl ?_
      intro T40 W40 H40
      refine g_icmp W40 d24_9 (pcy := 36) (by decide) (pc' := 12) rfl (fun (h : ¬ (1 : Int32) < (2 : Int32)) => absurd h (by decide)) (fun _ => ?_)
      refine g_iloadN W40 d24_12 (pc' := 13) rfl rfl ?_
      refine g_aloadN W40 d24_13 (pc' := 14) rfl rfl rfl ?_
      refine g_getf W40 (wd_26 hw) Via.refl H40 (i := 0) rfl (jx := 7) rfl d24_14 (pc' := 17) rfl ?_
      intro T41 W41 H41
      refine g_iloadN W41 d24_17 (pc' := 18) rfl rfl ?_
      refine g_iaload W41 H41 (i := 3) rfl (jx := 1) (by decide) (v := .int d2) rfl d24_18 (pc' := 19) rfl ?_
      refine g_iloadN W41 d24_19 (pc' := 20) rfl rfl ?_
      refine g_icmp W41 d24_20 (pcy := 27) (by decide) (pc' := 23) rfl (fun (c42 : ¬ d2 = kk) => ?_) (fun (c42 : ¬ ¬ d2 = kk) => ?_)
      · refine g_iconst W41 d24_27 (pc' := 28) rfl (v := (0 : Int32)) (by decide) ?_
        refine g_ior W41 d24_28 (pc' := 29) rfl (v := (1 : Int32)) (by decide) ?_
        refine g_istoreN W41 d24_29 (pc' := 30) rfl (ls' := #[.val (.ref sh), .val (.int kk), .val (.int (1 : Int32)), .val (.int (1 : Int32))]) rfl ?_
        refine g_iinc W41 d24_30 (pc' := 33) rfl rfl (v := (2 : Int32)) (by decide) (ls' := #[.val (.ref sh), .val (.int kk), .val (.int (1 : Int32)), .val (.int (2 : Int32))]) rfl ?_
        refine g_goto W41 d24_33 (pc' := 4) (by decide) ?_
        refine g_iloadN W41 d24_4 (pc' := 5) rfl rfl ?_
        refine g_aloadN W41 d24_5 (pc' := 6) rfl rfl rfl ?_
        refine g_getf W41 (wd_115 hw) Via.refl H41 (i := 0) rfl (jx := 15) rfl d24_6 (pc' := 9) rfl ?_
        intro T43 W43 H43
        refine g_icmp W43 d24_9 (pcy := 36) (by decide) (pc' := 12) rfl (fun _ => ?_) (fun (h : ¬ ¬ (2 : Int32) < (2 : Int32)) => absurd h (by decide))
        refine g_iloadN W43 d24_36 (pc' := 37) rfl rfl ?_
        refine g_if W43 d24_37 (pcy := 49) (by decide) (pc' := 40) rfl (fun (h : (1 : Int32) = (0 : Int32)) => absurd h (by decide)) (fun _ => ?_)
        refine g_aloadN W43 d24_40 (pc' := 41) rfl rfl rfl ?_
        refine g_getf W43 (wd_12 hw) Via.refl H43 (i := 0) rfl (jx := 1) rfl d24_41 (pc' := 44) rfl ?_
        intro T44 W44 H44
        refine g_iloadN W44 d24_44 (pc' := 45) rfl rfl ?_
        refine g_daload W44 H44 (i := 2) rfl (jx := ik) hik (v := .double Hk) gHk d24_45 (pc' := 46) rfl ?_
        refine g_goto W44 d24_46 (pc' := 55) (by decide) ?_
        have H45f := Hp.fr3 H44
        have H46f := Hp.fr3 H45f
        have H47f := Hp.fr3 H46f
        have H48f := Hp.fr3 H47f
        exact g_dreturn W44 d24_55 ⟨_, rfl, fun _ => rfl, fun q => absurd (Or.inl ⟨by decide, c24⟩) q, H48f⟩ (by decide) (by decide)
      · replace c42 := Classical.not_not.mp c42
        refine g_iconst W41 d24_23 (pc' := 24) rfl (v := (1 : Int32)) (by decide) ?_
        refine g_goto W41 d24_24 (pc' := 28) (by decide) ?_
        refine g_ior W41 d24_28 (pc' := 29) rfl (v := (1 : Int32)) (by decide) ?_
        refine g_istoreN W41 d24_29 (pc' := 30) rfl (ls' := #[.val (.ref sh), .val (.int kk), .val (.int (1 : Int32)), .val (.int (1 : Int32))]) rfl ?_
        refine g_iinc W41 d24_30 (pc' := 33) rfl rfl (v := (2 : Int32)) (by decide) (ls' := #[.val (.ref sh), .val (.int kk), .val (.int (1 : Int32)), .val (.int (2 : Int32))]) rfl ?_
        refine g_goto W41 d24_33 (pc' := 4) (by decide) ?_
        refine g_iloadN W41 d24_4 (pc' := 5) rfl rfl ?_
        refine g_aloadN W41 d24_5 (pc' := 6) rfl rfl rfl ?_
        refine g_getf W41 (wd_115 hw) Via.refl H41 (i := 0) rfl (jx := 15) rfl d24_6 (pc' := 9) rfl ?_
        intro T49 W49 H49
        refine g_icmp W49 d24_9 (pcy := 36) (by decide) (pc' := 12) rfl (fun _ => ?_) (fun (h : ¬ ¬ (2 : Int32) < (2 : Int32)) => absurd h (by decide))
        refine g_iloadN W49 d24_36 (pc' := 37) rfl rfl ?_
        refine g_if W49 d24_37 (pcy := 49) (by decide) (pc' := 40) rfl (fun (h : (1 : Int32) = (0 : Int32)) => absurd h (by decide)) (fun _ => ?_)
        refine g_aloadN W49 d24_40 (pc' := 41) rfl rfl rfl ?_
        refine g_getf W49 (wd_12 hw) Via.refl H49 (i := 0) rfl (jx := 1) rfl d24_41 (pc' := 44) rfl ?_
        intro T50 W50 H50
        refine g_iloadN W50 d24_44 (pc' := 45) rfl rfl ?_
        refine g_daload W50 H50 (i := 2) rfl (jx := ik) hik (v := .double Hk) gHk d24_45 (pc' := 46) rfl ?_
        refine g_goto W50 d24_46 (pc' := 55) (by decide) ?_
        have H51f := Hp.fr3 H50
        have H52f := Hp.fr3 H51f
        have H53f := Hp.fr3 H52f
        have H54f := Hp.fr3 H53f
        exact g_dreturn W50 d24_55 ⟨_, rfl, fun _ => rfl, fun q => absurd (Or.inl ⟨by decide, c24⟩) q, H54f⟩ (by decide) (by decide)
theorem c_sh0 (l : Launch) (Z : State) (a0 : Array Value) (hw : ∀ d ∈ tables_1, d.before a0 Z = true) (n0 : Nat) (sh loA hiA : Addr) (ru : Int32) (hru : ru = 0 ∨ ru = 1) (lo hi : List Value) (hlo : lo.length.toInt32 = 3) (h0 : Heap) (F : List HRow) (H00 : Hp Z n0 h0 ((sh, ObC Z "com/example/narrow_bounds/narrowbounds/Share" (fs_Share .null .null (.int (0 : Int32)) (.int (0 : Int32)) .null .null .null .null .null .null .null .null (.double 0) (.double 0) (.int (0 : Int32)) (.int (0 : Int32)))) :: (loA, ArC Z .double lo) :: (hiA, ArC Z .double hi) :: F)) :
    Con l Z n0 ⟨"com/example/narrow_bounds/narrowbounds/Share", "<init>", "([D[DZZ)V"⟩ [] prog_45_method_1_code 5 none ({ frames := 1, cells := 8, slots := 24, locals := 12 } : Room) #[.ref sh, .ref loA, .ref hiA, .int (0 : Int32), .int ru] h0 (fun v h => ∃ owA otA liA raA olA ohA zlA zhA : Addr, v = none ∧ Hp Z n0 h ((sh, ObC Z "com/example/narrow_bounds/narrowbounds/Share" (fs_Share (.ref loA) (.ref hiA) (.int (0 : Int32)) (.int ru) (.ref owA) (.ref otA) (.ref liA) (.ref raA) (.ref olA) (.ref ohA) (.ref zlA) (.ref zhA) (.double 0) (.double 0) (.int (0 : Int32)) (.int (0 : Int32)))) :: (loA, ArC Z .double lo) :: (hiA, ArC Z .double hi) :: (owA, ArC Z .double [.double 0, .double 0, .double 0]) :: (otA, ArC Z .double [.double 0, .double 0, .double 0]) :: (liA, ArC Z .boolean [.int 0, .int 0, .int 0]) :: (raA, ArC Z .int [.int 0, .int 0, .int 0]) :: (olA, ArC Z .double [.double 0, .double 0, .double 0]) :: (ohA, ArC Z .double [.double 0, .double 0, .double 0]) :: (zlA, ArC Z .double [.double 0, .double 0, .double 0]) :: (zhA, ArC Z .double [.double 0, .double 0, .double 0]) :: F)) := by
  refine con_of (plainFor_of_name pn_Share) ?_
  intro p e s m below meth c T0 W0 e0
  subst e0
  have H0 := H00
  refine g_cast (ef_rrrii5 m sh loA hiA (0 : Int32) ru) ?_
  refine g_aloadN W0 d1_0 (pc' := 1) rfl rfl rfl ?_
  refine g_initO W0 (wd_7 hw) (wd_8 hw) (wd_9 hw) H0 rfl d1_1 (pc' := 4) rfl (by decide) (Wn := 0) (Nat.le_of_eq rfl) (by decide) ?_
  intro T1 W1 H1
  refine g_aloadN W1 d1_4 (pc' := 5) rfl rfl rfl ?_
  refine g_aloadN W1 d1_5 (pc' := 6) rfl rfl rfl ?_
  refine g_putf W1 (wd_10 hw) Via.refl (Or.inr ⟨(wd_11 hw), rfl, rfl⟩) (wd_2 hw) (ty := (.array .double)) (by decide) rfl rfl H1 (i := 0) rfl (jx := 0) rfl d1_6 (pc' := 9) rfl (L' := ((sh, ObC Z "com/example/narrow_bounds/narrowbounds/Share" (fs_Share (.ref loA) .null (.int (0 : Int32)) (.int (0 : Int32)) .null .null .null .null .null .null .null .null (.double 0) (.double 0) (.int (0 : Int32)) (.int (0 : Int32)))) :: (loA, ArC Z .double lo) :: (hiA, ArC Z .double hi) :: F)) rfl ?_
  intro T2 W2 H2
  refine g_aloadN W2 d1_9 (pc' := 10) rfl rfl rfl ?_
  refine g_aloadN W2 d1_10 (pc' := 11) rfl rfl rfl ?_
  refine g_putf W2 (wd_12 hw) Via.refl (Or.inr ⟨(wd_13 hw), rfl, rfl⟩) (wd_2 hw) (ty := (.array .double)) (by decide) rfl rfl H2 (i := 0) rfl (jx := 1) rfl d1_11 (pc' := 14) rfl (L' := ((sh, ObC Z "com/example/narrow_bounds/narrowbounds/Share" (fs_Share (.ref loA) (.ref hiA) (.int (0 : Int32)) (.int (0 : Int32)) .null .null .null .null .null .null .null .null (.double 0) (.double 0) (.int (0 : Int32)) (.int (0 : Int32)))) :: (loA, ArC Z .double lo) :: (hiA, ArC Z .double hi) :: F)) rfl ?_
  intro T3 W3 H3
  refine g_aloadN W3 d1_14 (pc' := 15) rfl rfl rfl ?_
  refine g_iloadN W3 d1_15 (pc' := 16) rfl rfl ?_
  refine g_putf W3 (wd_14 hw) Via.refl (Or.inr ⟨(wd_15 hw), rfl, rfl⟩) (wd_2 hw) (ty := .boolean) (by decide) rfl rfl H3 (i := 0) rfl (jx := 2) rfl d1_16 (pc' := 19) rfl (L' := ((sh, ObC Z "com/example/narrow_bounds/narrowbounds/Share" (fs_Share (.ref loA) (.ref hiA) (.int (0 : Int32)) (.int (0 : Int32)) .null .null .null .null .null .null .null .null (.double 0) (.double 0) (.int (0 : Int32)) (.int (0 : Int32)))) :: (loA, ArC Z .double lo) :: (hiA, ArC Z .double hi) :: F)) rfl ?_
  intro T4 W4 H4
  refine g_aloadN W4 d1_19 (pc' := 20) rfl rfl rfl ?_
  refine g_iload W4 d1_20 (pc' := 22) rfl rfl ?_
  refine g_putf W4 (wd_16 hw) Via.refl (Or.inr ⟨(wd_17 hw), rfl, rfl⟩) (wd_2 hw) (ty := .boolean) (by decide) (by rcases hru with rfl | rfl <;> rfl) (by rcases hru with rfl | rfl <;> rfl) H4 (i := 0) rfl (jx := 3) rfl d1_22 (pc' := 25) rfl (L' := ((sh, ObC Z "com/example/narrow_bounds/narrowbounds/Share" (fs_Share (.ref loA) (.ref hiA) (.int (0 : Int32)) (.int ru) .null .null .null .null .null .null .null .null (.double 0) (.double 0) (.int (0 : Int32)) (.int (0 : Int32)))) :: (loA, ArC Z .double lo) :: (hiA, ArC Z .double hi) :: F)) rfl ?_
  intro T5 W5 H5
  refine g_aloadN W5 d1_25 (pc' := 26) rfl rfl rfl ?_
  refine g_aloadN W5 d1_26 (pc' := 27) rfl rfl rfl ?_
  refine g_arrlen W5 H5 (i := 1) rfl (x := (3 : Int32)) hlo d1_27 (pc' := 28) rfl ?_
  refine g_newarr (aty := .double) W5 (wd_0 hw) H5 (by decide) (vs := [.double 0, .double 0, .double 0]) rfl (cap := 3) (Nat.le_of_eq rfl) (by decide) d1_28 (pc' := 30) rfl (kc' := 1) (ks' := 3) rfl rfl (by decide) (by decide) ?_
  intro T6 a6 W6 H6
  replace H6 : Hp Z n0 T6.heap ((a6, ArC Z .double [.double 0, .double 0, .double 0]) :: (sh, ObC Z "com/example/narrow_bounds/narrowbounds/Share" (fs_Share (.ref loA) (.ref hiA) (.int (0 : Int32)) (.int ru) .null .null .null .null .null .null .null .null (.double 0) (.double 0) (.int (0 : Int32)) (.int (0 : Int32)))) :: (loA, ArC Z .double lo) :: (hiA, ArC Z .double hi) :: F) := H6
  refine g_putf W6 (wd_18 hw) Via.refl (Or.inr ⟨(wd_19 hw), rfl, rfl⟩) (wd_2 hw) (ty := (.array .double)) (by decide) rfl rfl H6 (i := 1) rfl (jx := 4) rfl d1_30 (pc' := 33) rfl (L' := ((a6, ArC Z .double [.double 0, .double 0, .double 0]) :: (sh, ObC Z "com/example/narrow_bounds/narrowbounds/Share" (fs_Share (.ref loA) (.ref hiA) (.int (0 : Int32)) (.int ru) (.ref a6) .null .null .null .null .null .null .null (.double 0) (.double 0) (.int (0 : Int32)) (.int (0 : Int32)))) :: (loA, ArC Z .double lo) :: (hiA, ArC Z .double hi) :: F)) rfl ?_
  intro T7 W7 H7
  refine g_aloadN W7 d1_33 (pc' := 34) rfl rfl rfl ?_
  refine g_aloadN W7 d1_34 (pc' := 35) rfl rfl rfl ?_
  refine g_arrlen W7 H7 (i := 2) rfl (x := (3 : Int32)) hlo d1_35 (pc' := 36) rfl ?_
  refine g_newarr (aty := .double) W7 (wd_0 hw) H7 (by decide) (vs := [.double 0, .double 0, .double 0]) rfl (cap := 3) (Nat.le_of_eq rfl) (by decide) d1_36 (pc' := 38) rfl (kc' := 2) (ks' := 6) rfl rfl (by decide) (by decide) ?_
  intro T8 a8 W8 H8
  replace H8 : Hp Z n0 T8.heap ((a8, ArC Z .double [.double 0, .double 0, .double 0]) :: (a6, ArC Z .double [.double 0, .double 0, .double 0]) :: (sh, ObC Z "com/example/narrow_bounds/narrowbounds/Share" (fs_Share (.ref loA) (.ref hiA) (.int (0 : Int32)) (.int ru) (.ref a6) .null .null .null .null .null .null .null (.double 0) (.double 0) (.int (0 : Int32)) (.int (0 : Int32)))) :: (loA, ArC Z .double lo) :: (hiA, ArC Z .double hi) :: F) := H8
  refine g_putf W8 (wd_20 hw) Via.refl (Or.inr ⟨(wd_21 hw), rfl, rfl⟩) (wd_2 hw) (ty := (.array .double)) (by decide) rfl rfl H8 (i := 2) rfl (jx := 5) rfl d1_38 (pc' := 41) rfl (L' := ((a8, ArC Z .double [.double 0, .double 0, .double 0]) :: (a6, ArC Z .double [.double 0, .double 0, .double 0]) :: (sh, ObC Z "com/example/narrow_bounds/narrowbounds/Share" (fs_Share (.ref loA) (.ref hiA) (.int (0 : Int32)) (.int ru) (.ref a6) (.ref a8) .null .null .null .null .null .null (.double 0) (.double 0) (.int (0 : Int32)) (.int (0 : Int32)))) :: (loA, ArC Z .double lo) :: (hiA, ArC Z .double hi) :: F)) rfl ?_
  intro T9 W9 H9
  refine g_aloadN W9 d1_41 (pc' := 42) rfl rfl rfl ?_
  refine g_aloadN W9 d1_42 (pc' := 43) rfl rfl rfl ?_
  refine g_arrlen W9 H9 (i := 3) rfl (x := (3 : Int32)) hlo d1_43 (pc' := 44) rfl ?_
  refine g_newarr (aty := .boolean) W9 (wd_22 hw) H9 (by decide) (vs := [.int 0, .int 0, .int 0]) rfl (cap := 3) (Nat.le_of_eq rfl) (by decide) d1_44 (pc' := 46) rfl (kc' := 3) (ks' := 9) rfl rfl (by decide) (by decide) ?_
  intro T10 a10 W10 H10
  replace H10 : Hp Z n0 T10.heap ((a10, ArC Z .boolean [.int 0, .int 0, .int 0]) :: (a8, ArC Z .double [.double 0, .double 0, .double 0]) :: (a6, ArC Z .double [.double 0, .double 0, .double 0]) :: (sh, ObC Z "com/example/narrow_bounds/narrowbounds/Share" (fs_Share (.ref loA) (.ref hiA) (.int (0 : Int32)) (.int ru) (.ref a6) (.ref a8) .null .null .null .null .null .null (.double 0) (.double 0) (.int (0 : Int32)) (.int (0 : Int32)))) :: (loA, ArC Z .double lo) :: (hiA, ArC Z .double hi) :: F) := H10
  refine g_putf W10 (wd_23 hw) Via.refl (Or.inr ⟨(wd_24 hw), rfl, rfl⟩) (wd_2 hw) (ty := (.array .boolean)) (by decide) rfl rfl H10 (i := 3) rfl (jx := 6) rfl d1_46 (pc' := 49) rfl (L' := ((a10, ArC Z .boolean [.int 0, .int 0, .int 0]) :: (a8, ArC Z .double [.double 0, .double 0, .double 0]) :: (a6, ArC Z .double [.double 0, .double 0, .double 0]) :: (sh, ObC Z "com/example/narrow_bounds/narrowbounds/Share" (fs_Share (.ref loA) (.ref hiA) (.int (0 : Int32)) (.int ru) (.ref a6) (.ref a8) (.ref a10) .null .null .null .null .null (.double 0) (.double 0) (.int (0 : Int32)) (.int (0 : Int32)))) :: (loA, ArC Z .double lo) :: (hiA, ArC Z .double hi) :: F)) rfl ?_
  intro T11 W11 H11
  refine g_aloadN W11 d1_49 (pc' := 50) rfl rfl rfl ?_
  refine g_aloadN W11 d1_50 (pc' := 51) rfl rfl rfl ?_
  refine g_arrlen W11 H11 (i := 4) rfl (x := (3 : Int32)) hlo d1_51 (pc' := 52) rfl ?_
  refine g_newarr (aty := .int) W11 (wd_25 hw) H11 (by decide) (vs := [.int 0, .int 0, .int 0]) rfl (cap := 3) (Nat.le_of_eq rfl) (by decide) d1_52 (pc' := 54) rfl (kc' := 4) (ks' := 12) rfl rfl (by decide) (by decide) ?_
  intro T12 a12 W12 H12
  replace H12 : Hp Z n0 T12.heap ((a12, ArC Z .int [.int 0, .int 0, .int 0]) :: (a10, ArC Z .boolean [.int 0, .int 0, .int 0]) :: (a8, ArC Z .double [.double 0, .double 0, .double 0]) :: (a6, ArC Z .double [.double 0, .double 0, .double 0]) :: (sh, ObC Z "com/example/narrow_bounds/narrowbounds/Share" (fs_Share (.ref loA) (.ref hiA) (.int (0 : Int32)) (.int ru) (.ref a6) (.ref a8) (.ref a10) .null .null .null .null .null (.double 0) (.double 0) (.int (0 : Int32)) (.int (0 : Int32)))) :: (loA, ArC Z .double lo) :: (hiA, ArC Z .double hi) :: F) := H12
  refine g_putf W12 (wd_26 hw) Via.refl (Or.inr ⟨(wd_27 hw), rfl, rfl⟩) (wd_2 hw) (ty := (.array .int)) (by decide) rfl rfl H12 (i := 4) rfl (jx := 7) rfl d1_54 (pc' := 57) rfl (L' := ((a12, ArC Z .int [.int 0, .int 0, .int 0]) :: (a10, ArC Z .boolean [.int 0, .int 0, .int 0]) :: (a8, ArC Z .double [.double 0, .double 0, .double 0]) :: (a6, ArC Z .double [.double 0, .double 0, .double 0]) :: (sh, ObC Z "com/example/narrow_bounds/narrowbounds/Share" (fs_Share (.ref loA) (.ref hiA) (.int (0 : Int32)) (.int ru) (.ref a6) (.ref a8) (.ref a10) (.ref a12) .null .null .null .null (.double 0) (.double 0) (.int (0 : Int32)) (.int (0 : Int32)))) :: (loA, ArC Z .double lo) :: (hiA, ArC Z .double hi) :: F)) rfl ?_
  intro T13 W13 H13
  refine g_aloadN W13 d1_57 (pc' := 58) rfl rfl rfl ?_
  refine g_aloadN W13 d1_58 (pc' := 59) rfl rfl rfl ?_
  refine g_arrlen W13 H13 (i := 5) rfl (x := (3 : Int32)) hlo d1_59 (pc' := 60) rfl ?_
  refine g_newarr (aty := .double) W13 (wd_0 hw) H13 (by decide) (vs := [.double 0, .double 0, .double 0]) rfl (cap := 3) (Nat.le_of_eq rfl) (by decide) d1_60 (pc' := 62) rfl (kc' := 5) (ks' := 15) rfl rfl (by decide) (by decide) ?_
  intro T14 a14 W14 H14
  replace H14 : Hp Z n0 T14.heap ((a14, ArC Z .double [.double 0, .double 0, .double 0]) :: (a12, ArC Z .int [.int 0, .int 0, .int 0]) :: (a10, ArC Z .boolean [.int 0, .int 0, .int 0]) :: (a8, ArC Z .double [.double 0, .double 0, .double 0]) :: (a6, ArC Z .double [.double 0, .double 0, .double 0]) :: (sh, ObC Z "com/example/narrow_bounds/narrowbounds/Share" (fs_Share (.ref loA) (.ref hiA) (.int (0 : Int32)) (.int ru) (.ref a6) (.ref a8) (.ref a10) (.ref a12) .null .null .null .null (.double 0) (.double 0) (.int (0 : Int32)) (.int (0 : Int32)))) :: (loA, ArC Z .double lo) :: (hiA, ArC Z .double hi) :: F) := H14
  refine g_putf W14 (wd_28 hw) Via.refl (Or.inr ⟨(wd_29 hw), rfl, rfl⟩) (wd_2 hw) (ty := (.array .double)) (by decide) rfl rfl H14 (i := 5) rfl (jx := 8) rfl d1_62 (pc' := 65) rfl (L' := ((a14, ArC Z .double [.double 0, .double 0, .double 0]) :: (a12, ArC Z .int [.int 0, .int 0, .int 0]) :: (a10, ArC Z .boolean [.int 0, .int 0, .int 0]) :: (a8, ArC Z .double [.double 0, .double 0, .double 0]) :: (a6, ArC Z .double [.double 0, .double 0, .double 0]) :: (sh, ObC Z "com/example/narrow_bounds/narrowbounds/Share" (fs_Share (.ref loA) (.ref hiA) (.int (0 : Int32)) (.int ru) (.ref a6) (.ref a8) (.ref a10) (.ref a12) (.ref a14) .null .null .null (.double 0) (.double 0) (.int (0 : Int32)) (.int (0 : Int32)))) :: (loA, ArC Z .double lo) :: (hiA, ArC Z .double hi) :: F)) rfl ?_
  intro T15 W15 H15
  refine g_aloadN W15 d1_65 (pc' := 66) rfl rfl rfl ?_
  refine g_aloadN W15 d1_66 (pc' := 67) rfl rfl rfl ?_
  refine g_arrlen W15 H15 (i := 6) rfl (x := (3 : Int32)) hlo d1_67 (pc' := 68) rfl ?_
  refine g_newarr (aty := .double) W15 (wd_0 hw) H15 (by decide) (vs := [.double 0, .double 0, .double 0]) rfl (cap := 3) (Nat.le_of_eq rfl) (by decide) d1_68 (pc' := 70) rfl (kc' := 6) (ks' := 18) rfl rfl (by decide) (by decide) ?_
  intro T16 a16 W16 H16
  replace H16 : Hp Z n0 T16.heap ((a16, ArC Z .double [.double 0, .double 0, .double 0]) :: (a14, ArC Z .double [.double 0, .double 0, .double 0]) :: (a12, ArC Z .int [.int 0, .int 0, .int 0]) :: (a10, ArC Z .boolean [.int 0, .int 0, .int 0]) :: (a8, ArC Z .double [.double 0, .double 0, .double 0]) :: (a6, ArC Z .double [.double 0, .double 0, .double 0]) :: (sh, ObC Z "com/example/narrow_bounds/narrowbounds/Share" (fs_Share (.ref loA) (.ref hiA) (.int (0 : Int32)) (.int ru) (.ref a6) (.ref a8) (.ref a10) (.ref a12) (.ref a14) .null .null .null (.double 0) (.double 0) (.int (0 : Int32)) (.int (0 : Int32)))) :: (loA, ArC Z .double lo) :: (hiA, ArC Z .double hi) :: F) := H16
  refine g_putf W16 (wd_30 hw) Via.refl (Or.inr ⟨(wd_31 hw), rfl, rfl⟩) (wd_2 hw) (ty := (.array .double)) (by decide) rfl rfl H16 (i := 6) rfl (jx := 9) rfl d1_70 (pc' := 73) rfl (L' := ((a16, ArC Z .double [.double 0, .double 0, .double 0]) :: (a14, ArC Z .double [.double 0, .double 0, .double 0]) :: (a12, ArC Z .int [.int 0, .int 0, .int 0]) :: (a10, ArC Z .boolean [.int 0, .int 0, .int 0]) :: (a8, ArC Z .double [.double 0, .double 0, .double 0]) :: (a6, ArC Z .double [.double 0, .double 0, .double 0]) :: (sh, ObC Z "com/example/narrow_bounds/narrowbounds/Share" (fs_Share (.ref loA) (.ref hiA) (.int (0 : Int32)) (.int ru) (.ref a6) (.ref a8) (.ref a10) (.ref a12) (.ref a14) (.ref a16) .null .null (.double 0) (.double 0) (.int (0 : Int32)) (.int (0 : Int32)))) :: (loA, ArC Z .double lo) :: (hiA, ArC Z .double hi) :: F)) rfl ?_
  intro T17 W17 H17
  refine g_aloadN W17 d1_73 (pc' := 74) rfl rfl rfl ?_
  refine g_aloadN W17 d1_74 (pc' := 75) rfl rfl rfl ?_
  refine g_arrlen W17 H17 (i := 7) rfl (x := (3 : Int32)) hlo d1_75 (pc' := 76) rfl ?_
  refine g_newarr (aty := .double) W17 (wd_0 hw) H17 (by decide) (vs := [.double 0, .double 0, .double 0]) rfl (cap := 3) (Nat.le_of_eq rfl) (by decide) d1_76 (pc' := 78) rfl (kc' := 7) (ks' := 21) rfl rfl (by decide) (by decide) ?_
  intro T18 a18 W18 H18
  replace H18 : Hp Z n0 T18.heap ((a18, ArC Z .double [.double 0, .double 0, .double 0]) :: (a16, ArC Z .double [.double 0, .double 0, .double 0]) :: (a14, ArC Z .double [.double 0, .double 0, .double 0]) :: (a12, ArC Z .int [.int 0, .int 0, .int 0]) :: (a10, ArC Z .boolean [.int 0, .int 0, .int 0]) :: (a8, ArC Z .double [.double 0, .double 0, .double 0]) :: (a6, ArC Z .double [.double 0, .double 0, .double 0]) :: (sh, ObC Z "com/example/narrow_bounds/narrowbounds/Share" (fs_Share (.ref loA) (.ref hiA) (.int (0 : Int32)) (.int ru) (.ref a6) (.ref a8) (.ref a10) (.ref a12) (.ref a14) (.ref a16) .null .null (.double 0) (.double 0) (.int (0 : Int32)) (.int (0 : Int32)))) :: (loA, ArC Z .double lo) :: (hiA, ArC Z .double hi) :: F) := H18
  refine g_putf W18 (wd_32 hw) Via.refl (Or.inr ⟨(wd_33 hw), rfl, rfl⟩) (wd_2 hw) (ty := (.array .double)) (by decide) rfl rfl H18 (i := 7) rfl (jx := 10) rfl d1_78 (pc' := 81) rfl (L' := ((a18, ArC Z .double [.double 0, .double 0, .double 0]) :: (a16, ArC Z .double [.double 0, .double 0, .double 0]) :: (a14, ArC Z .double [.double 0, .double 0, .double 0]) :: (a12, ArC Z .int [.int 0, .int 0, .int 0]) :: (a10, ArC Z .boolean [.int 0, .int 0, .int 0]) :: (a8, ArC Z .double [.double 0, .double 0, .double 0]) :: (a6, ArC Z .double [.double 0, .double 0, .double 0]) :: (sh, ObC Z "com/example/narrow_bounds/narrowbounds/Share" (fs_Share (.ref loA) (.ref hiA) (.int (0 : Int32)) (.int ru) (.ref a6) (.ref a8) (.ref a10) (.ref a12) (.ref a14) (.ref a16) (.ref a18) .null (.double 0) (.double 0) (.int (0 : Int32)) (.int (0 : Int32)))) :: (loA, ArC Z .double lo) :: (hiA, ArC Z .double hi) :: F)) rfl ?_
  intro T19 W19 H19
  refine g_aloadN W19 d1_81 (pc' := 82) rfl rfl rfl ?_
  refine g_aloadN W19 d1_82 (pc' := 83) rfl rfl rfl ?_
  refine g_arrlen W19 H19 (i := 8) rfl (x := (3 : Int32)) hlo d1_83 (pc' := 84) rfl ?_
  refine g_newarr (aty := .double) W19 (wd_0 hw) H19 (by decide) (vs := [.double 0, .double 0, .double 0]) rfl (cap := 3) (Nat.le_of_eq rfl) (by decide) d1_84 (pc' := 86) rfl (kc' := 8) (ks' := 24) rfl rfl (by decide) (by decide) ?_
  intro T20 a20 W20 H20
  replace H20 : Hp Z n0 T20.heap ((a20, ArC Z .double [.double 0, .double 0, .double 0]) :: (a18, ArC Z .double [.double 0, .double 0, .double 0]) :: (a16, ArC Z .double [.double 0, .double 0, .double 0]) :: (a14, ArC Z .double [.double 0, .double 0, .double 0]) :: (a12, ArC Z .int [.int 0, .int 0, .int 0]) :: (a10, ArC Z .boolean [.int 0, .int 0, .int 0]) :: (a8, ArC Z .double [.double 0, .double 0, .double 0]) :: (a6, ArC Z .double [.double 0, .double 0, .double 0]) :: (sh, ObC Z "com/example/narrow_bounds/narrowbounds/Share" (fs_Share (.ref loA) (.ref hiA) (.int (0 : Int32)) (.int ru) (.ref a6) (.ref a8) (.ref a10) (.ref a12) (.ref a14) (.ref a16) (.ref a18) .null (.double 0) (.double 0) (.int (0 : Int32)) (.int (0 : Int32)))) :: (loA, ArC Z .double lo) :: (hiA, ArC Z .double hi) :: F) := H20
  refine g_putf W20 (wd_34 hw) Via.refl (Or.inr ⟨(wd_35 hw), rfl, rfl⟩) (wd_2 hw) (ty := (.array .double)) (by decide) rfl rfl H20 (i := 8) rfl (jx := 11) rfl d1_86 (pc' := 89) rfl (L' := ((a20, ArC Z .double [.double 0, .double 0, .double 0]) :: (a18, ArC Z .double [.double 0, .double 0, .double 0]) :: (a16, ArC Z .double [.double 0, .double 0, .double 0]) :: (a14, ArC Z .double [.double 0, .double 0, .double 0]) :: (a12, ArC Z .int [.int 0, .int 0, .int 0]) :: (a10, ArC Z .boolean [.int 0, .int 0, .int 0]) :: (a8, ArC Z .double [.double 0, .double 0, .double 0]) :: (a6, ArC Z .double [.double 0, .double 0, .double 0]) :: (sh, ObC Z "com/example/narrow_bounds/narrowbounds/Share" (fs_Share (.ref loA) (.ref hiA) (.int (0 : Int32)) (.int ru) (.ref a6) (.ref a8) (.ref a10) (.ref a12) (.ref a14) (.ref a16) (.ref a18) (.ref a20) (.double 0) (.double 0) (.int (0 : Int32)) (.int (0 : Int32)))) :: (loA, ArC Z .double lo) :: (hiA, ArC Z .double hi) :: F)) rfl ?_
  intro T21 W21 H21
  have H22f := Hp.fr1 H21
  have H23f := Hp.fr2 H22f
  have H24f := Hp.fr3 H23f
  have H25f := Hp.fr4 H24f
  have H26f := Hp.fr5 H25f
  have H27f := Hp.fr6 H26f
  have H28f := Hp.fr7 H27f
  have H29f := Hp.fr10 H28f
  have H30f := Hp.fr10 H29f
  have H31f := Hp.fr10 H30f
  exact g_return W21 d1_89 ⟨_, _, _, _, _, _, _, _, rfl, H31f⟩ (by decide) (by decide)
theorem c_sh1 (l : Launch) (Z : State) (a0 : Array Value) (hw : ∀ d ∈ tables_1, d.before a0 Z = true) (n0 : Nat) (sh loA hiA : Addr) (ru : Int32) (hru : ru = 0 ∨ ru = 1) (lo hi : List Value) (hlo : lo.length.toInt32 = 3) (h0 : Heap) (F : List HRow) (H00 : Hp Z n0 h0 ((sh, ObC Z "com/example/narrow_bounds/narrowbounds/Share" (fs_Share .null .null (.int (0 : Int32)) (.int (0 : Int32)) .null .null .null .null .null .null .null .null (.double 0) (.double 0) (.int (0 : Int32)) (.int (0 : Int32)))) :: (loA, ArC Z .double lo) :: (hiA, ArC Z .double hi) :: F)) :
    Con l Z n0 ⟨"com/example/narrow_bounds/narrowbounds/Share", "<init>", "([D[DZZ)V"⟩ [] prog_45_method_1_code 5 none ({ frames := 1, cells := 8, slots := 24, locals := 12 } : Room) #[.ref sh, .ref loA, .ref hiA, .int (1 : Int32), .int ru] h0 (fun v h => ∃ owA otA liA raA olA ohA zlA zhA : Addr, v = none ∧ Hp Z n0 h ((sh, ObC Z "com/example/narrow_bounds/narrowbounds/Share" (fs_Share (.ref loA) (.ref hiA) (.int (1 : Int32)) (.int ru) (.ref owA) (.ref otA) (.ref liA) (.ref raA) (.ref olA) (.ref ohA) (.ref zlA) (.ref zhA) (.double 0) (.double 0) (.int (0 : Int32)) (.int (0 : Int32)))) :: (loA, ArC Z .double lo) :: (hiA, ArC Z .double hi) :: (owA, ArC Z .double [.double 0, .double 0, .double 0]) :: (otA, ArC Z .double [.double 0, .double 0, .double 0]) :: (liA, ArC Z .boolean [.int 0, .int 0, .int 0]) :: (raA, ArC Z .int [.int 0, .int 0, .int 0]) :: (olA, ArC Z .double [.double 0, .double 0, .double 0]) :: (ohA, ArC Z .double [.double 0, .double 0, .double 0]) :: (zlA, ArC Z .double [.double 0, .double 0, .double 0]) :: (zhA, ArC Z .double [.double 0, .double 0, .double 0]) :: F)) := by
  refine con_of (plainFor_of_name pn_Share) ?_
  intro p e s m below meth c T0 W0 e0
  subst e0
  have H0 := H00
  refine g_cast (ef_rrrii5 m sh loA hiA (1 : Int32) ru) ?_
  refine g_aloadN W0 d1_0 (pc' := 1) rfl rfl rfl ?_
  refine g_initO W0 (wd_7 hw) (wd_8 hw) (wd_9 hw) H0 rfl d1_1 (pc' := 4) rfl (by decide) (Wn := 0) (Nat.le_of_eq rfl) (by decide) ?_
  intro T1 W1 H1
  refine g_aloadN W1 d1_4 (pc' := 5) rfl rfl rfl ?_
  refine g_aloadN W1 d1_5 (pc' := 6) rfl rfl rfl ?_
  refine g_putf W1 (wd_10 hw) Via.refl (Or.inr ⟨(wd_11 hw), rfl, rfl⟩) (wd_2 hw) (ty := (.array .double)) (by decide) rfl rfl H1 (i := 0) rfl (jx := 0) rfl d1_6 (pc' := 9) rfl (L' := ((sh, ObC Z "com/example/narrow_bounds/narrowbounds/Share" (fs_Share (.ref loA) .null (.int (0 : Int32)) (.int (0 : Int32)) .null .null .null .null .null .null .null .null (.double 0) (.double 0) (.int (0 : Int32)) (.int (0 : Int32)))) :: (loA, ArC Z .double lo) :: (hiA, ArC Z .double hi) :: F)) rfl ?_
  intro T2 W2 H2
  refine g_aloadN W2 d1_9 (pc' := 10) rfl rfl rfl ?_
  refine g_aloadN W2 d1_10 (pc' := 11) rfl rfl rfl ?_
  refine g_putf W2 (wd_12 hw) Via.refl (Or.inr ⟨(wd_13 hw), rfl, rfl⟩) (wd_2 hw) (ty := (.array .double)) (by decide) rfl rfl H2 (i := 0) rfl (jx := 1) rfl d1_11 (pc' := 14) rfl (L' := ((sh, ObC Z "com/example/narrow_bounds/narrowbounds/Share" (fs_Share (.ref loA) (.ref hiA) (.int (0 : Int32)) (.int (0 : Int32)) .null .null .null .null .null .null .null .null (.double 0) (.double 0) (.int (0 : Int32)) (.int (0 : Int32)))) :: (loA, ArC Z .double lo) :: (hiA, ArC Z .double hi) :: F)) rfl ?_
  intro T3 W3 H3
  refine g_aloadN W3 d1_14 (pc' := 15) rfl rfl rfl ?_
  refine g_iloadN W3 d1_15 (pc' := 16) rfl rfl ?_
  refine g_putf W3 (wd_14 hw) Via.refl (Or.inr ⟨(wd_15 hw), rfl, rfl⟩) (wd_2 hw) (ty := .boolean) (by decide) rfl rfl H3 (i := 0) rfl (jx := 2) rfl d1_16 (pc' := 19) rfl (L' := ((sh, ObC Z "com/example/narrow_bounds/narrowbounds/Share" (fs_Share (.ref loA) (.ref hiA) (.int (1 : Int32)) (.int (0 : Int32)) .null .null .null .null .null .null .null .null (.double 0) (.double 0) (.int (0 : Int32)) (.int (0 : Int32)))) :: (loA, ArC Z .double lo) :: (hiA, ArC Z .double hi) :: F)) rfl ?_
  intro T4 W4 H4
  refine g_aloadN W4 d1_19 (pc' := 20) rfl rfl rfl ?_
  refine g_iload W4 d1_20 (pc' := 22) rfl rfl ?_
  refine g_putf W4 (wd_16 hw) Via.refl (Or.inr ⟨(wd_17 hw), rfl, rfl⟩) (wd_2 hw) (ty := .boolean) (by decide) (by rcases hru with rfl | rfl <;> rfl) (by rcases hru with rfl | rfl <;> rfl) H4 (i := 0) rfl (jx := 3) rfl d1_22 (pc' := 25) rfl (L' := ((sh, ObC Z "com/example/narrow_bounds/narrowbounds/Share" (fs_Share (.ref loA) (.ref hiA) (.int (1 : Int32)) (.int ru) .null .null .null .null .null .null .null .null (.double 0) (.double 0) (.int (0 : Int32)) (.int (0 : Int32)))) :: (loA, ArC Z .double lo) :: (hiA, ArC Z .double hi) :: F)) rfl ?_
  intro T5 W5 H5
  refine g_aloadN W5 d1_25 (pc' := 26) rfl rfl rfl ?_
  refine g_aloadN W5 d1_26 (pc' := 27) rfl rfl rfl ?_
  refine g_arrlen W5 H5 (i := 1) rfl (x := (3 : Int32)) hlo d1_27 (pc' := 28) rfl ?_
  refine g_newarr (aty := .double) W5 (wd_0 hw) H5 (by decide) (vs := [.double 0, .double 0, .double 0]) rfl (cap := 3) (Nat.le_of_eq rfl) (by decide) d1_28 (pc' := 30) rfl (kc' := 1) (ks' := 3) rfl rfl (by decide) (by decide) ?_
  intro T6 a6 W6 H6
  replace H6 : Hp Z n0 T6.heap ((a6, ArC Z .double [.double 0, .double 0, .double 0]) :: (sh, ObC Z "com/example/narrow_bounds/narrowbounds/Share" (fs_Share (.ref loA) (.ref hiA) (.int (1 : Int32)) (.int ru) .null .null .null .null .null .null .null .null (.double 0) (.double 0) (.int (0 : Int32)) (.int (0 : Int32)))) :: (loA, ArC Z .double lo) :: (hiA, ArC Z .double hi) :: F) := H6
  refine g_putf W6 (wd_18 hw) Via.refl (Or.inr ⟨(wd_19 hw), rfl, rfl⟩) (wd_2 hw) (ty := (.array .double)) (by decide) rfl rfl H6 (i := 1) rfl (jx := 4) rfl d1_30 (pc' := 33) rfl (L' := ((a6, ArC Z .double [.double 0, .double 0, .double 0]) :: (sh, ObC Z "com/example/narrow_bounds/narrowbounds/Share" (fs_Share (.ref loA) (.ref hiA) (.int (1 : Int32)) (.int ru) (.ref a6) .null .null .null .null .null .null .null (.double 0) (.double 0) (.int (0 : Int32)) (.int (0 : Int32)))) :: (loA, ArC Z .double lo) :: (hiA, ArC Z .double hi) :: F)) rfl ?_
  intro T7 W7 H7
  refine g_aloadN W7 d1_33 (pc' := 34) rfl rfl rfl ?_
  refine g_aloadN W7 d1_34 (pc' := 35) rfl rfl rfl ?_
  refine g_arrlen W7 H7 (i := 2) rfl (x := (3 : Int32)) hlo d1_35 (pc' := 36) rfl ?_
  refine g_newarr (aty := .double) W7 (wd_0 hw) H7 (by decide) (vs := [.double 0, .double 0, .double 0]) rfl (cap := 3) (Nat.le_of_eq rfl) (by decide) d1_36 (pc' := 38) rfl (kc' := 2) (ks' := 6) rfl rfl (by decide) (by decide) ?_
  intro T8 a8 W8 H8
  replace H8 : Hp Z n0 T8.heap ((a8, ArC Z .double [.double 0, .double 0, .double 0]) :: (a6, ArC Z .double [.double 0, .double 0, .double 0]) :: (sh, ObC Z "com/example/narrow_bounds/narrowbounds/Share" (fs_Share (.ref loA) (.ref hiA) (.int (1 : Int32)) (.int ru) (.ref a6) .null .null .null .null .null .null .null (.double 0) (.double 0) (.int (0 : Int32)) (.int (0 : Int32)))) :: (loA, ArC Z .double lo) :: (hiA, ArC Z .double hi) :: F) := H8
  refine g_putf W8 (wd_20 hw) Via.refl (Or.inr ⟨(wd_21 hw), rfl, rfl⟩) (wd_2 hw) (ty := (.array .double)) (by decide) rfl rfl H8 (i := 2) rfl (jx := 5) rfl d1_38 (pc' := 41) rfl (L' := ((a8, ArC Z .double [.double 0, .double 0, .double 0]) :: (a6, ArC Z .double [.double 0, .double 0, .double 0]) :: (sh, ObC Z "com/example/narrow_bounds/narrowbounds/Share" (fs_Share (.ref loA) (.ref hiA) (.int (1 : Int32)) (.int ru) (.ref a6) (.ref a8) .null .null .null .null .null .null (.double 0) (.double 0) (.int (0 : Int32)) (.int (0 : Int32)))) :: (loA, ArC Z .double lo) :: (hiA, ArC Z .double hi) :: F)) rfl ?_
  intro T9 W9 H9
  refine g_aloadN W9 d1_41 (pc' := 42) rfl rfl rfl ?_
  refine g_aloadN W9 d1_42 (pc' := 43) rfl rfl rfl ?_
  refine g_arrlen W9 H9 (i := 3) rfl (x := (3 : Int32)) hlo d1_43 (pc' := 44) rfl ?_
  refine g_newarr (aty := .boolean) W9 (wd_22 hw) H9 (by decide) (vs := [.int 0, .int 0, .int 0]) rfl (cap := 3) (Nat.le_of_eq rfl) (by decide) d1_44 (pc' := 46) rfl (kc' := 3) (ks' := 9) rfl rfl (by decide) (by decide) ?_
  intro T10 a10 W10 H10
  replace H10 : Hp Z n0 T10.heap ((a10, ArC Z .boolean [.int 0, .int 0, .int 0]) :: (a8, ArC Z .double [.double 0, .double 0, .double 0]) :: (a6, ArC Z .double [.double 0, .double 0, .double 0]) :: (sh, ObC Z "com/example/narrow_bounds/narrowbounds/Share" (fs_Share (.ref loA) (.ref hiA) (.int (1 : Int32)) (.int ru) (.ref a6) (.ref a8) .null .null .null .null .null .null (.double 0) (.double 0) (.int (0 : Int32)) (.int (0 : Int32)))) :: (loA, ArC Z .double lo) :: (hiA, ArC Z .double hi) :: F) := H10
  refine g_putf W10 (wd_23 hw) Via.refl (Or.inr ⟨(wd_24 hw), rfl, rfl⟩) (wd_2 hw) (ty := (.array .boolean)) (by decide) rfl rfl H10 (i := 3) rfl (jx := 6) rfl d1_46 (pc' := 49) rfl (L' := ((a10, ArC Z .boolean [.int 0, .int 0, .int 0]) :: (a8, ArC Z .double [.double 0, .double 0, .double 0]) :: (a6, ArC Z .double [.double 0, .double 0, .double 0]) :: (sh, ObC Z "com/example/narrow_bounds/narrowbounds/Share" (fs_Share (.ref loA) (.ref hiA) (.int (1 : Int32)) (.int ru) (.ref a6) (.ref a8) (.ref a10) .null .null .null .null .null (.double 0) (.double 0) (.int (0 : Int32)) (.int (0 : Int32)))) :: (loA, ArC Z .double lo) :: (hiA, ArC Z .double hi) :: F)) rfl ?_
  intro T11 W11 H11
  refine g_aloadN W11 d1_49 (pc' := 50) rfl rfl rfl ?_
  refine g_aloadN W11 d1_50 (pc' := 51) rfl rfl rfl ?_
  refine g_arrlen W11 H11 (i := 4) rfl (x := (3 : Int32)) hlo d1_51 (pc' := 52) rfl ?_
  refine g_newarr (aty := .int) W11 (wd_25 hw) H11 (by decide) (vs := [.int 0, .int 0, .int 0]) rfl (cap := 3) (Nat.le_of_eq rfl) (by decide) d1_52 (pc' := 54) rfl (kc' := 4) (ks' := 12) rfl rfl (by decide) (by decide) ?_
  intro T12 a12 W12 H12
  replace H12 : Hp Z n0 T12.heap ((a12, ArC Z .int [.int 0, .int 0, .int 0]) :: (a10, ArC Z .boolean [.int 0, .int 0, .int 0]) :: (a8, ArC Z .double [.double 0, .double 0, .double 0]) :: (a6, ArC Z .double [.double 0, .double 0, .double 0]) :: (sh, ObC Z "com/example/narrow_bounds/narrowbounds/Share" (fs_Share (.ref loA) (.ref hiA) (.int (1 : Int32)) (.int ru) (.ref a6) (.ref a8) (.ref a10) .null .null .null .null .null (.double 0) (.double 0) (.int (0 : Int32)) (.int (0 : Int32)))) :: (loA, ArC Z .double lo) :: (hiA, ArC Z .double hi) :: F) := H12
  refine g_putf W12 (wd_26 hw) Via.refl (Or.inr ⟨(wd_27 hw), rfl, rfl⟩) (wd_2 hw) (ty := (.array .int)) (by decide) rfl rfl H12 (i := 4) rfl (jx := 7) rfl d1_54 (pc' := 57) rfl (L' := ((a12, ArC Z .int [.int 0, .int 0, .int 0]) :: (a10, ArC Z .boolean [.int 0, .int 0, .int 0]) :: (a8, ArC Z .double [.double 0, .double 0, .double 0]) :: (a6, ArC Z .double [.double 0, .double 0, .double 0]) :: (sh, ObC Z "com/example/narrow_bounds/narrowbounds/Share" (fs_Share (.ref loA) (.ref hiA) (.int (1 : Int32)) (.int ru) (.ref a6) (.ref a8) (.ref a10) (.ref a12) .null .null .null .null (.double 0) (.double 0) (.int (0 : Int32)) (.int (0 : Int32)))) :: (loA, ArC Z .double lo) :: (hiA, ArC Z .double hi) :: F)) rfl ?_
  intro T13 W13 H13
  refine g_aloadN W13 d1_57 (pc' := 58) rfl rfl rfl ?_
  refine g_aloadN W13 d1_58 (pc' := 59) rfl rfl rfl ?_
  refine g_arrlen W13 H13 (i := 5) rfl (x := (3 : Int32)) hlo d1_59 (pc' := 60) rfl ?_
  refine g_newarr (aty := .double) W13 (wd_0 hw) H13 (by decide) (vs := [.double 0, .double 0, .double 0]) rfl (cap := 3) (Nat.le_of_eq rfl) (by decide) d1_60 (pc' := 62) rfl (kc' := 5) (ks' := 15) rfl rfl (by decide) (by decide) ?_
  intro T14 a14 W14 H14
  replace H14 : Hp Z n0 T14.heap ((a14, ArC Z .double [.double 0, .double 0, .double 0]) :: (a12, ArC Z .int [.int 0, .int 0, .int 0]) :: (a10, ArC Z .boolean [.int 0, .int 0, .int 0]) :: (a8, ArC Z .double [.double 0, .double 0, .double 0]) :: (a6, ArC Z .double [.double 0, .double 0, .double 0]) :: (sh, ObC Z "com/example/narrow_bounds/narrowbounds/Share" (fs_Share (.ref loA) (.ref hiA) (.int (1 : Int32)) (.int ru) (.ref a6) (.ref a8) (.ref a10) (.ref a12) .null .null .null .null (.double 0) (.double 0) (.int (0 : Int32)) (.int (0 : Int32)))) :: (loA, ArC Z .double lo) :: (hiA, ArC Z .double hi) :: F) := H14
  refine g_putf W14 (wd_28 hw) Via.refl (Or.inr ⟨(wd_29 hw), rfl, rfl⟩) (wd_2 hw) (ty := (.array .double)) (by decide) rfl rfl H14 (i := 5) rfl (jx := 8) rfl d1_62 (pc' := 65) rfl (L' := ((a14, ArC Z .double [.double 0, .double 0, .double 0]) :: (a12, ArC Z .int [.int 0, .int 0, .int 0]) :: (a10, ArC Z .boolean [.int 0, .int 0, .int 0]) :: (a8, ArC Z .double [.double 0, .double 0, .double 0]) :: (a6, ArC Z .double [.double 0, .double 0, .double 0]) :: (sh, ObC Z "com/example/narrow_bounds/narrowbounds/Share" (fs_Share (.ref loA) (.ref hiA) (.int (1 : Int32)) (.int ru) (.ref a6) (.ref a8) (.ref a10) (.ref a12) (.ref a14) .null .null .null (.double 0) (.double 0) (.int (0 : Int32)) (.int (0 : Int32)))) :: (loA, ArC Z .double lo) :: (hiA, ArC Z .double hi) :: F)) rfl ?_
  intro T15 W15 H15
  refine g_aloadN W15 d1_65 (pc' := 66) rfl rfl rfl ?_
  refine g_aloadN W15 d1_66 (pc' := 67) rfl rfl rfl ?_
  refine g_arrlen W15 H15 (i := 6) rfl (x := (3 : Int32)) hlo d1_67 (pc' := 68) rfl ?_
  refine g_newarr (aty := .double) W15 (wd_0 hw) H15 (by decide) (vs := [.double 0, .double 0, .double 0]) rfl (cap := 3) (Nat.le_of_eq rfl) (by decide) d1_68 (pc' := 70) rfl (kc' := 6) (ks' := 18) rfl rfl (by decide) (by decide) ?_
  intro T16 a16 W16 H16
  replace H16 : Hp Z n0 T16.heap ((a16, ArC Z .double [.double 0, .double 0, .double 0]) :: (a14, ArC Z .double [.double 0, .double 0, .double 0]) :: (a12, ArC Z .int [.int 0, .int 0, .int 0]) :: (a10, ArC Z .boolean [.int 0, .int 0, .int 0]) :: (a8, ArC Z .double [.double 0, .double 0, .double 0]) :: (a6, ArC Z .double [.double 0, .double 0, .double 0]) :: (sh, ObC Z "com/example/narrow_bounds/narrowbounds/Share" (fs_Share (.ref loA) (.ref hiA) (.int (1 : Int32)) (.int ru) (.ref a6) (.ref a8) (.ref a10) (.ref a12) (.ref a14) .null .null .null (.double 0) (.double 0) (.int (0 : Int32)) (.int (0 : Int32)))) :: (loA, ArC Z .double lo) :: (hiA, ArC Z .double hi) :: F) := H16
  refine g_putf W16 (wd_30 hw) Via.refl (Or.inr ⟨(wd_31 hw), rfl, rfl⟩) (wd_2 hw) (ty := (.array .double)) (by decide) rfl rfl H16 (i := 6) rfl (jx := 9) rfl d1_70 (pc' := 73) rfl (L' := ((a16, ArC Z .double [.double 0, .double 0, .double 0]) :: (a14, ArC Z .double [.double 0, .double 0, .double 0]) :: (a12, ArC Z .int [.int 0, .int 0, .int 0]) :: (a10, ArC Z .boolean [.int 0, .int 0, .int 0]) :: (a8, ArC Z .double [.double 0, .double 0, .double 0]) :: (a6, ArC Z .double [.double 0, .double 0, .double 0]) :: (sh, ObC Z "com/example/narrow_bounds/narrowbounds/Share" (fs_Share (.ref loA) (.ref hiA) (.int (1 : Int32)) (.int ru) (.ref a6) (.ref a8) (.ref a10) (.ref a12) (.ref a14) (.ref a16) .null .null (.double 0) (.double 0) (.int (0 : Int32)) (.int (0 : Int32)))) :: (loA, ArC Z .double lo) :: (hiA, ArC Z .double hi) :: F)) rfl ?_
  intro T17 W17 H17
  refine g_aloadN W17 d1_73 (pc' := 74) rfl rfl rfl ?_
  refine g_aloadN W17 d1_74 (pc' := 75) rfl rfl rfl ?_
  refine g_arrlen W17 H17 (i := 7) rfl (x := (3 : Int32)) hlo d1_75 (pc' := 76) rfl ?_
  refine g_newarr (aty := .double) W17 (wd_0 hw) H17 (by decide) (vs := [.double 0, .double 0, .double 0]) rfl (cap := 3) (Nat.le_of_eq rfl) (by decide) d1_76 (pc' := 78) rfl (kc' := 7) (ks' := 21) rfl rfl (by decide) (by decide) ?_
  intro T18 a18 W18 H18
  replace H18 : Hp Z n0 T18.heap ((a18, ArC Z .double [.double 0, .double 0, .double 0]) :: (a16, ArC Z .double [.double 0, .double 0, .double 0]) :: (a14, ArC Z .double [.double 0, .double 0, .double 0]) :: (a12, ArC Z .int [.int 0, .int 0, .int 0]) :: (a10, ArC Z .boolean [.int 0, .int 0, .int 0]) :: (a8, ArC Z .double [.double 0, .double 0, .double 0]) :: (a6, ArC Z .double [.double 0, .double 0, .double 0]) :: (sh, ObC Z "com/example/narrow_bounds/narrowbounds/Share" (fs_Share (.ref loA) (.ref hiA) (.int (1 : Int32)) (.int ru) (.ref a6) (.ref a8) (.ref a10) (.ref a12) (.ref a14) (.ref a16) .null .null (.double 0) (.double 0) (.int (0 : Int32)) (.int (0 : Int32)))) :: (loA, ArC Z .double lo) :: (hiA, ArC Z .double hi) :: F) := H18
  refine g_putf W18 (wd_32 hw) Via.refl (Or.inr ⟨(wd_33 hw), rfl, rfl⟩) (wd_2 hw) (ty := (.array .double)) (by decide) rfl rfl H18 (i := 7) rfl (jx := 10) rfl d1_78 (pc' := 81) rfl (L' := ((a18, ArC Z .double [.double 0, .double 0, .double 0]) :: (a16, ArC Z .double [.double 0, .double 0, .double 0]) :: (a14, ArC Z .double [.double 0, .double 0, .double 0]) :: (a12, ArC Z .int [.int 0, .int 0, .int 0]) :: (a10, ArC Z .boolean [.int 0, .int 0, .int 0]) :: (a8, ArC Z .double [.double 0, .double 0, .double 0]) :: (a6, ArC Z .double [.double 0, .double 0, .double 0]) :: (sh, ObC Z "com/example/narrow_bounds/narrowbounds/Share" (fs_Share (.ref loA) (.ref hiA) (.int (1 : Int32)) (.int ru) (.ref a6) (.ref a8) (.ref a10) (.ref a12) (.ref a14) (.ref a16) (.ref a18) .null (.double 0) (.double 0) (.int (0 : Int32)) (.int (0 : Int32)))) :: (loA, ArC Z .double lo) :: (hiA, ArC Z .double hi) :: F)) rfl ?_
  intro T19 W19 H19
  refine g_aloadN W19 d1_81 (pc' := 82) rfl rfl rfl ?_
  refine g_aloadN W19 d1_82 (pc' := 83) rfl rfl rfl ?_
  refine g_arrlen W19 H19 (i := 8) rfl (x := (3 : Int32)) hlo d1_83 (pc' := 84) rfl ?_
  refine g_newarr (aty := .double) W19 (wd_0 hw) H19 (by decide) (vs := [.double 0, .double 0, .double 0]) rfl (cap := 3) (Nat.le_of_eq rfl) (by decide) d1_84 (pc' := 86) rfl (kc' := 8) (ks' := 24) rfl rfl (by decide) (by decide) ?_
  intro T20 a20 W20 H20
  replace H20 : Hp Z n0 T20.heap ((a20, ArC Z .double [.double 0, .double 0, .double 0]) :: (a18, ArC Z .double [.double 0, .double 0, .double 0]) :: (a16, ArC Z .double [.double 0, .double 0, .double 0]) :: (a14, ArC Z .double [.double 0, .double 0, .double 0]) :: (a12, ArC Z .int [.int 0, .int 0, .int 0]) :: (a10, ArC Z .boolean [.int 0, .int 0, .int 0]) :: (a8, ArC Z .double [.double 0, .double 0, .double 0]) :: (a6, ArC Z .double [.double 0, .double 0, .double 0]) :: (sh, ObC Z "com/example/narrow_bounds/narrowbounds/Share" (fs_Share (.ref loA) (.ref hiA) (.int (1 : Int32)) (.int ru) (.ref a6) (.ref a8) (.ref a10) (.ref a12) (.ref a14) (.ref a16) (.ref a18) .null (.double 0) (.double 0) (.int (0 : Int32)) (.int (0 : Int32)))) :: (loA, ArC Z .double lo) :: (hiA, ArC Z .double hi) :: F) := H20
  refine g_putf W20 (wd_34 hw) Via.refl (Or.inr ⟨(wd_35 hw), rfl, rfl⟩) (wd_2 hw) (ty := (.array .double)) (by decide) rfl rfl H20 (i := 8) rfl (jx := 11) rfl d1_86 (pc' := 89) rfl (L' := ((a20, ArC Z .double [.double 0, .double 0, .double 0]) :: (a18, ArC Z .double [.double 0, .double 0, .double 0]) :: (a16, ArC Z .double [.double 0, .double 0, .double 0]) :: (a14, ArC Z .double [.double 0, .double 0, .double 0]) :: (a12, ArC Z .int [.int 0, .int 0, .int 0]) :: (a10, ArC Z .boolean [.int 0, .int 0, .int 0]) :: (a8, ArC Z .double [.double 0, .double 0, .double 0]) :: (a6, ArC Z .double [.double 0, .double 0, .double 0]) :: (sh, ObC Z "com/example/narrow_bounds/narrowbounds/Share" (fs_Share (.ref loA) (.ref hiA) (.int (1 : Int32)) (.int ru) (.ref a6) (.ref a8) (.ref a10) (.ref a12) (.ref a14) (.ref a16) (.ref a18) (.ref a20) (.double 0) (.double 0) (.int (0 : Int32)) (.int (0 : Int32)))) :: (loA, ArC Z .double lo) :: (hiA, ArC Z .double hi) :: F)) rfl ?_
  intro T21 W21 H21
  have H22f := Hp.fr1 H21
  have H23f := Hp.fr2 H22f
  have H24f := Hp.fr3 H23f
  have H25f := Hp.fr4 H24f
  have H26f := Hp.fr5 H25f
  have H27f := Hp.fr6 H26f
  have H28f := Hp.fr7 H27f
  have H29f := Hp.fr10 H28f
  have H30f := Hp.fr10 H29f
  have H31f := Hp.fr10 H30f
  exact g_return W21 d1_89 ⟨_, _, _, _, _, _, _, _, rfl, H31f⟩ (by decide) (by decide)
theorem nr00 : Nr 0 0 0 := Or.inl ⟨rfl, iv_zero⟩
theorem c_apf0 (l : Launch) (Z : State) (a0 : Array Value) (hw : ∀ d ∈ tables_1, d.before a0 Z = true) (n0 : Nat) (sh loA hiA owA otA liA raA olA ohA zlA zhA : Addr) (ru kk ef eg : Int32) (hk : kk < 0) (nf ng : Nat) (df : Jvm.OwnKit.Dy (nf : Int) 0 (FP.i2d ef)) (dg : Jvm.OwnKit.Dy (ng : Int) 0 (FP.i2d eg)) (cf : ef ∈ coL) (cg : eg ∈ coL) (nf2 : nf ≤ 16) (ng2 : ng ≤ 16) (h0 : Heap) (F : List HRow) (H00 : Hp Z n0 h0 ((sh, ObC Z "com/example/narrow_bounds/narrowbounds/Share" (fs_Share (.ref loA) (.ref hiA) (.int (0 : Int32)) (.int ru) (.ref owA) (.ref otA) (.ref liA) (.ref raA) (.ref olA) (.ref ohA) (.ref zlA) (.ref zhA) (.double 0) (.double 0) (.int (0 : Int32)) (.int (0 : Int32)))) :: F)) :
    Con l Z n0 ⟨"com/example/narrow_bounds/narrowbounds/Share", "addParts", "(IDD)V"⟩ [] prog_45_method_3_code 6 none ({ frames := 4, cells := 0, slots := 0, locals := 87 } : Room) #[.ref sh, .int kk, .double (FP.i2d ef), .double (FP.i2d eg)] h0 (fun v h => v = none ∧ Hp Z n0 h ((sh, ObC Z "com/example/narrow_bounds/narrowbounds/Share" (fs_Share (.ref loA) (.ref hiA) (.int (0 : Int32)) (.int ru) (.ref owA) (.ref otA) (.ref liA) (.ref raA) (.ref olA) (.ref ohA) (.ref zlA) (.ref zhA) (.double (FP.i2d ef)) (.double (FP.i2d eg)) (.int (0 : Int32)) (.int (0 : Int32)))) :: F)) := by
  refine con_of (plainFor_of_name pn_Share) ?_
  intro p e s m below meth c T0 W0 e0
  subst e0
  have H0 := H00
  refine g_cast (ef_ridd6 m sh kk (FP.i2d ef) (FP.i2d eg)) ?_
  refine g_iloadN W0 d3_0 (pc' := 1) rfl rfl ?_
  refine g_if W0 d3_1 (pcy := 48) (by decide) (pc' := 4) rfl (fun (h : ¬ kk < (0 : Int32)) => absurd hk h) (fun (_ : ¬ ¬ kk < (0 : Int32)) => ?_)
  refine g_aloadN W0 d3_4 (pc' := 5) rfl rfl rfl ?_
  refine g_aloadN W0 d3_5 (pc' := 6) rfl rfl rfl ?_
  refine g_getf W0 (wd_41 hw) Via.refl H0 (i := 0) rfl (jx := 12) rfl d3_6 (pc' := 9) rfl ?_
  intro T1 W1 H1
  refine g_dloadN W1 d3_9 (pc' := 10) rfl rfl ?_
  refine g_aloadN W1 d3_10 (pc' := 11) rfl rfl rfl ?_
  refine g_getf W1 (wd_14 hw) Via.refl H1 (i := 0) rfl (jx := 2) rfl d3_11 (pc' := 14) rfl ?_
  intro T2 W2 H2
  refine g_callS W2 (argsL := [.double 0, .double (FP.i2d ef), .int (0 : Int32)]) (st := [.ref sh]) (wd_43 hw) (wd_44 hw) (wd_45 hw) (wd_46 hw) (by decide) (c_add0 l Z a0 hw n0 0 (FP.i2d ef) _ _ _ _ nr00 (nr_dy df) (by omega) (by omega) _ _ H2) pd_7 rfl rfl rfl d3_14 (pc' := 17) rfl (by decide) (Wn := 1) (Nat.le_of_eq rfl) (by decide) (kc' := 0) (ks' := 0) rfl rfl (by decide) (by decide) ?_
  intro T3 v3 W3 hp3
  obtain ⟨r, rfl, -, hr2, H3⟩ := hp3
  show Goes _ _ _ _ (State.setTop _ (mkF _ _ _ [.double r, .ref sh]))
  obtain rfl : r = FP.i2d ef := (hr2 (Or.inl rfl)).trans (co_add _ cf)
  refine g_putf W3 (wd_41 hw) Via.refl (Or.inl (wd_42 hw)) (wd_2 hw) (ty := .double) (by decide) rfl rfl H3 (i := 0) rfl (jx := 12) rfl d3_17 (pc' := 20) rfl (L' := ((sh, ObC Z "com/example/narrow_bounds/narrowbounds/Share" (fs_Share (.ref loA) (.ref hiA) (.int (0 : Int32)) (.int ru) (.ref owA) (.ref otA) (.ref liA) (.ref raA) (.ref olA) (.ref ohA) (.ref zlA) (.ref zhA) (.double (FP.i2d ef)) (.double 0) (.int (0 : Int32)) (.int (0 : Int32)))) :: F)) rfl ?_
  intro T4 W4 H4
  refine g_aloadN W4 d3_20 (pc' := 21) rfl rfl rfl ?_
  refine g_aloadN W4 d3_21 (pc' := 22) rfl rfl rfl ?_
  refine g_getf W4 (wd_50 hw) Via.refl H4 (i := 0) rfl (jx := 13) rfl d3_22 (pc' := 25) rfl ?_
  intro T5 W5 H5
  refine g_dload W5 d3_25 (pc' := 27) rfl rfl ?_
  refine g_aloadN W5 d3_27 (pc' := 28) rfl rfl rfl ?_
  refine g_getf W5 (wd_14 hw) Via.refl H5 (i := 0) rfl (jx := 2) rfl d3_28 (pc' := 31) rfl ?_
  intro T6 W6 H6
  refine g_if W6 d3_31 (pcy := 38) (by decide) (pc' := 34) rfl (fun (h : ¬ (0 : Int32) = (0 : Int32)) => absurd h (by decide)) (fun _ => ?_)
  refine g_iconst W6 d3_34 (pc' := 35) rfl (v := (1 : Int32)) (by decide) ?_
  refine g_goto W6 d3_35 (pc' := 39) (by decide) ?_
  refine g_callS W6 (argsL := [.double 0, .double (FP.i2d eg), .int (1 : Int32)]) (st := [.ref sh]) (wd_43 hw) (wd_44 hw) (wd_45 hw) (wd_46 hw) (by decide) (c_add1 l Z a0 hw n0 0 (FP.i2d eg) _ _ _ _ nr00 (nr_dy dg) (by omega) (by omega) _ _ H6) pd_7 rfl rfl rfl d3_39 (pc' := 42) rfl (by decide) (Wn := 1) (Nat.le_of_eq rfl) (by decide) (kc' := 0) (ks' := 0) rfl rfl (by decide) (by decide) ?_
  intro T7 v7 W7 hp7
  obtain ⟨r, rfl, -, hr2, H7⟩ := hp7
  show Goes _ _ _ _ (State.setTop _ (mkF _ _ _ [.double r, .ref sh]))
  obtain rfl : r = FP.i2d eg := (hr2 (Or.inl rfl)).trans (co_add _ cg)
  refine g_putf W7 (wd_50 hw) Via.refl (Or.inl (wd_51 hw)) (wd_2 hw) (ty := .double) (by decide) rfl rfl H7 (i := 0) rfl (jx := 13) rfl d3_42 (pc' := 45) rfl (L' := ((sh, ObC Z "com/example/narrow_bounds/narrowbounds/Share" (fs_Share (.ref loA) (.ref hiA) (.int (0 : Int32)) (.int ru) (.ref owA) (.ref otA) (.ref liA) (.ref raA) (.ref olA) (.ref ohA) (.ref zlA) (.ref zhA) (.double (FP.i2d ef)) (.double (FP.i2d eg)) (.int (0 : Int32)) (.int (0 : Int32)))) :: F)) rfl ?_
  intro T8 W8 H8
  refine g_goto W8 d3_45 (pc' := 133) (by decide) ?_
  exact g_return W8 d3_133 ⟨rfl, H8⟩ (by decide) (by decide)
theorem c_apk00o (l : Launch) (Z : State) (a0 : Array Value) (hw : ∀ d ∈ tables_1, d.before a0 Z = true) (n0 : Nat) (sh loA hiA owA otA liA raA olA ohA zlA zhA : Addr) (ru : Int32) (fo fz : UInt64) (kk k0 e1 : Int32) (ik n1 : Nat) (hk : kk.toInt = (ik : Int)) (h1 : e1 ∈ coL) (dn : Jvm.OwnKit.Dy (n1 : Int) 0 (FP.i2d e1)) (bn : n1 ≤ 16) (li ow ot : List Value) (hli : li[ik]? = some (.int 0)) (how : ow[ik]? = some (.double 0)) (hot : ot[ik]? = some (.double 0))  (h0 : Heap) (F : List HRow) (H00 : Hp Z n0 h0 ((sh, ObC Z "com/example/narrow_bounds/narrowbounds/Share" (fs_Share (.ref loA) (.ref hiA) (.int (0 : Int32)) (.int ru) (.ref owA) (.ref otA) (.ref liA) (.ref raA) (.ref olA) (.ref ohA) (.ref zlA) (.ref zhA) (.double fo) (.double fz) (.int (0 : Int32)) (.int (0 : Int32)))) :: (liA, ArC Z .boolean li) :: (raA, ArC Z .int [.int 0, .int 0, .int 0]) :: (owA, ArC Z .double ow) :: (otA, ArC Z .double ot) :: F)) :
    Con l Z n0 ⟨"com/example/narrow_bounds/narrowbounds/Share", "addParts", "(IDD)V"⟩ [] prog_45_method_3_code 6 none ({ frames := 4, cells := 0, slots := 0, locals := 88 } : Room) #[.ref sh, .int kk, .double (FP.i2d e1), .double 0] h0 (fun v h => v = none ∧ Hp Z n0 h ((sh, ObC Z "com/example/narrow_bounds/narrowbounds/Share" (fs_Share (.ref loA) (.ref hiA) (.int (0 : Int32)) (.int ru) (.ref owA) (.ref otA) (.ref liA) (.ref raA) (.ref olA) (.ref ohA) (.ref zlA) (.ref zhA) (.double fo) (.double fz) (.int (1 : Int32)) (.int (0 : Int32)))) :: (liA, ArC Z .boolean (li.set ik (.int (1 : Int32)))) :: (raA, ArC Z .int [.int kk, .int 0, .int 0]) :: (owA, ArC Z .double (ow.set ik (.double (FP.i2d e1)))) :: (otA, ArC Z .double (ot.set ik (.double 0))) :: F)) := by
  refine con_of (plainFor_of_name pn_Share) ?_
  intro p e s m below meth c T0 W0 e0
  subst e0
  have H0 := H00
  refine g_cast (ef_ridd6 m sh kk (FP.i2d e1) 0) ?_
  refine g_iloadN W0 d3_0 (pc' := 1) rfl rfl ?_
  refine g_if W0 d3_1 (pcy := 48) (by decide) (pc' := 4) rfl (fun (_ : ¬ kk < (0 : Int32)) => ?_) (fun (h : ¬ ¬ kk < (0 : Int32)) => absurd (Classical.not_not.mp h) (by rw [Int32.lt_iff_toInt_lt, hk, show (0 : Int32).toInt = 0 by decide]; omega))
  refine g_aloadN W0 d3_48 (pc' := 49) rfl rfl rfl ?_
  refine g_getf W0 (wd_23 hw) Via.refl H0 (i := 0) rfl (jx := 6) rfl d3_49 (pc' := 52) rfl ?_
  intro T1 W1 H1
  refine g_iloadN W1 d3_52 (pc' := 53) rfl rfl ?_
  refine g_zaload W1 H1 (i := 1) rfl (jx := ik) hk (v := .int (0 : Int32)) hli d3_53 (pc' := 54) rfl ?_
  refine g_if W1 d3_54 (pcy := 84) (by decide) (pc' := 57) rfl (fun (h : ¬ (0 : Int32) = (0 : Int32)) => absurd h (by decide)) (fun _ => ?_)
  refine g_aloadN W1 d3_57 (pc' := 58) rfl rfl rfl ?_
  refine g_getf W1 (wd_23 hw) Via.refl H1 (i := 0) rfl (jx := 6) rfl d3_58 (pc' := 61) rfl ?_
  intro T2 W2 H2
  refine g_iloadN W2 d3_61 (pc' := 62) rfl rfl ?_
  refine g_iconst W2 d3_62 (pc' := 63) rfl (v := (1 : Int32)) (by decide) ?_
  refine g_zastore W2 H2 (i := 1) rfl (u' := (1 : Int32)) (by decide) (jx := ik) hk ((List.getElem?_eq_some_iff.mp hli).1) d3_63 (pc' := 64) rfl (L' := ((sh, ObC Z "com/example/narrow_bounds/narrowbounds/Share" (fs_Share (.ref loA) (.ref hiA) (.int (0 : Int32)) (.int ru) (.ref owA) (.ref otA) (.ref liA) (.ref raA) (.ref olA) (.ref ohA) (.ref zlA) (.ref zhA) (.double fo) (.double fz) (.int (0 : Int32)) (.int (0 : Int32)))) :: (liA, ArC Z .boolean (li.set ik (.int (1 : Int32)))) :: (raA, ArC Z .int [.int 0, .int 0, .int 0]) :: (owA, ArC Z .double ow) :: (otA, ArC Z .double ot) :: F)) rfl ?_
  intro T3 W3 H3
  refine g_aloadN W3 d3_64 (pc' := 65) rfl rfl rfl ?_
  refine g_getf W3 (wd_26 hw) Via.refl H3 (i := 0) rfl (jx := 7) rfl d3_65 (pc' := 68) rfl ?_
  intro T4 W4 H4
  refine g_aloadN W4 d3_68 (pc' := 69) rfl rfl rfl ?_
  refine g_getf W4 (wd_59 hw) Via.refl H4 (i := 0) rfl (jx := 14) rfl d3_69 (pc' := 72) rfl ?_
  intro T5 W5 H5
  refine g_iloadN W5 d3_72 (pc' := 73) rfl rfl ?_
  refine g_iastore W5 H5 (i := 2) rfl (jx := 0) (by decide) (by exact (by decide : 0 < 3)) d3_73 (pc' := 74) rfl (L' := ((sh, ObC Z "com/example/narrow_bounds/narrowbounds/Share" (fs_Share (.ref loA) (.ref hiA) (.int (0 : Int32)) (.int ru) (.ref owA) (.ref otA) (.ref liA) (.ref raA) (.ref olA) (.ref ohA) (.ref zlA) (.ref zhA) (.double fo) (.double fz) (.int (0 : Int32)) (.int (0 : Int32)))) :: (liA, ArC Z .boolean (li.set ik (.int (1 : Int32)))) :: (raA, ArC Z .int [.int kk, .int 0, .int 0]) :: (owA, ArC Z .double ow) :: (otA, ArC Z .double ot) :: F)) rfl ?_
  intro T6 W6 H6
  refine g_aloadN W6 d3_74 (pc' := 75) rfl rfl rfl ?_
  refine g_dup W6 d3_75 (pc' := 76) rfl rfl ?_
  refine g_getf W6 (wd_59 hw) Via.refl H6 (i := 0) rfl (jx := 14) rfl d3_76 (pc' := 79) rfl ?_
  intro T7 W7 H7
  refine g_iconst W7 d3_79 (pc' := 80) rfl (v := (1 : Int32)) (by decide) ?_
  refine g_iadd W7 d3_80 (pc' := 81) rfl (v := (1 : Int32)) (by decide) ?_
  refine g_putf W7 (wd_59 hw) Via.refl (Or.inl (wd_60 hw)) (wd_2 hw) (ty := .int) (by decide) rfl rfl H7 (i := 0) rfl (jx := 14) rfl d3_81 (pc' := 84) rfl (L' := ((sh, ObC Z "com/example/narrow_bounds/narrowbounds/Share" (fs_Share (.ref loA) (.ref hiA) (.int (0 : Int32)) (.int ru) (.ref owA) (.ref otA) (.ref liA) (.ref raA) (.ref olA) (.ref ohA) (.ref zlA) (.ref zhA) (.double fo) (.double fz) (.int (1 : Int32)) (.int (0 : Int32)))) :: (liA, ArC Z .boolean (li.set ik (.int (1 : Int32)))) :: (raA, ArC Z .int [.int kk, .int 0, .int 0]) :: (owA, ArC Z .double ow) :: (otA, ArC Z .double ot) :: F)) rfl ?_
  intro T8 W8 H8
  refine g_aloadN W8 d3_84 (pc' := 85) rfl rfl rfl ?_
  refine g_getf W8 (wd_18 hw) Via.refl H8 (i := 0) rfl (jx := 4) rfl d3_85 (pc' := 88) rfl ?_
  intro T9 W9 H9
  refine g_iloadN W9 d3_88 (pc' := 89) rfl rfl ?_
  refine g_aloadN W9 d3_89 (pc' := 90) rfl rfl rfl ?_
  refine g_getf W9 (wd_18 hw) Via.refl H9 (i := 0) rfl (jx := 4) rfl d3_90 (pc' := 93) rfl ?_
  intro T10 W10 H10
  refine g_iloadN W10 d3_93 (pc' := 94) rfl rfl ?_
  refine g_daload W10 H10 (i := 3) rfl (jx := ik) hk (v := .double 0) how d3_94 (pc' := 95) rfl ?_
  refine g_dloadN W10 d3_95 (pc' := 96) rfl rfl ?_
  refine g_aloadN W10 d3_96 (pc' := 97) rfl rfl rfl ?_
  refine g_getf W10 (wd_14 hw) Via.refl H10 (i := 0) rfl (jx := 2) rfl d3_97 (pc' := 100) rfl ?_
  intro T11 W11 H11
  refine g_callS W11 (argsL := [.double 0, .double (FP.i2d e1), .int (0 : Int32)]) (st := [.int kk, .ref owA]) (wd_43 hw) (wd_44 hw) (wd_45 hw) (wd_46 hw) (by decide) (c_add0 l Z a0 hw n0 0 (FP.i2d e1) _ _ _ _ nr00 (nr_dy dn) (by omega) (by omega) _ _ H11) pd_7 rfl rfl rfl d3_100 (pc' := 103) rfl (by decide) (Wn := 2) (Nat.le_of_eq rfl) (by decide) (kc' := 0) (ks' := 0) rfl rfl (by decide) (by decide) ?_
  intro T12 v12 W12 hp12
  obtain ⟨r, rfl, -, hr2, H12⟩ := hp12
  show Goes _ _ _ _ (State.setTop _ (mkF _ _ _ [.double r, .int kk, .ref owA]))
  obtain rfl : r = (FP.i2d e1) := (hr2 (Or.inl rfl)).trans (co_add _ h1)
  refine g_dastore W12 H12 (i := 3) rfl (jx := ik) hk ((List.getElem?_eq_some_iff.mp how).1) d3_103 (pc' := 104) rfl (L' := ((sh, ObC Z "com/example/narrow_bounds/narrowbounds/Share" (fs_Share (.ref loA) (.ref hiA) (.int (0 : Int32)) (.int ru) (.ref owA) (.ref otA) (.ref liA) (.ref raA) (.ref olA) (.ref ohA) (.ref zlA) (.ref zhA) (.double fo) (.double fz) (.int (1 : Int32)) (.int (0 : Int32)))) :: (liA, ArC Z .boolean (li.set ik (.int (1 : Int32)))) :: (raA, ArC Z .int [.int kk, .int 0, .int 0]) :: (owA, ArC Z .double (ow.set ik (.double (FP.i2d e1)))) :: (otA, ArC Z .double ot) :: F)) rfl ?_
  intro T13 W13 H13
  refine g_aloadN W13 d3_104 (pc' := 105) rfl rfl rfl ?_
  refine g_getf W13 (wd_20 hw) Via.refl H13 (i := 0) rfl (jx := 5) rfl d3_105 (pc' := 108) rfl ?_
  intro T14 W14 H14
  refine g_iloadN W14 d3_108 (pc' := 109) rfl rfl ?_
  refine g_aloadN W14 d3_109 (pc' := 110) rfl rfl rfl ?_
  refine g_getf W14 (wd_20 hw) Via.refl H14 (i := 0) rfl (jx := 5) rfl d3_110 (pc' := 113) rfl ?_
  intro T15 W15 H15
  refine g_iloadN W15 d3_113 (pc' := 114) rfl rfl ?_
  refine g_daload W15 H15 (i := 4) rfl (jx := ik) hk (v := .double 0) hot d3_114 (pc' := 115) rfl ?_
  refine g_dload W15 d3_115 (pc' := 117) rfl rfl ?_
  refine g_aloadN W15 d3_117 (pc' := 118) rfl rfl rfl ?_
  refine g_getf W15 (wd_14 hw) Via.refl H15 (i := 0) rfl (jx := 2) rfl d3_118 (pc' := 121) rfl ?_
  intro T16 W16 H16
  refine g_if W16 d3_121 (pcy := 128) (by decide) (pc' := 124) rfl (fun (h : ¬ (0 : Int32) = (0 : Int32)) => absurd h (by decide)) (fun _ => ?_)
  refine g_iconst W16 d3_124 (pc' := 125) rfl (v := (1 : Int32)) (by decide) ?_
  refine g_goto W16 d3_125 (pc' := 129) (by decide) ?_
  refine g_callS W16 (argsL := [.double 0, .double 0, .int (1 : Int32)]) (st := [.int kk, .ref otA]) (wd_43 hw) (wd_44 hw) (wd_45 hw) (wd_46 hw) (by decide) (c_add1 l Z a0 hw n0 0 0 _ _ _ _ nr00 nr00 (by omega) (by omega) _ _ H16) pd_7 rfl rfl rfl d3_129 (pc' := 132) rfl (by decide) (Wn := 2) (Nat.le_of_eq rfl) (by decide) (kc' := 0) (ks' := 0) rfl rfl (by decide) (by decide) ?_
  intro T17 v17 W17 hp17
  obtain ⟨r, rfl, -, hr2, H17⟩ := hp17
  show Goes _ _ _ _ (State.setTop _ (mkF _ _ _ [.double r, .int kk, .ref otA]))
  obtain rfl : r = 0 := (hr2 (Or.inl rfl)).trans co_add0
  refine g_dastore W17 H17 (i := 4) rfl (jx := ik) hk ((List.getElem?_eq_some_iff.mp hot).1) d3_132 (pc' := 133) rfl (L' := ((sh, ObC Z "com/example/narrow_bounds/narrowbounds/Share" (fs_Share (.ref loA) (.ref hiA) (.int (0 : Int32)) (.int ru) (.ref owA) (.ref otA) (.ref liA) (.ref raA) (.ref olA) (.ref ohA) (.ref zlA) (.ref zhA) (.double fo) (.double fz) (.int (1 : Int32)) (.int (0 : Int32)))) :: (liA, ArC Z .boolean (li.set ik (.int (1 : Int32)))) :: (raA, ArC Z .int [.int kk, .int 0, .int 0]) :: (owA, ArC Z .double (ow.set ik (.double (FP.i2d e1)))) :: (otA, ArC Z .double (ot.set ik (.double 0))) :: F)) rfl ?_
  intro T18 W18 H18
  exact g_return W18 d3_133 ⟨rfl, H18⟩ (by decide) (by decide)
theorem c_apk00z (l : Launch) (Z : State) (a0 : Array Value) (hw : ∀ d ∈ tables_1, d.before a0 Z = true) (n0 : Nat) (sh loA hiA owA otA liA raA olA ohA zlA zhA : Addr) (ru : Int32) (fo fz : UInt64) (kk k0 e1 : Int32) (ik n1 : Nat) (hk : kk.toInt = (ik : Int)) (h1 : e1 ∈ coL) (dn : Jvm.OwnKit.Dy (n1 : Int) 0 (FP.i2d e1)) (bn : n1 ≤ 16) (li ow ot : List Value) (hli : li[ik]? = some (.int 0)) (how : ow[ik]? = some (.double 0)) (hot : ot[ik]? = some (.double 0))  (h0 : Heap) (F : List HRow) (H00 : Hp Z n0 h0 ((sh, ObC Z "com/example/narrow_bounds/narrowbounds/Share" (fs_Share (.ref loA) (.ref hiA) (.int (0 : Int32)) (.int ru) (.ref owA) (.ref otA) (.ref liA) (.ref raA) (.ref olA) (.ref ohA) (.ref zlA) (.ref zhA) (.double fo) (.double fz) (.int (0 : Int32)) (.int (0 : Int32)))) :: (liA, ArC Z .boolean li) :: (raA, ArC Z .int [.int 0, .int 0, .int 0]) :: (owA, ArC Z .double ow) :: (otA, ArC Z .double ot) :: F)) :
    Con l Z n0 ⟨"com/example/narrow_bounds/narrowbounds/Share", "addParts", "(IDD)V"⟩ [] prog_45_method_3_code 6 none ({ frames := 4, cells := 0, slots := 0, locals := 88 } : Room) #[.ref sh, .int kk, .double 0, .double (FP.i2d e1)] h0 (fun v h => v = none ∧ Hp Z n0 h ((sh, ObC Z "com/example/narrow_bounds/narrowbounds/Share" (fs_Share (.ref loA) (.ref hiA) (.int (0 : Int32)) (.int ru) (.ref owA) (.ref otA) (.ref liA) (.ref raA) (.ref olA) (.ref ohA) (.ref zlA) (.ref zhA) (.double fo) (.double fz) (.int (1 : Int32)) (.int (0 : Int32)))) :: (liA, ArC Z .boolean (li.set ik (.int (1 : Int32)))) :: (raA, ArC Z .int [.int kk, .int 0, .int 0]) :: (owA, ArC Z .double (ow.set ik (.double 0))) :: (otA, ArC Z .double (ot.set ik (.double (FP.i2d e1)))) :: F)) := by
  refine con_of (plainFor_of_name pn_Share) ?_
  intro p e s m below meth c T0 W0 e0
  subst e0
  have H0 := H00
  refine g_cast (ef_ridd6 m sh kk 0 (FP.i2d e1)) ?_
  refine g_iloadN W0 d3_0 (pc' := 1) rfl rfl ?_
  refine g_if W0 d3_1 (pcy := 48) (by decide) (pc' := 4) rfl (fun (_ : ¬ kk < (0 : Int32)) => ?_) (fun (h : ¬ ¬ kk < (0 : Int32)) => absurd (Classical.not_not.mp h) (by rw [Int32.lt_iff_toInt_lt, hk, show (0 : Int32).toInt = 0 by decide]; omega))
  refine g_aloadN W0 d3_48 (pc' := 49) rfl rfl rfl ?_
  refine g_getf W0 (wd_23 hw) Via.refl H0 (i := 0) rfl (jx := 6) rfl d3_49 (pc' := 52) rfl ?_
  intro T1 W1 H1
  refine g_iloadN W1 d3_52 (pc' := 53) rfl rfl ?_
  refine g_zaload W1 H1 (i := 1) rfl (jx := ik) hk (v := .int (0 : Int32)) hli d3_53 (pc' := 54) rfl ?_
  refine g_if W1 d3_54 (pcy := 84) (by decide) (pc' := 57) rfl (fun (h : ¬ (0 : Int32) = (0 : Int32)) => absurd h (by decide)) (fun _ => ?_)
  refine g_aloadN W1 d3_57 (pc' := 58) rfl rfl rfl ?_
  refine g_getf W1 (wd_23 hw) Via.refl H1 (i := 0) rfl (jx := 6) rfl d3_58 (pc' := 61) rfl ?_
  intro T2 W2 H2
  refine g_iloadN W2 d3_61 (pc' := 62) rfl rfl ?_
  refine g_iconst W2 d3_62 (pc' := 63) rfl (v := (1 : Int32)) (by decide) ?_
  refine g_zastore W2 H2 (i := 1) rfl (u' := (1 : Int32)) (by decide) (jx := ik) hk ((List.getElem?_eq_some_iff.mp hli).1) d3_63 (pc' := 64) rfl (L' := ((sh, ObC Z "com/example/narrow_bounds/narrowbounds/Share" (fs_Share (.ref loA) (.ref hiA) (.int (0 : Int32)) (.int ru) (.ref owA) (.ref otA) (.ref liA) (.ref raA) (.ref olA) (.ref ohA) (.ref zlA) (.ref zhA) (.double fo) (.double fz) (.int (0 : Int32)) (.int (0 : Int32)))) :: (liA, ArC Z .boolean (li.set ik (.int (1 : Int32)))) :: (raA, ArC Z .int [.int 0, .int 0, .int 0]) :: (owA, ArC Z .double ow) :: (otA, ArC Z .double ot) :: F)) rfl ?_
  intro T3 W3 H3
  refine g_aloadN W3 d3_64 (pc' := 65) rfl rfl rfl ?_
  refine g_getf W3 (wd_26 hw) Via.refl H3 (i := 0) rfl (jx := 7) rfl d3_65 (pc' := 68) rfl ?_
  intro T4 W4 H4
  refine g_aloadN W4 d3_68 (pc' := 69) rfl rfl rfl ?_
  refine g_getf W4 (wd_59 hw) Via.refl H4 (i := 0) rfl (jx := 14) rfl d3_69 (pc' := 72) rfl ?_
  intro T5 W5 H5
  refine g_iloadN W5 d3_72 (pc' := 73) rfl rfl ?_
  refine g_iastore W5 H5 (i := 2) rfl (jx := 0) (by decide) (by exact (by decide : 0 < 3)) d3_73 (pc' := 74) rfl (L' := ((sh, ObC Z "com/example/narrow_bounds/narrowbounds/Share" (fs_Share (.ref loA) (.ref hiA) (.int (0 : Int32)) (.int ru) (.ref owA) (.ref otA) (.ref liA) (.ref raA) (.ref olA) (.ref ohA) (.ref zlA) (.ref zhA) (.double fo) (.double fz) (.int (0 : Int32)) (.int (0 : Int32)))) :: (liA, ArC Z .boolean (li.set ik (.int (1 : Int32)))) :: (raA, ArC Z .int [.int kk, .int 0, .int 0]) :: (owA, ArC Z .double ow) :: (otA, ArC Z .double ot) :: F)) rfl ?_
  intro T6 W6 H6
  refine g_aloadN W6 d3_74 (pc' := 75) rfl rfl rfl ?_
  refine g_dup W6 d3_75 (pc' := 76) rfl rfl ?_
  refine g_getf W6 (wd_59 hw) Via.refl H6 (i := 0) rfl (jx := 14) rfl d3_76 (pc' := 79) rfl ?_
  intro T7 W7 H7
  refine g_iconst W7 d3_79 (pc' := 80) rfl (v := (1 : Int32)) (by decide) ?_
  refine g_iadd W7 d3_80 (pc' := 81) rfl (v := (1 : Int32)) (by decide) ?_
  refine g_putf W7 (wd_59 hw) Via.refl (Or.inl (wd_60 hw)) (wd_2 hw) (ty := .int) (by decide) rfl rfl H7 (i := 0) rfl (jx := 14) rfl d3_81 (pc' := 84) rfl (L' := ((sh, ObC Z "com/example/narrow_bounds/narrowbounds/Share" (fs_Share (.ref loA) (.ref hiA) (.int (0 : Int32)) (.int ru) (.ref owA) (.ref otA) (.ref liA) (.ref raA) (.ref olA) (.ref ohA) (.ref zlA) (.ref zhA) (.double fo) (.double fz) (.int (1 : Int32)) (.int (0 : Int32)))) :: (liA, ArC Z .boolean (li.set ik (.int (1 : Int32)))) :: (raA, ArC Z .int [.int kk, .int 0, .int 0]) :: (owA, ArC Z .double ow) :: (otA, ArC Z .double ot) :: F)) rfl ?_
  intro T8 W8 H8
  refine g_aloadN W8 d3_84 (pc' := 85) rfl rfl rfl ?_
  refine g_getf W8 (wd_18 hw) Via.refl H8 (i := 0) rfl (jx := 4) rfl d3_85 (pc' := 88) rfl ?_
  intro T9 W9 H9
  refine g_iloadN W9 d3_88 (pc' := 89) rfl rfl ?_
  refine g_aloadN W9 d3_89 (pc' := 90) rfl rfl rfl ?_
  refine g_getf W9 (wd_18 hw) Via.refl H9 (i := 0) rfl (jx := 4) rfl d3_90 (pc' := 93) rfl ?_
  intro T10 W10 H10
  refine g_iloadN W10 d3_93 (pc' := 94) rfl rfl ?_
  refine g_daload W10 H10 (i := 3) rfl (jx := ik) hk (v := .double 0) how d3_94 (pc' := 95) rfl ?_
  refine g_dloadN W10 d3_95 (pc' := 96) rfl rfl ?_
  refine g_aloadN W10 d3_96 (pc' := 97) rfl rfl rfl ?_
  refine g_getf W10 (wd_14 hw) Via.refl H10 (i := 0) rfl (jx := 2) rfl d3_97 (pc' := 100) rfl ?_
  intro T11 W11 H11
  refine g_callS W11 (argsL := [.double 0, .double 0, .int (0 : Int32)]) (st := [.int kk, .ref owA]) (wd_43 hw) (wd_44 hw) (wd_45 hw) (wd_46 hw) (by decide) (c_add0 l Z a0 hw n0 0 0 _ _ _ _ nr00 nr00 (by omega) (by omega) _ _ H11) pd_7 rfl rfl rfl d3_100 (pc' := 103) rfl (by decide) (Wn := 2) (Nat.le_of_eq rfl) (by decide) (kc' := 0) (ks' := 0) rfl rfl (by decide) (by decide) ?_
  intro T12 v12 W12 hp12
  obtain ⟨r, rfl, -, hr2, H12⟩ := hp12
  show Goes _ _ _ _ (State.setTop _ (mkF _ _ _ [.double r, .int kk, .ref owA]))
  obtain rfl : r = 0 := (hr2 (Or.inl rfl)).trans co_add0
  refine g_dastore W12 H12 (i := 3) rfl (jx := ik) hk ((List.getElem?_eq_some_iff.mp how).1) d3_103 (pc' := 104) rfl (L' := ((sh, ObC Z "com/example/narrow_bounds/narrowbounds/Share" (fs_Share (.ref loA) (.ref hiA) (.int (0 : Int32)) (.int ru) (.ref owA) (.ref otA) (.ref liA) (.ref raA) (.ref olA) (.ref ohA) (.ref zlA) (.ref zhA) (.double fo) (.double fz) (.int (1 : Int32)) (.int (0 : Int32)))) :: (liA, ArC Z .boolean (li.set ik (.int (1 : Int32)))) :: (raA, ArC Z .int [.int kk, .int 0, .int 0]) :: (owA, ArC Z .double (ow.set ik (.double 0))) :: (otA, ArC Z .double ot) :: F)) rfl ?_
  intro T13 W13 H13
  refine g_aloadN W13 d3_104 (pc' := 105) rfl rfl rfl ?_
  refine g_getf W13 (wd_20 hw) Via.refl H13 (i := 0) rfl (jx := 5) rfl d3_105 (pc' := 108) rfl ?_
  intro T14 W14 H14
  refine g_iloadN W14 d3_108 (pc' := 109) rfl rfl ?_
  refine g_aloadN W14 d3_109 (pc' := 110) rfl rfl rfl ?_
  refine g_getf W14 (wd_20 hw) Via.refl H14 (i := 0) rfl (jx := 5) rfl d3_110 (pc' := 113) rfl ?_
  intro T15 W15 H15
  refine g_iloadN W15 d3_113 (pc' := 114) rfl rfl ?_
  refine g_daload W15 H15 (i := 4) rfl (jx := ik) hk (v := .double 0) hot d3_114 (pc' := 115) rfl ?_
  refine g_dload W15 d3_115 (pc' := 117) rfl rfl ?_
  refine g_aloadN W15 d3_117 (pc' := 118) rfl rfl rfl ?_
  refine g_getf W15 (wd_14 hw) Via.refl H15 (i := 0) rfl (jx := 2) rfl d3_118 (pc' := 121) rfl ?_
  intro T16 W16 H16
  refine g_if W16 d3_121 (pcy := 128) (by decide) (pc' := 124) rfl (fun (h : ¬ (0 : Int32) = (0 : Int32)) => absurd h (by decide)) (fun _ => ?_)
  refine g_iconst W16 d3_124 (pc' := 125) rfl (v := (1 : Int32)) (by decide) ?_
  refine g_goto W16 d3_125 (pc' := 129) (by decide) ?_
  refine g_callS W16 (argsL := [.double 0, .double (FP.i2d e1), .int (1 : Int32)]) (st := [.int kk, .ref otA]) (wd_43 hw) (wd_44 hw) (wd_45 hw) (wd_46 hw) (by decide) (c_add1 l Z a0 hw n0 0 (FP.i2d e1) _ _ _ _ nr00 (nr_dy dn) (by omega) (by omega) _ _ H16) pd_7 rfl rfl rfl d3_129 (pc' := 132) rfl (by decide) (Wn := 2) (Nat.le_of_eq rfl) (by decide) (kc' := 0) (ks' := 0) rfl rfl (by decide) (by decide) ?_
  intro T17 v17 W17 hp17
  obtain ⟨r, rfl, -, hr2, H17⟩ := hp17
  show Goes _ _ _ _ (State.setTop _ (mkF _ _ _ [.double r, .int kk, .ref otA]))
  obtain rfl : r = (FP.i2d e1) := (hr2 (Or.inl rfl)).trans (co_add _ h1)
  refine g_dastore W17 H17 (i := 4) rfl (jx := ik) hk ((List.getElem?_eq_some_iff.mp hot).1) d3_132 (pc' := 133) rfl (L' := ((sh, ObC Z "com/example/narrow_bounds/narrowbounds/Share" (fs_Share (.ref loA) (.ref hiA) (.int (0 : Int32)) (.int ru) (.ref owA) (.ref otA) (.ref liA) (.ref raA) (.ref olA) (.ref ohA) (.ref zlA) (.ref zhA) (.double fo) (.double fz) (.int (1 : Int32)) (.int (0 : Int32)))) :: (liA, ArC Z .boolean (li.set ik (.int (1 : Int32)))) :: (raA, ArC Z .int [.int kk, .int 0, .int 0]) :: (owA, ArC Z .double (ow.set ik (.double 0))) :: (otA, ArC Z .double (ot.set ik (.double (FP.i2d e1)))) :: F)) rfl ?_
  intro T18 W18 H18
  exact g_return W18 d3_133 ⟨rfl, H18⟩ (by decide) (by decide)
theorem c_apk01o (l : Launch) (Z : State) (a0 : Array Value) (hw : ∀ d ∈ tables_1, d.before a0 Z = true) (n0 : Nat) (sh loA hiA owA otA liA raA olA ohA zlA zhA : Addr) (ru : Int32) (fo fz : UInt64) (kk k0 e1 : Int32) (ik n1 : Nat) (hk : kk.toInt = (ik : Int)) (h1 : e1 ∈ coL) (dn : Jvm.OwnKit.Dy (n1 : Int) 0 (FP.i2d e1)) (bn : n1 ≤ 16) (li ow ot : List Value) (hli : li[ik]? = some (.int 0)) (how : ow[ik]? = some (.double 0)) (hot : ot[ik]? = some (.double 0))  (h0 : Heap) (F : List HRow) (H00 : Hp Z n0 h0 ((sh, ObC Z "com/example/narrow_bounds/narrowbounds/Share" (fs_Share (.ref loA) (.ref hiA) (.int (0 : Int32)) (.int ru) (.ref owA) (.ref otA) (.ref liA) (.ref raA) (.ref olA) (.ref ohA) (.ref zlA) (.ref zhA) (.double fo) (.double fz) (.int (1 : Int32)) (.int (0 : Int32)))) :: (liA, ArC Z .boolean li) :: (raA, ArC Z .int [.int k0, .int 0, .int 0]) :: (owA, ArC Z .double ow) :: (otA, ArC Z .double ot) :: F)) :
    Con l Z n0 ⟨"com/example/narrow_bounds/narrowbounds/Share", "addParts", "(IDD)V"⟩ [] prog_45_method_3_code 6 none ({ frames := 4, cells := 0, slots := 0, locals := 88 } : Room) #[.ref sh, .int kk, .double (FP.i2d e1), .double 0] h0 (fun v h => v = none ∧ Hp Z n0 h ((sh, ObC Z "com/example/narrow_bounds/narrowbounds/Share" (fs_Share (.ref loA) (.ref hiA) (.int (0 : Int32)) (.int ru) (.ref owA) (.ref otA) (.ref liA) (.ref raA) (.ref olA) (.ref ohA) (.ref zlA) (.ref zhA) (.double fo) (.double fz) (.int (2 : Int32)) (.int (0 : Int32)))) :: (liA, ArC Z .boolean (li.set ik (.int (1 : Int32)))) :: (raA, ArC Z .int [.int k0, .int kk, .int 0]) :: (owA, ArC Z .double (ow.set ik (.double (FP.i2d e1)))) :: (otA, ArC Z .double (ot.set ik (.double 0))) :: F)) := by
  refine con_of (plainFor_of_name pn_Share) ?_
  intro p e s m below meth c T0 W0 e0
  subst e0
  have H0 := H00
  refine g_cast (ef_ridd6 m sh kk (FP.i2d e1) 0) ?_
  refine g_iloadN W0 d3_0 (pc' := 1) rfl rfl ?_
  refine g_if W0 d3_1 (pcy := 48) (by decide) (pc' := 4) rfl (fun (_ : ¬ kk < (0 : Int32)) => ?_) (fun (h : ¬ ¬ kk < (0 : Int32)) => absurd (Classical.not_not.mp h) (by rw [Int32.lt_iff_toInt_lt, hk, show (0 : Int32).toInt = 0 by decide]; omega))
  refine g_aloadN W0 d3_48 (pc' := 49) rfl rfl rfl ?_
  refine g_getf W0 (wd_23 hw) Via.refl H0 (i := 0) rfl (jx := 6) rfl d3_49 (pc' := 52) rfl ?_
  intro T1 W1 H1
  refine g_iloadN W1 d3_52 (pc' := 53) rfl rfl ?_
  refine g_zaload W1 H1 (i := 1) rfl (jx := ik) hk (v := .int (0 : Int32)) hli d3_53 (pc' := 54) rfl ?_
  refine g_if W1 d3_54 (pcy := 84) (by decide) (pc' := 57) rfl (fun (h : ¬ (0 : Int32) = (0 : Int32)) => absurd h (by decide)) (fun _ => ?_)
  refine g_aloadN W1 d3_57 (pc' := 58) rfl rfl rfl ?_
  refine g_getf W1 (wd_23 hw) Via.refl H1 (i := 0) rfl (jx := 6) rfl d3_58 (pc' := 61) rfl ?_
  intro T2 W2 H2
  refine g_iloadN W2 d3_61 (pc' := 62) rfl rfl ?_
  refine g_iconst W2 d3_62 (pc' := 63) rfl (v := (1 : Int32)) (by decide) ?_
  refine g_zastore W2 H2 (i := 1) rfl (u' := (1 : Int32)) (by decide) (jx := ik) hk ((List.getElem?_eq_some_iff.mp hli).1) d3_63 (pc' := 64) rfl (L' := ((sh, ObC Z "com/example/narrow_bounds/narrowbounds/Share" (fs_Share (.ref loA) (.ref hiA) (.int (0 : Int32)) (.int ru) (.ref owA) (.ref otA) (.ref liA) (.ref raA) (.ref olA) (.ref ohA) (.ref zlA) (.ref zhA) (.double fo) (.double fz) (.int (1 : Int32)) (.int (0 : Int32)))) :: (liA, ArC Z .boolean (li.set ik (.int (1 : Int32)))) :: (raA, ArC Z .int [.int k0, .int 0, .int 0]) :: (owA, ArC Z .double ow) :: (otA, ArC Z .double ot) :: F)) rfl ?_
  intro T3 W3 H3
  refine g_aloadN W3 d3_64 (pc' := 65) rfl rfl rfl ?_
  refine g_getf W3 (wd_26 hw) Via.refl H3 (i := 0) rfl (jx := 7) rfl d3_65 (pc' := 68) rfl ?_
  intro T4 W4 H4
  refine g_aloadN W4 d3_68 (pc' := 69) rfl rfl rfl ?_
  refine g_getf W4 (wd_59 hw) Via.refl H4 (i := 0) rfl (jx := 14) rfl d3_69 (pc' := 72) rfl ?_
  intro T5 W5 H5
  refine g_iloadN W5 d3_72 (pc' := 73) rfl rfl ?_
  refine g_iastore W5 H5 (i := 2) rfl (jx := 1) (by decide) (by exact (by decide : 1 < 3)) d3_73 (pc' := 74) rfl (L' := ((sh, ObC Z "com/example/narrow_bounds/narrowbounds/Share" (fs_Share (.ref loA) (.ref hiA) (.int (0 : Int32)) (.int ru) (.ref owA) (.ref otA) (.ref liA) (.ref raA) (.ref olA) (.ref ohA) (.ref zlA) (.ref zhA) (.double fo) (.double fz) (.int (1 : Int32)) (.int (0 : Int32)))) :: (liA, ArC Z .boolean (li.set ik (.int (1 : Int32)))) :: (raA, ArC Z .int [.int k0, .int kk, .int 0]) :: (owA, ArC Z .double ow) :: (otA, ArC Z .double ot) :: F)) rfl ?_
  intro T6 W6 H6
  refine g_aloadN W6 d3_74 (pc' := 75) rfl rfl rfl ?_
  refine g_dup W6 d3_75 (pc' := 76) rfl rfl ?_
  refine g_getf W6 (wd_59 hw) Via.refl H6 (i := 0) rfl (jx := 14) rfl d3_76 (pc' := 79) rfl ?_
  intro T7 W7 H7
  refine g_iconst W7 d3_79 (pc' := 80) rfl (v := (1 : Int32)) (by decide) ?_
  refine g_iadd W7 d3_80 (pc' := 81) rfl (v := (2 : Int32)) (by decide) ?_
  refine g_putf W7 (wd_59 hw) Via.refl (Or.inl (wd_60 hw)) (wd_2 hw) (ty := .int) (by decide) rfl rfl H7 (i := 0) rfl (jx := 14) rfl d3_81 (pc' := 84) rfl (L' := ((sh, ObC Z "com/example/narrow_bounds/narrowbounds/Share" (fs_Share (.ref loA) (.ref hiA) (.int (0 : Int32)) (.int ru) (.ref owA) (.ref otA) (.ref liA) (.ref raA) (.ref olA) (.ref ohA) (.ref zlA) (.ref zhA) (.double fo) (.double fz) (.int (2 : Int32)) (.int (0 : Int32)))) :: (liA, ArC Z .boolean (li.set ik (.int (1 : Int32)))) :: (raA, ArC Z .int [.int k0, .int kk, .int 0]) :: (owA, ArC Z .double ow) :: (otA, ArC Z .double ot) :: F)) rfl ?_
  intro T8 W8 H8
  refine g_aloadN W8 d3_84 (pc' := 85) rfl rfl rfl ?_
  refine g_getf W8 (wd_18 hw) Via.refl H8 (i := 0) rfl (jx := 4) rfl d3_85 (pc' := 88) rfl ?_
  intro T9 W9 H9
  refine g_iloadN W9 d3_88 (pc' := 89) rfl rfl ?_
  refine g_aloadN W9 d3_89 (pc' := 90) rfl rfl rfl ?_
  refine g_getf W9 (wd_18 hw) Via.refl H9 (i := 0) rfl (jx := 4) rfl d3_90 (pc' := 93) rfl ?_
  intro T10 W10 H10
  refine g_iloadN W10 d3_93 (pc' := 94) rfl rfl ?_
  refine g_daload W10 H10 (i := 3) rfl (jx := ik) hk (v := .double 0) how d3_94 (pc' := 95) rfl ?_
  refine g_dloadN W10 d3_95 (pc' := 96) rfl rfl ?_
  refine g_aloadN W10 d3_96 (pc' := 97) rfl rfl rfl ?_
  refine g_getf W10 (wd_14 hw) Via.refl H10 (i := 0) rfl (jx := 2) rfl d3_97 (pc' := 100) rfl ?_
  intro T11 W11 H11
  refine g_callS W11 (argsL := [.double 0, .double (FP.i2d e1), .int (0 : Int32)]) (st := [.int kk, .ref owA]) (wd_43 hw) (wd_44 hw) (wd_45 hw) (wd_46 hw) (by decide) (c_add0 l Z a0 hw n0 0 (FP.i2d e1) _ _ _ _ nr00 (nr_dy dn) (by omega) (by omega) _ _ H11) pd_7 rfl rfl rfl d3_100 (pc' := 103) rfl (by decide) (Wn := 2) (Nat.le_of_eq rfl) (by decide) (kc' := 0) (ks' := 0) rfl rfl (by decide) (by decide) ?_
  intro T12 v12 W12 hp12
  obtain ⟨r, rfl, -, hr2, H12⟩ := hp12
  show Goes _ _ _ _ (State.setTop _ (mkF _ _ _ [.double r, .int kk, .ref owA]))
  obtain rfl : r = (FP.i2d e1) := (hr2 (Or.inl rfl)).trans (co_add _ h1)
  refine g_dastore W12 H12 (i := 3) rfl (jx := ik) hk ((List.getElem?_eq_some_iff.mp how).1) d3_103 (pc' := 104) rfl (L' := ((sh, ObC Z "com/example/narrow_bounds/narrowbounds/Share" (fs_Share (.ref loA) (.ref hiA) (.int (0 : Int32)) (.int ru) (.ref owA) (.ref otA) (.ref liA) (.ref raA) (.ref olA) (.ref ohA) (.ref zlA) (.ref zhA) (.double fo) (.double fz) (.int (2 : Int32)) (.int (0 : Int32)))) :: (liA, ArC Z .boolean (li.set ik (.int (1 : Int32)))) :: (raA, ArC Z .int [.int k0, .int kk, .int 0]) :: (owA, ArC Z .double (ow.set ik (.double (FP.i2d e1)))) :: (otA, ArC Z .double ot) :: F)) rfl ?_
  intro T13 W13 H13
  refine g_aloadN W13 d3_104 (pc' := 105) rfl rfl rfl ?_
  refine g_getf W13 (wd_20 hw) Via.refl H13 (i := 0) rfl (jx := 5) rfl d3_105 (pc' := 108) rfl ?_
  intro T14 W14 H14
  refine g_iloadN W14 d3_108 (pc' := 109) rfl rfl ?_
  refine g_aloadN W14 d3_109 (pc' := 110) rfl rfl rfl ?_
  refine g_getf W14 (wd_20 hw) Via.refl H14 (i := 0) rfl (jx := 5) rfl d3_110 (pc' := 113) rfl ?_
  intro T15 W15 H15
  refine g_iloadN W15 d3_113 (pc' := 114) rfl rfl ?_
  refine g_daload W15 H15 (i := 4) rfl (jx := ik) hk (v := .double 0) hot d3_114 (pc' := 115) rfl ?_
  refine g_dload W15 d3_115 (pc' := 117) rfl rfl ?_
  refine g_aloadN W15 d3_117 (pc' := 118) rfl rfl rfl ?_
  refine g_getf W15 (wd_14 hw) Via.refl H15 (i := 0) rfl (jx := 2) rfl d3_118 (pc' := 121) rfl ?_
  intro T16 W16 H16
  refine g_if W16 d3_121 (pcy := 128) (by decide) (pc' := 124) rfl (fun (h : ¬ (0 : Int32) = (0 : Int32)) => absurd h (by decide)) (fun _ => ?_)
  refine g_iconst W16 d3_124 (pc' := 125) rfl (v := (1 : Int32)) (by decide) ?_
  refine g_goto W16 d3_125 (pc' := 129) (by decide) ?_
  refine g_callS W16 (argsL := [.double 0, .double 0, .int (1 : Int32)]) (st := [.int kk, .ref otA]) (wd_43 hw) (wd_44 hw) (wd_45 hw) (wd_46 hw) (by decide) (c_add1 l Z a0 hw n0 0 0 _ _ _ _ nr00 nr00 (by omega) (by omega) _ _ H16) pd_7 rfl rfl rfl d3_129 (pc' := 132) rfl (by decide) (Wn := 2) (Nat.le_of_eq rfl) (by decide) (kc' := 0) (ks' := 0) rfl rfl (by decide) (by decide) ?_
  intro T17 v17 W17 hp17
  obtain ⟨r, rfl, -, hr2, H17⟩ := hp17
  show Goes _ _ _ _ (State.setTop _ (mkF _ _ _ [.double r, .int kk, .ref otA]))
  obtain rfl : r = 0 := (hr2 (Or.inl rfl)).trans co_add0
  refine g_dastore W17 H17 (i := 4) rfl (jx := ik) hk ((List.getElem?_eq_some_iff.mp hot).1) d3_132 (pc' := 133) rfl (L' := ((sh, ObC Z "com/example/narrow_bounds/narrowbounds/Share" (fs_Share (.ref loA) (.ref hiA) (.int (0 : Int32)) (.int ru) (.ref owA) (.ref otA) (.ref liA) (.ref raA) (.ref olA) (.ref ohA) (.ref zlA) (.ref zhA) (.double fo) (.double fz) (.int (2 : Int32)) (.int (0 : Int32)))) :: (liA, ArC Z .boolean (li.set ik (.int (1 : Int32)))) :: (raA, ArC Z .int [.int k0, .int kk, .int 0]) :: (owA, ArC Z .double (ow.set ik (.double (FP.i2d e1)))) :: (otA, ArC Z .double (ot.set ik (.double 0))) :: F)) rfl ?_
  intro T18 W18 H18
  exact g_return W18 d3_133 ⟨rfl, H18⟩ (by decide) (by decide)
theorem c_apk01z (l : Launch) (Z : State) (a0 : Array Value) (hw : ∀ d ∈ tables_1, d.before a0 Z = true) (n0 : Nat) (sh loA hiA owA otA liA raA olA ohA zlA zhA : Addr) (ru : Int32) (fo fz : UInt64) (kk k0 e1 : Int32) (ik n1 : Nat) (hk : kk.toInt = (ik : Int)) (h1 : e1 ∈ coL) (dn : Jvm.OwnKit.Dy (n1 : Int) 0 (FP.i2d e1)) (bn : n1 ≤ 16) (li ow ot : List Value) (hli : li[ik]? = some (.int 0)) (how : ow[ik]? = some (.double 0)) (hot : ot[ik]? = some (.double 0))  (h0 : Heap) (F : List HRow) (H00 : Hp Z n0 h0 ((sh, ObC Z "com/example/narrow_bounds/narrowbounds/Share" (fs_Share (.ref loA) (.ref hiA) (.int (0 : Int32)) (.int ru) (.ref owA) (.ref otA) (.ref liA) (.ref raA) (.ref olA) (.ref ohA) (.ref zlA) (.ref zhA) (.double fo) (.double fz) (.int (1 : Int32)) (.int (0 : Int32)))) :: (liA, ArC Z .boolean li) :: (raA, ArC Z .int [.int k0, .int 0, .int 0]) :: (owA, ArC Z .double ow) :: (otA, ArC Z .double ot) :: F)) :
    Con l Z n0 ⟨"com/example/narrow_bounds/narrowbounds/Share", "addParts", "(IDD)V"⟩ [] prog_45_method_3_code 6 none ({ frames := 4, cells := 0, slots := 0, locals := 88 } : Room) #[.ref sh, .int kk, .double 0, .double (FP.i2d e1)] h0 (fun v h => v = none ∧ Hp Z n0 h ((sh, ObC Z "com/example/narrow_bounds/narrowbounds/Share" (fs_Share (.ref loA) (.ref hiA) (.int (0 : Int32)) (.int ru) (.ref owA) (.ref otA) (.ref liA) (.ref raA) (.ref olA) (.ref ohA) (.ref zlA) (.ref zhA) (.double fo) (.double fz) (.int (2 : Int32)) (.int (0 : Int32)))) :: (liA, ArC Z .boolean (li.set ik (.int (1 : Int32)))) :: (raA, ArC Z .int [.int k0, .int kk, .int 0]) :: (owA, ArC Z .double (ow.set ik (.double 0))) :: (otA, ArC Z .double (ot.set ik (.double (FP.i2d e1)))) :: F)) := by
  refine con_of (plainFor_of_name pn_Share) ?_
  intro p e s m below meth c T0 W0 e0
  subst e0
  have H0 := H00
  refine g_cast (ef_ridd6 m sh kk 0 (FP.i2d e1)) ?_
  refine g_iloadN W0 d3_0 (pc' := 1) rfl rfl ?_
  refine g_if W0 d3_1 (pcy := 48) (by decide) (pc' := 4) rfl (fun (_ : ¬ kk < (0 : Int32)) => ?_) (fun (h : ¬ ¬ kk < (0 : Int32)) => absurd (Classical.not_not.mp h) (by rw [Int32.lt_iff_toInt_lt, hk, show (0 : Int32).toInt = 0 by decide]; omega))
  refine g_aloadN W0 d3_48 (pc' := 49) rfl rfl rfl ?_
  refine g_getf W0 (wd_23 hw) Via.refl H0 (i := 0) rfl (jx := 6) rfl d3_49 (pc' := 52) rfl ?_
  intro T1 W1 H1
  refine g_iloadN W1 d3_52 (pc' := 53) rfl rfl ?_
  refine g_zaload W1 H1 (i := 1) rfl (jx := ik) hk (v := .int (0 : Int32)) hli d3_53 (pc' := 54) rfl ?_
  refine g_if W1 d3_54 (pcy := 84) (by decide) (pc' := 57) rfl (fun (h : ¬ (0 : Int32) = (0 : Int32)) => absurd h (by decide)) (fun _ => ?_)
  refine g_aloadN W1 d3_57 (pc' := 58) rfl rfl rfl ?_
  refine g_getf W1 (wd_23 hw) Via.refl H1 (i := 0) rfl (jx := 6) rfl d3_58 (pc' := 61) rfl ?_
  intro T2 W2 H2
  refine g_iloadN W2 d3_61 (pc' := 62) rfl rfl ?_
  refine g_iconst W2 d3_62 (pc' := 63) rfl (v := (1 : Int32)) (by decide) ?_
  refine g_zastore W2 H2 (i := 1) rfl (u' := (1 : Int32)) (by decide) (jx := ik) hk ((List.getElem?_eq_some_iff.mp hli).1) d3_63 (pc' := 64) rfl (L' := ((sh, ObC Z "com/example/narrow_bounds/narrowbounds/Share" (fs_Share (.ref loA) (.ref hiA) (.int (0 : Int32)) (.int ru) (.ref owA) (.ref otA) (.ref liA) (.ref raA) (.ref olA) (.ref ohA) (.ref zlA) (.ref zhA) (.double fo) (.double fz) (.int (1 : Int32)) (.int (0 : Int32)))) :: (liA, ArC Z .boolean (li.set ik (.int (1 : Int32)))) :: (raA, ArC Z .int [.int k0, .int 0, .int 0]) :: (owA, ArC Z .double ow) :: (otA, ArC Z .double ot) :: F)) rfl ?_
  intro T3 W3 H3
  refine g_aloadN W3 d3_64 (pc' := 65) rfl rfl rfl ?_
  refine g_getf W3 (wd_26 hw) Via.refl H3 (i := 0) rfl (jx := 7) rfl d3_65 (pc' := 68) rfl ?_
  intro T4 W4 H4
  refine g_aloadN W4 d3_68 (pc' := 69) rfl rfl rfl ?_
  refine g_getf W4 (wd_59 hw) Via.refl H4 (i := 0) rfl (jx := 14) rfl d3_69 (pc' := 72) rfl ?_
  intro T5 W5 H5
  refine g_iloadN W5 d3_72 (pc' := 73) rfl rfl ?_
  refine g_iastore W5 H5 (i := 2) rfl (jx := 1) (by decide) (by exact (by decide : 1 < 3)) d3_73 (pc' := 74) rfl (L' := ((sh, ObC Z "com/example/narrow_bounds/narrowbounds/Share" (fs_Share (.ref loA) (.ref hiA) (.int (0 : Int32)) (.int ru) (.ref owA) (.ref otA) (.ref liA) (.ref raA) (.ref olA) (.ref ohA) (.ref zlA) (.ref zhA) (.double fo) (.double fz) (.int (1 : Int32)) (.int (0 : Int32)))) :: (liA, ArC Z .boolean (li.set ik (.int (1 : Int32)))) :: (raA, ArC Z .int [.int k0, .int kk, .int 0]) :: (owA, ArC Z .double ow) :: (otA, ArC Z .double ot) :: F)) rfl ?_
  intro T6 W6 H6
  refine g_aloadN W6 d3_74 (pc' := 75) rfl rfl rfl ?_
  refine g_dup W6 d3_75 (pc' := 76) rfl rfl ?_
  refine g_getf W6 (wd_59 hw) Via.refl H6 (i := 0) rfl (jx := 14) rfl d3_76 (pc' := 79) rfl ?_
  intro T7 W7 H7
  refine g_iconst W7 d3_79 (pc' := 80) rfl (v := (1 : Int32)) (by decide) ?_
  refine g_iadd W7 d3_80 (pc' := 81) rfl (v := (2 : Int32)) (by decide) ?_
  refine g_putf W7 (wd_59 hw) Via.refl (Or.inl (wd_60 hw)) (wd_2 hw) (ty := .int) (by decide) rfl rfl H7 (i := 0) rfl (jx := 14) rfl d3_81 (pc' := 84) rfl (L' := ((sh, ObC Z "com/example/narrow_bounds/narrowbounds/Share" (fs_Share (.ref loA) (.ref hiA) (.int (0 : Int32)) (.int ru) (.ref owA) (.ref otA) (.ref liA) (.ref raA) (.ref olA) (.ref ohA) (.ref zlA) (.ref zhA) (.double fo) (.double fz) (.int (2 : Int32)) (.int (0 : Int32)))) :: (liA, ArC Z .boolean (li.set ik (.int (1 : Int32)))) :: (raA, ArC Z .int [.int k0, .int kk, .int 0]) :: (owA, ArC Z .double ow) :: (otA, ArC Z .double ot) :: F)) rfl ?_
  intro T8 W8 H8
  refine g_aloadN W8 d3_84 (pc' := 85) rfl rfl rfl ?_
  refine g_getf W8 (wd_18 hw) Via.refl H8 (i := 0) rfl (jx := 4) rfl d3_85 (pc' := 88) rfl ?_
  intro T9 W9 H9
  refine g_iloadN W9 d3_88 (pc' := 89) rfl rfl ?_
  refine g_aloadN W9 d3_89 (pc' := 90) rfl rfl rfl ?_
  refine g_getf W9 (wd_18 hw) Via.refl H9 (i := 0) rfl (jx := 4) rfl d3_90 (pc' := 93) rfl ?_
  intro T10 W10 H10
  refine g_iloadN W10 d3_93 (pc' := 94) rfl rfl ?_
  refine g_daload W10 H10 (i := 3) rfl (jx := ik) hk (v := .double 0) how d3_94 (pc' := 95) rfl ?_
  refine g_dloadN W10 d3_95 (pc' := 96) rfl rfl ?_
  refine g_aloadN W10 d3_96 (pc' := 97) rfl rfl rfl ?_
  refine g_getf W10 (wd_14 hw) Via.refl H10 (i := 0) rfl (jx := 2) rfl d3_97 (pc' := 100) rfl ?_
  intro T11 W11 H11
  refine g_callS W11 (argsL := [.double 0, .double 0, .int (0 : Int32)]) (st := [.int kk, .ref owA]) (wd_43 hw) (wd_44 hw) (wd_45 hw) (wd_46 hw) (by decide) (c_add0 l Z a0 hw n0 0 0 _ _ _ _ nr00 nr00 (by omega) (by omega) _ _ H11) pd_7 rfl rfl rfl d3_100 (pc' := 103) rfl (by decide) (Wn := 2) (Nat.le_of_eq rfl) (by decide) (kc' := 0) (ks' := 0) rfl rfl (by decide) (by decide) ?_
  intro T12 v12 W12 hp12
  obtain ⟨r, rfl, -, hr2, H12⟩ := hp12
  show Goes _ _ _ _ (State.setTop _ (mkF _ _ _ [.double r, .int kk, .ref owA]))
  obtain rfl : r = 0 := (hr2 (Or.inl rfl)).trans co_add0
  refine g_dastore W12 H12 (i := 3) rfl (jx := ik) hk ((List.getElem?_eq_some_iff.mp how).1) d3_103 (pc' := 104) rfl (L' := ((sh, ObC Z "com/example/narrow_bounds/narrowbounds/Share" (fs_Share (.ref loA) (.ref hiA) (.int (0 : Int32)) (.int ru) (.ref owA) (.ref otA) (.ref liA) (.ref raA) (.ref olA) (.ref ohA) (.ref zlA) (.ref zhA) (.double fo) (.double fz) (.int (2 : Int32)) (.int (0 : Int32)))) :: (liA, ArC Z .boolean (li.set ik (.int (1 : Int32)))) :: (raA, ArC Z .int [.int k0, .int kk, .int 0]) :: (owA, ArC Z .double (ow.set ik (.double 0))) :: (otA, ArC Z .double ot) :: F)) rfl ?_
  intro T13 W13 H13
  refine g_aloadN W13 d3_104 (pc' := 105) rfl rfl rfl ?_
  refine g_getf W13 (wd_20 hw) Via.refl H13 (i := 0) rfl (jx := 5) rfl d3_105 (pc' := 108) rfl ?_
  intro T14 W14 H14
  refine g_iloadN W14 d3_108 (pc' := 109) rfl rfl ?_
  refine g_aloadN W14 d3_109 (pc' := 110) rfl rfl rfl ?_
  refine g_getf W14 (wd_20 hw) Via.refl H14 (i := 0) rfl (jx := 5) rfl d3_110 (pc' := 113) rfl ?_
  intro T15 W15 H15
  refine g_iloadN W15 d3_113 (pc' := 114) rfl rfl ?_
  refine g_daload W15 H15 (i := 4) rfl (jx := ik) hk (v := .double 0) hot d3_114 (pc' := 115) rfl ?_
  refine g_dload W15 d3_115 (pc' := 117) rfl rfl ?_
  refine g_aloadN W15 d3_117 (pc' := 118) rfl rfl rfl ?_
  refine g_getf W15 (wd_14 hw) Via.refl H15 (i := 0) rfl (jx := 2) rfl d3_118 (pc' := 121) rfl ?_
  intro T16 W16 H16
  refine g_if W16 d3_121 (pcy := 128) (by decide) (pc' := 124) rfl (fun (h : ¬ (0 : Int32) = (0 : Int32)) => absurd h (by decide)) (fun _ => ?_)
  refine g_iconst W16 d3_124 (pc' := 125) rfl (v := (1 : Int32)) (by decide) ?_
  refine g_goto W16 d3_125 (pc' := 129) (by decide) ?_
  refine g_callS W16 (argsL := [.double 0, .double (FP.i2d e1), .int (1 : Int32)]) (st := [.int kk, .ref otA]) (wd_43 hw) (wd_44 hw) (wd_45 hw) (wd_46 hw) (by decide) (c_add1 l Z a0 hw n0 0 (FP.i2d e1) _ _ _ _ nr00 (nr_dy dn) (by omega) (by omega) _ _ H16) pd_7 rfl rfl rfl d3_129 (pc' := 132) rfl (by decide) (Wn := 2) (Nat.le_of_eq rfl) (by decide) (kc' := 0) (ks' := 0) rfl rfl (by decide) (by decide) ?_
  intro T17 v17 W17 hp17
  obtain ⟨r, rfl, -, hr2, H17⟩ := hp17
  show Goes _ _ _ _ (State.setTop _ (mkF _ _ _ [.double r, .int kk, .ref otA]))
  obtain rfl : r = (FP.i2d e1) := (hr2 (Or.inl rfl)).trans (co_add _ h1)
  refine g_dastore W17 H17 (i := 4) rfl (jx := ik) hk ((List.getElem?_eq_some_iff.mp hot).1) d3_132 (pc' := 133) rfl (L' := ((sh, ObC Z "com/example/narrow_bounds/narrowbounds/Share" (fs_Share (.ref loA) (.ref hiA) (.int (0 : Int32)) (.int ru) (.ref owA) (.ref otA) (.ref liA) (.ref raA) (.ref olA) (.ref ohA) (.ref zlA) (.ref zhA) (.double fo) (.double fz) (.int (2 : Int32)) (.int (0 : Int32)))) :: (liA, ArC Z .boolean (li.set ik (.int (1 : Int32)))) :: (raA, ArC Z .int [.int k0, .int kk, .int 0]) :: (owA, ArC Z .double (ow.set ik (.double 0))) :: (otA, ArC Z .double (ot.set ik (.double (FP.i2d e1)))) :: F)) rfl ?_
  intro T18 W18 H18
  exact g_return W18 d3_133 ⟨rfl, H18⟩ (by decide) (by decide)
theorem c_apf1 (l : Launch) (Z : State) (a0 : Array Value) (hw : ∀ d ∈ tables_1, d.before a0 Z = true) (n0 : Nat) (sh loA hiA owA otA liA raA olA ohA zlA zhA : Addr) (ru kk ef eg : Int32) (hk : kk < 0) (nf ng : Nat) (df : Jvm.OwnKit.Dy (nf : Int) 0 (FP.i2d ef)) (dg : Jvm.OwnKit.Dy (ng : Int) 0 (FP.i2d eg)) (cf : ef ∈ coL) (cg : eg ∈ coL) (nf2 : nf ≤ 16) (ng2 : ng ≤ 16) (h0 : Heap) (F : List HRow) (H00 : Hp Z n0 h0 ((sh, ObC Z "com/example/narrow_bounds/narrowbounds/Share" (fs_Share (.ref loA) (.ref hiA) (.int (1 : Int32)) (.int ru) (.ref owA) (.ref otA) (.ref liA) (.ref raA) (.ref olA) (.ref ohA) (.ref zlA) (.ref zhA) (.double 0) (.double 0) (.int (0 : Int32)) (.int (0 : Int32)))) :: F)) :
    Con l Z n0 ⟨"com/example/narrow_bounds/narrowbounds/Share", "addParts", "(IDD)V"⟩ [] prog_45_method_3_code 6 none ({ frames := 4, cells := 0, slots := 0, locals := 87 } : Room) #[.ref sh, .int kk, .double (FP.i2d ef), .double (FP.i2d eg)] h0 (fun v h => v = none ∧ Hp Z n0 h ((sh, ObC Z "com/example/narrow_bounds/narrowbounds/Share" (fs_Share (.ref loA) (.ref hiA) (.int (1 : Int32)) (.int ru) (.ref owA) (.ref otA) (.ref liA) (.ref raA) (.ref olA) (.ref ohA) (.ref zlA) (.ref zhA) (.double (FP.i2d ef)) (.double (FP.i2d eg)) (.int (0 : Int32)) (.int (0 : Int32)))) :: F)) := by
  refine con_of (plainFor_of_name pn_Share) ?_
  intro p e s m below meth c T0 W0 e0
  subst e0
  have H0 := H00
  refine g_cast (ef_ridd6 m sh kk (FP.i2d ef) (FP.i2d eg)) ?_
  refine g_iloadN W0 d3_0 (pc' := 1) rfl rfl ?_
  refine g_if W0 d3_1 (pcy := 48) (by decide) (pc' := 4) rfl (fun (h : ¬ kk < (0 : Int32)) => absurd hk h) (fun (_ : ¬ ¬ kk < (0 : Int32)) => ?_)
  refine g_aloadN W0 d3_4 (pc' := 5) rfl rfl rfl ?_
  refine g_aloadN W0 d3_5 (pc' := 6) rfl rfl rfl ?_
  refine g_getf W0 (wd_41 hw) Via.refl H0 (i := 0) rfl (jx := 12) rfl d3_6 (pc' := 9) rfl ?_
  intro T1 W1 H1
  refine g_dloadN W1 d3_9 (pc' := 10) rfl rfl ?_
  refine g_aloadN W1 d3_10 (pc' := 11) rfl rfl rfl ?_
  refine g_getf W1 (wd_14 hw) Via.refl H1 (i := 0) rfl (jx := 2) rfl d3_11 (pc' := 14) rfl ?_
  intro T2 W2 H2
  refine g_callS W2 (argsL := [.double 0, .double (FP.i2d ef), .int (1 : Int32)]) (st := [.ref sh]) (wd_43 hw) (wd_44 hw) (wd_45 hw) (wd_46 hw) (by decide) (c_add1 l Z a0 hw n0 0 (FP.i2d ef) _ _ _ _ nr00 (nr_dy df) (by omega) (by omega) _ _ H2) pd_7 rfl rfl rfl d3_14 (pc' := 17) rfl (by decide) (Wn := 1) (Nat.le_of_eq rfl) (by decide) (kc' := 0) (ks' := 0) rfl rfl (by decide) (by decide) ?_
  intro T3 v3 W3 hp3
  obtain ⟨r, rfl, -, hr2, H3⟩ := hp3
  show Goes _ _ _ _ (State.setTop _ (mkF _ _ _ [.double r, .ref sh]))
  obtain rfl : r = FP.i2d ef := (hr2 (Or.inl rfl)).trans (co_add _ cf)
  refine g_putf W3 (wd_41 hw) Via.refl (Or.inl (wd_42 hw)) (wd_2 hw) (ty := .double) (by decide) rfl rfl H3 (i := 0) rfl (jx := 12) rfl d3_17 (pc' := 20) rfl (L' := ((sh, ObC Z "com/example/narrow_bounds/narrowbounds/Share" (fs_Share (.ref loA) (.ref hiA) (.int (1 : Int32)) (.int ru) (.ref owA) (.ref otA) (.ref liA) (.ref raA) (.ref olA) (.ref ohA) (.ref zlA) (.ref zhA) (.double (FP.i2d ef)) (.double 0) (.int (0 : Int32)) (.int (0 : Int32)))) :: F)) rfl ?_
  intro T4 W4 H4
  refine g_aloadN W4 d3_20 (pc' := 21) rfl rfl rfl ?_
  refine g_aloadN W4 d3_21 (pc' := 22) rfl rfl rfl ?_
  refine g_getf W4 (wd_50 hw) Via.refl H4 (i := 0) rfl (jx := 13) rfl d3_22 (pc' := 25) rfl ?_
  intro T5 W5 H5
  refine g_dload W5 d3_25 (pc' := 27) rfl rfl ?_
  refine g_aloadN W5 d3_27 (pc' := 28) rfl rfl rfl ?_
  refine g_getf W5 (wd_14 hw) Via.refl H5 (i := 0) rfl (jx := 2) rfl d3_28 (pc' := 31) rfl ?_
  intro T6 W6 H6
  refine g_if W6 d3_31 (pcy := 38) (by decide) (pc' := 34) rfl (fun _ => ?_) (fun (h : ¬ ¬ (1 : Int32) = (0 : Int32)) => absurd h (by decide))
  refine g_iconst W6 d3_38 (pc' := 39) rfl (v := (0 : Int32)) (by decide) ?_
  refine g_callS W6 (argsL := [.double 0, .double (FP.i2d eg), .int (0 : Int32)]) (st := [.ref sh]) (wd_43 hw) (wd_44 hw) (wd_45 hw) (wd_46 hw) (by decide) (c_add0 l Z a0 hw n0 0 (FP.i2d eg) _ _ _ _ nr00 (nr_dy dg) (by omega) (by omega) _ _ H6) pd_7 rfl rfl rfl d3_39 (pc' := 42) rfl (by decide) (Wn := 1) (Nat.le_of_eq rfl) (by decide) (kc' := 0) (ks' := 0) rfl rfl (by decide) (by decide) ?_
  intro T7 v7 W7 hp7
  obtain ⟨r, rfl, -, hr2, H7⟩ := hp7
  show Goes _ _ _ _ (State.setTop _ (mkF _ _ _ [.double r, .ref sh]))
  obtain rfl : r = FP.i2d eg := (hr2 (Or.inl rfl)).trans (co_add _ cg)
  refine g_putf W7 (wd_50 hw) Via.refl (Or.inl (wd_51 hw)) (wd_2 hw) (ty := .double) (by decide) rfl rfl H7 (i := 0) rfl (jx := 13) rfl d3_42 (pc' := 45) rfl (L' := ((sh, ObC Z "com/example/narrow_bounds/narrowbounds/Share" (fs_Share (.ref loA) (.ref hiA) (.int (1 : Int32)) (.int ru) (.ref owA) (.ref otA) (.ref liA) (.ref raA) (.ref olA) (.ref ohA) (.ref zlA) (.ref zhA) (.double (FP.i2d ef)) (.double (FP.i2d eg)) (.int (0 : Int32)) (.int (0 : Int32)))) :: F)) rfl ?_
  intro T8 W8 H8
  refine g_goto W8 d3_45 (pc' := 133) (by decide) ?_
  exact g_return W8 d3_133 ⟨rfl, H8⟩ (by decide) (by decide)
theorem c_apk10o (l : Launch) (Z : State) (a0 : Array Value) (hw : ∀ d ∈ tables_1, d.before a0 Z = true) (n0 : Nat) (sh loA hiA owA otA liA raA olA ohA zlA zhA : Addr) (ru : Int32) (fo fz : UInt64) (kk k0 e1 : Int32) (ik n1 : Nat) (hk : kk.toInt = (ik : Int)) (h1 : e1 ∈ coL) (dn : Jvm.OwnKit.Dy (n1 : Int) 0 (FP.i2d e1)) (bn : n1 ≤ 16) (li ow ot : List Value) (hli : li[ik]? = some (.int 0)) (how : ow[ik]? = some (.double 0)) (hot : ot[ik]? = some (.double 0))  (h0 : Heap) (F : List HRow) (H00 : Hp Z n0 h0 ((sh, ObC Z "com/example/narrow_bounds/narrowbounds/Share" (fs_Share (.ref loA) (.ref hiA) (.int (1 : Int32)) (.int ru) (.ref owA) (.ref otA) (.ref liA) (.ref raA) (.ref olA) (.ref ohA) (.ref zlA) (.ref zhA) (.double fo) (.double fz) (.int (0 : Int32)) (.int (0 : Int32)))) :: (liA, ArC Z .boolean li) :: (raA, ArC Z .int [.int 0, .int 0, .int 0]) :: (owA, ArC Z .double ow) :: (otA, ArC Z .double ot) :: F)) :
    Con l Z n0 ⟨"com/example/narrow_bounds/narrowbounds/Share", "addParts", "(IDD)V"⟩ [] prog_45_method_3_code 6 none ({ frames := 4, cells := 0, slots := 0, locals := 88 } : Room) #[.ref sh, .int kk, .double (FP.i2d e1), .double 0] h0 (fun v h => v = none ∧ Hp Z n0 h ((sh, ObC Z "com/example/narrow_bounds/narrowbounds/Share" (fs_Share (.ref loA) (.ref hiA) (.int (1 : Int32)) (.int ru) (.ref owA) (.ref otA) (.ref liA) (.ref raA) (.ref olA) (.ref ohA) (.ref zlA) (.ref zhA) (.double fo) (.double fz) (.int (1 : Int32)) (.int (0 : Int32)))) :: (liA, ArC Z .boolean (li.set ik (.int (1 : Int32)))) :: (raA, ArC Z .int [.int kk, .int 0, .int 0]) :: (owA, ArC Z .double (ow.set ik (.double (FP.i2d e1)))) :: (otA, ArC Z .double (ot.set ik (.double 0))) :: F)) := by
  refine con_of (plainFor_of_name pn_Share) ?_
  intro p e s m below meth c T0 W0 e0
  subst e0
  have H0 := H00
  refine g_cast (ef_ridd6 m sh kk (FP.i2d e1) 0) ?_
  refine g_iloadN W0 d3_0 (pc' := 1) rfl rfl ?_
  refine g_if W0 d3_1 (pcy := 48) (by decide) (pc' := 4) rfl (fun (_ : ¬ kk < (0 : Int32)) => ?_) (fun (h : ¬ ¬ kk < (0 : Int32)) => absurd (Classical.not_not.mp h) (by rw [Int32.lt_iff_toInt_lt, hk, show (0 : Int32).toInt = 0 by decide]; omega))
  refine g_aloadN W0 d3_48 (pc' := 49) rfl rfl rfl ?_
  refine g_getf W0 (wd_23 hw) Via.refl H0 (i := 0) rfl (jx := 6) rfl d3_49 (pc' := 52) rfl ?_
  intro T1 W1 H1
  refine g_iloadN W1 d3_52 (pc' := 53) rfl rfl ?_
  refine g_zaload W1 H1 (i := 1) rfl (jx := ik) hk (v := .int (0 : Int32)) hli d3_53 (pc' := 54) rfl ?_
  refine g_if W1 d3_54 (pcy := 84) (by decide) (pc' := 57) rfl (fun (h : ¬ (0 : Int32) = (0 : Int32)) => absurd h (by decide)) (fun _ => ?_)
  refine g_aloadN W1 d3_57 (pc' := 58) rfl rfl rfl ?_
  refine g_getf W1 (wd_23 hw) Via.refl H1 (i := 0) rfl (jx := 6) rfl d3_58 (pc' := 61) rfl ?_
  intro T2 W2 H2
  refine g_iloadN W2 d3_61 (pc' := 62) rfl rfl ?_
  refine g_iconst W2 d3_62 (pc' := 63) rfl (v := (1 : Int32)) (by decide) ?_
  refine g_zastore W2 H2 (i := 1) rfl (u' := (1 : Int32)) (by decide) (jx := ik) hk ((List.getElem?_eq_some_iff.mp hli).1) d3_63 (pc' := 64) rfl (L' := ((sh, ObC Z "com/example/narrow_bounds/narrowbounds/Share" (fs_Share (.ref loA) (.ref hiA) (.int (1 : Int32)) (.int ru) (.ref owA) (.ref otA) (.ref liA) (.ref raA) (.ref olA) (.ref ohA) (.ref zlA) (.ref zhA) (.double fo) (.double fz) (.int (0 : Int32)) (.int (0 : Int32)))) :: (liA, ArC Z .boolean (li.set ik (.int (1 : Int32)))) :: (raA, ArC Z .int [.int 0, .int 0, .int 0]) :: (owA, ArC Z .double ow) :: (otA, ArC Z .double ot) :: F)) rfl ?_
  intro T3 W3 H3
  refine g_aloadN W3 d3_64 (pc' := 65) rfl rfl rfl ?_
  refine g_getf W3 (wd_26 hw) Via.refl H3 (i := 0) rfl (jx := 7) rfl d3_65 (pc' := 68) rfl ?_
  intro T4 W4 H4
  refine g_aloadN W4 d3_68 (pc' := 69) rfl rfl rfl ?_
  refine g_getf W4 (wd_59 hw) Via.refl H4 (i := 0) rfl (jx := 14) rfl d3_69 (pc' := 72) rfl ?_
  intro T5 W5 H5
  refine g_iloadN W5 d3_72 (pc' := 73) rfl rfl ?_
  refine g_iastore W5 H5 (i := 2) rfl (jx := 0) (by decide) (by exact (by decide : 0 < 3)) d3_73 (pc' := 74) rfl (L' := ((sh, ObC Z "com/example/narrow_bounds/narrowbounds/Share" (fs_Share (.ref loA) (.ref hiA) (.int (1 : Int32)) (.int ru) (.ref owA) (.ref otA) (.ref liA) (.ref raA) (.ref olA) (.ref ohA) (.ref zlA) (.ref zhA) (.double fo) (.double fz) (.int (0 : Int32)) (.int (0 : Int32)))) :: (liA, ArC Z .boolean (li.set ik (.int (1 : Int32)))) :: (raA, ArC Z .int [.int kk, .int 0, .int 0]) :: (owA, ArC Z .double ow) :: (otA, ArC Z .double ot) :: F)) rfl ?_
  intro T6 W6 H6
  refine g_aloadN W6 d3_74 (pc' := 75) rfl rfl rfl ?_
  refine g_dup W6 d3_75 (pc' := 76) rfl rfl ?_
  refine g_getf W6 (wd_59 hw) Via.refl H6 (i := 0) rfl (jx := 14) rfl d3_76 (pc' := 79) rfl ?_
  intro T7 W7 H7
  refine g_iconst W7 d3_79 (pc' := 80) rfl (v := (1 : Int32)) (by decide) ?_
  refine g_iadd W7 d3_80 (pc' := 81) rfl (v := (1 : Int32)) (by decide) ?_
  refine g_putf W7 (wd_59 hw) Via.refl (Or.inl (wd_60 hw)) (wd_2 hw) (ty := .int) (by decide) rfl rfl H7 (i := 0) rfl (jx := 14) rfl d3_81 (pc' := 84) rfl (L' := ((sh, ObC Z "com/example/narrow_bounds/narrowbounds/Share" (fs_Share (.ref loA) (.ref hiA) (.int (1 : Int32)) (.int ru) (.ref owA) (.ref otA) (.ref liA) (.ref raA) (.ref olA) (.ref ohA) (.ref zlA) (.ref zhA) (.double fo) (.double fz) (.int (1 : Int32)) (.int (0 : Int32)))) :: (liA, ArC Z .boolean (li.set ik (.int (1 : Int32)))) :: (raA, ArC Z .int [.int kk, .int 0, .int 0]) :: (owA, ArC Z .double ow) :: (otA, ArC Z .double ot) :: F)) rfl ?_
  intro T8 W8 H8
  refine g_aloadN W8 d3_84 (pc' := 85) rfl rfl rfl ?_
  refine g_getf W8 (wd_18 hw) Via.refl H8 (i := 0) rfl (jx := 4) rfl d3_85 (pc' := 88) rfl ?_
  intro T9 W9 H9
  refine g_iloadN W9 d3_88 (pc' := 89) rfl rfl ?_
  refine g_aloadN W9 d3_89 (pc' := 90) rfl rfl rfl ?_
  refine g_getf W9 (wd_18 hw) Via.refl H9 (i := 0) rfl (jx := 4) rfl d3_90 (pc' := 93) rfl ?_
  intro T10 W10 H10
  refine g_iloadN W10 d3_93 (pc' := 94) rfl rfl ?_
  refine g_daload W10 H10 (i := 3) rfl (jx := ik) hk (v := .double 0) how d3_94 (pc' := 95) rfl ?_
  refine g_dloadN W10 d3_95 (pc' := 96) rfl rfl ?_
  refine g_aloadN W10 d3_96 (pc' := 97) rfl rfl rfl ?_
  refine g_getf W10 (wd_14 hw) Via.refl H10 (i := 0) rfl (jx := 2) rfl d3_97 (pc' := 100) rfl ?_
  intro T11 W11 H11
  refine g_callS W11 (argsL := [.double 0, .double (FP.i2d e1), .int (1 : Int32)]) (st := [.int kk, .ref owA]) (wd_43 hw) (wd_44 hw) (wd_45 hw) (wd_46 hw) (by decide) (c_add1 l Z a0 hw n0 0 (FP.i2d e1) _ _ _ _ nr00 (nr_dy dn) (by omega) (by omega) _ _ H11) pd_7 rfl rfl rfl d3_100 (pc' := 103) rfl (by decide) (Wn := 2) (Nat.le_of_eq rfl) (by decide) (kc' := 0) (ks' := 0) rfl rfl (by decide) (by decide) ?_
  intro T12 v12 W12 hp12
  obtain ⟨r, rfl, -, hr2, H12⟩ := hp12
  show Goes _ _ _ _ (State.setTop _ (mkF _ _ _ [.double r, .int kk, .ref owA]))
  obtain rfl : r = (FP.i2d e1) := (hr2 (Or.inl rfl)).trans (co_add _ h1)
  refine g_dastore W12 H12 (i := 3) rfl (jx := ik) hk ((List.getElem?_eq_some_iff.mp how).1) d3_103 (pc' := 104) rfl (L' := ((sh, ObC Z "com/example/narrow_bounds/narrowbounds/Share" (fs_Share (.ref loA) (.ref hiA) (.int (1 : Int32)) (.int ru) (.ref owA) (.ref otA) (.ref liA) (.ref raA) (.ref olA) (.ref ohA) (.ref zlA) (.ref zhA) (.double fo) (.double fz) (.int (1 : Int32)) (.int (0 : Int32)))) :: (liA, ArC Z .boolean (li.set ik (.int (1 : Int32)))) :: (raA, ArC Z .int [.int kk, .int 0, .int 0]) :: (owA, ArC Z .double (ow.set ik (.double (FP.i2d e1)))) :: (otA, ArC Z .double ot) :: F)) rfl ?_
  intro T13 W13 H13
  refine g_aloadN W13 d3_104 (pc' := 105) rfl rfl rfl ?_
  refine g_getf W13 (wd_20 hw) Via.refl H13 (i := 0) rfl (jx := 5) rfl d3_105 (pc' := 108) rfl ?_
  intro T14 W14 H14
  refine g_iloadN W14 d3_108 (pc' := 109) rfl rfl ?_
  refine g_aloadN W14 d3_109 (pc' := 110) rfl rfl rfl ?_
  refine g_getf W14 (wd_20 hw) Via.refl H14 (i := 0) rfl (jx := 5) rfl d3_110 (pc' := 113) rfl ?_
  intro T15 W15 H15
  refine g_iloadN W15 d3_113 (pc' := 114) rfl rfl ?_
  refine g_daload W15 H15 (i := 4) rfl (jx := ik) hk (v := .double 0) hot d3_114 (pc' := 115) rfl ?_
  refine g_dload W15 d3_115 (pc' := 117) rfl rfl ?_
  refine g_aloadN W15 d3_117 (pc' := 118) rfl rfl rfl ?_
  refine g_getf W15 (wd_14 hw) Via.refl H15 (i := 0) rfl (jx := 2) rfl d3_118 (pc' := 121) rfl ?_
  intro T16 W16 H16
  refine g_if W16 d3_121 (pcy := 128) (by decide) (pc' := 124) rfl (fun _ => ?_) (fun (h : ¬ ¬ (1 : Int32) = (0 : Int32)) => absurd h (by decide))
  refine g_iconst W16 d3_128 (pc' := 129) rfl (v := (0 : Int32)) (by decide) ?_
  refine g_callS W16 (argsL := [.double 0, .double 0, .int (0 : Int32)]) (st := [.int kk, .ref otA]) (wd_43 hw) (wd_44 hw) (wd_45 hw) (wd_46 hw) (by decide) (c_add0 l Z a0 hw n0 0 0 _ _ _ _ nr00 nr00 (by omega) (by omega) _ _ H16) pd_7 rfl rfl rfl d3_129 (pc' := 132) rfl (by decide) (Wn := 2) (Nat.le_of_eq rfl) (by decide) (kc' := 0) (ks' := 0) rfl rfl (by decide) (by decide) ?_
  intro T17 v17 W17 hp17
  obtain ⟨r, rfl, -, hr2, H17⟩ := hp17
  show Goes _ _ _ _ (State.setTop _ (mkF _ _ _ [.double r, .int kk, .ref otA]))
  obtain rfl : r = 0 := (hr2 (Or.inl rfl)).trans co_add0
  refine g_dastore W17 H17 (i := 4) rfl (jx := ik) hk ((List.getElem?_eq_some_iff.mp hot).1) d3_132 (pc' := 133) rfl (L' := ((sh, ObC Z "com/example/narrow_bounds/narrowbounds/Share" (fs_Share (.ref loA) (.ref hiA) (.int (1 : Int32)) (.int ru) (.ref owA) (.ref otA) (.ref liA) (.ref raA) (.ref olA) (.ref ohA) (.ref zlA) (.ref zhA) (.double fo) (.double fz) (.int (1 : Int32)) (.int (0 : Int32)))) :: (liA, ArC Z .boolean (li.set ik (.int (1 : Int32)))) :: (raA, ArC Z .int [.int kk, .int 0, .int 0]) :: (owA, ArC Z .double (ow.set ik (.double (FP.i2d e1)))) :: (otA, ArC Z .double (ot.set ik (.double 0))) :: F)) rfl ?_
  intro T18 W18 H18
  exact g_return W18 d3_133 ⟨rfl, H18⟩ (by decide) (by decide)
theorem c_apk10z (l : Launch) (Z : State) (a0 : Array Value) (hw : ∀ d ∈ tables_1, d.before a0 Z = true) (n0 : Nat) (sh loA hiA owA otA liA raA olA ohA zlA zhA : Addr) (ru : Int32) (fo fz : UInt64) (kk k0 e1 : Int32) (ik n1 : Nat) (hk : kk.toInt = (ik : Int)) (h1 : e1 ∈ coL) (dn : Jvm.OwnKit.Dy (n1 : Int) 0 (FP.i2d e1)) (bn : n1 ≤ 16) (li ow ot : List Value) (hli : li[ik]? = some (.int 0)) (how : ow[ik]? = some (.double 0)) (hot : ot[ik]? = some (.double 0))  (h0 : Heap) (F : List HRow) (H00 : Hp Z n0 h0 ((sh, ObC Z "com/example/narrow_bounds/narrowbounds/Share" (fs_Share (.ref loA) (.ref hiA) (.int (1 : Int32)) (.int ru) (.ref owA) (.ref otA) (.ref liA) (.ref raA) (.ref olA) (.ref ohA) (.ref zlA) (.ref zhA) (.double fo) (.double fz) (.int (0 : Int32)) (.int (0 : Int32)))) :: (liA, ArC Z .boolean li) :: (raA, ArC Z .int [.int 0, .int 0, .int 0]) :: (owA, ArC Z .double ow) :: (otA, ArC Z .double ot) :: F)) :
    Con l Z n0 ⟨"com/example/narrow_bounds/narrowbounds/Share", "addParts", "(IDD)V"⟩ [] prog_45_method_3_code 6 none ({ frames := 4, cells := 0, slots := 0, locals := 88 } : Room) #[.ref sh, .int kk, .double 0, .double (FP.i2d e1)] h0 (fun v h => v = none ∧ Hp Z n0 h ((sh, ObC Z "com/example/narrow_bounds/narrowbounds/Share" (fs_Share (.ref loA) (.ref hiA) (.int (1 : Int32)) (.int ru) (.ref owA) (.ref otA) (.ref liA) (.ref raA) (.ref olA) (.ref ohA) (.ref zlA) (.ref zhA) (.double fo) (.double fz) (.int (1 : Int32)) (.int (0 : Int32)))) :: (liA, ArC Z .boolean (li.set ik (.int (1 : Int32)))) :: (raA, ArC Z .int [.int kk, .int 0, .int 0]) :: (owA, ArC Z .double (ow.set ik (.double 0))) :: (otA, ArC Z .double (ot.set ik (.double (FP.i2d e1)))) :: F)) := by
  refine con_of (plainFor_of_name pn_Share) ?_
  intro p e s m below meth c T0 W0 e0
  subst e0
  have H0 := H00
  refine g_cast (ef_ridd6 m sh kk 0 (FP.i2d e1)) ?_
  refine g_iloadN W0 d3_0 (pc' := 1) rfl rfl ?_
  refine g_if W0 d3_1 (pcy := 48) (by decide) (pc' := 4) rfl (fun (_ : ¬ kk < (0 : Int32)) => ?_) (fun (h : ¬ ¬ kk < (0 : Int32)) => absurd (Classical.not_not.mp h) (by rw [Int32.lt_iff_toInt_lt, hk, show (0 : Int32).toInt = 0 by decide]; omega))
  refine g_aloadN W0 d3_48 (pc' := 49) rfl rfl rfl ?_
  refine g_getf W0 (wd_23 hw) Via.refl H0 (i := 0) rfl (jx := 6) rfl d3_49 (pc' := 52) rfl ?_
  intro T1 W1 H1
  refine g_iloadN W1 d3_52 (pc' := 53) rfl rfl ?_
  refine g_zaload W1 H1 (i := 1) rfl (jx := ik) hk (v := .int (0 : Int32)) hli d3_53 (pc' := 54) rfl ?_
  refine g_if W1 d3_54 (pcy := 84) (by decide) (pc' := 57) rfl (fun (h : ¬ (0 : Int32) = (0 : Int32)) => absurd h (by decide)) (fun _ => ?_)
  refine g_aloadN W1 d3_57 (pc' := 58) rfl rfl rfl ?_
  refine g_getf W1 (wd_23 hw) Via.refl H1 (i := 0) rfl (jx := 6) rfl d3_58 (pc' := 61) rfl ?_
  intro T2 W2 H2
  refine g_iloadN W2 d3_61 (pc' := 62) rfl rfl ?_
  refine g_iconst W2 d3_62 (pc' := 63) rfl (v := (1 : Int32)) (by decide) ?_
  refine g_zastore W2 H2 (i := 1) rfl (u' := (1 : Int32)) (by decide) (jx := ik) hk ((List.getElem?_eq_some_iff.mp hli).1) d3_63 (pc' := 64) rfl (L' := ((sh, ObC Z "com/example/narrow_bounds/narrowbounds/Share" (fs_Share (.ref loA) (.ref hiA) (.int (1 : Int32)) (.int ru) (.ref owA) (.ref otA) (.ref liA) (.ref raA) (.ref olA) (.ref ohA) (.ref zlA) (.ref zhA) (.double fo) (.double fz) (.int (0 : Int32)) (.int (0 : Int32)))) :: (liA, ArC Z .boolean (li.set ik (.int (1 : Int32)))) :: (raA, ArC Z .int [.int 0, .int 0, .int 0]) :: (owA, ArC Z .double ow) :: (otA, ArC Z .double ot) :: F)) rfl ?_
  intro T3 W3 H3
  refine g_aloadN W3 d3_64 (pc' := 65) rfl rfl rfl ?_
  refine g_getf W3 (wd_26 hw) Via.refl H3 (i := 0) rfl (jx := 7) rfl d3_65 (pc' := 68) rfl ?_
  intro T4 W4 H4
  refine g_aloadN W4 d3_68 (pc' := 69) rfl rfl rfl ?_
  refine g_getf W4 (wd_59 hw) Via.refl H4 (i := 0) rfl (jx := 14) rfl d3_69 (pc' := 72) rfl ?_
  intro T5 W5 H5
  refine g_iloadN W5 d3_72 (pc' := 73) rfl rfl ?_
  refine g_iastore W5 H5 (i := 2) rfl (jx := 0) (by decide) (by exact (by decide : 0 < 3)) d3_73 (pc' := 74) rfl (L' := ((sh, ObC Z "com/example/narrow_bounds/narrowbounds/Share" (fs_Share (.ref loA) (.ref hiA) (.int (1 : Int32)) (.int ru) (.ref owA) (.ref otA) (.ref liA) (.ref raA) (.ref olA) (.ref ohA) (.ref zlA) (.ref zhA) (.double fo) (.double fz) (.int (0 : Int32)) (.int (0 : Int32)))) :: (liA, ArC Z .boolean (li.set ik (.int (1 : Int32)))) :: (raA, ArC Z .int [.int kk, .int 0, .int 0]) :: (owA, ArC Z .double ow) :: (otA, ArC Z .double ot) :: F)) rfl ?_
  intro T6 W6 H6
  refine g_aloadN W6 d3_74 (pc' := 75) rfl rfl rfl ?_
  refine g_dup W6 d3_75 (pc' := 76) rfl rfl ?_
  refine g_getf W6 (wd_59 hw) Via.refl H6 (i := 0) rfl (jx := 14) rfl d3_76 (pc' := 79) rfl ?_
  intro T7 W7 H7
  refine g_iconst W7 d3_79 (pc' := 80) rfl (v := (1 : Int32)) (by decide) ?_
  refine g_iadd W7 d3_80 (pc' := 81) rfl (v := (1 : Int32)) (by decide) ?_
  refine g_putf W7 (wd_59 hw) Via.refl (Or.inl (wd_60 hw)) (wd_2 hw) (ty := .int) (by decide) rfl rfl H7 (i := 0) rfl (jx := 14) rfl d3_81 (pc' := 84) rfl (L' := ((sh, ObC Z "com/example/narrow_bounds/narrowbounds/Share" (fs_Share (.ref loA) (.ref hiA) (.int (1 : Int32)) (.int ru) (.ref owA) (.ref otA) (.ref liA) (.ref raA) (.ref olA) (.ref ohA) (.ref zlA) (.ref zhA) (.double fo) (.double fz) (.int (1 : Int32)) (.int (0 : Int32)))) :: (liA, ArC Z .boolean (li.set ik (.int (1 : Int32)))) :: (raA, ArC Z .int [.int kk, .int 0, .int 0]) :: (owA, ArC Z .double ow) :: (otA, ArC Z .double ot) :: F)) rfl ?_
  intro T8 W8 H8
  refine g_aloadN W8 d3_84 (pc' := 85) rfl rfl rfl ?_
  refine g_getf W8 (wd_18 hw) Via.refl H8 (i := 0) rfl (jx := 4) rfl d3_85 (pc' := 88) rfl ?_
  intro T9 W9 H9
  refine g_iloadN W9 d3_88 (pc' := 89) rfl rfl ?_
  refine g_aloadN W9 d3_89 (pc' := 90) rfl rfl rfl ?_
  refine g_getf W9 (wd_18 hw) Via.refl H9 (i := 0) rfl (jx := 4) rfl d3_90 (pc' := 93) rfl ?_
  intro T10 W10 H10
  refine g_iloadN W10 d3_93 (pc' := 94) rfl rfl ?_
  refine g_daload W10 H10 (i := 3) rfl (jx := ik) hk (v := .double 0) how d3_94 (pc' := 95) rfl ?_
  refine g_dloadN W10 d3_95 (pc' := 96) rfl rfl ?_
  refine g_aloadN W10 d3_96 (pc' := 97) rfl rfl rfl ?_
  refine g_getf W10 (wd_14 hw) Via.refl H10 (i := 0) rfl (jx := 2) rfl d3_97 (pc' := 100) rfl ?_
  intro T11 W11 H11
  refine g_callS W11 (argsL := [.double 0, .double 0, .int (1 : Int32)]) (st := [.int kk, .ref owA]) (wd_43 hw) (wd_44 hw) (wd_45 hw) (wd_46 hw) (by decide) (c_add1 l Z a0 hw n0 0 0 _ _ _ _ nr00 nr00 (by omega) (by omega) _ _ H11) pd_7 rfl rfl rfl d3_100 (pc' := 103) rfl (by decide) (Wn := 2) (Nat.le_of_eq rfl) (by decide) (kc' := 0) (ks' := 0) rfl rfl (by decide) (by decide) ?_
  intro T12 v12 W12 hp12
  obtain ⟨r, rfl, -, hr2, H12⟩ := hp12
  show Goes _ _ _ _ (State.setTop _ (mkF _ _ _ [.double r, .int kk, .ref owA]))
  obtain rfl : r = 0 := (hr2 (Or.inl rfl)).trans co_add0
  refine g_dastore W12 H12 (i := 3) rfl (jx := ik) hk ((List.getElem?_eq_some_iff.mp how).1) d3_103 (pc' := 104) rfl (L' := ((sh, ObC Z "com/example/narrow_bounds/narrowbounds/Share" (fs_Share (.ref loA) (.ref hiA) (.int (1 : Int32)) (.int ru) (.ref owA) (.ref otA) (.ref liA) (.ref raA) (.ref olA) (.ref ohA) (.ref zlA) (.ref zhA) (.double fo) (.double fz) (.int (1 : Int32)) (.int (0 : Int32)))) :: (liA, ArC Z .boolean (li.set ik (.int (1 : Int32)))) :: (raA, ArC Z .int [.int kk, .int 0, .int 0]) :: (owA, ArC Z .double (ow.set ik (.double 0))) :: (otA, ArC Z .double ot) :: F)) rfl ?_
  intro T13 W13 H13
  refine g_aloadN W13 d3_104 (pc' := 105) rfl rfl rfl ?_
  refine g_getf W13 (wd_20 hw) Via.refl H13 (i := 0) rfl (jx := 5) rfl d3_105 (pc' := 108) rfl ?_
  intro T14 W14 H14
  refine g_iloadN W14 d3_108 (pc' := 109) rfl rfl ?_
  refine g_aloadN W14 d3_109 (pc' := 110) rfl rfl rfl ?_
  refine g_getf W14 (wd_20 hw) Via.refl H14 (i := 0) rfl (jx := 5) rfl d3_110 (pc' := 113) rfl ?_
  intro T15 W15 H15
  refine g_iloadN W15 d3_113 (pc' := 114) rfl rfl ?_
  refine g_daload W15 H15 (i := 4) rfl (jx := ik) hk (v := .double 0) hot d3_114 (pc' := 115) rfl ?_
  refine g_dload W15 d3_115 (pc' := 117) rfl rfl ?_
  refine g_aloadN W15 d3_117 (pc' := 118) rfl rfl rfl ?_
  refine g_getf W15 (wd_14 hw) Via.refl H15 (i := 0) rfl (jx := 2) rfl d3_118 (pc' := 121) rfl ?_
  intro T16 W16 H16
  refine g_if W16 d3_121 (pcy := 128) (by decide) (pc' := 124) rfl (fun _ => ?_) (fun (h : ¬ ¬ (1 : Int32) = (0 : Int32)) => absurd h (by decide))
  refine g_iconst W16 d3_128 (pc' := 129) rfl (v := (0 : Int32)) (by decide) ?_
  refine g_callS W16 (argsL := [.double 0, .double (FP.i2d e1), .int (0 : Int32)]) (st := [.int kk, .ref otA]) (wd_43 hw) (wd_44 hw) (wd_45 hw) (wd_46 hw) (by decide) (c_add0 l Z a0 hw n0 0 (FP.i2d e1) _ _ _ _ nr00 (nr_dy dn) (by omega) (by omega) _ _ H16) pd_7 rfl rfl rfl d3_129 (pc' := 132) rfl (by decide) (Wn := 2) (Nat.le_of_eq rfl) (by decide) (kc' := 0) (ks' := 0) rfl rfl (by decide) (by decide) ?_
  intro T17 v17 W17 hp17
  obtain ⟨r, rfl, -, hr2, H17⟩ := hp17
  show Goes _ _ _ _ (State.setTop _ (mkF _ _ _ [.double r, .int kk, .ref otA]))
  obtain rfl : r = (FP.i2d e1) := (hr2 (Or.inl rfl)).trans (co_add _ h1)
  refine g_dastore W17 H17 (i := 4) rfl (jx := ik) hk ((List.getElem?_eq_some_iff.mp hot).1) d3_132 (pc' := 133) rfl (L' := ((sh, ObC Z "com/example/narrow_bounds/narrowbounds/Share" (fs_Share (.ref loA) (.ref hiA) (.int (1 : Int32)) (.int ru) (.ref owA) (.ref otA) (.ref liA) (.ref raA) (.ref olA) (.ref ohA) (.ref zlA) (.ref zhA) (.double fo) (.double fz) (.int (1 : Int32)) (.int (0 : Int32)))) :: (liA, ArC Z .boolean (li.set ik (.int (1 : Int32)))) :: (raA, ArC Z .int [.int kk, .int 0, .int 0]) :: (owA, ArC Z .double (ow.set ik (.double 0))) :: (otA, ArC Z .double (ot.set ik (.double (FP.i2d e1)))) :: F)) rfl ?_
  intro T18 W18 H18
  exact g_return W18 d3_133 ⟨rfl, H18⟩ (by decide) (by decide)
theorem c_apk11o (l : Launch) (Z : State) (a0 : Array Value) (hw : ∀ d ∈ tables_1, d.before a0 Z = true) (n0 : Nat) (sh loA hiA owA otA liA raA olA ohA zlA zhA : Addr) (ru : Int32) (fo fz : UInt64) (kk k0 e1 : Int32) (ik n1 : Nat) (hk : kk.toInt = (ik : Int)) (h1 : e1 ∈ coL) (dn : Jvm.OwnKit.Dy (n1 : Int) 0 (FP.i2d e1)) (bn : n1 ≤ 16) (li ow ot : List Value) (hli : li[ik]? = some (.int 0)) (how : ow[ik]? = some (.double 0)) (hot : ot[ik]? = some (.double 0))  (h0 : Heap) (F : List HRow) (H00 : Hp Z n0 h0 ((sh, ObC Z "com/example/narrow_bounds/narrowbounds/Share" (fs_Share (.ref loA) (.ref hiA) (.int (1 : Int32)) (.int ru) (.ref owA) (.ref otA) (.ref liA) (.ref raA) (.ref olA) (.ref ohA) (.ref zlA) (.ref zhA) (.double fo) (.double fz) (.int (1 : Int32)) (.int (0 : Int32)))) :: (liA, ArC Z .boolean li) :: (raA, ArC Z .int [.int k0, .int 0, .int 0]) :: (owA, ArC Z .double ow) :: (otA, ArC Z .double ot) :: F)) :
    Con l Z n0 ⟨"com/example/narrow_bounds/narrowbounds/Share", "addParts", "(IDD)V"⟩ [] prog_45_method_3_code 6 none ({ frames := 4, cells := 0, slots := 0, locals := 88 } : Room) #[.ref sh, .int kk, .double (FP.i2d e1), .double 0] h0 (fun v h => v = none ∧ Hp Z n0 h ((sh, ObC Z "com/example/narrow_bounds/narrowbounds/Share" (fs_Share (.ref loA) (.ref hiA) (.int (1 : Int32)) (.int ru) (.ref owA) (.ref otA) (.ref liA) (.ref raA) (.ref olA) (.ref ohA) (.ref zlA) (.ref zhA) (.double fo) (.double fz) (.int (2 : Int32)) (.int (0 : Int32)))) :: (liA, ArC Z .boolean (li.set ik (.int (1 : Int32)))) :: (raA, ArC Z .int [.int k0, .int kk, .int 0]) :: (owA, ArC Z .double (ow.set ik (.double (FP.i2d e1)))) :: (otA, ArC Z .double (ot.set ik (.double 0))) :: F)) := by
  refine con_of (plainFor_of_name pn_Share) ?_
  intro p e s m below meth c T0 W0 e0
  subst e0
  have H0 := H00
  refine g_cast (ef_ridd6 m sh kk (FP.i2d e1) 0) ?_
  refine g_iloadN W0 d3_0 (pc' := 1) rfl rfl ?_
  refine g_if W0 d3_1 (pcy := 48) (by decide) (pc' := 4) rfl (fun (_ : ¬ kk < (0 : Int32)) => ?_) (fun (h : ¬ ¬ kk < (0 : Int32)) => absurd (Classical.not_not.mp h) (by rw [Int32.lt_iff_toInt_lt, hk, show (0 : Int32).toInt = 0 by decide]; omega))
  refine g_aloadN W0 d3_48 (pc' := 49) rfl rfl rfl ?_
  refine g_getf W0 (wd_23 hw) Via.refl H0 (i := 0) rfl (jx := 6) rfl d3_49 (pc' := 52) rfl ?_
  intro T1 W1 H1
  refine g_iloadN W1 d3_52 (pc' := 53) rfl rfl ?_
  refine g_zaload W1 H1 (i := 1) rfl (jx := ik) hk (v := .int (0 : Int32)) hli d3_53 (pc' := 54) rfl ?_
  refine g_if W1 d3_54 (pcy := 84) (by decide) (pc' := 57) rfl (fun (h : ¬ (0 : Int32) = (0 : Int32)) => absurd h (by decide)) (fun _ => ?_)
  refine g_aloadN W1 d3_57 (pc' := 58) rfl rfl rfl ?_
  refine g_getf W1 (wd_23 hw) Via.refl H1 (i := 0) rfl (jx := 6) rfl d3_58 (pc' := 61) rfl ?_
  intro T2 W2 H2
  refine g_iloadN W2 d3_61 (pc' := 62) rfl rfl ?_
  refine g_iconst W2 d3_62 (pc' := 63) rfl (v := (1 : Int32)) (by decide) ?_
  refine g_zastore W2 H2 (i := 1) rfl (u' := (1 : Int32)) (by decide) (jx := ik) hk ((List.getElem?_eq_some_iff.mp hli).1) d3_63 (pc' := 64) rfl (L' := ((sh, ObC Z "com/example/narrow_bounds/narrowbounds/Share" (fs_Share (.ref loA) (.ref hiA) (.int (1 : Int32)) (.int ru) (.ref owA) (.ref otA) (.ref liA) (.ref raA) (.ref olA) (.ref ohA) (.ref zlA) (.ref zhA) (.double fo) (.double fz) (.int (1 : Int32)) (.int (0 : Int32)))) :: (liA, ArC Z .boolean (li.set ik (.int (1 : Int32)))) :: (raA, ArC Z .int [.int k0, .int 0, .int 0]) :: (owA, ArC Z .double ow) :: (otA, ArC Z .double ot) :: F)) rfl ?_
  intro T3 W3 H3
  refine g_aloadN W3 d3_64 (pc' := 65) rfl rfl rfl ?_
  refine g_getf W3 (wd_26 hw) Via.refl H3 (i := 0) rfl (jx := 7) rfl d3_65 (pc' := 68) rfl ?_
  intro T4 W4 H4
  refine g_aloadN W4 d3_68 (pc' := 69) rfl rfl rfl ?_
  refine g_getf W4 (wd_59 hw) Via.refl H4 (i := 0) rfl (jx := 14) rfl d3_69 (pc' := 72) rfl ?_
  intro T5 W5 H5
  refine g_iloadN W5 d3_72 (pc' := 73) rfl rfl ?_
  refine g_iastore W5 H5 (i := 2) rfl (jx := 1) (by decide) (by exact (by decide : 1 < 3)) d3_73 (pc' := 74) rfl (L' := ((sh, ObC Z "com/example/narrow_bounds/narrowbounds/Share" (fs_Share (.ref loA) (.ref hiA) (.int (1 : Int32)) (.int ru) (.ref owA) (.ref otA) (.ref liA) (.ref raA) (.ref olA) (.ref ohA) (.ref zlA) (.ref zhA) (.double fo) (.double fz) (.int (1 : Int32)) (.int (0 : Int32)))) :: (liA, ArC Z .boolean (li.set ik (.int (1 : Int32)))) :: (raA, ArC Z .int [.int k0, .int kk, .int 0]) :: (owA, ArC Z .double ow) :: (otA, ArC Z .double ot) :: F)) rfl ?_
  intro T6 W6 H6
  refine g_aloadN W6 d3_74 (pc' := 75) rfl rfl rfl ?_
  refine g_dup W6 d3_75 (pc' := 76) rfl rfl ?_
  refine g_getf W6 (wd_59 hw) Via.refl H6 (i := 0) rfl (jx := 14) rfl d3_76 (pc' := 79) rfl ?_
  intro T7 W7 H7
  refine g_iconst W7 d3_79 (pc' := 80) rfl (v := (1 : Int32)) (by decide) ?_
  refine g_iadd W7 d3_80 (pc' := 81) rfl (v := (2 : Int32)) (by decide) ?_
  refine g_putf W7 (wd_59 hw) Via.refl (Or.inl (wd_60 hw)) (wd_2 hw) (ty := .int) (by decide) rfl rfl H7 (i := 0) rfl (jx := 14) rfl d3_81 (pc' := 84) rfl (L' := ((sh, ObC Z "com/example/narrow_bounds/narrowbounds/Share" (fs_Share (.ref loA) (.ref hiA) (.int (1 : Int32)) (.int ru) (.ref owA) (.ref otA) (.ref liA) (.ref raA) (.ref olA) (.ref ohA) (.ref zlA) (.ref zhA) (.double fo) (.double fz) (.int (2 : Int32)) (.int (0 : Int32)))) :: (liA, ArC Z .boolean (li.set ik (.int (1 : Int32)))) :: (raA, ArC Z .int [.int k0, .int kk, .int 0]) :: (owA, ArC Z .double ow) :: (otA, ArC Z .double ot) :: F)) rfl ?_
  intro T8 W8 H8
  refine g_aloadN W8 d3_84 (pc' := 85) rfl rfl rfl ?_
  refine g_getf W8 (wd_18 hw) Via.refl H8 (i := 0) rfl (jx := 4) rfl d3_85 (pc' := 88) rfl ?_
  intro T9 W9 H9
  refine g_iloadN W9 d3_88 (pc' := 89) rfl rfl ?_
  refine g_aloadN W9 d3_89 (pc' := 90) rfl rfl rfl ?_
  refine g_getf W9 (wd_18 hw) Via.refl H9 (i := 0) rfl (jx := 4) rfl d3_90 (pc' := 93) rfl ?_
  intro T10 W10 H10
  refine g_iloadN W10 d3_93 (pc' := 94) rfl rfl ?_
  refine g_daload W10 H10 (i := 3) rfl (jx := ik) hk (v := .double 0) how d3_94 (pc' := 95) rfl ?_
  refine g_dloadN W10 d3_95 (pc' := 96) rfl rfl ?_
  refine g_aloadN W10 d3_96 (pc' := 97) rfl rfl rfl ?_
  refine g_getf W10 (wd_14 hw) Via.refl H10 (i := 0) rfl (jx := 2) rfl d3_97 (pc' := 100) rfl ?_
  intro T11 W11 H11
  refine g_callS W11 (argsL := [.double 0, .double (FP.i2d e1), .int (1 : Int32)]) (st := [.int kk, .ref owA]) (wd_43 hw) (wd_44 hw) (wd_45 hw) (wd_46 hw) (by decide) (c_add1 l Z a0 hw n0 0 (FP.i2d e1) _ _ _ _ nr00 (nr_dy dn) (by omega) (by omega) _ _ H11) pd_7 rfl rfl rfl d3_100 (pc' := 103) rfl (by decide) (Wn := 2) (Nat.le_of_eq rfl) (by decide) (kc' := 0) (ks' := 0) rfl rfl (by decide) (by decide) ?_
  intro T12 v12 W12 hp12
  obtain ⟨r, rfl, -, hr2, H12⟩ := hp12
  show Goes _ _ _ _ (State.setTop _ (mkF _ _ _ [.double r, .int kk, .ref owA]))
  obtain rfl : r = (FP.i2d e1) := (hr2 (Or.inl rfl)).trans (co_add _ h1)
  refine g_dastore W12 H12 (i := 3) rfl (jx := ik) hk ((List.getElem?_eq_some_iff.mp how).1) d3_103 (pc' := 104) rfl (L' := ((sh, ObC Z "com/example/narrow_bounds/narrowbounds/Share" (fs_Share (.ref loA) (.ref hiA) (.int (1 : Int32)) (.int ru) (.ref owA) (.ref otA) (.ref liA) (.ref raA) (.ref olA) (.ref ohA) (.ref zlA) (.ref zhA) (.double fo) (.double fz) (.int (2 : Int32)) (.int (0 : Int32)))) :: (liA, ArC Z .boolean (li.set ik (.int (1 : Int32)))) :: (raA, ArC Z .int [.int k0, .int kk, .int 0]) :: (owA, ArC Z .double (ow.set ik (.double (FP.i2d e1)))) :: (otA, ArC Z .double ot) :: F)) rfl ?_
  intro T13 W13 H13
  refine g_aloadN W13 d3_104 (pc' := 105) rfl rfl rfl ?_
  refine g_getf W13 (wd_20 hw) Via.refl H13 (i := 0) rfl (jx := 5) rfl d3_105 (pc' := 108) rfl ?_
  intro T14 W14 H14
  refine g_iloadN W14 d3_108 (pc' := 109) rfl rfl ?_
  refine g_aloadN W14 d3_109 (pc' := 110) rfl rfl rfl ?_
  refine g_getf W14 (wd_20 hw) Via.refl H14 (i := 0) rfl (jx := 5) rfl d3_110 (pc' := 113) rfl ?_
  intro T15 W15 H15
  refine g_iloadN W15 d3_113 (pc' := 114) rfl rfl ?_
  refine g_daload W15 H15 (i := 4) rfl (jx := ik) hk (v := .double 0) hot d3_114 (pc' := 115) rfl ?_
  refine g_dload W15 d3_115 (pc' := 117) rfl rfl ?_
  refine g_aloadN W15 d3_117 (pc' := 118) rfl rfl rfl ?_
  refine g_getf W15 (wd_14 hw) Via.refl H15 (i := 0) rfl (jx := 2) rfl d3_118 (pc' := 121) rfl ?_
  intro T16 W16 H16
  refine g_if W16 d3_121 (pcy := 128) (by decide) (pc' := 124) rfl (fun _ => ?_) (fun (h : ¬ ¬ (1 : Int32) = (0 : Int32)) => absurd h (by decide))
  refine g_iconst W16 d3_128 (pc' := 129) rfl (v := (0 : Int32)) (by decide) ?_
  refine g_callS W16 (argsL := [.double 0, .double 0, .int (0 : Int32)]) (st := [.int kk, .ref otA]) (wd_43 hw) (wd_44 hw) (wd_45 hw) (wd_46 hw) (by decide) (c_add0 l Z a0 hw n0 0 0 _ _ _ _ nr00 nr00 (by omega) (by omega) _ _ H16) pd_7 rfl rfl rfl d3_129 (pc' := 132) rfl (by decide) (Wn := 2) (Nat.le_of_eq rfl) (by decide) (kc' := 0) (ks' := 0) rfl rfl (by decide) (by decide) ?_
  intro T17 v17 W17 hp17
  obtain ⟨r, rfl, -, hr2, H17⟩ := hp17
  show Goes _ _ _ _ (State.setTop _ (mkF _ _ _ [.double r, .int kk, .ref otA]))
  obtain rfl : r = 0 := (hr2 (Or.inl rfl)).trans co_add0
  refine g_dastore W17 H17 (i := 4) rfl (jx := ik) hk ((List.getElem?_eq_some_iff.mp hot).1) d3_132 (pc' := 133) rfl (L' := ((sh, ObC Z "com/example/narrow_bounds/narrowbounds/Share" (fs_Share (.ref loA) (.ref hiA) (.int (1 : Int32)) (.int ru) (.ref owA) (.ref otA) (.ref liA) (.ref raA) (.ref olA) (.ref ohA) (.ref zlA) (.ref zhA) (.double fo) (.double fz) (.int (2 : Int32)) (.int (0 : Int32)))) :: (liA, ArC Z .boolean (li.set ik (.int (1 : Int32)))) :: (raA, ArC Z .int [.int k0, .int kk, .int 0]) :: (owA, ArC Z .double (ow.set ik (.double (FP.i2d e1)))) :: (otA, ArC Z .double (ot.set ik (.double 0))) :: F)) rfl ?_
  intro T18 W18 H18
  exact g_return W18 d3_133 ⟨rfl, H18⟩ (by decide) (by decide)
theorem c_apk11z (l : Launch) (Z : State) (a0 : Array Value) (hw : ∀ d ∈ tables_1, d.before a0 Z = true) (n0 : Nat) (sh loA hiA owA otA liA raA olA ohA zlA zhA : Addr) (ru : Int32) (fo fz : UInt64) (kk k0 e1 : Int32) (ik n1 : Nat) (hk : kk.toInt = (ik : Int)) (h1 : e1 ∈ coL) (dn : Jvm.OwnKit.Dy (n1 : Int) 0 (FP.i2d e1)) (bn : n1 ≤ 16) (li ow ot : List Value) (hli : li[ik]? = some (.int 0)) (how : ow[ik]? = some (.double 0)) (hot : ot[ik]? = some (.double 0))  (h0 : Heap) (F : List HRow) (H00 : Hp Z n0 h0 ((sh, ObC Z "com/example/narrow_bounds/narrowbounds/Share" (fs_Share (.ref loA) (.ref hiA) (.int (1 : Int32)) (.int ru) (.ref owA) (.ref otA) (.ref liA) (.ref raA) (.ref olA) (.ref ohA) (.ref zlA) (.ref zhA) (.double fo) (.double fz) (.int (1 : Int32)) (.int (0 : Int32)))) :: (liA, ArC Z .boolean li) :: (raA, ArC Z .int [.int k0, .int 0, .int 0]) :: (owA, ArC Z .double ow) :: (otA, ArC Z .double ot) :: F)) :
    Con l Z n0 ⟨"com/example/narrow_bounds/narrowbounds/Share", "addParts", "(IDD)V"⟩ [] prog_45_method_3_code 6 none ({ frames := 4, cells := 0, slots := 0, locals := 88 } : Room) #[.ref sh, .int kk, .double 0, .double (FP.i2d e1)] h0 (fun v h => v = none ∧ Hp Z n0 h ((sh, ObC Z "com/example/narrow_bounds/narrowbounds/Share" (fs_Share (.ref loA) (.ref hiA) (.int (1 : Int32)) (.int ru) (.ref owA) (.ref otA) (.ref liA) (.ref raA) (.ref olA) (.ref ohA) (.ref zlA) (.ref zhA) (.double fo) (.double fz) (.int (2 : Int32)) (.int (0 : Int32)))) :: (liA, ArC Z .boolean (li.set ik (.int (1 : Int32)))) :: (raA, ArC Z .int [.int k0, .int kk, .int 0]) :: (owA, ArC Z .double (ow.set ik (.double 0))) :: (otA, ArC Z .double (ot.set ik (.double (FP.i2d e1)))) :: F)) := by
  refine con_of (plainFor_of_name pn_Share) ?_
  intro p e s m below meth c T0 W0 e0
  subst e0
  have H0 := H00
  refine g_cast (ef_ridd6 m sh kk 0 (FP.i2d e1)) ?_
  refine g_iloadN W0 d3_0 (pc' := 1) rfl rfl ?_
  refine g_if W0 d3_1 (pcy := 48) (by decide) (pc' := 4) rfl (fun (_ : ¬ kk < (0 : Int32)) => ?_) (fun (h : ¬ ¬ kk < (0 : Int32)) => absurd (Classical.not_not.mp h) (by rw [Int32.lt_iff_toInt_lt, hk, show (0 : Int32).toInt = 0 by decide]; omega))
  refine g_aloadN W0 d3_48 (pc' := 49) rfl rfl rfl ?_
  refine g_getf W0 (wd_23 hw) Via.refl H0 (i := 0) rfl (jx := 6) rfl d3_49 (pc' := 52) rfl ?_
  intro T1 W1 H1
  refine g_iloadN W1 d3_52 (pc' := 53) rfl rfl ?_
  refine g_zaload W1 H1 (i := 1) rfl (jx := ik) hk (v := .int (0 : Int32)) hli d3_53 (pc' := 54) rfl ?_
  refine g_if W1 d3_54 (pcy := 84) (by decide) (pc' := 57) rfl (fun (h : ¬ (0 : Int32) = (0 : Int32)) => absurd h (by decide)) (fun _ => ?_)
  refine g_aloadN W1 d3_57 (pc' := 58) rfl rfl rfl ?_
  refine g_getf W1 (wd_23 hw) Via.refl H1 (i := 0) rfl (jx := 6) rfl d3_58 (pc' := 61) rfl ?_
  intro T2 W2 H2
  refine g_iloadN W2 d3_61 (pc' := 62) rfl rfl ?_
  refine g_iconst W2 d3_62 (pc' := 63) rfl (v := (1 : Int32)) (by decide) ?_
  refine g_zastore W2 H2 (i := 1) rfl (u' := (1 : Int32)) (by decide) (jx := ik) hk ((List.getElem?_eq_some_iff.mp hli).1) d3_63 (pc' := 64) rfl (L' := ((sh, ObC Z "com/example/narrow_bounds/narrowbounds/Share" (fs_Share (.ref loA) (.ref hiA) (.int (1 : Int32)) (.int ru) (.ref owA) (.ref otA) (.ref liA) (.ref raA) (.ref olA) (.ref ohA) (.ref zlA) (.ref zhA) (.double fo) (.double fz) (.int (1 : Int32)) (.int (0 : Int32)))) :: (liA, ArC Z .boolean (li.set ik (.int (1 : Int32)))) :: (raA, ArC Z .int [.int k0, .int 0, .int 0]) :: (owA, ArC Z .double ow) :: (otA, ArC Z .double ot) :: F)) rfl ?_
  intro T3 W3 H3
  refine g_aloadN W3 d3_64 (pc' := 65) rfl rfl rfl ?_
  refine g_getf W3 (wd_26 hw) Via.refl H3 (i := 0) rfl (jx := 7) rfl d3_65 (pc' := 68) rfl ?_
  intro T4 W4 H4
  refine g_aloadN W4 d3_68 (pc' := 69) rfl rfl rfl ?_
  refine g_getf W4 (wd_59 hw) Via.refl H4 (i := 0) rfl (jx := 14) rfl d3_69 (pc' := 72) rfl ?_
  intro T5 W5 H5
  refine g_iloadN W5 d3_72 (pc' := 73) rfl rfl ?_
  refine g_iastore W5 H5 (i := 2) rfl (jx := 1) (by decide) (by exact (by decide : 1 < 3)) d3_73 (pc' := 74) rfl (L' := ((sh, ObC Z "com/example/narrow_bounds/narrowbounds/Share" (fs_Share (.ref loA) (.ref hiA) (.int (1 : Int32)) (.int ru) (.ref owA) (.ref otA) (.ref liA) (.ref raA) (.ref olA) (.ref ohA) (.ref zlA) (.ref zhA) (.double fo) (.double fz) (.int (1 : Int32)) (.int (0 : Int32)))) :: (liA, ArC Z .boolean (li.set ik (.int (1 : Int32)))) :: (raA, ArC Z .int [.int k0, .int kk, .int 0]) :: (owA, ArC Z .double ow) :: (otA, ArC Z .double ot) :: F)) rfl ?_
  intro T6 W6 H6
  refine g_aloadN W6 d3_74 (pc' := 75) rfl rfl rfl ?_
  refine g_dup W6 d3_75 (pc' := 76) rfl rfl ?_
  refine g_getf W6 (wd_59 hw) Via.refl H6 (i := 0) rfl (jx := 14) rfl d3_76 (pc' := 79) rfl ?_
  intro T7 W7 H7
  refine g_iconst W7 d3_79 (pc' := 80) rfl (v := (1 : Int32)) (by decide) ?_
  refine g_iadd W7 d3_80 (pc' := 81) rfl (v := (2 : Int32)) (by decide) ?_
  refine g_putf W7 (wd_59 hw) Via.refl (Or.inl (wd_60 hw)) (wd_2 hw) (ty := .int) (by decide) rfl rfl H7 (i := 0) rfl (jx := 14) rfl d3_81 (pc' := 84) rfl (L' := ((sh, ObC Z "com/example/narrow_bounds/narrowbounds/Share" (fs_Share (.ref loA) (.ref hiA) (.int (1 : Int32)) (.int ru) (.ref owA) (.ref otA) (.ref liA) (.ref raA) (.ref olA) (.ref ohA) (.ref zlA) (.ref zhA) (.double fo) (.double fz) (.int (2 : Int32)) (.int (0 : Int32)))) :: (liA, ArC Z .boolean (li.set ik (.int (1 : Int32)))) :: (raA, ArC Z .int [.int k0, .int kk, .int 0]) :: (owA, ArC Z .double ow) :: (otA, ArC Z .double ot) :: F)) rfl ?_
  intro T8 W8 H8
  refine g_aloadN W8 d3_84 (pc' := 85) rfl rfl rfl ?_
  refine g_getf W8 (wd_18 hw) Via.refl H8 (i := 0) rfl (jx := 4) rfl d3_85 (pc' := 88) rfl ?_
  intro T9 W9 H9
  refine g_iloadN W9 d3_88 (pc' := 89) rfl rfl ?_
  refine g_aloadN W9 d3_89 (pc' := 90) rfl rfl rfl ?_
  refine g_getf W9 (wd_18 hw) Via.refl H9 (i := 0) rfl (jx := 4) rfl d3_90 (pc' := 93) rfl ?_
  intro T10 W10 H10
  refine g_iloadN W10 d3_93 (pc' := 94) rfl rfl ?_
  refine g_daload W10 H10 (i := 3) rfl (jx := ik) hk (v := .double 0) how d3_94 (pc' := 95) rfl ?_
  refine g_dloadN W10 d3_95 (pc' := 96) rfl rfl ?_
  refine g_aloadN W10 d3_96 (pc' := 97) rfl rfl rfl ?_
  refine g_getf W10 (wd_14 hw) Via.refl H10 (i := 0) rfl (jx := 2) rfl d3_97 (pc' := 100) rfl ?_
  intro T11 W11 H11
  refine g_callS W11 (argsL := [.double 0, .double 0, .int (1 : Int32)]) (st := [.int kk, .ref owA]) (wd_43 hw) (wd_44 hw) (wd_45 hw) (wd_46 hw) (by decide) (c_add1 l Z a0 hw n0 0 0 _ _ _ _ nr00 nr00 (by omega) (by omega) _ _ H11) pd_7 rfl rfl rfl d3_100 (pc' := 103) rfl (by decide) (Wn := 2) (Nat.le_of_eq rfl) (by decide) (kc' := 0) (ks' := 0) rfl rfl (by decide) (by decide) ?_
  intro T12 v12 W12 hp12
  obtain ⟨r, rfl, -, hr2, H12⟩ := hp12
  show Goes _ _ _ _ (State.setTop _ (mkF _ _ _ [.double r, .int kk, .ref owA]))
  obtain rfl : r = 0 := (hr2 (Or.inl rfl)).trans co_add0
  refine g_dastore W12 H12 (i := 3) rfl (jx := ik) hk ((List.getElem?_eq_some_iff.mp how).1) d3_103 (pc' := 104) rfl (L' := ((sh, ObC Z "com/example/narrow_bounds/narrowbounds/Share" (fs_Share (.ref loA) (.ref hiA) (.int (1 : Int32)) (.int ru) (.ref owA) (.ref otA) (.ref liA) (.ref raA) (.ref olA) (.ref ohA) (.ref zlA) (.ref zhA) (.double fo) (.double fz) (.int (2 : Int32)) (.int (0 : Int32)))) :: (liA, ArC Z .boolean (li.set ik (.int (1 : Int32)))) :: (raA, ArC Z .int [.int k0, .int kk, .int 0]) :: (owA, ArC Z .double (ow.set ik (.double 0))) :: (otA, ArC Z .double ot) :: F)) rfl ?_
  intro T13 W13 H13
  refine g_aloadN W13 d3_104 (pc' := 105) rfl rfl rfl ?_
  refine g_getf W13 (wd_20 hw) Via.refl H13 (i := 0) rfl (jx := 5) rfl d3_105 (pc' := 108) rfl ?_
  intro T14 W14 H14
  refine g_iloadN W14 d3_108 (pc' := 109) rfl rfl ?_
  refine g_aloadN W14 d3_109 (pc' := 110) rfl rfl rfl ?_
  refine g_getf W14 (wd_20 hw) Via.refl H14 (i := 0) rfl (jx := 5) rfl d3_110 (pc' := 113) rfl ?_
  intro T15 W15 H15
  refine g_iloadN W15 d3_113 (pc' := 114) rfl rfl ?_
  refine g_daload W15 H15 (i := 4) rfl (jx := ik) hk (v := .double 0) hot d3_114 (pc' := 115) rfl ?_
  refine g_dload W15 d3_115 (pc' := 117) rfl rfl ?_
  refine g_aloadN W15 d3_117 (pc' := 118) rfl rfl rfl ?_
  refine g_getf W15 (wd_14 hw) Via.refl H15 (i := 0) rfl (jx := 2) rfl d3_118 (pc' := 121) rfl ?_
  intro T16 W16 H16
  refine g_if W16 d3_121 (pcy := 128) (by decide) (pc' := 124) rfl (fun _ => ?_) (fun (h : ¬ ¬ (1 : Int32) = (0 : Int32)) => absurd h (by decide))
  refine g_iconst W16 d3_128 (pc' := 129) rfl (v := (0 : Int32)) (by decide) ?_
  refine g_callS W16 (argsL := [.double 0, .double (FP.i2d e1), .int (0 : Int32)]) (st := [.int kk, .ref otA]) (wd_43 hw) (wd_44 hw) (wd_45 hw) (wd_46 hw) (by decide) (c_add0 l Z a0 hw n0 0 (FP.i2d e1) _ _ _ _ nr00 (nr_dy dn) (by omega) (by omega) _ _ H16) pd_7 rfl rfl rfl d3_129 (pc' := 132) rfl (by decide) (Wn := 2) (Nat.le_of_eq rfl) (by decide) (kc' := 0) (ks' := 0) rfl rfl (by decide) (by decide) ?_
  intro T17 v17 W17 hp17
  obtain ⟨r, rfl, -, hr2, H17⟩ := hp17
  show Goes _ _ _ _ (State.setTop _ (mkF _ _ _ [.double r, .int kk, .ref otA]))
  obtain rfl : r = (FP.i2d e1) := (hr2 (Or.inl rfl)).trans (co_add _ h1)
  refine g_dastore W17 H17 (i := 4) rfl (jx := ik) hk ((List.getElem?_eq_some_iff.mp hot).1) d3_132 (pc' := 133) rfl (L' := ((sh, ObC Z "com/example/narrow_bounds/narrowbounds/Share" (fs_Share (.ref loA) (.ref hiA) (.int (1 : Int32)) (.int ru) (.ref owA) (.ref otA) (.ref liA) (.ref raA) (.ref olA) (.ref ohA) (.ref zlA) (.ref zhA) (.double fo) (.double fz) (.int (2 : Int32)) (.int (0 : Int32)))) :: (liA, ArC Z .boolean (li.set ik (.int (1 : Int32)))) :: (raA, ArC Z .int [.int k0, .int kk, .int 0]) :: (owA, ArC Z .double (ow.set ik (.double 0))) :: (otA, ArC Z .double (ot.set ik (.double (FP.i2d e1)))) :: F)) rfl ?_
  intro T18 W18 H18
  exact g_return W18 d3_133 ⟨rfl, H18⟩ (by decide) (by decide)
def KD (q : Int32) (ow ot : List Value) (ik : Nat) (e1 : Int32) (ow2 ot2 : List Value) : Prop := (¬ q = 0 ∧ ow2 = ow.set ik (.double (FP.i2d e1)) ∧ ot2 = ot.set ik (.double 0)) ∨ (q = 0 ∧ ow2 = ow.set ik (.double 0) ∧ ot2 = ot.set ik (.double (FP.i2d e1)))
theorem c_app00 (l : Launch) (Z : State) (a0 : Array Value) (hw : ∀ d ∈ tables_1, d.before a0 Z = true) (n0 : Nat) (sh loA hiA owA otA liA raA olA ohA zlA zhA : Addr) (q : Int32) (ru : Int32) (fo fz : UInt64) (kk k0 e1 : Int32) (ik n1 : Nat) (hk : kk.toInt = (ik : Int)) (h1 : e1 ∈ coL) (dn : Jvm.OwnKit.Dy (n1 : Int) 0 (FP.i2d e1)) (bn : n1 ≤ 16) (li ow ot : List Value) (hli : li[ik]? = some (.int 0)) (how : ow[ik]? = some (.double 0)) (hot : ot[ik]? = some (.double 0))  (h0 : Heap) (F : List HRow) (H00 : Hp Z n0 h0 ((sh, ObC Z "com/example/narrow_bounds/narrowbounds/Share" (fs_Share (.ref loA) (.ref hiA) (.int (0 : Int32)) (.int ru) (.ref owA) (.ref otA) (.ref liA) (.ref raA) (.ref olA) (.ref ohA) (.ref zlA) (.ref zhA) (.double fo) (.double fz) (.int (0 : Int32)) (.int (0 : Int32)))) :: (liA, ArC Z .boolean li) :: (raA, ArC Z .int [.int 0, .int 0, .int 0]) :: (owA, ArC Z .double ow) :: (otA, ArC Z .double ot) :: F)) :
    Con l Z n0 ⟨"com/example/narrow_bounds/narrowbounds/ShareValueAtExtremePinLaw", "addPart", "(Lcom/example/narrow_bounds/narrowbounds/Share;IZD)V"⟩ [] method_2_code 5 none ({ frames := 5, cells := 0, slots := 0, locals := 105 } : Room) #[.ref sh, .int kk, .int q, .double (FP.i2d e1)] h0 (fun v h => ∃ ow2 ot2, v = none ∧ KD q ow ot ik e1 ow2 ot2 ∧ Hp Z n0 h ((sh, ObC Z "com/example/narrow_bounds/narrowbounds/Share" (fs_Share (.ref loA) (.ref hiA) (.int (0 : Int32)) (.int ru) (.ref owA) (.ref otA) (.ref liA) (.ref raA) (.ref olA) (.ref ohA) (.ref zlA) (.ref zhA) (.double fo) (.double fz) (.int (1 : Int32)) (.int (0 : Int32)))) :: (liA, ArC Z .boolean (li.set ik (.int (1 : Int32)))) :: (raA, ArC Z .int [.int kk, .int 0, .int 0]) :: (owA, ArC Z .double ow2) :: (otA, ArC Z .double ot2) :: F)) := by
  refine con_of (plainFor_of_name pn_ShareValueAtExtremePinLaw) ?_
  intro p e s m below meth c T0 W0 e0
  subst e0
  have H0 := H00
  refine g_cast (ef_riid5 m sh kk q (FP.i2d e1)) ?_
  refine g_iloadN W0 d7_0 (pc' := 1) rfl rfl ?_
  refine g_if W0 d7_1 (pcy := 14) (by decide) (pc' := 4) rfl (fun (c1 : q = (0 : Int32)) => ?_) (fun (c1 : ¬ q = (0 : Int32)) => ?_)
  · refine g_aloadN W0 d7_14 (pc' := 15) rfl rfl rfl ?_
    refine g_iloadN W0 d7_15 (pc' := 16) rfl rfl ?_
    refine g_dconst0 W0 d7_16 (pc' := 17) rfl ?_
    refine g_dloadN W0 d7_17 (pc' := 18) rfl rfl ?_
    refine g_callV W0 (argsL := [.int kk, .double 0, .double (FP.i2d e1)]) (st := []) (wd_36 hw) (wd_37 hw) (wd_39 hw) (wd_38 hw) (wd_3 hw) (wd_40 hw) (by decide) (a := sh) H0 (i := 0) rfl (c_apk00z l Z a0 hw n0 sh loA hiA owA otA liA raA olA ohA zlA zhA ru fo fz kk k0 e1 ik n1 hk h1 dn bn li ow ot hli how hot _ _ H0) pd_9 rfl rfl rfl d7_18 (pc' := 21) rfl (by decide) (Wn := 0) (Nat.le_of_eq rfl) (by decide) (kc' := 0) (ks' := 0) rfl rfl (by decide) (by decide) ?_
    intro T2 v2 W2 hp2
    obtain ⟨rfl, H2⟩ := hp2
    show Goes _ _ _ _ (State.setTop _ (mkF _ _ _ []))
    exact g_return W2 d7_21 ⟨_, _, rfl, Or.inr ⟨c1, rfl, rfl⟩, H2⟩ (by decide) (by decide)
  · refine g_aloadN W0 d7_4 (pc' := 5) rfl rfl rfl ?_
    refine g_iloadN W0 d7_5 (pc' := 6) rfl rfl ?_
    refine g_dloadN W0 d7_6 (pc' := 7) rfl rfl ?_
    refine g_dconst0 W0 d7_7 (pc' := 8) rfl ?_
    refine g_callV W0 (argsL := [.int kk, .double (FP.i2d e1), .double 0]) (st := []) (wd_36 hw) (wd_37 hw) (wd_39 hw) (wd_38 hw) (wd_3 hw) (wd_40 hw) (by decide) (a := sh) H0 (i := 0) rfl (c_apk00o l Z a0 hw n0 sh loA hiA owA otA liA raA olA ohA zlA zhA ru fo fz kk k0 e1 ik n1 hk h1 dn bn li ow ot hli how hot _ _ H0) pd_9 rfl rfl rfl d7_8 (pc' := 11) rfl (by decide) (Wn := 0) (Nat.le_of_eq rfl) (by decide) (kc' := 0) (ks' := 0) rfl rfl (by decide) (by decide) ?_
    intro T3 v3 W3 hp3
    obtain ⟨rfl, H3⟩ := hp3
    show Goes _ _ _ _ (State.setTop _ (mkF _ _ _ []))
    refine g_goto W3 d7_11 (pc' := 21) (by decide) ?_
    exact g_return W3 d7_21 ⟨_, _, rfl, Or.inl ⟨c1, rfl, rfl⟩, H3⟩ (by decide) (by decide)
theorem c_app01 (l : Launch) (Z : State) (a0 : Array Value) (hw : ∀ d ∈ tables_1, d.before a0 Z = true) (n0 : Nat) (sh loA hiA owA otA liA raA olA ohA zlA zhA : Addr) (q : Int32) (ru : Int32) (fo fz : UInt64) (kk k0 e1 : Int32) (ik n1 : Nat) (hk : kk.toInt = (ik : Int)) (h1 : e1 ∈ coL) (dn : Jvm.OwnKit.Dy (n1 : Int) 0 (FP.i2d e1)) (bn : n1 ≤ 16) (li ow ot : List Value) (hli : li[ik]? = some (.int 0)) (how : ow[ik]? = some (.double 0)) (hot : ot[ik]? = some (.double 0))  (h0 : Heap) (F : List HRow) (H00 : Hp Z n0 h0 ((sh, ObC Z "com/example/narrow_bounds/narrowbounds/Share" (fs_Share (.ref loA) (.ref hiA) (.int (0 : Int32)) (.int ru) (.ref owA) (.ref otA) (.ref liA) (.ref raA) (.ref olA) (.ref ohA) (.ref zlA) (.ref zhA) (.double fo) (.double fz) (.int (1 : Int32)) (.int (0 : Int32)))) :: (liA, ArC Z .boolean li) :: (raA, ArC Z .int [.int k0, .int 0, .int 0]) :: (owA, ArC Z .double ow) :: (otA, ArC Z .double ot) :: F)) :
    Con l Z n0 ⟨"com/example/narrow_bounds/narrowbounds/ShareValueAtExtremePinLaw", "addPart", "(Lcom/example/narrow_bounds/narrowbounds/Share;IZD)V"⟩ [] method_2_code 5 none ({ frames := 5, cells := 0, slots := 0, locals := 105 } : Room) #[.ref sh, .int kk, .int q, .double (FP.i2d e1)] h0 (fun v h => ∃ ow2 ot2, v = none ∧ KD q ow ot ik e1 ow2 ot2 ∧ Hp Z n0 h ((sh, ObC Z "com/example/narrow_bounds/narrowbounds/Share" (fs_Share (.ref loA) (.ref hiA) (.int (0 : Int32)) (.int ru) (.ref owA) (.ref otA) (.ref liA) (.ref raA) (.ref olA) (.ref ohA) (.ref zlA) (.ref zhA) (.double fo) (.double fz) (.int (2 : Int32)) (.int (0 : Int32)))) :: (liA, ArC Z .boolean (li.set ik (.int (1 : Int32)))) :: (raA, ArC Z .int [.int k0, .int kk, .int 0]) :: (owA, ArC Z .double ow2) :: (otA, ArC Z .double ot2) :: F)) := by
  refine con_of (plainFor_of_name pn_ShareValueAtExtremePinLaw) ?_
  intro p e s m below meth c T0 W0 e0
  subst e0
  have H0 := H00
  refine g_cast (ef_riid5 m sh kk q (FP.i2d e1)) ?_
  refine g_iloadN W0 d7_0 (pc' := 1) rfl rfl ?_
  refine g_if W0 d7_1 (pcy := 14) (by decide) (pc' := 4) rfl (fun (c1 : q = (0 : Int32)) => ?_) (fun (c1 : ¬ q = (0 : Int32)) => ?_)
  · refine g_aloadN W0 d7_14 (pc' := 15) rfl rfl rfl ?_
    refine g_iloadN W0 d7_15 (pc' := 16) rfl rfl ?_
    refine g_dconst0 W0 d7_16 (pc' := 17) rfl ?_
    refine g_dloadN W0 d7_17 (pc' := 18) rfl rfl ?_
    refine g_callV W0 (argsL := [.int kk, .double 0, .double (FP.i2d e1)]) (st := []) (wd_36 hw) (wd_37 hw) (wd_39 hw) (wd_38 hw) (wd_3 hw) (wd_40 hw) (by decide) (a := sh) H0 (i := 0) rfl (c_apk01z l Z a0 hw n0 sh loA hiA owA otA liA raA olA ohA zlA zhA ru fo fz kk k0 e1 ik n1 hk h1 dn bn li ow ot hli how hot _ _ H0) pd_9 rfl rfl rfl d7_18 (pc' := 21) rfl (by decide) (Wn := 0) (Nat.le_of_eq rfl) (by decide) (kc' := 0) (ks' := 0) rfl rfl (by decide) (by decide) ?_
    intro T2 v2 W2 hp2
    obtain ⟨rfl, H2⟩ := hp2
    show Goes _ _ _ _ (State.setTop _ (mkF _ _ _ []))
    exact g_return W2 d7_21 ⟨_, _, rfl, Or.inr ⟨c1, rfl, rfl⟩, H2⟩ (by decide) (by decide)
  · refine g_aloadN W0 d7_4 (pc' := 5) rfl rfl rfl ?_
    refine g_iloadN W0 d7_5 (pc' := 6) rfl rfl ?_
    refine g_dloadN W0 d7_6 (pc' := 7) rfl rfl ?_
    refine g_dconst0 W0 d7_7 (pc' := 8) rfl ?_
    refine g_callV W0 (argsL := [.int kk, .double (FP.i2d e1), .double 0]) (st := []) (wd_36 hw) (wd_37 hw) (wd_39 hw) (wd_38 hw) (wd_3 hw) (wd_40 hw) (by decide) (a := sh) H0 (i := 0) rfl (c_apk01o l Z a0 hw n0 sh loA hiA owA otA liA raA olA ohA zlA zhA ru fo fz kk k0 e1 ik n1 hk h1 dn bn li ow ot hli how hot _ _ H0) pd_9 rfl rfl rfl d7_8 (pc' := 11) rfl (by decide) (Wn := 0) (Nat.le_of_eq rfl) (by decide) (kc' := 0) (ks' := 0) rfl rfl (by decide) (by decide) ?_
    intro T3 v3 W3 hp3
    obtain ⟨rfl, H3⟩ := hp3
    show Goes _ _ _ _ (State.setTop _ (mkF _ _ _ []))
    refine g_goto W3 d7_11 (pc' := 21) (by decide) ?_
    exact g_return W3 d7_21 ⟨_, _, rfl, Or.inl ⟨c1, rfl, rfl⟩, H3⟩ (by decide) (by decide)
theorem c_app10 (l : Launch) (Z : State) (a0 : Array Value) (hw : ∀ d ∈ tables_1, d.before a0 Z = true) (n0 : Nat) (sh loA hiA owA otA liA raA olA ohA zlA zhA : Addr) (q : Int32) (ru : Int32) (fo fz : UInt64) (kk k0 e1 : Int32) (ik n1 : Nat) (hk : kk.toInt = (ik : Int)) (h1 : e1 ∈ coL) (dn : Jvm.OwnKit.Dy (n1 : Int) 0 (FP.i2d e1)) (bn : n1 ≤ 16) (li ow ot : List Value) (hli : li[ik]? = some (.int 0)) (how : ow[ik]? = some (.double 0)) (hot : ot[ik]? = some (.double 0))  (h0 : Heap) (F : List HRow) (H00 : Hp Z n0 h0 ((sh, ObC Z "com/example/narrow_bounds/narrowbounds/Share" (fs_Share (.ref loA) (.ref hiA) (.int (1 : Int32)) (.int ru) (.ref owA) (.ref otA) (.ref liA) (.ref raA) (.ref olA) (.ref ohA) (.ref zlA) (.ref zhA) (.double fo) (.double fz) (.int (0 : Int32)) (.int (0 : Int32)))) :: (liA, ArC Z .boolean li) :: (raA, ArC Z .int [.int 0, .int 0, .int 0]) :: (owA, ArC Z .double ow) :: (otA, ArC Z .double ot) :: F)) :
    Con l Z n0 ⟨"com/example/narrow_bounds/narrowbounds/ShareValueAtExtremePinLaw", "addPart", "(Lcom/example/narrow_bounds/narrowbounds/Share;IZD)V"⟩ [] method_2_code 5 none ({ frames := 5, cells := 0, slots := 0, locals := 105 } : Room) #[.ref sh, .int kk, .int q, .double (FP.i2d e1)] h0 (fun v h => ∃ ow2 ot2, v = none ∧ KD q ow ot ik e1 ow2 ot2 ∧ Hp Z n0 h ((sh, ObC Z "com/example/narrow_bounds/narrowbounds/Share" (fs_Share (.ref loA) (.ref hiA) (.int (1 : Int32)) (.int ru) (.ref owA) (.ref otA) (.ref liA) (.ref raA) (.ref olA) (.ref ohA) (.ref zlA) (.ref zhA) (.double fo) (.double fz) (.int (1 : Int32)) (.int (0 : Int32)))) :: (liA, ArC Z .boolean (li.set ik (.int (1 : Int32)))) :: (raA, ArC Z .int [.int kk, .int 0, .int 0]) :: (owA, ArC Z .double ow2) :: (otA, ArC Z .double ot2) :: F)) := by
  refine con_of (plainFor_of_name pn_ShareValueAtExtremePinLaw) ?_
  intro p e s m below meth c T0 W0 e0
  subst e0
  have H0 := H00
  refine g_cast (ef_riid5 m sh kk q (FP.i2d e1)) ?_
  refine g_iloadN W0 d7_0 (pc' := 1) rfl rfl ?_
  refine g_if W0 d7_1 (pcy := 14) (by decide) (pc' := 4) rfl (fun (c1 : q = (0 : Int32)) => ?_) (fun (c1 : ¬ q = (0 : Int32)) => ?_)
  · refine g_aloadN W0 d7_14 (pc' := 15) rfl rfl rfl ?_
    refine g_iloadN W0 d7_15 (pc' := 16) rfl rfl ?_
    refine g_dconst0 W0 d7_16 (pc' := 17) rfl ?_
    refine g_dloadN W0 d7_17 (pc' := 18) rfl rfl ?_
    refine g_callV W0 (argsL := [.int kk, .double 0, .double (FP.i2d e1)]) (st := []) (wd_36 hw) (wd_37 hw) (wd_39 hw) (wd_38 hw) (wd_3 hw) (wd_40 hw) (by decide) (a := sh) H0 (i := 0) rfl (c_apk10z l Z a0 hw n0 sh loA hiA owA otA liA raA olA ohA zlA zhA ru fo fz kk k0 e1 ik n1 hk h1 dn bn li ow ot hli how hot _ _ H0) pd_9 rfl rfl rfl d7_18 (pc' := 21) rfl (by decide) (Wn := 0) (Nat.le_of_eq rfl) (by decide) (kc' := 0) (ks' := 0) rfl rfl (by decide) (by decide) ?_
    intro T2 v2 W2 hp2
    obtain ⟨rfl, H2⟩ := hp2
    show Goes _ _ _ _ (State.setTop _ (mkF _ _ _ []))
    exact g_return W2 d7_21 ⟨_, _, rfl, Or.inr ⟨c1, rfl, rfl⟩, H2⟩ (by decide) (by decide)
  · refine g_aloadN W0 d7_4 (pc' := 5) rfl rfl rfl ?_
    refine g_iloadN W0 d7_5 (pc' := 6) rfl rfl ?_
    refine g_dloadN W0 d7_6 (pc' := 7) rfl rfl ?_
    refine g_dconst0 W0 d7_7 (pc' := 8) rfl ?_
    refine g_callV W0 (argsL := [.int kk, .double (FP.i2d e1), .double 0]) (st := []) (wd_36 hw) (wd_37 hw) (wd_39 hw) (wd_38 hw) (wd_3 hw) (wd_40 hw) (by decide) (a := sh) H0 (i := 0) rfl (c_apk10o l Z a0 hw n0 sh loA hiA owA otA liA raA olA ohA zlA zhA ru fo fz kk k0 e1 ik n1 hk h1 dn bn li ow ot hli how hot _ _ H0) pd_9 rfl rfl rfl d7_8 (pc' := 11) rfl (by decide) (Wn := 0) (Nat.le_of_eq rfl) (by decide) (kc' := 0) (ks' := 0) rfl rfl (by decide) (by decide) ?_
    intro T3 v3 W3 hp3
    obtain ⟨rfl, H3⟩ := hp3
    show Goes _ _ _ _ (State.setTop _ (mkF _ _ _ []))
    refine g_goto W3 d7_11 (pc' := 21) (by decide) ?_
    exact g_return W3 d7_21 ⟨_, _, rfl, Or.inl ⟨c1, rfl, rfl⟩, H3⟩ (by decide) (by decide)
theorem c_app11 (l : Launch) (Z : State) (a0 : Array Value) (hw : ∀ d ∈ tables_1, d.before a0 Z = true) (n0 : Nat) (sh loA hiA owA otA liA raA olA ohA zlA zhA : Addr) (q : Int32) (ru : Int32) (fo fz : UInt64) (kk k0 e1 : Int32) (ik n1 : Nat) (hk : kk.toInt = (ik : Int)) (h1 : e1 ∈ coL) (dn : Jvm.OwnKit.Dy (n1 : Int) 0 (FP.i2d e1)) (bn : n1 ≤ 16) (li ow ot : List Value) (hli : li[ik]? = some (.int 0)) (how : ow[ik]? = some (.double 0)) (hot : ot[ik]? = some (.double 0))  (h0 : Heap) (F : List HRow) (H00 : Hp Z n0 h0 ((sh, ObC Z "com/example/narrow_bounds/narrowbounds/Share" (fs_Share (.ref loA) (.ref hiA) (.int (1 : Int32)) (.int ru) (.ref owA) (.ref otA) (.ref liA) (.ref raA) (.ref olA) (.ref ohA) (.ref zlA) (.ref zhA) (.double fo) (.double fz) (.int (1 : Int32)) (.int (0 : Int32)))) :: (liA, ArC Z .boolean li) :: (raA, ArC Z .int [.int k0, .int 0, .int 0]) :: (owA, ArC Z .double ow) :: (otA, ArC Z .double ot) :: F)) :
    Con l Z n0 ⟨"com/example/narrow_bounds/narrowbounds/ShareValueAtExtremePinLaw", "addPart", "(Lcom/example/narrow_bounds/narrowbounds/Share;IZD)V"⟩ [] method_2_code 5 none ({ frames := 5, cells := 0, slots := 0, locals := 105 } : Room) #[.ref sh, .int kk, .int q, .double (FP.i2d e1)] h0 (fun v h => ∃ ow2 ot2, v = none ∧ KD q ow ot ik e1 ow2 ot2 ∧ Hp Z n0 h ((sh, ObC Z "com/example/narrow_bounds/narrowbounds/Share" (fs_Share (.ref loA) (.ref hiA) (.int (1 : Int32)) (.int ru) (.ref owA) (.ref otA) (.ref liA) (.ref raA) (.ref olA) (.ref ohA) (.ref zlA) (.ref zhA) (.double fo) (.double fz) (.int (2 : Int32)) (.int (0 : Int32)))) :: (liA, ArC Z .boolean (li.set ik (.int (1 : Int32)))) :: (raA, ArC Z .int [.int k0, .int kk, .int 0]) :: (owA, ArC Z .double ow2) :: (otA, ArC Z .double ot2) :: F)) := by
  refine con_of (plainFor_of_name pn_ShareValueAtExtremePinLaw) ?_
  intro p e s m below meth c T0 W0 e0
  subst e0
  have H0 := H00
  refine g_cast (ef_riid5 m sh kk q (FP.i2d e1)) ?_
  refine g_iloadN W0 d7_0 (pc' := 1) rfl rfl ?_
  refine g_if W0 d7_1 (pcy := 14) (by decide) (pc' := 4) rfl (fun (c1 : q = (0 : Int32)) => ?_) (fun (c1 : ¬ q = (0 : Int32)) => ?_)
  · refine g_aloadN W0 d7_14 (pc' := 15) rfl rfl rfl ?_
    refine g_iloadN W0 d7_15 (pc' := 16) rfl rfl ?_
    refine g_dconst0 W0 d7_16 (pc' := 17) rfl ?_
    refine g_dloadN W0 d7_17 (pc' := 18) rfl rfl ?_
    refine g_callV W0 (argsL := [.int kk, .double 0, .double (FP.i2d e1)]) (st := []) (wd_36 hw) (wd_37 hw) (wd_39 hw) (wd_38 hw) (wd_3 hw) (wd_40 hw) (by decide) (a := sh) H0 (i := 0) rfl (c_apk11z l Z a0 hw n0 sh loA hiA owA otA liA raA olA ohA zlA zhA ru fo fz kk k0 e1 ik n1 hk h1 dn bn li ow ot hli how hot _ _ H0) pd_9 rfl rfl rfl d7_18 (pc' := 21) rfl (by decide) (Wn := 0) (Nat.le_of_eq rfl) (by decide) (kc' := 0) (ks' := 0) rfl rfl (by decide) (by decide) ?_
    intro T2 v2 W2 hp2
    obtain ⟨rfl, H2⟩ := hp2
    show Goes _ _ _ _ (State.setTop _ (mkF _ _ _ []))
    exact g_return W2 d7_21 ⟨_, _, rfl, Or.inr ⟨c1, rfl, rfl⟩, H2⟩ (by decide) (by decide)
  · refine g_aloadN W0 d7_4 (pc' := 5) rfl rfl rfl ?_
    refine g_iloadN W0 d7_5 (pc' := 6) rfl rfl ?_
    refine g_dloadN W0 d7_6 (pc' := 7) rfl rfl ?_
    refine g_dconst0 W0 d7_7 (pc' := 8) rfl ?_
    refine g_callV W0 (argsL := [.int kk, .double (FP.i2d e1), .double 0]) (st := []) (wd_36 hw) (wd_37 hw) (wd_39 hw) (wd_38 hw) (wd_3 hw) (wd_40 hw) (by decide) (a := sh) H0 (i := 0) rfl (c_apk11o l Z a0 hw n0 sh loA hiA owA otA liA raA olA ohA zlA zhA ru fo fz kk k0 e1 ik n1 hk h1 dn bn li ow ot hli how hot _ _ H0) pd_9 rfl rfl rfl d7_8 (pc' := 11) rfl (by decide) (Wn := 0) (Nat.le_of_eq rfl) (by decide) (kc' := 0) (ks' := 0) rfl rfl (by decide) (by decide) ?_
    intro T3 v3 W3 hp3
    obtain ⟨rfl, H3⟩ := hp3
    show Goes _ _ _ _ (State.setTop _ (mkF _ _ _ []))
    refine g_goto W3 d7_11 (pc' := 21) (by decide) ?_
    exact g_return W3 d7_21 ⟨_, _, rfl, Or.inl ⟨c1, rfl, rfl⟩, H3⟩ (by decide) (by decide)

theorem chG2 {t : Int32} {r0 r1 r2 : UInt64} (h : ChG t r0 r1 r2) (a : gtD r1 r0) (b : gtD r2 r1) : t = 2 := by
  rcases h with ⟨-, q, -⟩ | ⟨-, -, q⟩ | ⟨q, -⟩
  · exact absurd a q
  · exact absurd b q
  · exact q
theorem chG1 {t : Int32} {r0 r1 r2 : UInt64} (h : ChG t r0 r1 r2) (a : gtD r1 r0) (b : ¬ gtD r2 r1) : t = 1 := by
  rcases h with ⟨-, q, -⟩ | ⟨q, -⟩ | ⟨-, ⟨-, q⟩ | ⟨q, -⟩⟩
  · exact absurd a q
  · exact q
  · exact absurd q b
  · exact absurd a q
theorem chG0 {t : Int32} {r0 r1 r2 : UInt64} (h : ChG t r0 r1 r2) (a : ¬ gtD r1 r0) (b : ¬ gtD r2 r0) : t = 0 := by
  rcases h with ⟨q, -⟩ | ⟨-, q, -⟩ | ⟨-, ⟨q, -⟩ | ⟨-, q⟩⟩
  · exact q
  · exact absurd q a
  · exact absurd q a
  · exact absurd q b
theorem chL2 {t : Int32} {r0 r1 r2 : UInt64} (h : ChL t r0 r1 r2) (a : ltD r1 r0) (b : ltD r2 r1) : t = 2 := by
  rcases h with ⟨-, q, -⟩ | ⟨-, -, q⟩ | ⟨q, -⟩
  · exact absurd a q
  · exact absurd b q
  · exact q
theorem chL1 {t : Int32} {r0 r1 r2 : UInt64} (h : ChL t r0 r1 r2) (a : ltD r1 r0) (b : ¬ ltD r2 r1) : t = 1 := by
  rcases h with ⟨-, q, -⟩ | ⟨q, -⟩ | ⟨-, ⟨-, q⟩ | ⟨q, -⟩⟩
  · exact absurd a q
  · exact q
  · exact absurd q b
  · exact absurd a q
theorem chL0 {t : Int32} {r0 r1 r2 : UInt64} (h : ChL t r0 r1 r2) (a : ¬ ltD r1 r0) (b : ¬ ltD r2 r0) : t = 0 := by
  rcases h with ⟨q, -⟩ | ⟨-, q, -⟩ | ⟨-, ⟨q, -⟩ | ⟨-, q⟩⟩
  · exact q
  · exact absurd q a
  · exact absurd q a
  · exact absurd q b
theorem g_gt {p t p' t' : Nat} {r r' : UInt64} (h : Sh p t r) (h' : Sh p' t' r') (hlt : p * t' < p' * t) (ht0 : 1 ≤ t) (ht : t ≤ 1024) (ht0' : 1 ≤ t') (ht' : t' ≤ 1024) : gtD r' r ∧ ¬ gtD r r' ∧ ltD r r' ∧ ¬ ltD r' r := by
  obtain ⟨a, b⟩ := sh_lt h h' hlt ht0 ht ht0' ht'
  unfold gtD ltD
  rw [a, b]
  exact ⟨by decide, by decide, by decide, by decide⟩
theorem frac {p p' q q' : Nat} (h : p * q' < p' * q) : p * (p' + q') < p' * (p + q) := by
  rw [Nat.mul_add, Nat.mul_add, Nat.mul_comm p' p]; omega
theorem fp {p p' q q' : Nat} (h1 : p < p') (h2 : q' ≤ q) (h3 : 1 ≤ q) : p * q' < p' * q := Nat.lt_of_le_of_lt (Nat.mul_le_mul_left _ h2) (Nat.mul_lt_mul_of_pos_right h1 h3)
theorem fq {p p' q q' : Nat} (h1 : p ≤ p') (h2 : q' < q) (h3 : 1 ≤ p') : p * q' < p' * q := Nat.lt_of_le_of_lt (Nat.mul_le_mul_right _ h1) (Nat.mul_lt_mul_of_pos_left h2 h3)
def HSd (t d1 d2 k : Int32) : Prop := (¬ t = 0 ∧ d1 = k) ∨ (t = 2 ∧ d2 = k)
def FinOk (g q1 q2 k1 k2 d1 d2 t : Int32) : Prop := (q1 = g ∧ q2 = g ∧ t = 2 ∧ d1 = k1 ∧ d2 = k2) ∨ (q1 = g ∧ ¬ q2 = g ∧ t = 1 ∧ d1 = k1 ∧ d2 = k2) ∨ (¬ q1 = g ∧ q2 = g ∧ t = 1 ∧ d1 = k2 ∧ d2 = k1) ∨ (¬ q1 = g ∧ ¬ q2 = g ∧ t = 0 ∧ d1 = k1 ∧ d2 = k2)
theorem FinOk.t3 {g q1 q2 k1 k2 d1 d2 t : Int32} (h : FinOk g q1 q2 k1 k2 d1 d2 t) : t = 0 ∨ t = 1 ∨ t = 2 := by
  rcases h with ⟨-, -, h, -⟩ | ⟨-, -, h, -⟩ | ⟨-, -, h, -⟩ | ⟨-, -, h, -⟩
  · exact Or.inr (Or.inr h)
  · exact Or.inr (Or.inl h)
  · exact Or.inr (Or.inl h)
  · exact Or.inl h
theorem FinOk.mem {g q1 q2 k1 k2 d1 d2 t : Int32} (h : FinOk g q1 q2 k1 k2 d1 d2 t) (ne : ¬ k1 = k2) : (q1 = g → HSd t d1 d2 k1) ∧ (¬ q1 = g → ¬ HSd t d1 d2 k1) ∧ (q2 = g → HSd t d1 d2 k2) ∧ (¬ q2 = g → ¬ HSd t d1 d2 k2) ∧ ∀ k, ¬ k1 = k → ¬ k2 = k → ¬ HSd t d1 d2 k := by
  have n20 : ¬ (2 : Int32) = 0 := by decide
  have n10 : ¬ (1 : Int32) = 0 := by decide
  have n12 : ¬ (1 : Int32) = 2 := by decide
  have n02 : ¬ (0 : Int32) = 2 := by decide
  have ne' : ¬ k2 = k1 := fun q => ne q.symm
  unfold HSd
  rcases h with ⟨h1, h2, rfl, rfl, rfl⟩ | ⟨h1, h2, rfl, rfl, rfl⟩ | ⟨h1, h2, rfl, rfl, rfl⟩ | ⟨h1, h2, rfl, rfl, rfl⟩ <;> refine ⟨?_, ?_, ?_, ?_, fun k ka kb => ?_⟩ <;> simp [*]
theorem co_in (x : Int32) : (1 : Int32) + (x &&& (15 : Int32)) ∈ coL := by
  have h := Kit.i32_mask x 15 (k := 4) (by decide) (by decide)
  have q : (x &&& (15 : Int32)).toInt = 0 ∨ (x &&& (15 : Int32)).toInt = 1 ∨ (x &&& (15 : Int32)).toInt = 2 ∨ (x &&& (15 : Int32)).toInt = 3 ∨ (x &&& (15 : Int32)).toInt = 4 ∨ (x &&& (15 : Int32)).toInt = 5 ∨ (x &&& (15 : Int32)).toInt = 6 ∨ (x &&& (15 : Int32)).toInt = 7 ∨ (x &&& (15 : Int32)).toInt = 8 ∨ (x &&& (15 : Int32)).toInt = 9 ∨ (x &&& (15 : Int32)).toInt = 10 ∨ (x &&& (15 : Int32)).toInt = 11 ∨ (x &&& (15 : Int32)).toInt = 12 ∨ (x &&& (15 : Int32)).toInt = 13 ∨ (x &&& (15 : Int32)).toInt = 14 ∨ (x &&& (15 : Int32)).toInt = 15 := by omega
  rcases q with q | q | q | q | q | q | q | q | q | q | q | q | q | q | q | q <;> (rw [show x &&& (15 : Int32) = _ from i32_lit q (y := _) (by first | exact (show (0 : Int32).toInt = 0 by decide) | exact (show (1 : Int32).toInt = 1 by decide) | exact (show (2 : Int32).toInt = 2 by decide) | exact (show (3 : Int32).toInt = 3 by decide) | exact (show (4 : Int32).toInt = 4 by decide) | exact (show (5 : Int32).toInt = 5 by decide) | exact (show (6 : Int32).toInt = 6 by decide) | exact (show (7 : Int32).toInt = 7 by decide) | exact (show (8 : Int32).toInt = 8 by decide) | exact (show (9 : Int32).toInt = 9 by decide) | exact (show (10 : Int32).toInt = 10 by decide) | exact (show (11 : Int32).toInt = 11 by decide) | exact (show (12 : Int32).toInt = 12 by decide) | exact (show (13 : Int32).toInt = 13 by decide) | exact (show (14 : Int32).toInt = 14 by decide) | exact (show (15 : Int32).toInt = 15 by decide))]; decide)
theorem co_dy {d : Int32} (h : d ∈ coL) : ∃ n : Nat, Jvm.OwnKit.Dy (n : Int) 0 (FP.i2d d) ∧ 1 ≤ n ∧ n ≤ 16 := by
  have b : ∀ d ∈ coL, 1 ≤ d.toInt ∧ d.toInt ≤ 16 := by decide
  obtain ⟨b1, b2⟩ := b d h
  refine ⟨d.toInt.toNat, ?_, by omega, by omega⟩
  rw [show ((d.toInt.toNat : Nat) : Int) = d.toInt by omega]
  exact dy_i2d d
theorem m15 (x : Int32) : 0 ≤ (x &&& (15 : Int32)).toInt ∧ (x &&& (15 : Int32)).toInt ≤ 15 := by
  have h := Kit.i32_mask x 15 (k := 4) (by decide) (by decide)
  omega
theorem dy_nat {x : Int32} (h : 0 ≤ x.toInt) : Jvm.OwnKit.Dy ((x.toInt.toNat : Nat) : Int) 0 (FP.i2d x) := by
  rw [show ((x.toInt.toNat : Nat) : Int) = x.toInt by omega]; exact dy_i2d x
theorem hi_int {x y : Int32} (hx : 0 ≤ x.toInt ∧ x.toInt ≤ 15) (hy : 0 ≤ y.toInt ∧ y.toInt ≤ 15) : ((x + (1 : Int32)) + y).toInt = x.toInt + 1 + y.toInt := by
  have e1 : (1 : Int32).toInt = 1 := by decide
  have a : (x + (1 : Int32)).toInt = x.toInt + 1 := by rw [Int32.toInt_add, e1]; exact Kit.bmod32 (by omega) (by omega)
  rw [Int32.toInt_add, a]; exact Kit.bmod32 (by omega) (by omega)
theorem tab {x0 x1 x2 y0 y1 y2 : Int32} (h0 : 0 ≤ x0.toInt ∧ x0.toInt ≤ 15) (h1 : 0 ≤ x1.toInt ∧ x1.toInt ≤ 15) (h2 : 0 ≤ x2.toInt ∧ x2.toInt ≤ 15) (g0 : 0 ≤ y0.toInt ∧ y0.toInt ≤ 15) (g1 : 0 ≤ y1.toInt ∧ y1.toInt ≤ 15) (g2 : 0 ≤ y2.toInt ∧ y2.toInt ≤ 15) {i : Nat} (hi : i < 3) :
    ∃ (L H : UInt64) (l h : Nat), ([.double (FP.i2d x0), .double (FP.i2d x1), .double (FP.i2d x2)] : List Value)[i]? = some (.double L) ∧ Jvm.OwnKit.Dy (l : Int) 0 L ∧ ([.double (FP.i2d ((x0 + (1 : Int32)) + y0)), .double (FP.i2d ((x1 + (1 : Int32)) + y1)), .double (FP.i2d ((x2 + (1 : Int32)) + y2))] : List Value)[i]? = some (.double H) ∧ Jvm.OwnKit.Dy (h : Int) 0 H ∧ l < h ∧ h ≤ 31 := by
  have e0 := hi_int h0 g0
  have e1 := hi_int h1 g1
  have e2 := hi_int h2 g2
  match i, hi with
  | 0, _ => exact ⟨_, _, _, _, rfl, dy_nat h0.1, rfl, dy_nat (by omega), by omega, by omega⟩
  | 1, _ => exact ⟨_, _, _, _, rfl, dy_nat h1.1, rfl, dy_nat (by omega), by omega, by omega⟩
  | 2, _ => exact ⟨_, _, _, _, rfl, dy_nat h2.1, rfl, dy_nat (by omega), by omega, by omega⟩
theorem own_u4 (z : Int32) : 0 ≤ (XT.ushr z (4 : Int32)).toInt := by
  have hb := z.toUInt32.toNat_lt
  have e : XT.ushr z (4 : Int32) = (z.toUInt32 >>> 4).toInt32 := rfl
  have e3 : ((z.toUInt32 >>> 4).toInt32).toBitVec.toNat = z.toUInt32.toNat / 16 := by
    show (z.toUInt32 >>> 4).toNat = _
    rw [UInt32.toNat_shiftRight]; simp [Nat.shiftRight_eq_div_pow]
  have e2 : ((z.toUInt32 >>> 4).toInt32).toInt = ((z.toUInt32.toNat / 16 : Nat) : Int) := by
    show ((z.toUInt32 >>> 4).toInt32).toBitVec.toInt = _
    rw [BitVec.toInt_eq_toNat_cond, e3, if_pos (by omega)]
  rw [e, e2]; omega
theorem own_u5 (z : Int32) : 0 ≤ (XT.ushr z (5 : Int32)).toInt := by
  have hb := z.toUInt32.toNat_lt
  have e : XT.ushr z (5 : Int32) = (z.toUInt32 >>> 5).toInt32 := rfl
  have e3 : ((z.toUInt32 >>> 5).toInt32).toBitVec.toNat = z.toUInt32.toNat / 32 := by
    show (z.toUInt32 >>> 5).toNat = _
    rw [UInt32.toNat_shiftRight]; simp [Nat.shiftRight_eq_div_pow]
  have e2 : ((z.toUInt32 >>> 5).toInt32).toInt = ((z.toUInt32.toNat / 32 : Nat) : Int) := by
    show ((z.toUInt32 >>> 5).toInt32).toBitVec.toInt = _
    rw [BitVec.toInt_eq_toNat_cond, e3, if_pos (by omega)]
  rw [e, e2]; omega
theorem own_neg (z : Int32) : (-1 : Int32) - (XT.ushr z (4 : Int32)) < 0 := by
  have h := own_u4 z
  have h2 := (XT.ushr z (4 : Int32)).toInt_lt
  rw [Int32.lt_iff_toInt_lt, Int32.toInt_sub, show (-1 : Int32).toInt = -1 by decide, show (0 : Int32).toInt = 0 by decide, Kit.bmod32 (by omega) (by omega)]; omega
theorem own_pm {x : Int32} (hx : 0 ≤ x.toInt) : (x - x / (6 : Int32) * (6 : Int32)) = 0 ∨ (x - x / (6 : Int32) * (6 : Int32)) = 1 ∨ (x - x / (6 : Int32) * (6 : Int32)) = 2 ∨ (x - x / (6 : Int32) * (6 : Int32)) = 3 ∨ (x - x / (6 : Int32) * (6 : Int32)) = 4 ∨ (x - x / (6 : Int32) * (6 : Int32)) = 5 := by
  have h := i32_remN (y := (6 : Int32)) hx
  rw [show (6 : Int32).toInt = 6 by decide] at h
  have q : (x - x / (6 : Int32) * (6 : Int32)).toInt = 0 ∨ (x - x / (6 : Int32) * (6 : Int32)).toInt = 1 ∨ (x - x / (6 : Int32) * (6 : Int32)).toInt = 2 ∨ (x - x / (6 : Int32) * (6 : Int32)).toInt = 3 ∨ (x - x / (6 : Int32) * (6 : Int32)).toInt = 4 ∨ (x - x / (6 : Int32) * (6 : Int32)).toInt = 5 := by omega
  rcases q with q | q | q | q | q | q
  · exact Or.inl (i32_lit q (by decide))
  · exact Or.inr (Or.inl (i32_lit q (by decide)))
  · exact Or.inr (Or.inr (Or.inl (i32_lit q (by decide))))
  · exact Or.inr (Or.inr (Or.inr (Or.inl (i32_lit q (by decide)))))
  · exact Or.inr (Or.inr (Or.inr (Or.inr (Or.inl (i32_lit q (by decide))))))
  · exact Or.inr (Or.inr (Or.inr (Or.inr (Or.inr ((i32_lit q (by decide)))))))
def Perm3 (a b d : Int32) : Prop := ∃ ia ib ic : Nat, a.toInt = (ia : Int) ∧ b.toInt = (ib : Int) ∧ d.toInt = (ic : Int) ∧ ia < 3 ∧ ib < 3 ∧ ic < 3 ∧ ia ≠ ib ∧ ia ≠ ic ∧ ib ≠ ic
theorem z3i {i : Nat} (h : i < 3) : ([.int 0, .int 0, .int 0] : List Value)[i]? = some (.int 0) := by
  match i, h with
  | 0, _ => rfl
  | 1, _ => rfl
  | 2, _ => rfl
theorem z3d {i : Nat} (h : i < 3) : ([.double 0, .double 0, .double 0] : List Value)[i]? = some (.double 0) := by
  match i, h with
  | 0, _ => rfl
  | 1, _ => rfl
  | 2, _ => rfl
theorem set_o {α : Type} {l : List α} {i j : Nat} {x y : α} (h : i ≠ j) (hj : l[j]? = some y) : (l.set i x)[j]? = some y := (List.getElem?_set_ne h).trans hj
theorem set_s {α : Type} {l : List α} {i : Nat} {x y : α} (hj : l[i]? = some y) : (l.set i x)[i]? = some x := List.getElem?_set_self (List.getElem?_eq_some_iff.mp hj).1
theorem KD.other {q e1 : Int32} {ow ot ow2 ot2 : List Value} {i j : Nat} {x y : Value} (h : KD q ow ot i e1 ow2 ot2) (ne : i ≠ j) (h1 : ow[j]? = some x) (h2 : ot[j]? = some y) : ow2[j]? = some x ∧ ot2[j]? = some y := by
  rcases h with ⟨-, rfl, rfl⟩ | ⟨-, rfl, rfl⟩ <;> exact ⟨set_o ne h1, set_o ne h2⟩
def KL (q e1 : Int32) (ow ot : List Value) (i : Nat) : Prop := (¬ q = 0 ∧ ow[i]? = some (.double (FP.i2d e1)) ∧ ot[i]? = some (.double 0)) ∨ (q = 0 ∧ ow[i]? = some (.double 0) ∧ ot[i]? = some (.double (FP.i2d e1)))
theorem KD.self {q e1 : Int32} {ow ot ow2 ot2 : List Value} {i : Nat} {x y : Value} (h : KD q ow ot i e1 ow2 ot2) (h1 : ow[i]? = some x) (h2 : ot[i]? = some y) : KL q e1 ow2 ot2 i := by
  rcases h with ⟨a, rfl, rfl⟩ | ⟨a, rfl, rfl⟩
  · exact Or.inl ⟨a, set_s h1, set_s h2⟩
  · exact Or.inr ⟨a, set_s h1, set_s h2⟩
theorem KL.keep {q q' e1 e2 : Int32} {ow ot ow2 ot2 : List Value} {i j : Nat} (h : KL q e1 ow ot i) (d : KD q' ow ot j e2 ow2 ot2) (ne : j ≠ i) : KL q e1 ow2 ot2 i := by
  rcases h with ⟨a, b, z⟩ | ⟨a, b, z⟩
  · exact Or.inl ⟨a, (d.other ne b z).1, (d.other ne b z).2⟩
  · exact Or.inr ⟨a, (d.other ne b z).1, (d.other ne b z).2⟩
theorem ne_idx {a b : Int32} {i j : Nat} (ha : a.toInt = (i : Int)) (hb : b.toInt = (j : Int)) (h : i ≠ j) : ¬ a = b := fun q => by subst q; omega

theorem law_con (l : Launch) (Z : State) (a0 : Array Value) (hw : ∀ d ∈ tables_1, d.before a0 Z = true) (n0 : Nat) (p0 p1 p2 p3 p4 p5 : Int32) (h0 : Heap) (H00 : Hp Z n0 h0 []) :
    Con l Z n0 x tables_1 code maxLocals ret room_1 #[.int p0, .int p1, .int p2, .int p3, .int p4, .int p5] h0 (fun v _ => v = some (.int 1)) := by
  refine con_of (plainFor_of_name pn_ShareValueAtExtremePinLaw) ?_
  intro p e s m below meth c T0 W0 e0
  subst e0
  have H0 := H00
  refine g_cast (ef_0 m p0 p1 p2 p3 p4 p5) ?_
  refine g_iloadN W0 at_0 (pc' := 1) rfl rfl ?_
  refine g_iconst W0 at_1 (pc' := 2) rfl (v := (1 : Int32)) (by decide) ?_
  refine g_iand W0 at_2 (pc' := 3) rfl rfl ?_
  have B0 : ∀ (TJB0 : State) (gr : Int32) (hgr : gr = 0 ∨ gr = 1), Wk Z x code maxLocals ret n0 p l e room_1 s m #[.int p0, .int p1, .int p2, .int p3, .int p4, .int p5] below meth c TJB0 0 0 → Hp Z n0 TJB0.heap [] → Goes p e below (En s n0 (Room.cells room_1) (Room.slots room_1) (fun v _ => v = some (.int 1))) (TJB0.setTop (mkF m 11 #[.val (.int p0), .val (.int p1), .val (.int p2), .val (.int p3), .val (.int p4), .val (.int p5), .unset, .unset, .unset, .unset, .unset, .unset, .unset, .unset, .unset, .unset, .unset, .unset, .unset, .unset, .unset, .unset, .unset, .unset, .unset, .unset, .unset, .unset, .unset, .unset, .unset, .unset, .unset, .unset, .unset, .unset, .unset, .unset, .unset, .unset] [.int gr])) := by
    intro TJB0 gr hgr WJB0 HJB0
    refine g_istore WJB0 at_11 (pc' := 13) rfl (ls' := #[.val (.int p0), .val (.int p1), .val (.int p2), .val (.int p3), .val (.int p4), .val (.int p5), .val (.int gr), .unset, .unset, .unset, .unset, .unset, .unset, .unset, .unset, .unset, .unset, .unset, .unset, .unset, .unset, .unset, .unset, .unset, .unset, .unset, .unset, .unset, .unset, .unset, .unset, .unset, .unset, .unset, .unset, .unset, .unset, .unset, .unset, .unset]) rfl ?_
    refine g_iloadN WJB0 at_13 (pc' := 14) rfl rfl ?_
    refine g_iconst WJB0 at_14 (pc' := 15) rfl (v := (2 : Int32)) (by decide) ?_
    refine g_iand WJB0 at_15 (pc' := 16) rfl rfl ?_
    have B1 : ∀ (TJB1 : State) (ru : Int32) (hru : ru = 0 ∨ ru = 1), Wk Z x code maxLocals ret n0 p l e room_1 s m #[.int p0, .int p1, .int p2, .int p3, .int p4, .int p5] below meth c TJB1 0 0 → Hp Z n0 TJB1.heap [] → Goes p e below (En s n0 (Room.cells room_1) (Room.slots room_1) (fun v _ => v = some (.int 1))) (TJB1.setTop (mkF m 24 #[.val (.int p0), .val (.int p1), .val (.int p2), .val (.int p3), .val (.int p4), .val (.int p5), .val (.int gr), .unset, .unset, .unset, .unset, .unset, .unset, .unset, .unset, .unset, .unset, .unset, .unset, .unset, .unset, .unset, .unset, .unset, .unset, .unset, .unset, .unset, .unset, .unset, .unset, .unset, .unset, .unset, .unset, .unset, .unset, .unset, .unset, .unset] [.int ru])) := by
      intro TJB1 ru hru WJB1 HJB1
      refine g_istore WJB1 at_24 (pc' := 26) rfl (ls' := #[.val (.int p0), .val (.int p1), .val (.int p2), .val (.int p3), .val (.int p4), .val (.int p5), .val (.int gr), .val (.int ru), .unset, .unset, .unset, .unset, .unset, .unset, .unset, .unset, .unset, .unset, .unset, .unset, .unset, .unset, .unset, .unset, .unset, .unset, .unset, .unset, .unset, .unset, .unset, .unset, .unset, .unset, .unset, .unset, .unset, .unset, .unset, .unset]) rfl ?_
      refine g_iloadN WJB1 at_26 (pc' := 27) rfl rfl ?_
      refine g_iconst WJB1 at_27 (pc' := 28) rfl (v := (4 : Int32)) (by decide) ?_
      refine g_iand WJB1 at_28 (pc' := 29) rfl rfl ?_
      have B2 : ∀ (TJB2 : State) (ao : Int32) (hao : ao = 0 ∨ ao = 1), Wk Z x code maxLocals ret n0 p l e room_1 s m #[.int p0, .int p1, .int p2, .int p3, .int p4, .int p5] below meth c TJB2 0 0 → Hp Z n0 TJB2.heap [] → Goes p e below (En s n0 (Room.cells room_1) (Room.slots room_1) (fun v _ => v = some (.int 1))) (TJB2.setTop (mkF m 37 #[.val (.int p0), .val (.int p1), .val (.int p2), .val (.int p3), .val (.int p4), .val (.int p5), .val (.int gr), .val (.int ru), .unset, .unset, .unset, .unset, .unset, .unset, .unset, .unset, .unset, .unset, .unset, .unset, .unset, .unset, .unset, .unset, .unset, .unset, .unset, .unset, .unset, .unset, .unset, .unset, .unset, .unset, .unset, .unset, .unset, .unset, .unset, .unset] [.int ao])) := by
        intro TJB2 ao hao WJB2 HJB2
        refine g_istore WJB2 at_37 (pc' := 39) rfl (ls' := #[.val (.int p0), .val (.int p1), .val (.int p2), .val (.int p3), .val (.int p4), .val (.int p5), .val (.int gr), .val (.int ru), .val (.int ao), .unset, .unset, .unset, .unset, .unset, .unset, .unset, .unset, .unset, .unset, .unset, .unset, .unset, .unset, .unset, .unset, .unset, .unset, .unset, .unset, .unset, .unset, .unset, .unset, .unset, .unset, .unset, .unset, .unset, .unset, .unset]) rfl ?_
        refine g_iloadN WJB2 at_39 (pc' := 40) rfl rfl ?_
        refine g_bipush WJB2 at_40 (pc' := 42) rfl (v := (8 : Int32)) (by decide) ?_
        refine g_iand WJB2 at_42 (pc' := 43) rfl rfl ?_
        have B3 : ∀ (TJB3 : State) (bo : Int32) (hbo : bo = 0 ∨ bo = 1), Wk Z x code maxLocals ret n0 p l e room_1 s m #[.int p0, .int p1, .int p2, .int p3, .int p4, .int p5] below meth c TJB3 0 0 → Hp Z n0 TJB3.heap [] → Goes p e below (En s n0 (Room.cells room_1) (Room.slots room_1) (fun v _ => v = some (.int 1))) (TJB3.setTop (mkF m 51 #[.val (.int p0), .val (.int p1), .val (.int p2), .val (.int p3), .val (.int p4), .val (.int p5), .val (.int gr), .val (.int ru), .val (.int ao), .unset, .unset, .unset, .unset, .unset, .unset, .unset, .unset, .unset, .unset, .unset, .unset, .unset, .unset, .unset, .unset, .unset, .unset, .unset, .unset, .unset, .unset, .unset, .unset, .unset, .unset, .unset, .unset, .unset, .unset, .unset] [.int bo])) := by
          intro TJB3 bo hbo WJB3 HJB3
          refine g_istore WJB3 at_51 (pc' := 53) rfl (ls' := #[.val (.int p0), .val (.int p1), .val (.int p2), .val (.int p3), .val (.int p4), .val (.int p5), .val (.int gr), .val (.int ru), .val (.int ao), .val (.int bo), .unset, .unset, .unset, .unset, .unset, .unset, .unset, .unset, .unset, .unset, .unset, .unset, .unset, .unset, .unset, .unset, .unset, .unset, .unset, .unset, .unset, .unset, .unset, .unset, .unset, .unset, .unset, .unset, .unset, .unset]) rfl ?_
          refine g_iloadN WJB3 at_53 (pc' := 54) rfl rfl ?_
          refine g_bipush WJB3 at_54 (pc' := 56) rfl (v := (16 : Int32)) (by decide) ?_
          refine g_iand WJB3 at_56 (pc' := 57) rfl rfl ?_
          have B4 : ∀ (TJB4 : State) (bf : Int32) (hbf : bf = 0 ∨ bf = 1), Wk Z x code maxLocals ret n0 p l e room_1 s m #[.int p0, .int p1, .int p2, .int p3, .int p4, .int p5] below meth c TJB4 0 0 → Hp Z n0 TJB4.heap [] → Goes p e below (En s n0 (Room.cells room_1) (Room.slots room_1) (fun v _ => v = some (.int 1))) (TJB4.setTop (mkF m 65 #[.val (.int p0), .val (.int p1), .val (.int p2), .val (.int p3), .val (.int p4), .val (.int p5), .val (.int gr), .val (.int ru), .val (.int ao), .val (.int bo), .unset, .unset, .unset, .unset, .unset, .unset, .unset, .unset, .unset, .unset, .unset, .unset, .unset, .unset, .unset, .unset, .unset, .unset, .unset, .unset, .unset, .unset, .unset, .unset, .unset, .unset, .unset, .unset, .unset, .unset] [.int bf])) := by
            intro TJB4 bf hbf WJB4 HJB4
            refine g_istore WJB4 at_65 (pc' := 67) rfl (ls' := #[.val (.int p0), .val (.int p1), .val (.int p2), .val (.int p3), .val (.int p4), .val (.int p5), .val (.int gr), .val (.int ru), .val (.int ao), .val (.int bo), .val (.int bf), .unset, .unset, .unset, .unset, .unset, .unset, .unset, .unset, .unset, .unset, .unset, .unset, .unset, .unset, .unset, .unset, .unset, .unset, .unset, .unset, .unset, .unset, .unset, .unset, .unset, .unset, .unset, .unset, .unset]) rfl ?_
            refine g_iloadN WJB4 at_67 (pc' := 68) rfl rfl ?_
            refine g_iconst WJB4 at_68 (pc' := 69) rfl (v := (5 : Int32)) (by decide) ?_
            refine g_iushr WJB4 at_69 (pc' := 70) rfl rfl ?_
            refine g_bipush WJB4 at_70 (pc' := 72) rfl (v := (6 : Int32)) (by decide) ?_
            refine g_irem WJB4 at_72 (pc' := 73) rfl (by decide) rfl ?_
            refine g_istore WJB4 at_73 (pc' := 75) rfl (ls' := #[.val (.int p0), .val (.int p1), .val (.int p2), .val (.int p3), .val (.int p4), .val (.int p5), .val (.int gr), .val (.int ru), .val (.int ao), .val (.int bo), .val (.int bf), .val (.int ((XT.ushr p0 (5 : Int32)) - (XT.ushr p0 (5 : Int32)) / (6 : Int32) * (6 : Int32))), .unset, .unset, .unset, .unset, .unset, .unset, .unset, .unset, .unset, .unset, .unset, .unset, .unset, .unset, .unset, .unset, .unset, .unset, .unset, .unset, .unset, .unset, .unset, .unset, .unset, .unset, .unset, .unset]) rfl ?_
            have hpm := own_pm (own_u5 p0)
            generalize ((XT.ushr p0 (5 : Int32)) - (XT.ushr p0 (5 : Int32)) / (6 : Int32) * (6 : Int32)) = pm at hpm ⊢
            have PJ : ∀ (TJPJ : State) (a b d : Int32) (hP : Perm3 a b d), Wk Z x code maxLocals ret n0 p l e room_1 s m #[.int p0, .int p1, .int p2, .int p3, .int p4, .int p5] below meth c TJPJ 0 0 → Hp Z n0 TJPJ.heap [] → Goes p e below (En s n0 (Room.cells room_1) (Room.slots room_1) (fun v _ => v = some (.int 1))) (TJPJ.setTop (mkF m 103 #[.val (.int p0), .val (.int p1), .val (.int p2), .val (.int p3), .val (.int p4), .val (.int p5), .val (.int gr), .val (.int ru), .val (.int ao), .val (.int bo), .val (.int bf), .val (.int pm), .val (.int a), .val (.int b), .val (.int d), .unset, .unset, .unset, .unset, .unset, .unset, .unset, .unset, .unset, .unset, .unset, .unset, .unset, .unset, .unset, .unset, .unset, .unset, .unset, .unset, .unset, .unset, .unset, .unset, .unset] [])) := by
              intro TJPJ a b d hP WJPJ HJPJ
              refine g_iconst WJPJ at_103 (pc' := 104) rfl (v := (3 : Int32)) (by decide) ?_
              refine g_newarr (aty := .double) WJPJ (wd_0 hw) HJPJ (by decide) (vs := [.double 0, .double 0, .double 0]) rfl (cap := 3) (Nat.le_of_eq rfl) (by decide) at_104 (pc' := 106) rfl (kc' := 1) (ks' := 3) rfl rfl (by decide) (by decide) ?_
              intro T1 a1 W1 H1
              replace H1 : Hp Z n0 T1.heap [(a1, ArC Z .double [.double 0, .double 0, .double 0])] := H1
              refine g_astore W1 at_106 (pc' := 108) rfl rfl (ls' := #[.val (.int p0), .val (.int p1), .val (.int p2), .val (.int p3), .val (.int p4), .val (.int p5), .val (.int gr), .val (.int ru), .val (.int ao), .val (.int bo), .val (.int bf), .val (.int pm), .val (.int a), .val (.int b), .val (.int d), .val (.ref a1), .unset, .unset, .unset, .unset, .unset, .unset, .unset, .unset, .unset, .unset, .unset, .unset, .unset, .unset, .unset, .unset, .unset, .unset, .unset, .unset, .unset, .unset, .unset, .unset]) rfl ?_
              refine g_iconst W1 at_108 (pc' := 109) rfl (v := (3 : Int32)) (by decide) ?_
              refine g_newarr (aty := .double) W1 (wd_0 hw) H1 (by decide) (vs := [.double 0, .double 0, .double 0]) rfl (cap := 3) (Nat.le_of_eq rfl) (by decide) at_109 (pc' := 111) rfl (kc' := 2) (ks' := 6) rfl rfl (by decide) (by decide) ?_
              intro T2 a2 W2 H2
              replace H2 : Hp Z n0 T2.heap [(a2, ArC Z .double [.double 0, .double 0, .double 0]), (a1, ArC Z .double [.double 0, .double 0, .double 0])] := H2
              refine g_astore W2 at_111 (pc' := 113) rfl rfl (ls' := #[.val (.int p0), .val (.int p1), .val (.int p2), .val (.int p3), .val (.int p4), .val (.int p5), .val (.int gr), .val (.int ru), .val (.int ao), .val (.int bo), .val (.int bf), .val (.int pm), .val (.int a), .val (.int b), .val (.int d), .val (.ref a1), .val (.ref a2), .unset, .unset, .unset, .unset, .unset, .unset, .unset, .unset, .unset, .unset, .unset, .unset, .unset, .unset, .unset, .unset, .unset, .unset, .unset, .unset, .unset, .unset, .unset]) rfl ?_
              refine g_iloadN W2 at_113 (pc' := 114) rfl rfl ?_
              refine g_bipush W2 at_114 (pc' := 116) rfl (v := (15 : Int32)) (by decide) ?_
              refine g_iand W2 at_116 (pc' := 117) rfl rfl ?_
              refine g_istore W2 at_117 (pc' := 119) rfl (ls' := #[.val (.int p0), .val (.int p1), .val (.int p2), .val (.int p3), .val (.int p4), .val (.int p5), .val (.int gr), .val (.int ru), .val (.int ao), .val (.int bo), .val (.int bf), .val (.int pm), .val (.int a), .val (.int b), .val (.int d), .val (.ref a1), .val (.ref a2), .val (.int (p1 &&& (15 : Int32))), .unset, .unset, .unset, .unset, .unset, .unset, .unset, .unset, .unset, .unset, .unset, .unset, .unset, .unset, .unset, .unset, .unset, .unset, .unset, .unset, .unset, .unset]) rfl ?_
              refine g_iloadN W2 at_119 (pc' := 120) rfl rfl ?_
              refine g_iconst W2 at_120 (pc' := 121) rfl (v := (4 : Int32)) (by decide) ?_
              refine g_iushr W2 at_121 (pc' := 122) rfl rfl ?_
              refine g_bipush W2 at_122 (pc' := 124) rfl (v := (15 : Int32)) (by decide) ?_
              refine g_iand W2 at_124 (pc' := 125) rfl rfl ?_
              refine g_istore W2 at_125 (pc' := 127) rfl (ls' := #[.val (.int p0), .val (.int p1), .val (.int p2), .val (.int p3), .val (.int p4), .val (.int p5), .val (.int gr), .val (.int ru), .val (.int ao), .val (.int bo), .val (.int bf), .val (.int pm), .val (.int a), .val (.int b), .val (.int d), .val (.ref a1), .val (.ref a2), .val (.int (p1 &&& (15 : Int32))), .val (.int ((XT.ushr p1 (4 : Int32)) &&& (15 : Int32))), .unset, .unset, .unset, .unset, .unset, .unset, .unset, .unset, .unset, .unset, .unset, .unset, .unset, .unset, .unset, .unset, .unset, .unset, .unset, .unset, .unset]) rfl ?_
              refine g_iloadN W2 at_127 (pc' := 128) rfl rfl ?_
              refine g_bipush W2 at_128 (pc' := 130) rfl (v := (8 : Int32)) (by decide) ?_
              refine g_iushr W2 at_130 (pc' := 131) rfl rfl ?_
              refine g_bipush W2 at_131 (pc' := 133) rfl (v := (15 : Int32)) (by decide) ?_
              refine g_iand W2 at_133 (pc' := 134) rfl rfl ?_
              refine g_istore W2 at_134 (pc' := 136) rfl (ls' := #[.val (.int p0), .val (.int p1), .val (.int p2), .val (.int p3), .val (.int p4), .val (.int p5), .val (.int gr), .val (.int ru), .val (.int ao), .val (.int bo), .val (.int bf), .val (.int pm), .val (.int a), .val (.int b), .val (.int d), .val (.ref a1), .val (.ref a2), .val (.int (p1 &&& (15 : Int32))), .val (.int ((XT.ushr p1 (4 : Int32)) &&& (15 : Int32))), .val (.int ((XT.ushr p1 (8 : Int32)) &&& (15 : Int32))), .unset, .unset, .unset, .unset, .unset, .unset, .unset, .unset, .unset, .unset, .unset, .unset, .unset, .unset, .unset, .unset, .unset, .unset, .unset, .unset]) rfl ?_
              have hx0 := m15 p1
              have hx1 := m15 (XT.ushr p1 (4 : Int32))
              have hx2 := m15 (XT.ushr p1 (8 : Int32))
              generalize (p1 &&& (15 : Int32)) = x0 at hx0 ⊢
              generalize ((XT.ushr p1 (4 : Int32)) &&& (15 : Int32)) = x1 at hx1 ⊢
              generalize ((XT.ushr p1 (8 : Int32)) &&& (15 : Int32)) = x2 at hx2 ⊢
              refine g_aload W2 at_136 (pc' := 138) rfl rfl rfl ?_
              refine g_iconst W2 at_138 (pc' := 139) rfl (v := (0 : Int32)) (by decide) ?_
              refine g_iload W2 at_139 (pc' := 141) rfl rfl ?_
              refine g_i2d W2 at_141 (pc' := 142) rfl rfl ?_
              refine g_dastore W2 H2 (i := 1) rfl (jx := 0) (by decide) (by exact (by decide : 0 < 3)) at_142 (pc' := 143) rfl (L' := [(a2, ArC Z .double [.double 0, .double 0, .double 0]), (a1, ArC Z .double [.double (FP.i2d x0), .double 0, .double 0])]) rfl ?_
              intro T3 W3 H3
              refine g_aload W3 at_143 (pc' := 145) rfl rfl rfl ?_
              refine g_iconst W3 at_145 (pc' := 146) rfl (v := (1 : Int32)) (by decide) ?_
              refine g_iload W3 at_146 (pc' := 148) rfl rfl ?_
              refine g_i2d W3 at_148 (pc' := 149) rfl rfl ?_
              refine g_dastore W3 H3 (i := 1) rfl (jx := 1) (by decide) (by exact (by decide : 1 < 3)) at_149 (pc' := 150) rfl (L' := [(a2, ArC Z .double [.double 0, .double 0, .double 0]), (a1, ArC Z .double [.double (FP.i2d x0), .double (FP.i2d x1), .double 0])]) rfl ?_
              intro T4 W4 H4
              refine g_aload W4 at_150 (pc' := 152) rfl rfl rfl ?_
              refine g_iconst W4 at_152 (pc' := 153) rfl (v := (2 : Int32)) (by decide) ?_
              refine g_iload W4 at_153 (pc' := 155) rfl rfl ?_
              refine g_i2d W4 at_155 (pc' := 156) rfl rfl ?_
              refine g_dastore W4 H4 (i := 1) rfl (jx := 2) (by decide) (by exact (by decide : 2 < 3)) at_156 (pc' := 157) rfl (L' := [(a2, ArC Z .double [.double 0, .double 0, .double 0]), (a1, ArC Z .double [.double (FP.i2d x0), .double (FP.i2d x1), .double (FP.i2d x2)])]) rfl ?_
              intro T5 W5 H5
              refine g_aload W5 at_157 (pc' := 159) rfl rfl rfl ?_
              refine g_iconst W5 at_159 (pc' := 160) rfl (v := (0 : Int32)) (by decide) ?_
              refine g_iload W5 at_160 (pc' := 162) rfl rfl ?_
              refine g_iconst W5 at_162 (pc' := 163) rfl (v := (1 : Int32)) (by decide) ?_
              refine g_iadd W5 at_163 (pc' := 164) rfl rfl ?_
              refine g_iloadN W5 at_164 (pc' := 165) rfl rfl ?_
              refine g_bipush W5 at_165 (pc' := 167) rfl (v := (15 : Int32)) (by decide) ?_
              refine g_iand W5 at_167 (pc' := 168) rfl rfl ?_
              refine g_iadd W5 at_168 (pc' := 169) rfl rfl ?_
              refine g_i2d W5 at_169 (pc' := 170) rfl rfl ?_
              refine g_dastore W5 H5 (i := 0) rfl (jx := 0) (by decide) (by exact (by decide : 0 < 3)) at_170 (pc' := 171) rfl (L' := [(a2, ArC Z .double [.double (FP.i2d ((x0 + (1 : Int32)) + (p2 &&& (15 : Int32)))), .double 0, .double 0]), (a1, ArC Z .double [.double (FP.i2d x0), .double (FP.i2d x1), .double (FP.i2d x2)])]) rfl ?_
              intro T6 W6 H6
              refine g_aload W6 at_171 (pc' := 173) rfl rfl rfl ?_
              refine g_iconst W6 at_173 (pc' := 174) rfl (v := (1 : Int32)) (by decide) ?_
              refine g_iload W6 at_174 (pc' := 176) rfl rfl ?_
              refine g_iconst W6 at_176 (pc' := 177) rfl (v := (1 : Int32)) (by decide) ?_
              refine g_iadd W6 at_177 (pc' := 178) rfl rfl ?_
              refine g_iloadN W6 at_178 (pc' := 179) rfl rfl ?_
              refine g_iconst W6 at_179 (pc' := 180) rfl (v := (4 : Int32)) (by decide) ?_
              refine g_iushr W6 at_180 (pc' := 181) rfl rfl ?_
              refine g_bipush W6 at_181 (pc' := 183) rfl (v := (15 : Int32)) (by decide) ?_
              refine g_iand W6 at_183 (pc' := 184) rfl rfl ?_
              refine g_iadd W6 at_184 (pc' := 185) rfl rfl ?_
              refine g_i2d W6 at_185 (pc' := 186) rfl rfl ?_
              refine g_dastore W6 H6 (i := 0) rfl (jx := 1) (by decide) (by exact (by decide : 1 < 3)) at_186 (pc' := 187) rfl (L' := [(a2, ArC Z .double [.double (FP.i2d ((x0 + (1 : Int32)) + (p2 &&& (15 : Int32)))), .double (FP.i2d ((x1 + (1 : Int32)) + ((XT.ushr p2 (4 : Int32)) &&& (15 : Int32)))), .double 0]), (a1, ArC Z .double [.double (FP.i2d x0), .double (FP.i2d x1), .double (FP.i2d x2)])]) rfl ?_
              intro T7 W7 H7
              refine g_aload W7 at_187 (pc' := 189) rfl rfl rfl ?_
              refine g_iconst W7 at_189 (pc' := 190) rfl (v := (2 : Int32)) (by decide) ?_
              refine g_iload W7 at_190 (pc' := 192) rfl rfl ?_
              refine g_iconst W7 at_192 (pc' := 193) rfl (v := (1 : Int32)) (by decide) ?_
              refine g_iadd W7 at_193 (pc' := 194) rfl rfl ?_
              refine g_iloadN W7 at_194 (pc' := 195) rfl rfl ?_
              refine g_bipush W7 at_195 (pc' := 197) rfl (v := (8 : Int32)) (by decide) ?_
              refine g_iushr W7 at_197 (pc' := 198) rfl rfl ?_
              refine g_bipush W7 at_198 (pc' := 200) rfl (v := (15 : Int32)) (by decide) ?_
              refine g_iand W7 at_200 (pc' := 201) rfl rfl ?_
              refine g_iadd W7 at_201 (pc' := 202) rfl rfl ?_
              refine g_i2d W7 at_202 (pc' := 203) rfl rfl ?_
              refine g_dastore W7 H7 (i := 0) rfl (jx := 2) (by decide) (by exact (by decide : 2 < 3)) at_203 (pc' := 204) rfl (L' := [(a2, ArC Z .double [.double (FP.i2d ((x0 + (1 : Int32)) + (p2 &&& (15 : Int32)))), .double (FP.i2d ((x1 + (1 : Int32)) + ((XT.ushr p2 (4 : Int32)) &&& (15 : Int32)))), .double (FP.i2d ((x2 + (1 : Int32)) + ((XT.ushr p2 (8 : Int32)) &&& (15 : Int32))))]), (a1, ArC Z .double [.double (FP.i2d x0), .double (FP.i2d x1), .double (FP.i2d x2)])]) rfl ?_
              intro T8 W8 H8
              have hy0 := m15 p2
              have hy1 := m15 (XT.ushr p2 (4 : Int32))
              have hy2 := m15 (XT.ushr p2 (8 : Int32))
              generalize (p2 &&& (15 : Int32)) = y0 at hy0 H8
              generalize ((XT.ushr p2 (4 : Int32)) &&& (15 : Int32)) = y1 at hy1 H8
              generalize ((XT.ushr p2 (8 : Int32)) &&& (15 : Int32)) = y2 at hy2 H8
              refine g_iconst W8 at_204 (pc' := 205) rfl (v := (1 : Int32)) (by decide) ?_
              refine g_iloadN W8 at_205 (pc' := 206) rfl rfl ?_
              refine g_bipush W8 at_206 (pc' := 208) rfl (v := (15 : Int32)) (by decide) ?_
              refine g_iand W8 at_208 (pc' := 209) rfl rfl ?_
              refine g_iadd W8 at_209 (pc' := 210) rfl rfl ?_
              refine g_i2d W8 at_210 (pc' := 211) rfl rfl ?_
              have cea := co_in p3
              generalize ((1 : Int32) + (p3 &&& (15 : Int32))) = ea at cea ⊢
              obtain ⟨nea, dea, lea, uea⟩ := co_dy cea
              refine g_dstore W8 at_211 (pc' := 213) rfl (ls' := #[.val (.int p0), .val (.int p1), .val (.int p2), .val (.int p3), .val (.int p4), .val (.int p5), .val (.int gr), .val (.int ru), .val (.int ao), .val (.int bo), .val (.int bf), .val (.int pm), .val (.int a), .val (.int b), .val (.int d), .val (.ref a1), .val (.ref a2), .val (.int x0), .val (.int x1), .val (.int x2), .val (.double (FP.i2d ea)), .second, .unset, .unset, .unset, .unset, .unset, .unset, .unset, .unset, .unset, .unset, .unset, .unset, .unset, .unset, .unset, .unset, .unset, .unset]) rfl ?_
              refine g_iconst W8 at_213 (pc' := 214) rfl (v := (1 : Int32)) (by decide) ?_
              refine g_iloadN W8 at_214 (pc' := 215) rfl rfl ?_
              refine g_iconst W8 at_215 (pc' := 216) rfl (v := (4 : Int32)) (by decide) ?_
              refine g_iushr W8 at_216 (pc' := 217) rfl rfl ?_
              refine g_bipush W8 at_217 (pc' := 219) rfl (v := (15 : Int32)) (by decide) ?_
              refine g_iand W8 at_219 (pc' := 220) rfl rfl ?_
              refine g_iadd W8 at_220 (pc' := 221) rfl rfl ?_
              refine g_i2d W8 at_221 (pc' := 222) rfl rfl ?_
              have ceb := co_in (XT.ushr p3 (4 : Int32))
              generalize ((1 : Int32) + ((XT.ushr p3 (4 : Int32)) &&& (15 : Int32))) = eb at ceb ⊢
              obtain ⟨neb, deb, leb, ueb⟩ := co_dy ceb
              refine g_dstore W8 at_222 (pc' := 224) rfl (ls' := #[.val (.int p0), .val (.int p1), .val (.int p2), .val (.int p3), .val (.int p4), .val (.int p5), .val (.int gr), .val (.int ru), .val (.int ao), .val (.int bo), .val (.int bf), .val (.int pm), .val (.int a), .val (.int b), .val (.int d), .val (.ref a1), .val (.ref a2), .val (.int x0), .val (.int x1), .val (.int x2), .val (.double (FP.i2d ea)), .second, .val (.double (FP.i2d eb)), .second, .unset, .unset, .unset, .unset, .unset, .unset, .unset, .unset, .unset, .unset, .unset, .unset, .unset, .unset, .unset, .unset]) rfl ?_
              refine g_iconst W8 at_224 (pc' := 225) rfl (v := (1 : Int32)) (by decide) ?_
              refine g_iload W8 at_225 (pc' := 227) rfl rfl ?_
              refine g_bipush W8 at_227 (pc' := 229) rfl (v := (15 : Int32)) (by decide) ?_
              refine g_iand W8 at_229 (pc' := 230) rfl rfl ?_
              refine g_iadd W8 at_230 (pc' := 231) rfl rfl ?_
              refine g_i2d W8 at_231 (pc' := 232) rfl rfl ?_
              have ceh := co_in p4
              generalize ((1 : Int32) + (p4 &&& (15 : Int32))) = eh at ceh ⊢
              obtain ⟨neh, deh, leh, ueh⟩ := co_dy ceh
              refine g_dstore W8 at_232 (pc' := 234) rfl (ls' := #[.val (.int p0), .val (.int p1), .val (.int p2), .val (.int p3), .val (.int p4), .val (.int p5), .val (.int gr), .val (.int ru), .val (.int ao), .val (.int bo), .val (.int bf), .val (.int pm), .val (.int a), .val (.int b), .val (.int d), .val (.ref a1), .val (.ref a2), .val (.int x0), .val (.int x1), .val (.int x2), .val (.double (FP.i2d ea)), .second, .val (.double (FP.i2d eb)), .second, .val (.double (FP.i2d eh)), .second, .unset, .unset, .unset, .unset, .unset, .unset, .unset, .unset, .unset, .unset, .unset, .unset, .unset, .unset]) rfl ?_
              refine g_iconst W8 at_234 (pc' := 235) rfl (v := (1 : Int32)) (by decide) ?_
              refine g_iload W8 at_235 (pc' := 237) rfl rfl ?_
              refine g_bipush W8 at_237 (pc' := 239) rfl (v := (15 : Int32)) (by decide) ?_
              refine g_iand W8 at_239 (pc' := 240) rfl rfl ?_
              refine g_iadd W8 at_240 (pc' := 241) rfl rfl ?_
              refine g_i2d W8 at_241 (pc' := 242) rfl rfl ?_
              have ceg := co_in p5
              generalize ((1 : Int32) + (p5 &&& (15 : Int32))) = eg at ceg ⊢
              obtain ⟨neg, deg, leg, ueg⟩ := co_dy ceg
              refine g_dstore W8 at_242 (pc' := 244) rfl (ls' := #[.val (.int p0), .val (.int p1), .val (.int p2), .val (.int p3), .val (.int p4), .val (.int p5), .val (.int gr), .val (.int ru), .val (.int ao), .val (.int bo), .val (.int bf), .val (.int pm), .val (.int a), .val (.int b), .val (.int d), .val (.ref a1), .val (.ref a2), .val (.int x0), .val (.int x1), .val (.int x2), .val (.double (FP.i2d ea)), .second, .val (.double (FP.i2d eb)), .second, .val (.double (FP.i2d eh)), .second, .val (.double (FP.i2d eg)), .second, .unset, .unset, .unset, .unset, .unset, .unset, .unset, .unset, .unset, .unset, .unset, .unset]) rfl ?_
              refine g_iconst W8 at_244 (pc' := 245) rfl (v := (-1 : Int32)) (by decide) ?_
              refine g_iload W8 at_245 (pc' := 247) rfl rfl ?_
              refine g_iconst W8 at_247 (pc' := 248) rfl (v := (4 : Int32)) (by decide) ?_
              refine g_iushr W8 at_248 (pc' := 249) rfl rfl ?_
              refine g_isub W8 at_249 (pc' := 250) rfl rfl ?_
              have hfc := own_neg p4
              generalize ((-1 : Int32) - (XT.ushr p4 (4 : Int32))) = fc at hfc ⊢
              refine g_istore W8 at_250 (pc' := 252) rfl (ls' := #[.val (.int p0), .val (.int p1), .val (.int p2), .val (.int p3), .val (.int p4), .val (.int p5), .val (.int gr), .val (.int ru), .val (.int ao), .val (.int bo), .val (.int bf), .val (.int pm), .val (.int a), .val (.int b), .val (.int d), .val (.ref a1), .val (.ref a2), .val (.int x0), .val (.int x1), .val (.int x2), .val (.double (FP.i2d ea)), .second, .val (.double (FP.i2d eb)), .second, .val (.double (FP.i2d eh)), .second, .val (.double (FP.i2d eg)), .second, .val (.int fc), .unset, .unset, .unset, .unset, .unset, .unset, .unset, .unset, .unset, .unset, .unset]) rfl ?_
              obtain ⟨ia, ib, ic, hia, hib, hic, ba, bb, bc, nab, nac, nbc⟩ := hP
              obtain ⟨La, Ha, la, ha, gLa, dLa, gHa, dHa, lta, uba⟩ := tab hx0 hx1 hx2 hy0 hy1 hy2 ba
              obtain ⟨Lb, Hb, lb, hb, gLb, dLb, gHb, dHb, ltb, ubb⟩ := tab hx0 hx1 hx2 hy0 hy1 hy2 bb
              obtain ⟨Lc, Hc, lc, hc, gLc, dLc, gHc, dHc, ltc, ubc⟩ := tab hx0 hx1 hx2 hy0 hy1 hy2 bc
              generalize hlo : ([.double (FP.i2d x0), .double (FP.i2d x1), .double (FP.i2d x2)] : List Value) = lo at gLa gLb gLc H8
              generalize hhi : ([.double (FP.i2d ((x0 + (1 : Int32)) + y0)), .double (FP.i2d ((x1 + (1 : Int32)) + y1)), .double (FP.i2d ((x2 + (1 : Int32)) + y2))] : List Value) = hi at gHa gHb gHc H8
              have hlen : lo.length.toInt32 = 3 := by rw [← hlo]; rfl
              rcases hgr with rfl | rfl
              · refine g_new W8 (wd_1 hw) (wd_2 hw) (wd_3 hw) (la_Share hw) (by decide) H8 at_252 (pc' := 255) rfl (kc' := 3) (ks' := 22) rfl rfl (by decide) (by decide) ?_
                intro T9 a9 W9 H9
                refine g_dup W9 at_255 (pc' := 256) rfl rfl ?_
                refine g_aload W9 at_256 (pc' := 258) rfl rfl rfl ?_
                refine g_aload W9 at_258 (pc' := 260) rfl rfl rfl ?_
                refine g_iload W9 at_260 (pc' := 262) rfl rfl ?_
                refine g_iload W9 at_262 (pc' := 264) rfl rfl ?_
                have H10f := Hp.fr1 H9
                have H11f := Hp.fr2 H10f
                have H12f := Hp.fr2 H11f
                refine g_callI W9 (argsL := [.ref a1, .ref a2, .int (0 : Int32), .int ru]) (st := [.ref a9]) rfl (wd_4 hw) (wd_5 hw) (wd_3 hw) (wd_6 hw) (by decide) (a := a9) (c_sh0 l Z a0 hw n0 a9 a1 a2 ru hru lo hi hlen _ _ H12f) pd_10 rfl rfl rfl at_264 (pc' := 267) rfl (by decide) (Wn := 1) (Nat.le_of_eq rfl) (by decide) (kc' := 11) (ks' := 46) rfl rfl (by decide) (by decide) ?_
                intro T13 v13 W13 hp13
                obtain ⟨owA, otA, liA, raA, olA, ohA, zlA, zhA, rfl, H13⟩ := hp13
                show Goes _ _ _ _ (State.setTop _ (mkF _ _ _ [.ref a9]))
                refine g_astore W13 at_267 (pc' := 269) rfl rfl (ls' := #[.val (.int p0), .val (.int p1), .val (.int p2), .val (.int p3), .val (.int p4), .val (.int p5), .val (.int (0 : Int32)), .val (.int ru), .val (.int ao), .val (.int bo), .val (.int bf), .val (.int pm), .val (.int a), .val (.int b), .val (.int d), .val (.ref a1), .val (.ref a2), .val (.int x0), .val (.int x1), .val (.int x2), .val (.double (FP.i2d ea)), .second, .val (.double (FP.i2d eb)), .second, .val (.double (FP.i2d eh)), .second, .val (.double (FP.i2d eg)), .second, .val (.int fc), .val (.ref a9), .unset, .unset, .unset, .unset, .unset, .unset, .unset, .unset, .unset, .unset]) rfl ?_
                refine g_aload W13 at_269 (pc' := 271) rfl rfl rfl ?_
                refine g_iload W13 at_271 (pc' := 273) rfl rfl ?_
                refine g_dload W13 at_273 (pc' := 275) rfl rfl ?_
                refine g_dload W13 at_275 (pc' := 277) rfl rfl ?_
                refine g_callV W13 (argsL := [.int fc, .double (FP.i2d eh), .double (FP.i2d eg)]) (st := []) (wd_36 hw) (wd_37 hw) (wd_39 hw) (wd_38 hw) (wd_3 hw) (wd_40 hw) (by decide) (a := a9) H13 (i := 0) rfl (c_apf0 l Z a0 hw n0 a9 a1 a2 owA otA liA raA olA ohA zlA zhA ru fc eh eg hfc neh neg deh deg ceh ceg ueh ueg _ _ H13) pd_9 rfl rfl rfl at_277 (pc' := 280) rfl (by decide) (Wn := 0) (Nat.le_of_eq rfl) (by decide) (kc' := 11) (ks' := 46) rfl rfl (by decide) (by decide) ?_
                intro T14 v14 W14 hp14
                obtain ⟨rfl, H14⟩ := hp14
                show Goes _ _ _ _ (State.setTop _ (mkF _ _ _ []))
                refine g_iload W14 at_280 (pc' := 282) rfl rfl ?_
                have AJ : ∀ (TJAJ : State) (k1 k2 q1 q2 e1 e2 : Int32) (i1 i2 n1 n2 l1 h1 l2 h2 : Nat) (L1x H1x L2x H2x : UInt64) (ow ot li : List Value) (hi1 : k1.toInt = (i1 : Int)) (hi2 : k2.toInt = (i2 : Int)) (ne12 : i1 ≠ i2) (ce1 : e1 ∈ coL) (dn1 : Jvm.OwnKit.Dy (n1 : Int) 0 (FP.i2d e1)) (pn1 : 1 ≤ n1) (bn1 : n1 ≤ 16) (gL1 : lo[i1]? = some (.double L1x)) (dL1 : Jvm.OwnKit.Dy (l1 : Int) 0 L1x) (gH1 : hi[i1]? = some (.double H1x)) (dH1 : Jvm.OwnKit.Dy (h1 : Int) 0 H1x) (lt1 : l1 < h1) (ub1 : h1 ≤ 31) (kl1 : KL q1 e1 ow ot i1) (hq1 : q1 = 0 ∨ q1 = 1) (ce2 : e2 ∈ coL) (dn2 : Jvm.OwnKit.Dy (n2 : Int) 0 (FP.i2d e2)) (pn2 : 1 ≤ n2) (bn2 : n2 ≤ 16) (gL2 : lo[i2]? = some (.double L2x)) (dL2 : Jvm.OwnKit.Dy (l2 : Int) 0 L2x) (gH2 : hi[i2]? = some (.double H2x)) (dH2 : Jvm.OwnKit.Dy (h2 : Int) 0 H2x) (lt2 : l2 < h2) (ub2 : h2 ≤ 31) (kl2 : KL q2 e2 ow ot i2) (hq2 : q2 = 0 ∨ q2 = 1) (hab : (k1 = a ∧ k2 = b ∧ q1 = ao ∧ q2 = bo) ∨ (k1 = b ∧ k2 = a ∧ q1 = bo ∧ q2 = ao)), Wk Z x code maxLocals ret n0 p l e room_1 s m #[.int p0, .int p1, .int p2, .int p3, .int p4, .int p5] below meth c TJAJ 11 46 → Hp Z n0 TJAJ.heap [(a9, ObC Z "com/example/narrow_bounds/narrowbounds/Share" (fs_Share (.ref a1) (.ref a2) (.int (0 : Int32)) (.int ru) (.ref owA) (.ref otA) (.ref liA) (.ref raA) (.ref olA) (.ref ohA) (.ref zlA) (.ref zhA) (.double (FP.i2d eh)) (.double (FP.i2d eg)) (.int (2 : Int32)) (.int (0 : Int32)))), (a1, ArC Z .double lo), (a2, ArC Z .double hi), (raA, ArC Z .int [.int k1, .int k2, .int (0 : Int32)]), (owA, ArC Z .double ow), (otA, ArC Z .double ot), (olA, ArC Z .double [.double 0, .double 0, .double 0]), (ohA, ArC Z .double [.double 0, .double 0, .double 0]), (zlA, ArC Z .double [.double 0, .double 0, .double 0]), (zhA, ArC Z .double [.double 0, .double 0, .double 0]), (liA, ArC Z .boolean li)] → Goes p e below (En s n0 (Room.cells room_1) (Room.slots room_1) (fun v _ => v = some (.int 1))) (TJAJ.setTop (mkF m 332 #[.val (.int p0), .val (.int p1), .val (.int p2), .val (.int p3), .val (.int p4), .val (.int p5), .val (.int (0 : Int32)), .val (.int ru), .val (.int ao), .val (.int bo), .val (.int bf), .val (.int pm), .val (.int a), .val (.int b), .val (.int d), .val (.ref a1), .val (.ref a2), .val (.int x0), .val (.int x1), .val (.int x2), .val (.double (FP.i2d ea)), .second, .val (.double (FP.i2d eb)), .second, .val (.double (FP.i2d eh)), .second, .val (.double (FP.i2d eg)), .second, .val (.int fc), .val (.ref a9), .unset, .unset, .unset, .unset, .unset, .unset, .unset, .unset, .unset, .unset] [])) := by
                  intro TJAJ k1 k2 q1 q2 e1 e2 i1 i2 n1 n2 l1 h1 l2 h2 L1x H1x L2x H2x ow ot li hi1 hi2 ne12 ce1 dn1 pn1 bn1 gL1 dL1 gH1 dH1 lt1 ub1 kl1 hq1 ce2 dn2 pn2 bn2 gL2 dL2 gH2 dH2 lt2 ub2 kl2 hq2 hab WJAJ HJAJ
                  refine g_aload WJAJ at_332 (pc' := 334) rfl rfl rfl ?_
                  have VJ : ∀ (TJVJ : State) (d1 d2 t : Int32) (JF : List HRow) (hfin : FinOk (0 : Int32) q1 q2 k1 k2 d1 d2 t), Wk Z x code maxLocals ret n0 p l e room_1 s m #[.int p0, .int p1, .int p2, .int p3, .int p4, .int p5] below meth c TJVJ 11 46 → Hp Z n0 TJVJ.heap ((a9, ObC Z "com/example/narrow_bounds/narrowbounds/Share" (fs_Share (.ref a1) (.ref a2) (.int (0 : Int32)) (.int ru) (.ref owA) (.ref otA) (.ref liA) (.ref raA) (.ref olA) (.ref ohA) (.ref zlA) (.ref zhA) (.double (FP.i2d eh)) (.double (FP.i2d eg)) (.int (2 : Int32)) (.int t))) :: (a1, ArC Z .double lo) :: (a2, ArC Z .double hi) :: (raA, ArC Z .int [.int d1, .int d2, .int (0 : Int32)]) :: JF) → Goes p e below (En s n0 (Room.cells room_1) (Room.slots room_1) (fun v _ => v = some (.int 1))) (TJVJ.setTop (mkF m 338 #[.val (.int p0), .val (.int p1), .val (.int p2), .val (.int p3), .val (.int p4), .val (.int p5), .val (.int (0 : Int32)), .val (.int ru), .val (.int ao), .val (.int bo), .val (.int bf), .val (.int pm), .val (.int a), .val (.int b), .val (.int d), .val (.ref a1), .val (.ref a2), .val (.int x0), .val (.int x1), .val (.int x2), .val (.double (FP.i2d ea)), .second, .val (.double (FP.i2d eb)), .second, .val (.double (FP.i2d eh)), .second, .val (.double (FP.i2d eg)), .second, .val (.int fc), .val (.ref a9), .unset, .unset, .unset, .unset, .unset, .unset, .unset, .unset, .unset, .unset] [])) := by
                    intro TJVJ d1 d2 t JF hfin WJVJ HJVJ
                    have ne0 := ne_idx hi1 hi2 ne12
                    have hmem := hfin.mem ne0
                    refine g_aload WJVJ at_338 (pc' := 340) rfl rfl rfl ?_
                    refine g_iload WJVJ at_340 (pc' := 342) rfl rfl ?_
                    refine g_callV WJVJ (argsL := [.int a]) (st := []) (wd_130 hw) (wd_131 hw) (wd_133 hw) (wd_132 hw) (wd_3 hw) (wd_134 hw) (by decide) (a := a9) HJVJ (i := 0) rfl (c_vx l Z a0 hw n0 a9 a1 a2 owA otA liA raA olA ohA zlA zhA (0 : Int32) ru (FP.i2d eh) (FP.i2d eg) t hfin.t3 a d1 d2 ia hia lo hi La Ha gLa gHa _ _ HJVJ) pd_11 rfl rfl rfl at_342 (pc' := 345) rfl (by decide) (Wn := 0) (Nat.le_of_eq rfl) (by decide) (kc' := 11) (ks' := 46) rfl rfl (by decide) (by decide) ?_
                    intro T15 v15 W15 hp15
                    obtain ⟨va, rfl, va1, va2, H15⟩ := hp15
                    show Goes _ _ _ _ (State.setTop _ (mkF _ _ _ [.double va]))
                    refine g_dstore W15 at_345 (pc' := 347) rfl (ls' := #[.val (.int p0), .val (.int p1), .val (.int p2), .val (.int p3), .val (.int p4), .val (.int p5), .val (.int (0 : Int32)), .val (.int ru), .val (.int ao), .val (.int bo), .val (.int bf), .val (.int pm), .val (.int a), .val (.int b), .val (.int d), .val (.ref a1), .val (.ref a2), .val (.int x0), .val (.int x1), .val (.int x2), .val (.double (FP.i2d ea)), .second, .val (.double (FP.i2d eb)), .second, .val (.double (FP.i2d eh)), .second, .val (.double (FP.i2d eg)), .second, .val (.int fc), .val (.ref a9), .val (.double va), .second, .unset, .unset, .unset, .unset, .unset, .unset, .unset, .unset]) rfl ?_
                    refine g_aload W15 at_347 (pc' := 349) rfl rfl rfl ?_
                    refine g_iload W15 at_349 (pc' := 351) rfl rfl ?_
                    refine g_callV W15 (argsL := [.int b]) (st := []) (wd_130 hw) (wd_131 hw) (wd_133 hw) (wd_132 hw) (wd_3 hw) (wd_134 hw) (by decide) (a := a9) H15 (i := 0) rfl (c_vx l Z a0 hw n0 a9 a1 a2 owA otA liA raA olA ohA zlA zhA (0 : Int32) ru (FP.i2d eh) (FP.i2d eg) t hfin.t3 b d1 d2 ib hib lo hi Lb Hb gLb gHb _ _ H15) pd_11 rfl rfl rfl at_351 (pc' := 354) rfl (by decide) (Wn := 0) (Nat.le_of_eq rfl) (by decide) (kc' := 11) (ks' := 46) rfl rfl (by decide) (by decide) ?_
                    intro T16 v16 W16 hp16
                    obtain ⟨vb, rfl, vb1, vb2, H16⟩ := hp16
                    show Goes _ _ _ _ (State.setTop _ (mkF _ _ _ [.double vb]))
                    refine g_dstore W16 at_354 (pc' := 356) rfl (ls' := #[.val (.int p0), .val (.int p1), .val (.int p2), .val (.int p3), .val (.int p4), .val (.int p5), .val (.int (0 : Int32)), .val (.int ru), .val (.int ao), .val (.int bo), .val (.int bf), .val (.int pm), .val (.int a), .val (.int b), .val (.int d), .val (.ref a1), .val (.ref a2), .val (.int x0), .val (.int x1), .val (.int x2), .val (.double (FP.i2d ea)), .second, .val (.double (FP.i2d eb)), .second, .val (.double (FP.i2d eh)), .second, .val (.double (FP.i2d eg)), .second, .val (.int fc), .val (.ref a9), .val (.double va), .second, .val (.double vb), .second, .unset, .unset, .unset, .unset, .unset, .unset]) rfl ?_
                    refine g_aload W16 at_356 (pc' := 358) rfl rfl rfl ?_
                    refine g_iload W16 at_358 (pc' := 360) rfl rfl ?_
                    refine g_callV W16 (argsL := [.int d]) (st := []) (wd_130 hw) (wd_131 hw) (wd_133 hw) (wd_132 hw) (wd_3 hw) (wd_134 hw) (by decide) (a := a9) H16 (i := 0) rfl (c_vx l Z a0 hw n0 a9 a1 a2 owA otA liA raA olA ohA zlA zhA (0 : Int32) ru (FP.i2d eh) (FP.i2d eg) t hfin.t3 d d1 d2 ic hic lo hi Lc Hc gLc gHc _ _ H16) pd_11 rfl rfl rfl at_360 (pc' := 363) rfl (by decide) (Wn := 0) (Nat.le_of_eq rfl) (by decide) (kc' := 11) (ks' := 46) rfl rfl (by decide) (by decide) ?_
                    intro T17 v17 W17 hp17
                    obtain ⟨vc, rfl, vc1, vc2, H17⟩ := hp17
                    show Goes _ _ _ _ (State.setTop _ (mkF _ _ _ [.double vc]))
                    have hA : (ao = (0 : Int32) → HSd t d1 d2 a) ∧ (¬ ao = (0 : Int32) → ¬ HSd t d1 d2 a) ∧ (bo = (0 : Int32) → HSd t d1 d2 b) ∧ (¬ bo = (0 : Int32) → ¬ HSd t d1 d2 b) ∧ ¬ HSd t d1 d2 d := by
                      rcases hab with ⟨rfl, rfl, rfl, rfl⟩ | ⟨rfl, rfl, rfl, rfl⟩
                      · exact ⟨hmem.1, hmem.2.1, hmem.2.2.1, hmem.2.2.2.1, hmem.2.2.2.2 _ (ne_idx hia hic nac) (ne_idx hib hic nbc)⟩
                      · exact ⟨hmem.2.2.1, hmem.2.2.2.1, hmem.1, hmem.2.1, hmem.2.2.2.2 _ (ne_idx hib hic nbc) (ne_idx hia hic nac)⟩
                    refine g_dstore W17 at_363 (pc' := 365) rfl (ls' := #[.val (.int p0), .val (.int p1), .val (.int p2), .val (.int p3), .val (.int p4), .val (.int p5), .val (.int (0 : Int32)), .val (.int ru), .val (.int ao), .val (.int bo), .val (.int bf), .val (.int pm), .val (.int a), .val (.int b), .val (.int d), .val (.ref a1), .val (.ref a2), .val (.int x0), .val (.int x1), .val (.int x2), .val (.double (FP.i2d ea)), .second, .val (.double (FP.i2d eb)), .second, .val (.double (FP.i2d eh)), .second, .val (.double (FP.i2d eg)), .second, .val (.int fc), .val (.ref a9), .val (.double va), .second, .val (.double vb), .second, .val (.double vc), .second, .unset, .unset, .unset, .unset]) rfl ?_
                    refine g_iload W17 at_365 (pc' := 367) rfl rfl ?_
                    refine g_iload W17 at_367 (pc' := 369) rfl rfl ?_
                    refine g_icmp W17 at_369 (pcy := 380) (by decide) (pc' := 372) rfl (fun (c18 : ¬ ao = (0 : Int32)) => ?_) (fun (c18 : ¬ ¬ ao = (0 : Int32)) => ?_)
                    · obtain rfl : La = va := (va2 (hA.2.1 c18)).symm
                      refine g_aload W17 at_380 (pc' := 382) rfl rfl rfl ?_
                      refine g_iload W17 at_382 (pc' := 384) rfl rfl ?_
                      refine g_daload W17 H17 (i := 1) rfl (jx := ia) hia (v := .double La) gLa at_384 (pc' := 385) rfl ?_
                      refine g_dstore W17 at_385 (pc' := 387) rfl (ls' := #[.val (.int p0), .val (.int p1), .val (.int p2), .val (.int p3), .val (.int p4), .val (.int p5), .val (.int (0 : Int32)), .val (.int ru), .val (.int ao), .val (.int bo), .val (.int bf), .val (.int pm), .val (.int a), .val (.int b), .val (.int d), .val (.ref a1), .val (.ref a2), .val (.int x0), .val (.int x1), .val (.int x2), .val (.double (FP.i2d ea)), .second, .val (.double (FP.i2d eb)), .second, .val (.double (FP.i2d eh)), .second, .val (.double (FP.i2d eg)), .second, .val (.int fc), .val (.ref a9), .val (.double La), .second, .val (.double vb), .second, .val (.double vc), .second, .val (.double La), .second, .unset, .unset]) rfl ?_
                      refine g_iload W17 at_387 (pc' := 389) rfl rfl ?_
                      refine g_iload W17 at_389 (pc' := 391) rfl rfl ?_
                      refine g_icmp W17 at_391 (pcy := 402) (by decide) (pc' := 394) rfl (fun (c19 : ¬ bo = (0 : Int32)) => ?_) (fun (c19 : ¬ ¬ bo = (0 : Int32)) => ?_)
                      · obtain rfl : Lb = vb := (vb2 (hA.2.2.2.1 c19)).symm
                        obtain rfl : Lc = vc := (vc2 hA.2.2.2.2).symm
                        refine g_aload W17 at_402 (pc' := 404) rfl rfl rfl ?_
                        refine g_iload W17 at_404 (pc' := 406) rfl rfl ?_
                        refine g_daload W17 H17 (i := 1) rfl (jx := ib) hib (v := .double Lb) gLb at_406 (pc' := 407) rfl ?_
                        refine g_dstore W17 at_407 (pc' := 409) rfl (ls' := #[.val (.int p0), .val (.int p1), .val (.int p2), .val (.int p3), .val (.int p4), .val (.int p5), .val (.int (0 : Int32)), .val (.int ru), .val (.int ao), .val (.int bo), .val (.int bf), .val (.int pm), .val (.int a), .val (.int b), .val (.int d), .val (.ref a1), .val (.ref a2), .val (.int x0), .val (.int x1), .val (.int x2), .val (.double (FP.i2d ea)), .second, .val (.double (FP.i2d eb)), .second, .val (.double (FP.i2d eh)), .second, .val (.double (FP.i2d eg)), .second, .val (.int fc), .val (.ref a9), .val (.double La), .second, .val (.double Lb), .second, .val (.double Lc), .second, .val (.double La), .second, .val (.double Lb), .second]) rfl ?_
                        refine g_dload W17 at_409 (pc' := 411) rfl rfl ?_
                        refine g_dload W17 at_411 (pc' := 413) rfl rfl ?_
                        refine g_dcmp W17 at_413 (pc' := 414) rfl rfl ?_
                        rw [show (cmpValue (FP.dcmp La La) .l) = (0 : Int32) from dcmpV_self dLa.nn .l]
                        refine g_if W17 at_414 (pcy := 440) (by decide) (pc' := 417) rfl (fun (h : ¬ (0 : Int32) = (0 : Int32)) => absurd h (by decide)) (fun _ => ?_)
                        refine g_dload W17 at_417 (pc' := 419) rfl rfl ?_
                        refine g_dload W17 at_419 (pc' := 421) rfl rfl ?_
                        refine g_dcmp W17 at_421 (pc' := 422) rfl rfl ?_
                        rw [show (cmpValue (FP.dcmp Lb Lb) .l) = (0 : Int32) from dcmpV_self dLb.nn .l]
                        refine g_if W17 at_422 (pcy := 440) (by decide) (pc' := 425) rfl (fun (h : ¬ (0 : Int32) = (0 : Int32)) => absurd h (by decide)) (fun _ => ?_)
                        refine g_dload W17 at_425 (pc' := 427) rfl rfl ?_
                        refine g_aload W17 at_427 (pc' := 429) rfl rfl rfl ?_
                        refine g_iload W17 at_429 (pc' := 431) rfl rfl ?_
                        refine g_daload W17 H17 (i := 1) rfl (jx := ic) hic (v := .double Lc) gLc at_431 (pc' := 432) rfl ?_
                        refine g_dcmp W17 at_432 (pc' := 433) rfl rfl ?_
                        rw [show (cmpValue (FP.dcmp Lc Lc) .l) = (0 : Int32) from dcmpV_self dLc.nn .l]
                        refine g_if W17 at_433 (pcy := 440) (by decide) (pc' := 436) rfl (fun (h : ¬ (0 : Int32) = (0 : Int32)) => absurd h (by decide)) (fun _ => ?_)
                        refine g_iconst W17 at_436 (pc' := 437) rfl (v := (1 : Int32)) (by decide) ?_
                        refine g_goto W17 at_437 (pc' := 441) (by decide) ?_
                        exact g_zreturn W17 (by decide) at_441 rfl (by decide) (by decide)
                      · replace c19 := Classical.not_not.mp c19
                        obtain rfl : Hb = vb := (vb1 (hA.2.2.1 c19)).symm
                        obtain rfl : Lc = vc := (vc2 hA.2.2.2.2).symm
                        refine g_aload W17 at_394 (pc' := 396) rfl rfl rfl ?_
                        refine g_iload W17 at_396 (pc' := 398) rfl rfl ?_
                        refine g_daload W17 H17 (i := 2) rfl (jx := ib) hib (v := .double Hb) gHb at_398 (pc' := 399) rfl ?_
                        refine g_goto W17 at_399 (pc' := 407) (by decide) ?_
                        refine g_dstore W17 at_407 (pc' := 409) rfl (ls' := #[.val (.int p0), .val (.int p1), .val (.int p2), .val (.int p3), .val (.int p4), .val (.int p5), .val (.int (0 : Int32)), .val (.int ru), .val (.int ao), .val (.int bo), .val (.int bf), .val (.int pm), .val (.int a), .val (.int b), .val (.int d), .val (.ref a1), .val (.ref a2), .val (.int x0), .val (.int x1), .val (.int x2), .val (.double (FP.i2d ea)), .second, .val (.double (FP.i2d eb)), .second, .val (.double (FP.i2d eh)), .second, .val (.double (FP.i2d eg)), .second, .val (.int fc), .val (.ref a9), .val (.double La), .second, .val (.double Hb), .second, .val (.double Lc), .second, .val (.double La), .second, .val (.double Hb), .second]) rfl ?_
                        refine g_dload W17 at_409 (pc' := 411) rfl rfl ?_
                        refine g_dload W17 at_411 (pc' := 413) rfl rfl ?_
                        refine g_dcmp W17 at_413 (pc' := 414) rfl rfl ?_
                        rw [show (cmpValue (FP.dcmp La La) .l) = (0 : Int32) from dcmpV_self dLa.nn .l]
                        refine g_if W17 at_414 (pcy := 440) (by decide) (pc' := 417) rfl (fun (h : ¬ (0 : Int32) = (0 : Int32)) => absurd h (by decide)) (fun _ => ?_)
                        refine g_dload W17 at_417 (pc' := 419) rfl rfl ?_
                        refine g_dload W17 at_419 (pc' := 421) rfl rfl ?_
                        refine g_dcmp W17 at_421 (pc' := 422) rfl rfl ?_
                        rw [show (cmpValue (FP.dcmp Hb Hb) .l) = (0 : Int32) from dcmpV_self dHb.nn .l]
                        refine g_if W17 at_422 (pcy := 440) (by decide) (pc' := 425) rfl (fun (h : ¬ (0 : Int32) = (0 : Int32)) => absurd h (by decide)) (fun _ => ?_)
                        refine g_dload W17 at_425 (pc' := 427) rfl rfl ?_
                        refine g_aload W17 at_427 (pc' := 429) rfl rfl rfl ?_
                        refine g_iload W17 at_429 (pc' := 431) rfl rfl ?_
                        refine g_daload W17 H17 (i := 1) rfl (jx := ic) hic (v := .double Lc) gLc at_431 (pc' := 432) rfl ?_
                        refine g_dcmp W17 at_432 (pc' := 433) rfl rfl ?_
                        rw [show (cmpValue (FP.dcmp Lc Lc) .l) = (0 : Int32) from dcmpV_self dLc.nn .l]
                        refine g_if W17 at_433 (pcy := 440) (by decide) (pc' := 436) rfl (fun (h : ¬ (0 : Int32) = (0 : Int32)) => absurd h (by decide)) (fun _ => ?_)
                        refine g_iconst W17 at_436 (pc' := 437) rfl (v := (1 : Int32)) (by decide) ?_
                        refine g_goto W17 at_437 (pc' := 441) (by decide) ?_
                        exact g_zreturn W17 (by decide) at_441 rfl (by decide) (by decide)
                    · replace c18 := Classical.not_not.mp c18
                      obtain rfl : Ha = va := (va1 (hA.1 c18)).symm
                      refine g_aload W17 at_372 (pc' := 374) rfl rfl rfl ?_
                      refine g_iload W17 at_374 (pc' := 376) rfl rfl ?_
                      refine g_daload W17 H17 (i := 2) rfl (jx := ia) hia (v := .double Ha) gHa at_376 (pc' := 377) rfl ?_
                      refine g_goto W17 at_377 (pc' := 385) (by decide) ?_
                      refine g_dstore W17 at_385 (pc' := 387) rfl (ls' := #[.val (.int p0), .val (.int p1), .val (.int p2), .val (.int p3), .val (.int p4), .val (.int p5), .val (.int (0 : Int32)), .val (.int ru), .val (.int ao), .val (.int bo), .val (.int bf), .val (.int pm), .val (.int a), .val (.int b), .val (.int d), .val (.ref a1), .val (.ref a2), .val (.int x0), .val (.int x1), .val (.int x2), .val (.double (FP.i2d ea)), .second, .val (.double (FP.i2d eb)), .second, .val (.double (FP.i2d eh)), .second, .val (.double (FP.i2d eg)), .second, .val (.int fc), .val (.ref a9), .val (.double Ha), .second, .val (.double vb), .second, .val (.double vc), .second, .val (.double Ha), .second, .unset, .unset]) rfl ?_
                      refine g_iload W17 at_387 (pc' := 389) rfl rfl ?_
                      refine g_iload W17 at_389 (pc' := 391) rfl rfl ?_
                      refine g_icmp W17 at_391 (pcy := 402) (by decide) (pc' := 394) rfl (fun (c20 : ¬ bo = (0 : Int32)) => ?_) (fun (c20 : ¬ ¬ bo = (0 : Int32)) => ?_)
                      · obtain rfl : Lb = vb := (vb2 (hA.2.2.2.1 c20)).symm
                        obtain rfl : Lc = vc := (vc2 hA.2.2.2.2).symm
                        refine g_aload W17 at_402 (pc' := 404) rfl rfl rfl ?_
                        refine g_iload W17 at_404 (pc' := 406) rfl rfl ?_
                        refine g_daload W17 H17 (i := 1) rfl (jx := ib) hib (v := .double Lb) gLb at_406 (pc' := 407) rfl ?_
                        refine g_dstore W17 at_407 (pc' := 409) rfl (ls' := #[.val (.int p0), .val (.int p1), .val (.int p2), .val (.int p3), .val (.int p4), .val (.int p5), .val (.int (0 : Int32)), .val (.int ru), .val (.int ao), .val (.int bo), .val (.int bf), .val (.int pm), .val (.int a), .val (.int b), .val (.int d), .val (.ref a1), .val (.ref a2), .val (.int x0), .val (.int x1), .val (.int x2), .val (.double (FP.i2d ea)), .second, .val (.double (FP.i2d eb)), .second, .val (.double (FP.i2d eh)), .second, .val (.double (FP.i2d eg)), .second, .val (.int fc), .val (.ref a9), .val (.double Ha), .second, .val (.double Lb), .second, .val (.double Lc), .second, .val (.double Ha), .second, .val (.double Lb), .second]) rfl ?_
                        refine g_dload W17 at_409 (pc' := 411) rfl rfl ?_
                        refine g_dload W17 at_411 (pc' := 413) rfl rfl ?_
                        refine g_dcmp W17 at_413 (pc' := 414) rfl rfl ?_
                        rw [show (cmpValue (FP.dcmp Ha Ha) .l) = (0 : Int32) from dcmpV_self dHa.nn .l]
                        refine g_if W17 at_414 (pcy := 440) (by decide) (pc' := 417) rfl (fun (h : ¬ (0 : Int32) = (0 : Int32)) => absurd h (by decide)) (fun _ => ?_)
                        refine g_dload W17 at_417 (pc' := 419) rfl rfl ?_
                        refine g_dload W17 at_419 (pc' := 421) rfl rfl ?_
                        refine g_dcmp W17 at_421 (pc' := 422) rfl rfl ?_
                        rw [show (cmpValue (FP.dcmp Lb Lb) .l) = (0 : Int32) from dcmpV_self dLb.nn .l]
                        refine g_if W17 at_422 (pcy := 440) (by decide) (pc' := 425) rfl (fun (h : ¬ (0 : Int32) = (0 : Int32)) => absurd h (by decide)) (fun _ => ?_)
                        refine g_dload W17 at_425 (pc' := 427) rfl rfl ?_
                        refine g_aload W17 at_427 (pc' := 429) rfl rfl rfl ?_
                        refine g_iload W17 at_429 (pc' := 431) rfl rfl ?_
                        refine g_daload W17 H17 (i := 1) rfl (jx := ic) hic (v := .double Lc) gLc at_431 (pc' := 432) rfl ?_
                        refine g_dcmp W17 at_432 (pc' := 433) rfl rfl ?_
                        rw [show (cmpValue (FP.dcmp Lc Lc) .l) = (0 : Int32) from dcmpV_self dLc.nn .l]
                        refine g_if W17 at_433 (pcy := 440) (by decide) (pc' := 436) rfl (fun (h : ¬ (0 : Int32) = (0 : Int32)) => absurd h (by decide)) (fun _ => ?_)
                        refine g_iconst W17 at_436 (pc' := 437) rfl (v := (1 : Int32)) (by decide) ?_
                        refine g_goto W17 at_437 (pc' := 441) (by decide) ?_
                        exact g_zreturn W17 (by decide) at_441 rfl (by decide) (by decide)
                      · replace c20 := Classical.not_not.mp c20
                        obtain rfl : Hb = vb := (vb1 (hA.2.2.1 c20)).symm
                        obtain rfl : Lc = vc := (vc2 hA.2.2.2.2).symm
                        refine g_aload W17 at_394 (pc' := 396) rfl rfl rfl ?_
                        refine g_iload W17 at_396 (pc' := 398) rfl rfl ?_
                        refine g_daload W17 H17 (i := 2) rfl (jx := ib) hib (v := .double Hb) gHb at_398 (pc' := 399) rfl ?_
                        refine g_goto W17 at_399 (pc' := 407) (by decide) ?_
                        refine g_dstore W17 at_407 (pc' := 409) rfl (ls' := #[.val (.int p0), .val (.int p1), .val (.int p2), .val (.int p3), .val (.int p4), .val (.int p5), .val (.int (0 : Int32)), .val (.int ru), .val (.int ao), .val (.int bo), .val (.int bf), .val (.int pm), .val (.int a), .val (.int b), .val (.int d), .val (.ref a1), .val (.ref a2), .val (.int x0), .val (.int x1), .val (.int x2), .val (.double (FP.i2d ea)), .second, .val (.double (FP.i2d eb)), .second, .val (.double (FP.i2d eh)), .second, .val (.double (FP.i2d eg)), .second, .val (.int fc), .val (.ref a9), .val (.double Ha), .second, .val (.double Hb), .second, .val (.double Lc), .second, .val (.double Ha), .second, .val (.double Hb), .second]) rfl ?_
                        refine g_dload W17 at_409 (pc' := 411) rfl rfl ?_
                        refine g_dload W17 at_411 (pc' := 413) rfl rfl ?_
                        refine g_dcmp W17 at_413 (pc' := 414) rfl rfl ?_
                        rw [show (cmpValue (FP.dcmp Ha Ha) .l) = (0 : Int32) from dcmpV_self dHa.nn .l]
                        refine g_if W17 at_414 (pcy := 440) (by decide) (pc' := 417) rfl (fun (h : ¬ (0 : Int32) = (0 : Int32)) => absurd h (by decide)) (fun _ => ?_)
                        refine g_dload W17 at_417 (pc' := 419) rfl rfl ?_
                        refine g_dload W17 at_419 (pc' := 421) rfl rfl ?_
                        refine g_dcmp W17 at_421 (pc' := 422) rfl rfl ?_
                        rw [show (cmpValue (FP.dcmp Hb Hb) .l) = (0 : Int32) from dcmpV_self dHb.nn .l]
                        refine g_if W17 at_422 (pcy := 440) (by decide) (pc' := 425) rfl (fun (h : ¬ (0 : Int32) = (0 : Int32)) => absurd h (by decide)) (fun _ => ?_)
                        refine g_dload W17 at_425 (pc' := 427) rfl rfl ?_
                        refine g_aload W17 at_427 (pc' := 429) rfl rfl rfl ?_
                        refine g_iload W17 at_429 (pc' := 431) rfl rfl ?_
                        refine g_daload W17 H17 (i := 1) rfl (jx := ic) hic (v := .double Lc) gLc at_431 (pc' := 432) rfl ?_
                        refine g_dcmp W17 at_432 (pc' := 433) rfl rfl ?_
                        rw [show (cmpValue (FP.dcmp Lc Lc) .l) = (0 : Int32) from dcmpV_self dLc.nn .l]
                        refine g_if W17 at_433 (pcy := 440) (by decide) (pc' := 436) rfl (fun (h : ¬ (0 : Int32) = (0 : Int32)) => absurd h (by decide)) (fun _ => ?_)
                        refine g_iconst W17 at_436 (pc' := 437) rfl (v := (1 : Int32)) (by decide) ?_
                        refine g_goto W17 at_437 (pc' := 441) (by decide) ?_
                        exact g_zreturn W17 (by decide) at_441 rfl (by decide) (by decide)
                  have ml1 : l1 * n1 < h1 * n1 := Nat.mul_lt_mul_of_pos_right lt1 pn1
                  have mh1 : h1 * n1 ≤ 31 * 16 := Nat.mul_le_mul ub1 bn1
                  have ml2 : l2 * n2 < h2 * n2 := Nat.mul_lt_mul_of_pos_right lt2 pn2
                  have mh2 : h2 * n2 ≤ 31 * 16 := Nat.mul_le_mul ub2 bn2
                  rcases kl1 with ⟨hz1, wa, za⟩ | ⟨hz1, wa, za⟩
                  · rcases kl2 with ⟨hz2, wb, zb⟩ | ⟨hz2, wb, zb⟩
                    · refine g_callV WJAJ (argsL := []) (st := []) (wd_61 hw) (wd_62 hw) (wd_64 hw) (wd_63 hw) (wd_3 hw) (wd_65 hw) (by decide) (a := a9) HJAJ (i := 0) rfl (c_ex0oo l Z a0 hw n0 a9 a1 a2 owA otA liA raA olA ohA zlA zhA ru (FP.i2d eh) (FP.i2d eg) (0 : Int32) k1 k2 i1 i2 hi1 hi2 ow ot e1 e2 ce1 ce2 wa za wb zb lo hi L1x H1x l1 h1 n1 gL1 dL1 gH1 dH1 (by omega) ub1 dn1 bn1 L2x H2x l2 h2 n2 gL2 dL2 gH2 dH2 (by omega) ub2 dn2 bn2 neh neg (nr_dy deh) (nr_dy deg) leh ueh leg ueg _ _ HJAJ) pd_12 rfl rfl rfl at_334 (pc' := 337) rfl (by decide) (Wn := 0) (Nat.le_of_eq rfl) (by decide) (kc' := 11) (ks' := 46) rfl rfl (by decide) (by decide) ?_
                      intro T21 v21 W21 hp21
                      obtain ⟨gv, r0, r1, r2, t, JF, rfl, hr0, hr1, hr2, hch, H21⟩ := hp21
                      show Goes _ _ _ _ (State.setTop _ (mkF _ _ _ [.double gv]))
                      refine g_pop2 W21 at_337 (pc' := 338) rfl rfl ?_
                      have ht := chL0 hch (g_gt hr0 hr1 (frac (fp (by omega) (by omega) (by omega))) (by omega) (by omega) (by omega) (by omega)).2.2.2 (g_gt hr0 hr2 (frac (fp (by omega) (by omega) (by omega))) (by omega) (by omega) (by omega) (by omega)).2.2.2
                      exact VJ _ k1 k2 t JF (Or.inr (Or.inr (Or.inr ⟨hz1, hz2, ht, rfl, rfl⟩))) W21 H21
                    · refine g_callV WJAJ (argsL := []) (st := []) (wd_61 hw) (wd_62 hw) (wd_64 hw) (wd_63 hw) (wd_3 hw) (wd_65 hw) (by decide) (a := a9) HJAJ (i := 0) rfl (c_ex0oz l Z a0 hw n0 a9 a1 a2 owA otA liA raA olA ohA zlA zhA ru (FP.i2d eh) (FP.i2d eg) (0 : Int32) k1 k2 i1 i2 hi1 hi2 ow ot e1 e2 ce1 ce2 wa za wb zb lo hi L1x H1x l1 h1 n1 gL1 dL1 gH1 dH1 (by omega) ub1 dn1 bn1 L2x H2x l2 h2 n2 gL2 dL2 gH2 dH2 (by omega) ub2 dn2 bn2 neh neg (nr_dy deh) (nr_dy deg) leh ueh leg ueg _ _ HJAJ) pd_12 rfl rfl rfl at_334 (pc' := 337) rfl (by decide) (Wn := 0) (Nat.le_of_eq rfl) (by decide) (kc' := 11) (ks' := 46) rfl rfl (by decide) (by decide) ?_
                      intro T22 v22 W22 hp22
                      obtain ⟨gv, r0, r1, r2, t, JF, rfl, hr0, hr1, hr2, hch, H22⟩ := hp22
                      show Goes _ _ _ _ (State.setTop _ (mkF _ _ _ [.double gv]))
                      refine g_pop2 W22 at_337 (pc' := 338) rfl rfl ?_
                      have ht := chL1 hch (g_gt hr1 hr0 (frac (fq (by omega) (by omega) (by omega))) (by omega) (by omega) (by omega) (by omega)).2.2.1 (g_gt hr1 hr2 (frac (fp (by omega) (by omega) (by omega))) (by omega) (by omega) (by omega) (by omega)).2.2.2
                      exact VJ _ k2 k1 t JF (Or.inr (Or.inr (Or.inl ⟨hz1, hz2, ht, rfl, rfl⟩))) W22 H22
                  · rcases kl2 with ⟨hz2, wb, zb⟩ | ⟨hz2, wb, zb⟩
                    · refine g_callV WJAJ (argsL := []) (st := []) (wd_61 hw) (wd_62 hw) (wd_64 hw) (wd_63 hw) (wd_3 hw) (wd_65 hw) (by decide) (a := a9) HJAJ (i := 0) rfl (c_ex0zo l Z a0 hw n0 a9 a1 a2 owA otA liA raA olA ohA zlA zhA ru (FP.i2d eh) (FP.i2d eg) (0 : Int32) k1 k2 i1 i2 hi1 hi2 ow ot e1 e2 ce1 ce2 wa za wb zb lo hi L1x H1x l1 h1 n1 gL1 dL1 gH1 dH1 (by omega) ub1 dn1 bn1 L2x H2x l2 h2 n2 gL2 dL2 gH2 dH2 (by omega) ub2 dn2 bn2 neh neg (nr_dy deh) (nr_dy deg) leh ueh leg ueg _ _ HJAJ) pd_12 rfl rfl rfl at_334 (pc' := 337) rfl (by decide) (Wn := 0) (Nat.le_of_eq rfl) (by decide) (kc' := 11) (ks' := 46) rfl rfl (by decide) (by decide) ?_
                      intro T23 v23 W23 hp23
                      obtain ⟨gv, r0, r1, r2, t, JF, rfl, hr0, hr1, hr2, hch, H23⟩ := hp23
                      show Goes _ _ _ _ (State.setTop _ (mkF _ _ _ [.double gv]))
                      refine g_pop2 W23 at_337 (pc' := 338) rfl rfl ?_
                      have ht := chL1 hch (g_gt hr1 hr0 (frac (fq (by omega) (by omega) (by omega))) (by omega) (by omega) (by omega) (by omega)).2.2.1 (g_gt hr1 hr2 (frac (fp (by omega) (by omega) (by omega))) (by omega) (by omega) (by omega) (by omega)).2.2.2
                      exact VJ _ k1 k2 t JF (Or.inr (Or.inl ⟨hz1, hz2, ht, rfl, rfl⟩)) W23 H23
                    · refine g_callV WJAJ (argsL := []) (st := []) (wd_61 hw) (wd_62 hw) (wd_64 hw) (wd_63 hw) (wd_3 hw) (wd_65 hw) (by decide) (a := a9) HJAJ (i := 0) rfl (c_ex0zz l Z a0 hw n0 a9 a1 a2 owA otA liA raA olA ohA zlA zhA ru (FP.i2d eh) (FP.i2d eg) (0 : Int32) k1 k2 i1 i2 hi1 hi2 ow ot e1 e2 ce1 ce2 wa za wb zb lo hi L1x H1x l1 h1 n1 gL1 dL1 gH1 dH1 (by omega) ub1 dn1 bn1 L2x H2x l2 h2 n2 gL2 dL2 gH2 dH2 (by omega) ub2 dn2 bn2 neh neg (nr_dy deh) (nr_dy deg) leh ueh leg ueg _ _ HJAJ) pd_12 rfl rfl rfl at_334 (pc' := 337) rfl (by decide) (Wn := 0) (Nat.le_of_eq rfl) (by decide) (kc' := 11) (ks' := 46) rfl rfl (by decide) (by decide) ?_
                      intro T24 v24 W24 hp24
                      obtain ⟨gv, r0, r1, r2, t, JF, rfl, hr0, hr1, hr2, hch, H24⟩ := hp24
                      show Goes _ _ _ _ (State.setTop _ (mkF _ _ _ [.double gv]))
                      refine g_pop2 W24 at_337 (pc' := 338) rfl rfl ?_
                      have ht := chL2 hch (g_gt hr1 hr0 (frac (fq (by omega) (by omega) (by omega))) (by omega) (by omega) (by omega) (by omega)).2.2.1 (g_gt hr2 hr1 (frac (fq (by omega) (by omega) (by omega))) (by omega) (by omega) (by omega) (by omega)).2.2.1
                      exact VJ _ k1 k2 t JF (Or.inl ⟨hz1, hz2, ht, rfl, rfl⟩) W24 H24
                refine g_if W14 at_282 (pcy := 310) (by decide) (pc' := 285) rfl (fun (c25 : bf = (0 : Int32)) => ?_) (fun (c25 : ¬ bf = (0 : Int32)) => ?_)
                · refine g_aload W14 at_310 (pc' := 312) rfl rfl rfl ?_
                  refine g_iload W14 at_312 (pc' := 314) rfl rfl ?_
                  refine g_iload W14 at_314 (pc' := 316) rfl rfl ?_
                  refine g_dload W14 at_316 (pc' := 318) rfl rfl ?_
                  have H26f := Hp.fr4 H14
                  have H27f := Hp.fr4 H26f
                  have H28f := Hp.fr6 H27f
                  have H29f := Hp.fr6 H28f
                  have H30f := Hp.fr4 H29f
                  refine g_callS W14 (argsL := [.ref a9, .int a, .int ao, .double (FP.i2d ea)]) (st := []) (wd_55 hw) (wd_56 hw) (wd_57 hw) (wd_58 hw) (by decide) (c_app00 l Z a0 hw n0 a9 a1 a2 owA otA liA raA olA ohA zlA zhA ao ru (FP.i2d eh) (FP.i2d eg) a a ea ia nea hia cea dea uea [.int 0, .int 0, .int 0] [.double 0, .double 0, .double 0] [.double 0, .double 0, .double 0] (z3i ba) (z3d ba) (z3d ba) _ _ H30f) pd_13 rfl rfl rfl at_318 (pc' := 321) rfl (by decide) (Wn := 0) (Nat.le_of_eq rfl) (by decide) (kc' := 11) (ks' := 46) rfl rfl (by decide) (by decide) ?_
                  intro T31 v31 W31 hp31
                  obtain ⟨ow1, ot1, rfl, kd1, H31⟩ := hp31
                  show Goes _ _ _ _ (State.setTop _ (mkF _ _ _ []))
                  refine g_aload W31 at_321 (pc' := 323) rfl rfl rfl ?_
                  refine g_iload W31 at_323 (pc' := 325) rfl rfl ?_
                  refine g_iload W31 at_325 (pc' := 327) rfl rfl ?_
                  refine g_dload W31 at_327 (pc' := 329) rfl rfl ?_
                  have ko := kd1.other nab (z3d bb) (z3d bb)
                  refine g_callS W31 (argsL := [.ref a9, .int b, .int bo, .double (FP.i2d eb)]) (st := []) (wd_55 hw) (wd_56 hw) (wd_57 hw) (wd_58 hw) (by decide) (c_app01 l Z a0 hw n0 a9 a1 a2 owA otA liA raA olA ohA zlA zhA bo ru (FP.i2d eh) (FP.i2d eg) b a eb ib neb hib ceb deb ueb ([.int 0, .int 0, .int 0].set ia (.int (1 : Int32))) ow1 ot1 (set_o nab (z3i bb)) ko.1 ko.2 _ _ H31) pd_13 rfl rfl rfl at_329 (pc' := 332) rfl (by decide) (Wn := 0) (Nat.le_of_eq rfl) (by decide) (kc' := 11) (ks' := 46) rfl rfl (by decide) (by decide) ?_
                  intro T32 v32 W32 hp32
                  obtain ⟨ow2, ot2, rfl, kd2, H32⟩ := hp32
                  show Goes _ _ _ _ (State.setTop _ (mkF _ _ _ []))
                  have H33f := Hp.fr1 H32
                  have H34f := Hp.fr10 H33f
                  have H35f := Hp.fr10 H34f
                  have H36f := Hp.fr10 H35f
                  have H37f := Hp.fr10 H36f
                  have H38f := Hp.fr8 H37f
                  have H39f := Hp.fr8 H38f
                  have H40f := Hp.fr8 H39f
                  have H41f := Hp.fr10 H40f
                  have H42f := Hp.fr10 H41f
                  have H43f := Hp.fr10 H42f
                  exact AJ _ a b ao bo ea eb ia ib nea neb la ha lb hb La Ha Lb Hb ow2 ot2 (([.int 0, .int 0, .int 0].set ia (.int (1 : Int32))).set ib (.int (1 : Int32))) hia hib nab cea dea lea uea gLa dLa gHa dHa lta uba ((kd1.self (z3d ba) (z3d ba)).keep kd2 (Ne.symm nab)) hao ceb deb leb ueb gLb dLb gHb dHb ltb ubb (kd2.self ko.1 ko.2) hbo (Or.inl ⟨rfl, rfl, rfl, rfl⟩) W32 H43f
                · refine g_aload W14 at_285 (pc' := 287) rfl rfl rfl ?_
                  refine g_iload W14 at_287 (pc' := 289) rfl rfl ?_
                  refine g_iload W14 at_289 (pc' := 291) rfl rfl ?_
                  refine g_dload W14 at_291 (pc' := 293) rfl rfl ?_
                  have H44f := Hp.fr4 H14
                  have H45f := Hp.fr4 H44f
                  have H46f := Hp.fr6 H45f
                  have H47f := Hp.fr6 H46f
                  have H48f := Hp.fr4 H47f
                  refine g_callS W14 (argsL := [.ref a9, .int b, .int bo, .double (FP.i2d eb)]) (st := []) (wd_55 hw) (wd_56 hw) (wd_57 hw) (wd_58 hw) (by decide) (c_app00 l Z a0 hw n0 a9 a1 a2 owA otA liA raA olA ohA zlA zhA bo ru (FP.i2d eh) (FP.i2d eg) b b eb ib neb hib ceb deb ueb [.int 0, .int 0, .int 0] [.double 0, .double 0, .double 0] [.double 0, .double 0, .double 0] (z3i bb) (z3d bb) (z3d bb) _ _ H48f) pd_13 rfl rfl rfl at_293 (pc' := 296) rfl (by decide) (Wn := 0) (Nat.le_of_eq rfl) (by decide) (kc' := 11) (ks' := 46) rfl rfl (by decide) (by decide) ?_
                  intro T49 v49 W49 hp49
                  obtain ⟨ow1, ot1, rfl, kd1, H49⟩ := hp49
                  show Goes _ _ _ _ (State.setTop _ (mkF _ _ _ []))
                  refine g_aload W49 at_296 (pc' := 298) rfl rfl rfl ?_
                  refine g_iload W49 at_298 (pc' := 300) rfl rfl ?_
                  refine g_iload W49 at_300 (pc' := 302) rfl rfl ?_
                  refine g_dload W49 at_302 (pc' := 304) rfl rfl ?_
                  have ko := kd1.other (Ne.symm nab) (z3d ba) (z3d ba)
                  refine g_callS W49 (argsL := [.ref a9, .int a, .int ao, .double (FP.i2d ea)]) (st := []) (wd_55 hw) (wd_56 hw) (wd_57 hw) (wd_58 hw) (by decide) (c_app01 l Z a0 hw n0 a9 a1 a2 owA otA liA raA olA ohA zlA zhA ao ru (FP.i2d eh) (FP.i2d eg) a b ea ia nea hia cea dea uea ([.int 0, .int 0, .int 0].set ib (.int (1 : Int32))) ow1 ot1 (set_o (Ne.symm nab) (z3i ba)) ko.1 ko.2 _ _ H49) pd_13 rfl rfl rfl at_304 (pc' := 307) rfl (by decide) (Wn := 0) (Nat.le_of_eq rfl) (by decide) (kc' := 11) (ks' := 46) rfl rfl (by decide) (by decide) ?_
                  intro T50 v50 W50 hp50
                  obtain ⟨ow2, ot2, rfl, kd2, H50⟩ := hp50
                  show Goes _ _ _ _ (State.setTop _ (mkF _ _ _ []))
                  refine g_goto W50 at_307 (pc' := 332) (by decide) ?_
                  have H51f := Hp.fr1 H50
                  have H52f := Hp.fr10 H51f
                  have H53f := Hp.fr10 H52f
                  have H54f := Hp.fr10 H53f
                  have H55f := Hp.fr10 H54f
                  have H56f := Hp.fr8 H55f
                  have H57f := Hp.fr8 H56f
                  have H58f := Hp.fr8 H57f
                  have H59f := Hp.fr10 H58f
                  have H60f := Hp.fr10 H59f
                  have H61f := Hp.fr10 H60f
                  exact AJ _ b a bo ao eb ea ib ia neb nea lb hb la ha Lb Hb La Ha ow2 ot2 (([.int 0, .int 0, .int 0].set ib (.int (1 : Int32))).set ia (.int (1 : Int32))) hib hia (Ne.symm nab) ceb deb leb ueb gLb dLb gHb dHb ltb ubb ((kd1.self (z3d bb) (z3d bb)).keep kd2 nab) hbo cea dea lea uea gLa dLa gHa dHa lta uba (kd2.self ko.1 ko.2) hao (Or.inr ⟨rfl, rfl, rfl, rfl⟩) W50 H61f
              · refine g_new W8 (wd_1 hw) (wd_2 hw) (wd_3 hw) (la_Share hw) (by decide) H8 at_252 (pc' := 255) rfl (kc' := 3) (ks' := 22) rfl rfl (by decide) (by decide) ?_
                intro T62 a62 W62 H62
                refine g_dup W62 at_255 (pc' := 256) rfl rfl ?_
                refine g_aload W62 at_256 (pc' := 258) rfl rfl rfl ?_
                refine g_aload W62 at_258 (pc' := 260) rfl rfl rfl ?_
                refine g_iload W62 at_260 (pc' := 262) rfl rfl ?_
                refine g_iload W62 at_262 (pc' := 264) rfl rfl ?_
                have H63f := Hp.fr1 H62
                have H64f := Hp.fr2 H63f
                have H65f := Hp.fr2 H64f
                refine g_callI W62 (argsL := [.ref a1, .ref a2, .int (1 : Int32), .int ru]) (st := [.ref a62]) rfl (wd_4 hw) (wd_5 hw) (wd_3 hw) (wd_6 hw) (by decide) (a := a62) (c_sh1 l Z a0 hw n0 a62 a1 a2 ru hru lo hi hlen _ _ H65f) pd_10 rfl rfl rfl at_264 (pc' := 267) rfl (by decide) (Wn := 1) (Nat.le_of_eq rfl) (by decide) (kc' := 11) (ks' := 46) rfl rfl (by decide) (by decide) ?_
                intro T66 v66 W66 hp66
                obtain ⟨owA, otA, liA, raA, olA, ohA, zlA, zhA, rfl, H66⟩ := hp66
                show Goes _ _ _ _ (State.setTop _ (mkF _ _ _ [.ref a62]))
                refine g_astore W66 at_267 (pc' := 269) rfl rfl (ls' := #[.val (.int p0), .val (.int p1), .val (.int p2), .val (.int p3), .val (.int p4), .val (.int p5), .val (.int (1 : Int32)), .val (.int ru), .val (.int ao), .val (.int bo), .val (.int bf), .val (.int pm), .val (.int a), .val (.int b), .val (.int d), .val (.ref a1), .val (.ref a2), .val (.int x0), .val (.int x1), .val (.int x2), .val (.double (FP.i2d ea)), .second, .val (.double (FP.i2d eb)), .second, .val (.double (FP.i2d eh)), .second, .val (.double (FP.i2d eg)), .second, .val (.int fc), .val (.ref a62), .unset, .unset, .unset, .unset, .unset, .unset, .unset, .unset, .unset, .unset]) rfl ?_
                refine g_aload W66 at_269 (pc' := 271) rfl rfl rfl ?_
                refine g_iload W66 at_271 (pc' := 273) rfl rfl ?_
                refine g_dload W66 at_273 (pc' := 275) rfl rfl ?_
                refine g_dload W66 at_275 (pc' := 277) rfl rfl ?_
                refine g_callV W66 (argsL := [.int fc, .double (FP.i2d eh), .double (FP.i2d eg)]) (st := []) (wd_36 hw) (wd_37 hw) (wd_39 hw) (wd_38 hw) (wd_3 hw) (wd_40 hw) (by decide) (a := a62) H66 (i := 0) rfl (c_apf1 l Z a0 hw n0 a62 a1 a2 owA otA liA raA olA ohA zlA zhA ru fc eh eg hfc neh neg deh deg ceh ceg ueh ueg _ _ H66) pd_9 rfl rfl rfl at_277 (pc' := 280) rfl (by decide) (Wn := 0) (Nat.le_of_eq rfl) (by decide) (kc' := 11) (ks' := 46) rfl rfl (by decide) (by decide) ?_
                intro T67 v67 W67 hp67
                obtain ⟨rfl, H67⟩ := hp67
                show Goes _ _ _ _ (State.setTop _ (mkF _ _ _ []))
                refine g_iload W67 at_280 (pc' := 282) rfl rfl ?_
                have AJ : ∀ (TJAJ : State) (k1 k2 q1 q2 e1 e2 : Int32) (i1 i2 n1 n2 l1 h1 l2 h2 : Nat) (L1x H1x L2x H2x : UInt64) (ow ot li : List Value) (hi1 : k1.toInt = (i1 : Int)) (hi2 : k2.toInt = (i2 : Int)) (ne12 : i1 ≠ i2) (ce1 : e1 ∈ coL) (dn1 : Jvm.OwnKit.Dy (n1 : Int) 0 (FP.i2d e1)) (pn1 : 1 ≤ n1) (bn1 : n1 ≤ 16) (gL1 : lo[i1]? = some (.double L1x)) (dL1 : Jvm.OwnKit.Dy (l1 : Int) 0 L1x) (gH1 : hi[i1]? = some (.double H1x)) (dH1 : Jvm.OwnKit.Dy (h1 : Int) 0 H1x) (lt1 : l1 < h1) (ub1 : h1 ≤ 31) (kl1 : KL q1 e1 ow ot i1) (hq1 : q1 = 0 ∨ q1 = 1) (ce2 : e2 ∈ coL) (dn2 : Jvm.OwnKit.Dy (n2 : Int) 0 (FP.i2d e2)) (pn2 : 1 ≤ n2) (bn2 : n2 ≤ 16) (gL2 : lo[i2]? = some (.double L2x)) (dL2 : Jvm.OwnKit.Dy (l2 : Int) 0 L2x) (gH2 : hi[i2]? = some (.double H2x)) (dH2 : Jvm.OwnKit.Dy (h2 : Int) 0 H2x) (lt2 : l2 < h2) (ub2 : h2 ≤ 31) (kl2 : KL q2 e2 ow ot i2) (hq2 : q2 = 0 ∨ q2 = 1) (hab : (k1 = a ∧ k2 = b ∧ q1 = ao ∧ q2 = bo) ∨ (k1 = b ∧ k2 = a ∧ q1 = bo ∧ q2 = ao)), Wk Z x code maxLocals ret n0 p l e room_1 s m #[.int p0, .int p1, .int p2, .int p3, .int p4, .int p5] below meth c TJAJ 11 46 → Hp Z n0 TJAJ.heap [(a62, ObC Z "com/example/narrow_bounds/narrowbounds/Share" (fs_Share (.ref a1) (.ref a2) (.int (1 : Int32)) (.int ru) (.ref owA) (.ref otA) (.ref liA) (.ref raA) (.ref olA) (.ref ohA) (.ref zlA) (.ref zhA) (.double (FP.i2d eh)) (.double (FP.i2d eg)) (.int (2 : Int32)) (.int (0 : Int32)))), (a1, ArC Z .double lo), (a2, ArC Z .double hi), (raA, ArC Z .int [.int k1, .int k2, .int (0 : Int32)]), (owA, ArC Z .double ow), (otA, ArC Z .double ot), (olA, ArC Z .double [.double 0, .double 0, .double 0]), (ohA, ArC Z .double [.double 0, .double 0, .double 0]), (zlA, ArC Z .double [.double 0, .double 0, .double 0]), (zhA, ArC Z .double [.double 0, .double 0, .double 0]), (liA, ArC Z .boolean li)] → Goes p e below (En s n0 (Room.cells room_1) (Room.slots room_1) (fun v _ => v = some (.int 1))) (TJAJ.setTop (mkF m 332 #[.val (.int p0), .val (.int p1), .val (.int p2), .val (.int p3), .val (.int p4), .val (.int p5), .val (.int (1 : Int32)), .val (.int ru), .val (.int ao), .val (.int bo), .val (.int bf), .val (.int pm), .val (.int a), .val (.int b), .val (.int d), .val (.ref a1), .val (.ref a2), .val (.int x0), .val (.int x1), .val (.int x2), .val (.double (FP.i2d ea)), .second, .val (.double (FP.i2d eb)), .second, .val (.double (FP.i2d eh)), .second, .val (.double (FP.i2d eg)), .second, .val (.int fc), .val (.ref a62), .unset, .unset, .unset, .unset, .unset, .unset, .unset, .unset, .unset, .unset] [])) := by
                  intro TJAJ k1 k2 q1 q2 e1 e2 i1 i2 n1 n2 l1 h1 l2 h2 L1x H1x L2x H2x ow ot li hi1 hi2 ne12 ce1 dn1 pn1 bn1 gL1 dL1 gH1 dH1 lt1 ub1 kl1 hq1 ce2 dn2 pn2 bn2 gL2 dL2 gH2 dH2 lt2 ub2 kl2 hq2 hab WJAJ HJAJ
                  refine g_aload WJAJ at_332 (pc' := 334) rfl rfl rfl ?_
                  have VJ : ∀ (TJVJ : State) (d1 d2 t : Int32) (JF : List HRow) (hfin : FinOk (1 : Int32) q1 q2 k1 k2 d1 d2 t), Wk Z x code maxLocals ret n0 p l e room_1 s m #[.int p0, .int p1, .int p2, .int p3, .int p4, .int p5] below meth c TJVJ 11 46 → Hp Z n0 TJVJ.heap ((a62, ObC Z "com/example/narrow_bounds/narrowbounds/Share" (fs_Share (.ref a1) (.ref a2) (.int (1 : Int32)) (.int ru) (.ref owA) (.ref otA) (.ref liA) (.ref raA) (.ref olA) (.ref ohA) (.ref zlA) (.ref zhA) (.double (FP.i2d eh)) (.double (FP.i2d eg)) (.int (2 : Int32)) (.int t))) :: (a1, ArC Z .double lo) :: (a2, ArC Z .double hi) :: (raA, ArC Z .int [.int d1, .int d2, .int (0 : Int32)]) :: JF) → Goes p e below (En s n0 (Room.cells room_1) (Room.slots room_1) (fun v _ => v = some (.int 1))) (TJVJ.setTop (mkF m 338 #[.val (.int p0), .val (.int p1), .val (.int p2), .val (.int p3), .val (.int p4), .val (.int p5), .val (.int (1 : Int32)), .val (.int ru), .val (.int ao), .val (.int bo), .val (.int bf), .val (.int pm), .val (.int a), .val (.int b), .val (.int d), .val (.ref a1), .val (.ref a2), .val (.int x0), .val (.int x1), .val (.int x2), .val (.double (FP.i2d ea)), .second, .val (.double (FP.i2d eb)), .second, .val (.double (FP.i2d eh)), .second, .val (.double (FP.i2d eg)), .second, .val (.int fc), .val (.ref a62), .unset, .unset, .unset, .unset, .unset, .unset, .unset, .unset, .unset, .unset] [])) := by
                    intro TJVJ d1 d2 t JF hfin WJVJ HJVJ
                    have ne0 := ne_idx hi1 hi2 ne12
                    have hmem := hfin.mem ne0
                    refine g_aload WJVJ at_338 (pc' := 340) rfl rfl rfl ?_
                    refine g_iload WJVJ at_340 (pc' := 342) rfl rfl ?_
                    refine g_callV WJVJ (argsL := [.int a]) (st := []) (wd_130 hw) (wd_131 hw) (wd_133 hw) (wd_132 hw) (wd_3 hw) (wd_134 hw) (by decide) (a := a62) HJVJ (i := 0) rfl (c_vx l Z a0 hw n0 a62 a1 a2 owA otA liA raA olA ohA zlA zhA (1 : Int32) ru (FP.i2d eh) (FP.i2d eg) t hfin.t3 a d1 d2 ia hia lo hi La Ha gLa gHa _ _ HJVJ) pd_11 rfl rfl rfl at_342 (pc' := 345) rfl (by decide) (Wn := 0) (Nat.le_of_eq rfl) (by decide) (kc' := 11) (ks' := 46) rfl rfl (by decide) (by decide) ?_
                    intro T68 v68 W68 hp68
                    obtain ⟨va, rfl, va1, va2, H68⟩ := hp68
                    show Goes _ _ _ _ (State.setTop _ (mkF _ _ _ [.double va]))
                    refine g_dstore W68 at_345 (pc' := 347) rfl (ls' := #[.val (.int p0), .val (.int p1), .val (.int p2), .val (.int p3), .val (.int p4), .val (.int p5), .val (.int (1 : Int32)), .val (.int ru), .val (.int ao), .val (.int bo), .val (.int bf), .val (.int pm), .val (.int a), .val (.int b), .val (.int d), .val (.ref a1), .val (.ref a2), .val (.int x0), .val (.int x1), .val (.int x2), .val (.double (FP.i2d ea)), .second, .val (.double (FP.i2d eb)), .second, .val (.double (FP.i2d eh)), .second, .val (.double (FP.i2d eg)), .second, .val (.int fc), .val (.ref a62), .val (.double va), .second, .unset, .unset, .unset, .unset, .unset, .unset, .unset, .unset]) rfl ?_
                    refine g_aload W68 at_347 (pc' := 349) rfl rfl rfl ?_
                    refine g_iload W68 at_349 (pc' := 351) rfl rfl ?_
                    refine g_callV W68 (argsL := [.int b]) (st := []) (wd_130 hw) (wd_131 hw) (wd_133 hw) (wd_132 hw) (wd_3 hw) (wd_134 hw) (by decide) (a := a62) H68 (i := 0) rfl (c_vx l Z a0 hw n0 a62 a1 a2 owA otA liA raA olA ohA zlA zhA (1 : Int32) ru (FP.i2d eh) (FP.i2d eg) t hfin.t3 b d1 d2 ib hib lo hi Lb Hb gLb gHb _ _ H68) pd_11 rfl rfl rfl at_351 (pc' := 354) rfl (by decide) (Wn := 0) (Nat.le_of_eq rfl) (by decide) (kc' := 11) (ks' := 46) rfl rfl (by decide) (by decide) ?_
                    intro T69 v69 W69 hp69
                    obtain ⟨vb, rfl, vb1, vb2, H69⟩ := hp69
                    show Goes _ _ _ _ (State.setTop _ (mkF _ _ _ [.double vb]))
                    refine g_dstore W69 at_354 (pc' := 356) rfl (ls' := #[.val (.int p0), .val (.int p1), .val (.int p2), .val (.int p3), .val (.int p4), .val (.int p5), .val (.int (1 : Int32)), .val (.int ru), .val (.int ao), .val (.int bo), .val (.int bf), .val (.int pm), .val (.int a), .val (.int b), .val (.int d), .val (.ref a1), .val (.ref a2), .val (.int x0), .val (.int x1), .val (.int x2), .val (.double (FP.i2d ea)), .second, .val (.double (FP.i2d eb)), .second, .val (.double (FP.i2d eh)), .second, .val (.double (FP.i2d eg)), .second, .val (.int fc), .val (.ref a62), .val (.double va), .second, .val (.double vb), .second, .unset, .unset, .unset, .unset, .unset, .unset]) rfl ?_
                    refine g_aload W69 at_356 (pc' := 358) rfl rfl rfl ?_
                    refine g_iload W69 at_358 (pc' := 360) rfl rfl ?_
                    refine g_callV W69 (argsL := [.int d]) (st := []) (wd_130 hw) (wd_131 hw) (wd_133 hw) (wd_132 hw) (wd_3 hw) (wd_134 hw) (by decide) (a := a62) H69 (i := 0) rfl (c_vx l Z a0 hw n0 a62 a1 a2 owA otA liA raA olA ohA zlA zhA (1 : Int32) ru (FP.i2d eh) (FP.i2d eg) t hfin.t3 d d1 d2 ic hic lo hi Lc Hc gLc gHc _ _ H69) pd_11 rfl rfl rfl at_360 (pc' := 363) rfl (by decide) (Wn := 0) (Nat.le_of_eq rfl) (by decide) (kc' := 11) (ks' := 46) rfl rfl (by decide) (by decide) ?_
                    intro T70 v70 W70 hp70
                    obtain ⟨vc, rfl, vc1, vc2, H70⟩ := hp70
                    show Goes _ _ _ _ (State.setTop _ (mkF _ _ _ [.double vc]))
                    have hA : (ao = (1 : Int32) → HSd t d1 d2 a) ∧ (¬ ao = (1 : Int32) → ¬ HSd t d1 d2 a) ∧ (bo = (1 : Int32) → HSd t d1 d2 b) ∧ (¬ bo = (1 : Int32) → ¬ HSd t d1 d2 b) ∧ ¬ HSd t d1 d2 d := by
                      rcases hab with ⟨rfl, rfl, rfl, rfl⟩ | ⟨rfl, rfl, rfl, rfl⟩
                      · exact ⟨hmem.1, hmem.2.1, hmem.2.2.1, hmem.2.2.2.1, hmem.2.2.2.2 _ (ne_idx hia hic nac) (ne_idx hib hic nbc)⟩
                      · exact ⟨hmem.2.2.1, hmem.2.2.2.1, hmem.1, hmem.2.1, hmem.2.2.2.2 _ (ne_idx hib hic nbc) (ne_idx hia hic nac)⟩
                    refine g_dstore W70 at_363 (pc' := 365) rfl (ls' := #[.val (.int p0), .val (.int p1), .val (.int p2), .val (.int p3), .val (.int p4), .val (.int p5), .val (.int (1 : Int32)), .val (.int ru), .val (.int ao), .val (.int bo), .val (.int bf), .val (.int pm), .val (.int a), .val (.int b), .val (.int d), .val (.ref a1), .val (.ref a2), .val (.int x0), .val (.int x1), .val (.int x2), .val (.double (FP.i2d ea)), .second, .val (.double (FP.i2d eb)), .second, .val (.double (FP.i2d eh)), .second, .val (.double (FP.i2d eg)), .second, .val (.int fc), .val (.ref a62), .val (.double va), .second, .val (.double vb), .second, .val (.double vc), .second, .unset, .unset, .unset, .unset]) rfl ?_
                    refine g_iload W70 at_365 (pc' := 367) rfl rfl ?_
                    refine g_iload W70 at_367 (pc' := 369) rfl rfl ?_
                    refine g_icmp W70 at_369 (pcy := 380) (by decide) (pc' := 372) rfl (fun (c71 : ¬ ao = (1 : Int32)) => ?_) (fun (c71 : ¬ ¬ ao = (1 : Int32)) => ?_)
                    · obtain rfl : La = va := (va2 (hA.2.1 c71)).symm
                      refine g_aload W70 at_380 (pc' := 382) rfl rfl rfl ?_
                      refine g_iload W70 at_382 (pc' := 384) rfl rfl ?_
                      refine g_daload W70 H70 (i := 1) rfl (jx := ia) hia (v := .double La) gLa at_384 (pc' := 385) rfl ?_
                      refine g_dstore W70 at_385 (pc' := 387) rfl (ls' := #[.val (.int p0), .val (.int p1), .val (.int p2), .val (.int p3), .val (.int p4), .val (.int p5), .val (.int (1 : Int32)), .val (.int ru), .val (.int ao), .val (.int bo), .val (.int bf), .val (.int pm), .val (.int a), .val (.int b), .val (.int d), .val (.ref a1), .val (.ref a2), .val (.int x0), .val (.int x1), .val (.int x2), .val (.double (FP.i2d ea)), .second, .val (.double (FP.i2d eb)), .second, .val (.double (FP.i2d eh)), .second, .val (.double (FP.i2d eg)), .second, .val (.int fc), .val (.ref a62), .val (.double La), .second, .val (.double vb), .second, .val (.double vc), .second, .val (.double La), .second, .unset, .unset]) rfl ?_
                      refine g_iload W70 at_387 (pc' := 389) rfl rfl ?_
                      refine g_iload W70 at_389 (pc' := 391) rfl rfl ?_
                      refine g_icmp W70 at_391 (pcy := 402) (by decide) (pc' := 394) rfl (fun (c72 : ¬ bo = (1 : Int32)) => ?_) (fun (c72 : ¬ ¬ bo = (1 : Int32)) => ?_)
                      · obtain rfl : Lb = vb := (vb2 (hA.2.2.2.1 c72)).symm
                        obtain rfl : Lc = vc := (vc2 hA.2.2.2.2).symm
                        refine g_aload W70 at_402 (pc' := 404) rfl rfl rfl ?_
                        refine g_iload W70 at_404 (pc' := 406) rfl rfl ?_
                        refine g_daload W70 H70 (i := 1) rfl (jx := ib) hib (v := .double Lb) gLb at_406 (pc' := 407) rfl ?_
                        refine g_dstore W70 at_407 (pc' := 409) rfl (ls' := #[.val (.int p0), .val (.int p1), .val (.int p2), .val (.int p3), .val (.int p4), .val (.int p5), .val (.int (1 : Int32)), .val (.int ru), .val (.int ao), .val (.int bo), .val (.int bf), .val (.int pm), .val (.int a), .val (.int b), .val (.int d), .val (.ref a1), .val (.ref a2), .val (.int x0), .val (.int x1), .val (.int x2), .val (.double (FP.i2d ea)), .second, .val (.double (FP.i2d eb)), .second, .val (.double (FP.i2d eh)), .second, .val (.double (FP.i2d eg)), .second, .val (.int fc), .val (.ref a62), .val (.double La), .second, .val (.double Lb), .second, .val (.double Lc), .second, .val (.double La), .second, .val (.double Lb), .second]) rfl ?_
                        refine g_dload W70 at_409 (pc' := 411) rfl rfl ?_
                        refine g_dload W70 at_411 (pc' := 413) rfl rfl ?_
                        refine g_dcmp W70 at_413 (pc' := 414) rfl rfl ?_
                        rw [show (cmpValue (FP.dcmp La La) .l) = (0 : Int32) from dcmpV_self dLa.nn .l]
                        refine g_if W70 at_414 (pcy := 440) (by decide) (pc' := 417) rfl (fun (h : ¬ (0 : Int32) = (0 : Int32)) => absurd h (by decide)) (fun _ => ?_)
                        refine g_dload W70 at_417 (pc' := 419) rfl rfl ?_
                        refine g_dload W70 at_419 (pc' := 421) rfl rfl ?_
                        refine g_dcmp W70 at_421 (pc' := 422) rfl rfl ?_
                        rw [show (cmpValue (FP.dcmp Lb Lb) .l) = (0 : Int32) from dcmpV_self dLb.nn .l]
                        refine g_if W70 at_422 (pcy := 440) (by decide) (pc' := 425) rfl (fun (h : ¬ (0 : Int32) = (0 : Int32)) => absurd h (by decide)) (fun _ => ?_)
                        refine g_dload W70 at_425 (pc' := 427) rfl rfl ?_
                        refine g_aload W70 at_427 (pc' := 429) rfl rfl rfl ?_
                        refine g_iload W70 at_429 (pc' := 431) rfl rfl ?_
                        refine g_daload W70 H70 (i := 1) rfl (jx := ic) hic (v := .double Lc) gLc at_431 (pc' := 432) rfl ?_
                        refine g_dcmp W70 at_432 (pc' := 433) rfl rfl ?_
                        rw [show (cmpValue (FP.dcmp Lc Lc) .l) = (0 : Int32) from dcmpV_self dLc.nn .l]
                        refine g_if W70 at_433 (pcy := 440) (by decide) (pc' := 436) rfl (fun (h : ¬ (0 : Int32) = (0 : Int32)) => absurd h (by decide)) (fun _ => ?_)
                        refine g_iconst W70 at_436 (pc' := 437) rfl (v := (1 : Int32)) (by decide) ?_
                        refine g_goto W70 at_437 (pc' := 441) (by decide) ?_
                        exact g_zreturn W70 (by decide) at_441 rfl (by decide) (by decide)
                      · replace c72 := Classical.not_not.mp c72
                        obtain rfl : Hb = vb := (vb1 (hA.2.2.1 c72)).symm
                        obtain rfl : Lc = vc := (vc2 hA.2.2.2.2).symm
                        refine g_aload W70 at_394 (pc' := 396) rfl rfl rfl ?_
                        refine g_iload W70 at_396 (pc' := 398) rfl rfl ?_
                        refine g_daload W70 H70 (i := 2) rfl (jx := ib) hib (v := .double Hb) gHb at_398 (pc' := 399) rfl ?_
                        refine g_goto W70 at_399 (pc' := 407) (by decide) ?_
                        refine g_dstore W70 at_407 (pc' := 409) rfl (ls' := #[.val (.int p0), .val (.int p1), .val (.int p2), .val (.int p3), .val (.int p4), .val (.int p5), .val (.int (1 : Int32)), .val (.int ru), .val (.int ao), .val (.int bo), .val (.int bf), .val (.int pm), .val (.int a), .val (.int b), .val (.int d), .val (.ref a1), .val (.ref a2), .val (.int x0), .val (.int x1), .val (.int x2), .val (.double (FP.i2d ea)), .second, .val (.double (FP.i2d eb)), .second, .val (.double (FP.i2d eh)), .second, .val (.double (FP.i2d eg)), .second, .val (.int fc), .val (.ref a62), .val (.double La), .second, .val (.double Hb), .second, .val (.double Lc), .second, .val (.double La), .second, .val (.double Hb), .second]) rfl ?_
                        refine g_dload W70 at_409 (pc' := 411) rfl rfl ?_
                        refine g_dload W70 at_411 (pc' := 413) rfl rfl ?_
                        refine g_dcmp W70 at_413 (pc' := 414) rfl rfl ?_
                        rw [show (cmpValue (FP.dcmp La La) .l) = (0 : Int32) from dcmpV_self dLa.nn .l]
                        refine g_if W70 at_414 (pcy := 440) (by decide) (pc' := 417) rfl (fun (h : ¬ (0 : Int32) = (0 : Int32)) => absurd h (by decide)) (fun _ => ?_)
                        refine g_dload W70 at_417 (pc' := 419) rfl rfl ?_
                        refine g_dload W70 at_419 (pc' := 421) rfl rfl ?_
                        refine g_dcmp W70 at_421 (pc' := 422) rfl rfl ?_
                        rw [show (cmpValue (FP.dcmp Hb Hb) .l) = (0 : Int32) from dcmpV_self dHb.nn .l]
                        refine g_if W70 at_422 (pcy := 440) (by decide) (pc' := 425) rfl (fun (h : ¬ (0 : Int32) = (0 : Int32)) => absurd h (by decide)) (fun _ => ?_)
                        refine g_dload W70 at_425 (pc' := 427) rfl rfl ?_
                        refine g_aload W70 at_427 (pc' := 429) rfl rfl rfl ?_
                        refine g_iload W70 at_429 (pc' := 431) rfl rfl ?_
                        refine g_daload W70 H70 (i := 1) rfl (jx := ic) hic (v := .double Lc) gLc at_431 (pc' := 432) rfl ?_
                        refine g_dcmp W70 at_432 (pc' := 433) rfl rfl ?_
                        rw [show (cmpValue (FP.dcmp Lc Lc) .l) = (0 : Int32) from dcmpV_self dLc.nn .l]
                        refine g_if W70 at_433 (pcy := 440) (by decide) (pc' := 436) rfl (fun (h : ¬ (0 : Int32) = (0 : Int32)) => absurd h (by decide)) (fun _ => ?_)
                        refine g_iconst W70 at_436 (pc' := 437) rfl (v := (1 : Int32)) (by decide) ?_
                        refine g_goto W70 at_437 (pc' := 441) (by decide) ?_
                        exact g_zreturn W70 (by decide) at_441 rfl (by decide) (by decide)
                    · replace c71 := Classical.not_not.mp c71
                      obtain rfl : Ha = va := (va1 (hA.1 c71)).symm
                      refine g_aload W70 at_372 (pc' := 374) rfl rfl rfl ?_
                      refine g_iload W70 at_374 (pc' := 376) rfl rfl ?_
                      refine g_daload W70 H70 (i := 2) rfl (jx := ia) hia (v := .double Ha) gHa at_376 (pc' := 377) rfl ?_
                      refine g_goto W70 at_377 (pc' := 385) (by decide) ?_
                      refine g_dstore W70 at_385 (pc' := 387) rfl (ls' := #[.val (.int p0), .val (.int p1), .val (.int p2), .val (.int p3), .val (.int p4), .val (.int p5), .val (.int (1 : Int32)), .val (.int ru), .val (.int ao), .val (.int bo), .val (.int bf), .val (.int pm), .val (.int a), .val (.int b), .val (.int d), .val (.ref a1), .val (.ref a2), .val (.int x0), .val (.int x1), .val (.int x2), .val (.double (FP.i2d ea)), .second, .val (.double (FP.i2d eb)), .second, .val (.double (FP.i2d eh)), .second, .val (.double (FP.i2d eg)), .second, .val (.int fc), .val (.ref a62), .val (.double Ha), .second, .val (.double vb), .second, .val (.double vc), .second, .val (.double Ha), .second, .unset, .unset]) rfl ?_
                      refine g_iload W70 at_387 (pc' := 389) rfl rfl ?_
                      refine g_iload W70 at_389 (pc' := 391) rfl rfl ?_
                      refine g_icmp W70 at_391 (pcy := 402) (by decide) (pc' := 394) rfl (fun (c73 : ¬ bo = (1 : Int32)) => ?_) (fun (c73 : ¬ ¬ bo = (1 : Int32)) => ?_)
                      · obtain rfl : Lb = vb := (vb2 (hA.2.2.2.1 c73)).symm
                        obtain rfl : Lc = vc := (vc2 hA.2.2.2.2).symm
                        refine g_aload W70 at_402 (pc' := 404) rfl rfl rfl ?_
                        refine g_iload W70 at_404 (pc' := 406) rfl rfl ?_
                        refine g_daload W70 H70 (i := 1) rfl (jx := ib) hib (v := .double Lb) gLb at_406 (pc' := 407) rfl ?_
                        refine g_dstore W70 at_407 (pc' := 409) rfl (ls' := #[.val (.int p0), .val (.int p1), .val (.int p2), .val (.int p3), .val (.int p4), .val (.int p5), .val (.int (1 : Int32)), .val (.int ru), .val (.int ao), .val (.int bo), .val (.int bf), .val (.int pm), .val (.int a), .val (.int b), .val (.int d), .val (.ref a1), .val (.ref a2), .val (.int x0), .val (.int x1), .val (.int x2), .val (.double (FP.i2d ea)), .second, .val (.double (FP.i2d eb)), .second, .val (.double (FP.i2d eh)), .second, .val (.double (FP.i2d eg)), .second, .val (.int fc), .val (.ref a62), .val (.double Ha), .second, .val (.double Lb), .second, .val (.double Lc), .second, .val (.double Ha), .second, .val (.double Lb), .second]) rfl ?_
                        refine g_dload W70 at_409 (pc' := 411) rfl rfl ?_
                        refine g_dload W70 at_411 (pc' := 413) rfl rfl ?_
                        refine g_dcmp W70 at_413 (pc' := 414) rfl rfl ?_
                        rw [show (cmpValue (FP.dcmp Ha Ha) .l) = (0 : Int32) from dcmpV_self dHa.nn .l]
                        refine g_if W70 at_414 (pcy := 440) (by decide) (pc' := 417) rfl (fun (h : ¬ (0 : Int32) = (0 : Int32)) => absurd h (by decide)) (fun _ => ?_)
                        refine g_dload W70 at_417 (pc' := 419) rfl rfl ?_
                        refine g_dload W70 at_419 (pc' := 421) rfl rfl ?_
                        refine g_dcmp W70 at_421 (pc' := 422) rfl rfl ?_
                        rw [show (cmpValue (FP.dcmp Lb Lb) .l) = (0 : Int32) from dcmpV_self dLb.nn .l]
                        refine g_if W70 at_422 (pcy := 440) (by decide) (pc' := 425) rfl (fun (h : ¬ (0 : Int32) = (0 : Int32)) => absurd h (by decide)) (fun _ => ?_)
                        refine g_dload W70 at_425 (pc' := 427) rfl rfl ?_
                        refine g_aload W70 at_427 (pc' := 429) rfl rfl rfl ?_
                        refine g_iload W70 at_429 (pc' := 431) rfl rfl ?_
                        refine g_daload W70 H70 (i := 1) rfl (jx := ic) hic (v := .double Lc) gLc at_431 (pc' := 432) rfl ?_
                        refine g_dcmp W70 at_432 (pc' := 433) rfl rfl ?_
                        rw [show (cmpValue (FP.dcmp Lc Lc) .l) = (0 : Int32) from dcmpV_self dLc.nn .l]
                        refine g_if W70 at_433 (pcy := 440) (by decide) (pc' := 436) rfl (fun (h : ¬ (0 : Int32) = (0 : Int32)) => absurd h (by decide)) (fun _ => ?_)
                        refine g_iconst W70 at_436 (pc' := 437) rfl (v := (1 : Int32)) (by decide) ?_
                        refine g_goto W70 at_437 (pc' := 441) (by decide) ?_
                        exact g_zreturn W70 (by decide) at_441 rfl (by decide) (by decide)
                      · replace c73 := Classical.not_not.mp c73
                        obtain rfl : Hb = vb := (vb1 (hA.2.2.1 c73)).symm
                        obtain rfl : Lc = vc := (vc2 hA.2.2.2.2).symm
                        refine g_aload W70 at_394 (pc' := 396) rfl rfl rfl ?_
                        refine g_iload W70 at_396 (pc' := 398) rfl rfl ?_
                        refine g_daload W70 H70 (i := 2) rfl (jx := ib) hib (v := .double Hb) gHb at_398 (pc' := 399) rfl ?_
                        refine g_goto W70 at_399 (pc' := 407) (by decide) ?_
                        refine g_dstore W70 at_407 (pc' := 409) rfl (ls' := #[.val (.int p0), .val (.int p1), .val (.int p2), .val (.int p3), .val (.int p4), .val (.int p5), .val (.int (1 : Int32)), .val (.int ru), .val (.int ao), .val (.int bo), .val (.int bf), .val (.int pm), .val (.int a), .val (.int b), .val (.int d), .val (.ref a1), .val (.ref a2), .val (.int x0), .val (.int x1), .val (.int x2), .val (.double (FP.i2d ea)), .second, .val (.double (FP.i2d eb)), .second, .val (.double (FP.i2d eh)), .second, .val (.double (FP.i2d eg)), .second, .val (.int fc), .val (.ref a62), .val (.double Ha), .second, .val (.double Hb), .second, .val (.double Lc), .second, .val (.double Ha), .second, .val (.double Hb), .second]) rfl ?_
                        refine g_dload W70 at_409 (pc' := 411) rfl rfl ?_
                        refine g_dload W70 at_411 (pc' := 413) rfl rfl ?_
                        refine g_dcmp W70 at_413 (pc' := 414) rfl rfl ?_
                        rw [show (cmpValue (FP.dcmp Ha Ha) .l) = (0 : Int32) from dcmpV_self dHa.nn .l]
                        refine g_if W70 at_414 (pcy := 440) (by decide) (pc' := 417) rfl (fun (h : ¬ (0 : Int32) = (0 : Int32)) => absurd h (by decide)) (fun _ => ?_)
                        refine g_dload W70 at_417 (pc' := 419) rfl rfl ?_
                        refine g_dload W70 at_419 (pc' := 421) rfl rfl ?_
                        refine g_dcmp W70 at_421 (pc' := 422) rfl rfl ?_
                        rw [show (cmpValue (FP.dcmp Hb Hb) .l) = (0 : Int32) from dcmpV_self dHb.nn .l]
                        refine g_if W70 at_422 (pcy := 440) (by decide) (pc' := 425) rfl (fun (h : ¬ (0 : Int32) = (0 : Int32)) => absurd h (by decide)) (fun _ => ?_)
                        refine g_dload W70 at_425 (pc' := 427) rfl rfl ?_
                        refine g_aload W70 at_427 (pc' := 429) rfl rfl rfl ?_
                        refine g_iload W70 at_429 (pc' := 431) rfl rfl ?_
                        refine g_daload W70 H70 (i := 1) rfl (jx := ic) hic (v := .double Lc) gLc at_431 (pc' := 432) rfl ?_
                        refine g_dcmp W70 at_432 (pc' := 433) rfl rfl ?_
                        rw [show (cmpValue (FP.dcmp Lc Lc) .l) = (0 : Int32) from dcmpV_self dLc.nn .l]
                        refine g_if W70 at_433 (pcy := 440) (by decide) (pc' := 436) rfl (fun (h : ¬ (0 : Int32) = (0 : Int32)) => absurd h (by decide)) (fun _ => ?_)
                        refine g_iconst W70 at_436 (pc' := 437) rfl (v := (1 : Int32)) (by decide) ?_
                        refine g_goto W70 at_437 (pc' := 441) (by decide) ?_
                        exact g_zreturn W70 (by decide) at_441 rfl (by decide) (by decide)
                  have ml1 : l1 * n1 < h1 * n1 := Nat.mul_lt_mul_of_pos_right lt1 pn1
                  have mh1 : h1 * n1 ≤ 31 * 16 := Nat.mul_le_mul ub1 bn1
                  have ml2 : l2 * n2 < h2 * n2 := Nat.mul_lt_mul_of_pos_right lt2 pn2
                  have mh2 : h2 * n2 ≤ 31 * 16 := Nat.mul_le_mul ub2 bn2
                  rcases kl1 with ⟨hz1, wa, za⟩ | ⟨hz1, wa, za⟩
                  · rcases kl2 with ⟨hz2, wb, zb⟩ | ⟨hz2, wb, zb⟩
                    · refine g_callV WJAJ (argsL := []) (st := []) (wd_61 hw) (wd_62 hw) (wd_64 hw) (wd_63 hw) (wd_3 hw) (wd_65 hw) (by decide) (a := a62) HJAJ (i := 0) rfl (c_ex1oo l Z a0 hw n0 a62 a1 a2 owA otA liA raA olA ohA zlA zhA ru (FP.i2d eh) (FP.i2d eg) (0 : Int32) k1 k2 i1 i2 hi1 hi2 ow ot e1 e2 ce1 ce2 wa za wb zb lo hi L1x H1x l1 h1 n1 gL1 dL1 gH1 dH1 (by omega) ub1 dn1 bn1 L2x H2x l2 h2 n2 gL2 dL2 gH2 dH2 (by omega) ub2 dn2 bn2 neh neg (nr_dy deh) (nr_dy deg) leh ueh leg ueg _ _ HJAJ) pd_12 rfl rfl rfl at_334 (pc' := 337) rfl (by decide) (Wn := 0) (Nat.le_of_eq rfl) (by decide) (kc' := 11) (ks' := 46) rfl rfl (by decide) (by decide) ?_
                      intro T74 v74 W74 hp74
                      obtain ⟨gv, r0, r1, r2, t, JF, rfl, hr0, hr1, hr2, hch, H74⟩ := hp74
                      show Goes _ _ _ _ (State.setTop _ (mkF _ _ _ [.double gv]))
                      refine g_pop2 W74 at_337 (pc' := 338) rfl rfl ?_
                      have ht := chG2 hch (g_gt hr0 hr1 (frac (fp (by omega) (by omega) (by omega))) (by omega) (by omega) (by omega) (by omega)).1 (g_gt hr1 hr2 (frac (fp (by omega) (by omega) (by omega))) (by omega) (by omega) (by omega) (by omega)).1
                      exact VJ _ k1 k2 t JF (Or.inl ⟨(hq1.resolve_left hz1), (hq2.resolve_left hz2), ht, rfl, rfl⟩) W74 H74
                    · refine g_callV WJAJ (argsL := []) (st := []) (wd_61 hw) (wd_62 hw) (wd_64 hw) (wd_63 hw) (wd_3 hw) (wd_65 hw) (by decide) (a := a62) HJAJ (i := 0) rfl (c_ex1oz l Z a0 hw n0 a62 a1 a2 owA otA liA raA olA ohA zlA zhA ru (FP.i2d eh) (FP.i2d eg) (0 : Int32) k1 k2 i1 i2 hi1 hi2 ow ot e1 e2 ce1 ce2 wa za wb zb lo hi L1x H1x l1 h1 n1 gL1 dL1 gH1 dH1 (by omega) ub1 dn1 bn1 L2x H2x l2 h2 n2 gL2 dL2 gH2 dH2 (by omega) ub2 dn2 bn2 neh neg (nr_dy deh) (nr_dy deg) leh ueh leg ueg _ _ HJAJ) pd_12 rfl rfl rfl at_334 (pc' := 337) rfl (by decide) (Wn := 0) (Nat.le_of_eq rfl) (by decide) (kc' := 11) (ks' := 46) rfl rfl (by decide) (by decide) ?_
                      intro T75 v75 W75 hp75
                      obtain ⟨gv, r0, r1, r2, t, JF, rfl, hr0, hr1, hr2, hch, H75⟩ := hp75
                      show Goes _ _ _ _ (State.setTop _ (mkF _ _ _ [.double gv]))
                      refine g_pop2 W75 at_337 (pc' := 338) rfl rfl ?_
                      have ht := chG1 hch (g_gt hr0 hr1 (frac (fp (by omega) (by omega) (by omega))) (by omega) (by omega) (by omega) (by omega)).1 (g_gt hr2 hr1 (frac (fq (by omega) (by omega) (by omega))) (by omega) (by omega) (by omega) (by omega)).2.1
                      exact VJ _ k1 k2 t JF (Or.inr (Or.inl ⟨(hq1.resolve_left hz1), (fun z => absurd (hz2.symm.trans z) (by decide)), ht, rfl, rfl⟩)) W75 H75
                  · rcases kl2 with ⟨hz2, wb, zb⟩ | ⟨hz2, wb, zb⟩
                    · refine g_callV WJAJ (argsL := []) (st := []) (wd_61 hw) (wd_62 hw) (wd_64 hw) (wd_63 hw) (wd_3 hw) (wd_65 hw) (by decide) (a := a62) HJAJ (i := 0) rfl (c_ex1zo l Z a0 hw n0 a62 a1 a2 owA otA liA raA olA ohA zlA zhA ru (FP.i2d eh) (FP.i2d eg) (0 : Int32) k1 k2 i1 i2 hi1 hi2 ow ot e1 e2 ce1 ce2 wa za wb zb lo hi L1x H1x l1 h1 n1 gL1 dL1 gH1 dH1 (by omega) ub1 dn1 bn1 L2x H2x l2 h2 n2 gL2 dL2 gH2 dH2 (by omega) ub2 dn2 bn2 neh neg (nr_dy deh) (nr_dy deg) leh ueh leg ueg _ _ HJAJ) pd_12 rfl rfl rfl at_334 (pc' := 337) rfl (by decide) (Wn := 0) (Nat.le_of_eq rfl) (by decide) (kc' := 11) (ks' := 46) rfl rfl (by decide) (by decide) ?_
                      intro T76 v76 W76 hp76
                      obtain ⟨gv, r0, r1, r2, t, JF, rfl, hr0, hr1, hr2, hch, H76⟩ := hp76
                      show Goes _ _ _ _ (State.setTop _ (mkF _ _ _ [.double gv]))
                      refine g_pop2 W76 at_337 (pc' := 338) rfl rfl ?_
                      have ht := chG1 hch (g_gt hr0 hr1 (frac (fp (by omega) (by omega) (by omega))) (by omega) (by omega) (by omega) (by omega)).1 (g_gt hr2 hr1 (frac (fq (by omega) (by omega) (by omega))) (by omega) (by omega) (by omega) (by omega)).2.1
                      exact VJ _ k2 k1 t JF (Or.inr (Or.inr (Or.inl ⟨(fun z => absurd (hz1.symm.trans z) (by decide)), (hq2.resolve_left hz2), ht, rfl, rfl⟩))) W76 H76
                    · refine g_callV WJAJ (argsL := []) (st := []) (wd_61 hw) (wd_62 hw) (wd_64 hw) (wd_63 hw) (wd_3 hw) (wd_65 hw) (by decide) (a := a62) HJAJ (i := 0) rfl (c_ex1zz l Z a0 hw n0 a62 a1 a2 owA otA liA raA olA ohA zlA zhA ru (FP.i2d eh) (FP.i2d eg) (0 : Int32) k1 k2 i1 i2 hi1 hi2 ow ot e1 e2 ce1 ce2 wa za wb zb lo hi L1x H1x l1 h1 n1 gL1 dL1 gH1 dH1 (by omega) ub1 dn1 bn1 L2x H2x l2 h2 n2 gL2 dL2 gH2 dH2 (by omega) ub2 dn2 bn2 neh neg (nr_dy deh) (nr_dy deg) leh ueh leg ueg _ _ HJAJ) pd_12 rfl rfl rfl at_334 (pc' := 337) rfl (by decide) (Wn := 0) (Nat.le_of_eq rfl) (by decide) (kc' := 11) (ks' := 46) rfl rfl (by decide) (by decide) ?_
                      intro T77 v77 W77 hp77
                      obtain ⟨gv, r0, r1, r2, t, JF, rfl, hr0, hr1, hr2, hch, H77⟩ := hp77
                      show Goes _ _ _ _ (State.setTop _ (mkF _ _ _ [.double gv]))
                      refine g_pop2 W77 at_337 (pc' := 338) rfl rfl ?_
                      have ht := chG0 hch (g_gt hr1 hr0 (frac (fq (by omega) (by omega) (by omega))) (by omega) (by omega) (by omega) (by omega)).2.1 (g_gt hr2 hr0 (frac (fq (by omega) (by omega) (by omega))) (by omega) (by omega) (by omega) (by omega)).2.1
                      exact VJ _ k1 k2 t JF (Or.inr (Or.inr (Or.inr ⟨(fun z => absurd (hz1.symm.trans z) (by decide)), (fun z => absurd (hz2.symm.trans z) (by decide)), ht, rfl, rfl⟩))) W77 H77
                refine g_if W67 at_282 (pcy := 310) (by decide) (pc' := 285) rfl (fun (c78 : bf = (0 : Int32)) => ?_) (fun (c78 : ¬ bf = (0 : Int32)) => ?_)
                · refine g_aload W67 at_310 (pc' := 312) rfl rfl rfl ?_
                  refine g_iload W67 at_312 (pc' := 314) rfl rfl ?_
                  refine g_iload W67 at_314 (pc' := 316) rfl rfl ?_
                  refine g_dload W67 at_316 (pc' := 318) rfl rfl ?_
                  have H79f := Hp.fr4 H67
                  have H80f := Hp.fr4 H79f
                  have H81f := Hp.fr6 H80f
                  have H82f := Hp.fr6 H81f
                  have H83f := Hp.fr4 H82f
                  refine g_callS W67 (argsL := [.ref a62, .int a, .int ao, .double (FP.i2d ea)]) (st := []) (wd_55 hw) (wd_56 hw) (wd_57 hw) (wd_58 hw) (by decide) (c_app10 l Z a0 hw n0 a62 a1 a2 owA otA liA raA olA ohA zlA zhA ao ru (FP.i2d eh) (FP.i2d eg) a a ea ia nea hia cea dea uea [.int 0, .int 0, .int 0] [.double 0, .double 0, .double 0] [.double 0, .double 0, .double 0] (z3i ba) (z3d ba) (z3d ba) _ _ H83f) pd_13 rfl rfl rfl at_318 (pc' := 321) rfl (by decide) (Wn := 0) (Nat.le_of_eq rfl) (by decide) (kc' := 11) (ks' := 46) rfl rfl (by decide) (by decide) ?_
                  intro T84 v84 W84 hp84
                  obtain ⟨ow1, ot1, rfl, kd1, H84⟩ := hp84
                  show Goes _ _ _ _ (State.setTop _ (mkF _ _ _ []))
                  refine g_aload W84 at_321 (pc' := 323) rfl rfl rfl ?_
                  refine g_iload W84 at_323 (pc' := 325) rfl rfl ?_
                  refine g_iload W84 at_325 (pc' := 327) rfl rfl ?_
                  refine g_dload W84 at_327 (pc' := 329) rfl rfl ?_
                  have ko := kd1.other nab (z3d bb) (z3d bb)
                  refine g_callS W84 (argsL := [.ref a62, .int b, .int bo, .double (FP.i2d eb)]) (st := []) (wd_55 hw) (wd_56 hw) (wd_57 hw) (wd_58 hw) (by decide) (c_app11 l Z a0 hw n0 a62 a1 a2 owA otA liA raA olA ohA zlA zhA bo ru (FP.i2d eh) (FP.i2d eg) b a eb ib neb hib ceb deb ueb ([.int 0, .int 0, .int 0].set ia (.int (1 : Int32))) ow1 ot1 (set_o nab (z3i bb)) ko.1 ko.2 _ _ H84) pd_13 rfl rfl rfl at_329 (pc' := 332) rfl (by decide) (Wn := 0) (Nat.le_of_eq rfl) (by decide) (kc' := 11) (ks' := 46) rfl rfl (by decide) (by decide) ?_
                  intro T85 v85 W85 hp85
                  obtain ⟨ow2, ot2, rfl, kd2, H85⟩ := hp85
                  show Goes _ _ _ _ (State.setTop _ (mkF _ _ _ []))
                  have H86f := Hp.fr1 H85
                  have H87f := Hp.fr10 H86f
                  have H88f := Hp.fr10 H87f
                  have H89f := Hp.fr10 H88f
                  have H90f := Hp.fr10 H89f
                  have H91f := Hp.fr8 H90f
                  have H92f := Hp.fr8 H91f
                  have H93f := Hp.fr8 H92f
                  have H94f := Hp.fr10 H93f
                  have H95f := Hp.fr10 H94f
                  have H96f := Hp.fr10 H95f
                  exact AJ _ a b ao bo ea eb ia ib nea neb la ha lb hb La Ha Lb Hb ow2 ot2 (([.int 0, .int 0, .int 0].set ia (.int (1 : Int32))).set ib (.int (1 : Int32))) hia hib nab cea dea lea uea gLa dLa gHa dHa lta uba ((kd1.self (z3d ba) (z3d ba)).keep kd2 (Ne.symm nab)) hao ceb deb leb ueb gLb dLb gHb dHb ltb ubb (kd2.self ko.1 ko.2) hbo (Or.inl ⟨rfl, rfl, rfl, rfl⟩) W85 H96f
                · refine g_aload W67 at_285 (pc' := 287) rfl rfl rfl ?_
                  refine g_iload W67 at_287 (pc' := 289) rfl rfl ?_
                  refine g_iload W67 at_289 (pc' := 291) rfl rfl ?_
                  refine g_dload W67 at_291 (pc' := 293) rfl rfl ?_
                  have H97f := Hp.fr4 H67
                  have H98f := Hp.fr4 H97f
                  have H99f := Hp.fr6 H98f
                  have H100f := Hp.fr6 H99f
                  have H101f := Hp.fr4 H100f
                  refine g_callS W67 (argsL := [.ref a62, .int b, .int bo, .double (FP.i2d eb)]) (st := []) (wd_55 hw) (wd_56 hw) (wd_57 hw) (wd_58 hw) (by decide) (c_app10 l Z a0 hw n0 a62 a1 a2 owA otA liA raA olA ohA zlA zhA bo ru (FP.i2d eh) (FP.i2d eg) b b eb ib neb hib ceb deb ueb [.int 0, .int 0, .int 0] [.double 0, .double 0, .double 0] [.double 0, .double 0, .double 0] (z3i bb) (z3d bb) (z3d bb) _ _ H101f) pd_13 rfl rfl rfl at_293 (pc' := 296) rfl (by decide) (Wn := 0) (Nat.le_of_eq rfl) (by decide) (kc' := 11) (ks' := 46) rfl rfl (by decide) (by decide) ?_
                  intro T102 v102 W102 hp102
                  obtain ⟨ow1, ot1, rfl, kd1, H102⟩ := hp102
                  show Goes _ _ _ _ (State.setTop _ (mkF _ _ _ []))
                  refine g_aload W102 at_296 (pc' := 298) rfl rfl rfl ?_
                  refine g_iload W102 at_298 (pc' := 300) rfl rfl ?_
                  refine g_iload W102 at_300 (pc' := 302) rfl rfl ?_
                  refine g_dload W102 at_302 (pc' := 304) rfl rfl ?_
                  have ko := kd1.other (Ne.symm nab) (z3d ba) (z3d ba)
                  refine g_callS W102 (argsL := [.ref a62, .int a, .int ao, .double (FP.i2d ea)]) (st := []) (wd_55 hw) (wd_56 hw) (wd_57 hw) (wd_58 hw) (by decide) (c_app11 l Z a0 hw n0 a62 a1 a2 owA otA liA raA olA ohA zlA zhA ao ru (FP.i2d eh) (FP.i2d eg) a b ea ia nea hia cea dea uea ([.int 0, .int 0, .int 0].set ib (.int (1 : Int32))) ow1 ot1 (set_o (Ne.symm nab) (z3i ba)) ko.1 ko.2 _ _ H102) pd_13 rfl rfl rfl at_304 (pc' := 307) rfl (by decide) (Wn := 0) (Nat.le_of_eq rfl) (by decide) (kc' := 11) (ks' := 46) rfl rfl (by decide) (by decide) ?_
                  intro T103 v103 W103 hp103
                  obtain ⟨ow2, ot2, rfl, kd2, H103⟩ := hp103
                  show Goes _ _ _ _ (State.setTop _ (mkF _ _ _ []))
                  refine g_goto W103 at_307 (pc' := 332) (by decide) ?_
                  have H104f := Hp.fr1 H103
                  have H105f := Hp.fr10 H104f
                  have H106f := Hp.fr10 H105f
                  have H107f := Hp.fr10 H106f
                  have H108f := Hp.fr10 H107f
                  have H109f := Hp.fr8 H108f
                  have H110f := Hp.fr8 H109f
                  have H111f := Hp.fr8 H110f
                  have H112f := Hp.fr10 H111f
                  have H113f := Hp.fr10 H112f
                  have H114f := Hp.fr10 H113f
                  exact AJ _ b a bo ao eb ea ib ia neb nea lb hb la ha Lb Hb La Ha ow2 ot2 (([.int 0, .int 0, .int 0].set ib (.int (1 : Int32))).set ia (.int (1 : Int32))) hib hia (Ne.symm nab) ceb deb leb ueb gLb dLb gHb dHb ltb ubb ((kd1.self (z3d bb) (z3d bb)).keep kd2 nab) hbo cea dea lea uea gLa dLa gHa dHa lta uba (kd2.self ko.1 ko.2) hao (Or.inr ⟨rfl, rfl, rfl, rfl⟩) W103 H114f
            rcases hpm with rfl | rfl | rfl | rfl | rfl | rfl
            · refine g_iload WJB4 at_75 (pc' := 77) rfl rfl ?_
              refine g_iconst WJB4 at_77 (pc' := 78) rfl (v := (3 : Int32)) (by decide) ?_
              refine g_irem WJB4 at_78 (pc' := 79) rfl (by decide) (v := (0 : Int32)) (by decide) ?_
              refine g_istore WJB4 at_79 (pc' := 81) rfl (ls' := #[.val (.int p0), .val (.int p1), .val (.int p2), .val (.int p3), .val (.int p4), .val (.int p5), .val (.int gr), .val (.int ru), .val (.int ao), .val (.int bo), .val (.int bf), .val (.int (0 : Int32)), .val (.int (0 : Int32)), .unset, .unset, .unset, .unset, .unset, .unset, .unset, .unset, .unset, .unset, .unset, .unset, .unset, .unset, .unset, .unset, .unset, .unset, .unset, .unset, .unset, .unset, .unset, .unset, .unset, .unset, .unset]) rfl ?_
              refine g_iload WJB4 at_81 (pc' := 83) rfl rfl ?_
              refine g_iconst WJB4 at_83 (pc' := 84) rfl (v := (1 : Int32)) (by decide) ?_
              refine g_iadd WJB4 at_84 (pc' := 85) rfl (v := (1 : Int32)) (by decide) ?_
              refine g_iload WJB4 at_85 (pc' := 87) rfl rfl ?_
              refine g_iconst WJB4 at_87 (pc' := 88) rfl (v := (3 : Int32)) (by decide) ?_
              refine g_idiv WJB4 at_88 (pc' := 89) rfl (by decide) (v := (0 : Int32)) (by decide) ?_
              refine g_iadd WJB4 at_89 (pc' := 90) rfl (v := (1 : Int32)) (by decide) ?_
              refine g_iconst WJB4 at_90 (pc' := 91) rfl (v := (3 : Int32)) (by decide) ?_
              refine g_irem WJB4 at_91 (pc' := 92) rfl (by decide) (v := (1 : Int32)) (by decide) ?_
              refine g_istore WJB4 at_92 (pc' := 94) rfl (ls' := #[.val (.int p0), .val (.int p1), .val (.int p2), .val (.int p3), .val (.int p4), .val (.int p5), .val (.int gr), .val (.int ru), .val (.int ao), .val (.int bo), .val (.int bf), .val (.int (0 : Int32)), .val (.int (0 : Int32)), .val (.int (1 : Int32)), .unset, .unset, .unset, .unset, .unset, .unset, .unset, .unset, .unset, .unset, .unset, .unset, .unset, .unset, .unset, .unset, .unset, .unset, .unset, .unset, .unset, .unset, .unset, .unset, .unset, .unset]) rfl ?_
              refine g_iconst WJB4 at_94 (pc' := 95) rfl (v := (3 : Int32)) (by decide) ?_
              refine g_iload WJB4 at_95 (pc' := 97) rfl rfl ?_
              refine g_isub WJB4 at_97 (pc' := 98) rfl (v := (3 : Int32)) (by decide) ?_
              refine g_iload WJB4 at_98 (pc' := 100) rfl rfl ?_
              refine g_isub WJB4 at_100 (pc' := 101) rfl (v := (2 : Int32)) (by decide) ?_
              refine g_istore WJB4 at_101 (pc' := 103) rfl (ls' := #[.val (.int p0), .val (.int p1), .val (.int p2), .val (.int p3), .val (.int p4), .val (.int p5), .val (.int gr), .val (.int ru), .val (.int ao), .val (.int bo), .val (.int bf), .val (.int (0 : Int32)), .val (.int (0 : Int32)), .val (.int (1 : Int32)), .val (.int (2 : Int32)), .unset, .unset, .unset, .unset, .unset, .unset, .unset, .unset, .unset, .unset, .unset, .unset, .unset, .unset, .unset, .unset, .unset, .unset, .unset, .unset, .unset, .unset, .unset, .unset, .unset]) rfl ?_
              exact PJ _ (0 : Int32) (1 : Int32) (2 : Int32) ⟨0, 1, 2, by decide, by decide, by decide, by decide, by decide, by decide, by decide, by decide, by decide⟩ WJB4 HJB4
            · refine g_iload WJB4 at_75 (pc' := 77) rfl rfl ?_
              refine g_iconst WJB4 at_77 (pc' := 78) rfl (v := (3 : Int32)) (by decide) ?_
              refine g_irem WJB4 at_78 (pc' := 79) rfl (by decide) (v := (1 : Int32)) (by decide) ?_
              refine g_istore WJB4 at_79 (pc' := 81) rfl (ls' := #[.val (.int p0), .val (.int p1), .val (.int p2), .val (.int p3), .val (.int p4), .val (.int p5), .val (.int gr), .val (.int ru), .val (.int ao), .val (.int bo), .val (.int bf), .val (.int (1 : Int32)), .val (.int (1 : Int32)), .unset, .unset, .unset, .unset, .unset, .unset, .unset, .unset, .unset, .unset, .unset, .unset, .unset, .unset, .unset, .unset, .unset, .unset, .unset, .unset, .unset, .unset, .unset, .unset, .unset, .unset, .unset]) rfl ?_
              refine g_iload WJB4 at_81 (pc' := 83) rfl rfl ?_
              refine g_iconst WJB4 at_83 (pc' := 84) rfl (v := (1 : Int32)) (by decide) ?_
              refine g_iadd WJB4 at_84 (pc' := 85) rfl (v := (2 : Int32)) (by decide) ?_
              refine g_iload WJB4 at_85 (pc' := 87) rfl rfl ?_
              refine g_iconst WJB4 at_87 (pc' := 88) rfl (v := (3 : Int32)) (by decide) ?_
              refine g_idiv WJB4 at_88 (pc' := 89) rfl (by decide) (v := (0 : Int32)) (by decide) ?_
              refine g_iadd WJB4 at_89 (pc' := 90) rfl (v := (2 : Int32)) (by decide) ?_
              refine g_iconst WJB4 at_90 (pc' := 91) rfl (v := (3 : Int32)) (by decide) ?_
              refine g_irem WJB4 at_91 (pc' := 92) rfl (by decide) (v := (2 : Int32)) (by decide) ?_
              refine g_istore WJB4 at_92 (pc' := 94) rfl (ls' := #[.val (.int p0), .val (.int p1), .val (.int p2), .val (.int p3), .val (.int p4), .val (.int p5), .val (.int gr), .val (.int ru), .val (.int ao), .val (.int bo), .val (.int bf), .val (.int (1 : Int32)), .val (.int (1 : Int32)), .val (.int (2 : Int32)), .unset, .unset, .unset, .unset, .unset, .unset, .unset, .unset, .unset, .unset, .unset, .unset, .unset, .unset, .unset, .unset, .unset, .unset, .unset, .unset, .unset, .unset, .unset, .unset, .unset, .unset]) rfl ?_
              refine g_iconst WJB4 at_94 (pc' := 95) rfl (v := (3 : Int32)) (by decide) ?_
              refine g_iload WJB4 at_95 (pc' := 97) rfl rfl ?_
              refine g_isub WJB4 at_97 (pc' := 98) rfl (v := (2 : Int32)) (by decide) ?_
              refine g_iload WJB4 at_98 (pc' := 100) rfl rfl ?_
              refine g_isub WJB4 at_100 (pc' := 101) rfl (v := (0 : Int32)) (by decide) ?_
              refine g_istore WJB4 at_101 (pc' := 103) rfl (ls' := #[.val (.int p0), .val (.int p1), .val (.int p2), .val (.int p3), .val (.int p4), .val (.int p5), .val (.int gr), .val (.int ru), .val (.int ao), .val (.int bo), .val (.int bf), .val (.int (1 : Int32)), .val (.int (1 : Int32)), .val (.int (2 : Int32)), .val (.int (0 : Int32)), .unset, .unset, .unset, .unset, .unset, .unset, .unset, .unset, .unset, .unset, .unset, .unset, .unset, .unset, .unset, .unset, .unset, .unset, .unset, .unset, .unset, .unset, .unset, .unset, .unset]) rfl ?_
              exact PJ _ (1 : Int32) (2 : Int32) (0 : Int32) ⟨1, 2, 0, by decide, by decide, by decide, by decide, by decide, by decide, by decide, by decide, by decide⟩ WJB4 HJB4
            · refine g_iload WJB4 at_75 (pc' := 77) rfl rfl ?_
              refine g_iconst WJB4 at_77 (pc' := 78) rfl (v := (3 : Int32)) (by decide) ?_
              refine g_irem WJB4 at_78 (pc' := 79) rfl (by decide) (v := (2 : Int32)) (by decide) ?_
              refine g_istore WJB4 at_79 (pc' := 81) rfl (ls' := #[.val (.int p0), .val (.int p1), .val (.int p2), .val (.int p3), .val (.int p4), .val (.int p5), .val (.int gr), .val (.int ru), .val (.int ao), .val (.int bo), .val (.int bf), .val (.int (2 : Int32)), .val (.int (2 : Int32)), .unset, .unset, .unset, .unset, .unset, .unset, .unset, .unset, .unset, .unset, .unset, .unset, .unset, .unset, .unset, .unset, .unset, .unset, .unset, .unset, .unset, .unset, .unset, .unset, .unset, .unset, .unset]) rfl ?_
              refine g_iload WJB4 at_81 (pc' := 83) rfl rfl ?_
              refine g_iconst WJB4 at_83 (pc' := 84) rfl (v := (1 : Int32)) (by decide) ?_
              refine g_iadd WJB4 at_84 (pc' := 85) rfl (v := (3 : Int32)) (by decide) ?_
              refine g_iload WJB4 at_85 (pc' := 87) rfl rfl ?_
              refine g_iconst WJB4 at_87 (pc' := 88) rfl (v := (3 : Int32)) (by decide) ?_
              refine g_idiv WJB4 at_88 (pc' := 89) rfl (by decide) (v := (0 : Int32)) (by decide) ?_
              refine g_iadd WJB4 at_89 (pc' := 90) rfl (v := (3 : Int32)) (by decide) ?_
              refine g_iconst WJB4 at_90 (pc' := 91) rfl (v := (3 : Int32)) (by decide) ?_
              refine g_irem WJB4 at_91 (pc' := 92) rfl (by decide) (v := (0 : Int32)) (by decide) ?_
              refine g_istore WJB4 at_92 (pc' := 94) rfl (ls' := #[.val (.int p0), .val (.int p1), .val (.int p2), .val (.int p3), .val (.int p4), .val (.int p5), .val (.int gr), .val (.int ru), .val (.int ao), .val (.int bo), .val (.int bf), .val (.int (2 : Int32)), .val (.int (2 : Int32)), .val (.int (0 : Int32)), .unset, .unset, .unset, .unset, .unset, .unset, .unset, .unset, .unset, .unset, .unset, .unset, .unset, .unset, .unset, .unset, .unset, .unset, .unset, .unset, .unset, .unset, .unset, .unset, .unset, .unset]) rfl ?_
              refine g_iconst WJB4 at_94 (pc' := 95) rfl (v := (3 : Int32)) (by decide) ?_
              refine g_iload WJB4 at_95 (pc' := 97) rfl rfl ?_
              refine g_isub WJB4 at_97 (pc' := 98) rfl (v := (1 : Int32)) (by decide) ?_
              refine g_iload WJB4 at_98 (pc' := 100) rfl rfl ?_
              refine g_isub WJB4 at_100 (pc' := 101) rfl (v := (1 : Int32)) (by decide) ?_
              refine g_istore WJB4 at_101 (pc' := 103) rfl (ls' := #[.val (.int p0), .val (.int p1), .val (.int p2), .val (.int p3), .val (.int p4), .val (.int p5), .val (.int gr), .val (.int ru), .val (.int ao), .val (.int bo), .val (.int bf), .val (.int (2 : Int32)), .val (.int (2 : Int32)), .val (.int (0 : Int32)), .val (.int (1 : Int32)), .unset, .unset, .unset, .unset, .unset, .unset, .unset, .unset, .unset, .unset, .unset, .unset, .unset, .unset, .unset, .unset, .unset, .unset, .unset, .unset, .unset, .unset, .unset, .unset, .unset]) rfl ?_
              exact PJ _ (2 : Int32) (0 : Int32) (1 : Int32) ⟨2, 0, 1, by decide, by decide, by decide, by decide, by decide, by decide, by decide, by decide, by decide⟩ WJB4 HJB4
            · refine g_iload WJB4 at_75 (pc' := 77) rfl rfl ?_
              refine g_iconst WJB4 at_77 (pc' := 78) rfl (v := (3 : Int32)) (by decide) ?_
              refine g_irem WJB4 at_78 (pc' := 79) rfl (by decide) (v := (0 : Int32)) (by decide) ?_
              refine g_istore WJB4 at_79 (pc' := 81) rfl (ls' := #[.val (.int p0), .val (.int p1), .val (.int p2), .val (.int p3), .val (.int p4), .val (.int p5), .val (.int gr), .val (.int ru), .val (.int ao), .val (.int bo), .val (.int bf), .val (.int (3 : Int32)), .val (.int (0 : Int32)), .unset, .unset, .unset, .unset, .unset, .unset, .unset, .unset, .unset, .unset, .unset, .unset, .unset, .unset, .unset, .unset, .unset, .unset, .unset, .unset, .unset, .unset, .unset, .unset, .unset, .unset, .unset]) rfl ?_
              refine g_iload WJB4 at_81 (pc' := 83) rfl rfl ?_
              refine g_iconst WJB4 at_83 (pc' := 84) rfl (v := (1 : Int32)) (by decide) ?_
              refine g_iadd WJB4 at_84 (pc' := 85) rfl (v := (1 : Int32)) (by decide) ?_
              refine g_iload WJB4 at_85 (pc' := 87) rfl rfl ?_
              refine g_iconst WJB4 at_87 (pc' := 88) rfl (v := (3 : Int32)) (by decide) ?_
              refine g_idiv WJB4 at_88 (pc' := 89) rfl (by decide) (v := (1 : Int32)) (by decide) ?_
              refine g_iadd WJB4 at_89 (pc' := 90) rfl (v := (2 : Int32)) (by decide) ?_
              refine g_iconst WJB4 at_90 (pc' := 91) rfl (v := (3 : Int32)) (by decide) ?_
              refine g_irem WJB4 at_91 (pc' := 92) rfl (by decide) (v := (2 : Int32)) (by decide) ?_
              refine g_istore WJB4 at_92 (pc' := 94) rfl (ls' := #[.val (.int p0), .val (.int p1), .val (.int p2), .val (.int p3), .val (.int p4), .val (.int p5), .val (.int gr), .val (.int ru), .val (.int ao), .val (.int bo), .val (.int bf), .val (.int (3 : Int32)), .val (.int (0 : Int32)), .val (.int (2 : Int32)), .unset, .unset, .unset, .unset, .unset, .unset, .unset, .unset, .unset, .unset, .unset, .unset, .unset, .unset, .unset, .unset, .unset, .unset, .unset, .unset, .unset, .unset, .unset, .unset, .unset, .unset]) rfl ?_
              refine g_iconst WJB4 at_94 (pc' := 95) rfl (v := (3 : Int32)) (by decide) ?_
              refine g_iload WJB4 at_95 (pc' := 97) rfl rfl ?_
              refine g_isub WJB4 at_97 (pc' := 98) rfl (v := (3 : Int32)) (by decide) ?_
              refine g_iload WJB4 at_98 (pc' := 100) rfl rfl ?_
              refine g_isub WJB4 at_100 (pc' := 101) rfl (v := (1 : Int32)) (by decide) ?_
              refine g_istore WJB4 at_101 (pc' := 103) rfl (ls' := #[.val (.int p0), .val (.int p1), .val (.int p2), .val (.int p3), .val (.int p4), .val (.int p5), .val (.int gr), .val (.int ru), .val (.int ao), .val (.int bo), .val (.int bf), .val (.int (3 : Int32)), .val (.int (0 : Int32)), .val (.int (2 : Int32)), .val (.int (1 : Int32)), .unset, .unset, .unset, .unset, .unset, .unset, .unset, .unset, .unset, .unset, .unset, .unset, .unset, .unset, .unset, .unset, .unset, .unset, .unset, .unset, .unset, .unset, .unset, .unset, .unset]) rfl ?_
              exact PJ _ (0 : Int32) (2 : Int32) (1 : Int32) ⟨0, 2, 1, by decide, by decide, by decide, by decide, by decide, by decide, by decide, by decide, by decide⟩ WJB4 HJB4
            · refine g_iload WJB4 at_75 (pc' := 77) rfl rfl ?_
              refine g_iconst WJB4 at_77 (pc' := 78) rfl (v := (3 : Int32)) (by decide) ?_
              refine g_irem WJB4 at_78 (pc' := 79) rfl (by decide) (v := (1 : Int32)) (by decide) ?_
              refine g_istore WJB4 at_79 (pc' := 81) rfl (ls' := #[.val (.int p0), .val (.int p1), .val (.int p2), .val (.int p3), .val (.int p4), .val (.int p5), .val (.int gr), .val (.int ru), .val (.int ao), .val (.int bo), .val (.int bf), .val (.int (4 : Int32)), .val (.int (1 : Int32)), .unset, .unset, .unset, .unset, .unset, .unset, .unset, .unset, .unset, .unset, .unset, .unset, .unset, .unset, .unset, .unset, .unset, .unset, .unset, .unset, .unset, .unset, .unset, .unset, .unset, .unset, .unset]) rfl ?_
              refine g_iload WJB4 at_81 (pc' := 83) rfl rfl ?_
              refine g_iconst WJB4 at_83 (pc' := 84) rfl (v := (1 : Int32)) (by decide) ?_
              refine g_iadd WJB4 at_84 (pc' := 85) rfl (v := (2 : Int32)) (by decide) ?_
              refine g_iload WJB4 at_85 (pc' := 87) rfl rfl ?_
              refine g_iconst WJB4 at_87 (pc' := 88) rfl (v := (3 : Int32)) (by decide) ?_
              refine g_idiv WJB4 at_88 (pc' := 89) rfl (by decide) (v := (1 : Int32)) (by decide) ?_
              refine g_iadd WJB4 at_89 (pc' := 90) rfl (v := (3 : Int32)) (by decide) ?_
              refine g_iconst WJB4 at_90 (pc' := 91) rfl (v := (3 : Int32)) (by decide) ?_
              refine g_irem WJB4 at_91 (pc' := 92) rfl (by decide) (v := (0 : Int32)) (by decide) ?_
              refine g_istore WJB4 at_92 (pc' := 94) rfl (ls' := #[.val (.int p0), .val (.int p1), .val (.int p2), .val (.int p3), .val (.int p4), .val (.int p5), .val (.int gr), .val (.int ru), .val (.int ao), .val (.int bo), .val (.int bf), .val (.int (4 : Int32)), .val (.int (1 : Int32)), .val (.int (0 : Int32)), .unset, .unset, .unset, .unset, .unset, .unset, .unset, .unset, .unset, .unset, .unset, .unset, .unset, .unset, .unset, .unset, .unset, .unset, .unset, .unset, .unset, .unset, .unset, .unset, .unset, .unset]) rfl ?_
              refine g_iconst WJB4 at_94 (pc' := 95) rfl (v := (3 : Int32)) (by decide) ?_
              refine g_iload WJB4 at_95 (pc' := 97) rfl rfl ?_
              refine g_isub WJB4 at_97 (pc' := 98) rfl (v := (2 : Int32)) (by decide) ?_
              refine g_iload WJB4 at_98 (pc' := 100) rfl rfl ?_
              refine g_isub WJB4 at_100 (pc' := 101) rfl (v := (2 : Int32)) (by decide) ?_
              refine g_istore WJB4 at_101 (pc' := 103) rfl (ls' := #[.val (.int p0), .val (.int p1), .val (.int p2), .val (.int p3), .val (.int p4), .val (.int p5), .val (.int gr), .val (.int ru), .val (.int ao), .val (.int bo), .val (.int bf), .val (.int (4 : Int32)), .val (.int (1 : Int32)), .val (.int (0 : Int32)), .val (.int (2 : Int32)), .unset, .unset, .unset, .unset, .unset, .unset, .unset, .unset, .unset, .unset, .unset, .unset, .unset, .unset, .unset, .unset, .unset, .unset, .unset, .unset, .unset, .unset, .unset, .unset, .unset]) rfl ?_
              exact PJ _ (1 : Int32) (0 : Int32) (2 : Int32) ⟨1, 0, 2, by decide, by decide, by decide, by decide, by decide, by decide, by decide, by decide, by decide⟩ WJB4 HJB4
            · refine g_iload WJB4 at_75 (pc' := 77) rfl rfl ?_
              refine g_iconst WJB4 at_77 (pc' := 78) rfl (v := (3 : Int32)) (by decide) ?_
              refine g_irem WJB4 at_78 (pc' := 79) rfl (by decide) (v := (2 : Int32)) (by decide) ?_
              refine g_istore WJB4 at_79 (pc' := 81) rfl (ls' := #[.val (.int p0), .val (.int p1), .val (.int p2), .val (.int p3), .val (.int p4), .val (.int p5), .val (.int gr), .val (.int ru), .val (.int ao), .val (.int bo), .val (.int bf), .val (.int (5 : Int32)), .val (.int (2 : Int32)), .unset, .unset, .unset, .unset, .unset, .unset, .unset, .unset, .unset, .unset, .unset, .unset, .unset, .unset, .unset, .unset, .unset, .unset, .unset, .unset, .unset, .unset, .unset, .unset, .unset, .unset, .unset]) rfl ?_
              refine g_iload WJB4 at_81 (pc' := 83) rfl rfl ?_
              refine g_iconst WJB4 at_83 (pc' := 84) rfl (v := (1 : Int32)) (by decide) ?_
              refine g_iadd WJB4 at_84 (pc' := 85) rfl (v := (3 : Int32)) (by decide) ?_
              refine g_iload WJB4 at_85 (pc' := 87) rfl rfl ?_
              refine g_iconst WJB4 at_87 (pc' := 88) rfl (v := (3 : Int32)) (by decide) ?_
              refine g_idiv WJB4 at_88 (pc' := 89) rfl (by decide) (v := (1 : Int32)) (by decide) ?_
              refine g_iadd WJB4 at_89 (pc' := 90) rfl (v := (4 : Int32)) (by decide) ?_
              refine g_iconst WJB4 at_90 (pc' := 91) rfl (v := (3 : Int32)) (by decide) ?_
              refine g_irem WJB4 at_91 (pc' := 92) rfl (by decide) (v := (1 : Int32)) (by decide) ?_
              refine g_istore WJB4 at_92 (pc' := 94) rfl (ls' := #[.val (.int p0), .val (.int p1), .val (.int p2), .val (.int p3), .val (.int p4), .val (.int p5), .val (.int gr), .val (.int ru), .val (.int ao), .val (.int bo), .val (.int bf), .val (.int (5 : Int32)), .val (.int (2 : Int32)), .val (.int (1 : Int32)), .unset, .unset, .unset, .unset, .unset, .unset, .unset, .unset, .unset, .unset, .unset, .unset, .unset, .unset, .unset, .unset, .unset, .unset, .unset, .unset, .unset, .unset, .unset, .unset, .unset, .unset]) rfl ?_
              refine g_iconst WJB4 at_94 (pc' := 95) rfl (v := (3 : Int32)) (by decide) ?_
              refine g_iload WJB4 at_95 (pc' := 97) rfl rfl ?_
              refine g_isub WJB4 at_97 (pc' := 98) rfl (v := (1 : Int32)) (by decide) ?_
              refine g_iload WJB4 at_98 (pc' := 100) rfl rfl ?_
              refine g_isub WJB4 at_100 (pc' := 101) rfl (v := (0 : Int32)) (by decide) ?_
              refine g_istore WJB4 at_101 (pc' := 103) rfl (ls' := #[.val (.int p0), .val (.int p1), .val (.int p2), .val (.int p3), .val (.int p4), .val (.int p5), .val (.int gr), .val (.int ru), .val (.int ao), .val (.int bo), .val (.int bf), .val (.int (5 : Int32)), .val (.int (2 : Int32)), .val (.int (1 : Int32)), .val (.int (0 : Int32)), .unset, .unset, .unset, .unset, .unset, .unset, .unset, .unset, .unset, .unset, .unset, .unset, .unset, .unset, .unset, .unset, .unset, .unset, .unset, .unset, .unset, .unset, .unset, .unset, .unset]) rfl ?_
              exact PJ _ (2 : Int32) (1 : Int32) (0 : Int32) ⟨2, 1, 0, by decide, by decide, by decide, by decide, by decide, by decide, by decide, by decide, by decide⟩ WJB4 HJB4
          refine g_if WJB3 at_57 (pcy := 64) (by decide) (pc' := 60) rfl (fun (c115 : (p0 &&& (16 : Int32)) = (0 : Int32)) => ?_) (fun (c115 : ¬ (p0 &&& (16 : Int32)) = (0 : Int32)) => ?_)
          · refine g_iconst WJB3 at_64 (pc' := 65) rfl (v := (0 : Int32)) (by decide) ?_
            exact B4 _ (0 : Int32) (Or.inl rfl) WJB3 HJB3
          · refine g_iconst WJB3 at_60 (pc' := 61) rfl (v := (1 : Int32)) (by decide) ?_
            refine g_goto WJB3 at_61 (pc' := 65) (by decide) ?_
            exact B4 _ (1 : Int32) (Or.inr rfl) WJB3 HJB3
        refine g_if WJB2 at_43 (pcy := 50) (by decide) (pc' := 46) rfl (fun (c116 : (p0 &&& (8 : Int32)) = (0 : Int32)) => ?_) (fun (c116 : ¬ (p0 &&& (8 : Int32)) = (0 : Int32)) => ?_)
        · refine g_iconst WJB2 at_50 (pc' := 51) rfl (v := (0 : Int32)) (by decide) ?_
          exact B3 _ (0 : Int32) (Or.inl rfl) WJB2 HJB2
        · refine g_iconst WJB2 at_46 (pc' := 47) rfl (v := (1 : Int32)) (by decide) ?_
          refine g_goto WJB2 at_47 (pc' := 51) (by decide) ?_
          exact B3 _ (1 : Int32) (Or.inr rfl) WJB2 HJB2
      refine g_if WJB1 at_29 (pcy := 36) (by decide) (pc' := 32) rfl (fun (c117 : (p0 &&& (4 : Int32)) = (0 : Int32)) => ?_) (fun (c117 : ¬ (p0 &&& (4 : Int32)) = (0 : Int32)) => ?_)
      · refine g_iconst WJB1 at_36 (pc' := 37) rfl (v := (0 : Int32)) (by decide) ?_
        exact B2 _ (0 : Int32) (Or.inl rfl) WJB1 HJB1
      · refine g_iconst WJB1 at_32 (pc' := 33) rfl (v := (1 : Int32)) (by decide) ?_
        refine g_goto WJB1 at_33 (pc' := 37) (by decide) ?_
        exact B2 _ (1 : Int32) (Or.inr rfl) WJB1 HJB1
    refine g_if WJB0 at_16 (pcy := 23) (by decide) (pc' := 19) rfl (fun (c118 : (p0 &&& (2 : Int32)) = (0 : Int32)) => ?_) (fun (c118 : ¬ (p0 &&& (2 : Int32)) = (0 : Int32)) => ?_)
    · refine g_iconst WJB0 at_23 (pc' := 24) rfl (v := (0 : Int32)) (by decide) ?_
      exact B1 _ (0 : Int32) (Or.inl rfl) WJB0 HJB0
    · refine g_iconst WJB0 at_19 (pc' := 20) rfl (v := (1 : Int32)) (by decide) ?_
      refine g_goto WJB0 at_20 (pc' := 24) (by decide) ?_
      exact B1 _ (1 : Int32) (Or.inr rfl) WJB0 HJB0
  refine g_if W0 at_3 (pcy := 10) (by decide) (pc' := 6) rfl (fun (c119 : (p0 &&& (1 : Int32)) = (0 : Int32)) => ?_) (fun (c119 : ¬ (p0 &&& (1 : Int32)) = (0 : Int32)) => ?_)
  · refine g_iconst W0 at_10 (pc' := 11) rfl (v := (0 : Int32)) (by decide) ?_
    exact B0 _ (0 : Int32) (Or.inl rfl) W0 H0
  · refine g_iconst W0 at_6 (pc' := 7) rfl (v := (1 : Int32)) (by decide) ?_
    refine g_goto W0 at_7 (pc' := 11) (by decide) ?_
    exact B0 _ (1 : Int32) (Or.inr rfl) W0 H0
set_option maxRecDepth 65536 in
set_option maxHeartbeats 40000000 in
theorem comes_1 {Post : Tables → Env → Array Value → State → Outcome → State → Prop} (hpost : ∀ tb e args s v u, (limb_1_1.after args s (.returned v) u = true ∧ limb_1_2.after args s (.returned v) u = true ∧ True) → FrameEnd s (.returned v) u (Jvm.fieldLocs frame_1_writes args s ++ Jvm.arrayLocs frame_1_arrays args s ++ Jvm.staticLocs frame_1_statics s) 32 192 → Post tb e args s (.returned v) u) :
    ArmFor flags0 classFile x code maxLocals ret World_1 tables_1 room_1 Calls_1 rest_1 Pre_1 Post := by
  intro l hfl _ _ p e ha hc hk s m args below hf hA hF happ hP
  obtain ⟨hcalls, hrest, hpre⟩ := hP
  obtain ⟨-, -, -, hnamed, -, -, -, hat⟩ := (Spec.applies_iff hf).mp happ
  obtain ⟨hg, hn⟩ := and_e (Cond.before_iff.mp (show (Jvm.Cond.and given_1 narrow_1).before args s = true from hpre))
  obtain ⟨hcount, hg0⟩ := and_e hg
  obtain ⟨ha0, hg1⟩ := and_e hg0
  obtain ⟨ha1, hg2⟩ := and_e hg1
  obtain ⟨ha2, hg3⟩ := and_e hg2
  obtain ⟨ha3, hg4⟩ := and_e hg3
  obtain ⟨ha4, hg5⟩ := and_e hg4
  obtain ⟨w0, w1, w2, w3, w4, w5, rfl⟩ : ∃ w0 w1 w2 w3 w4 w5 : Value, args = #[w0, w1, w2, w3, w4, w5] := by
    have hs : args.size = 6 := by simpa [Cond.value, given_1] using hcount
    obtain ⟨L⟩ := args
    match L, hs with
    | [w0, w1, w2, w3, w4, w5], _ => exact ⟨w0, w1, w2, w3, w4, w5, rfl⟩
  have hw := fun d (hd : d ∈ tables_1) => atoms_spec (ws := Jvm.Cond.code x code maxLocals ret :: tables_1) hat d (List.mem_cons_of_mem _ hd)
  obtain ⟨p0, e0⟩ := is_v ha0
  obtain rfl : w0 = (.int p0) := Option.some.inj e0
  obtain ⟨p1, e1⟩ := is_v ha1
  obtain rfl : w1 = (.int p1) := Option.some.inj e1
  obtain ⟨p2, e2⟩ := is_v ha2
  obtain rfl : w2 = (.int p2) := Option.some.inj e2
  obtain ⟨p3, e3⟩ := is_v ha3
  obtain rfl : w3 = (.int p3) := Option.some.inj e3
  obtain ⟨p4, e4⟩ := is_v ha4
  obtain rfl : w4 = (.int p4) := Option.some.inj e4
  obtain ⟨p5, e5⟩ := is_v hg5
  obtain rfl : w5 = (.int p5) := Option.some.inj e5
  obtain ⟨n, o, h1, h2, h3, _, L, rfl, ⟨N, rfl⟩, hq⟩ := law_con l s _ hw s.heap.size  p0 p1 p2 p3 p4 p5 s.heap (Hp.nil Bs.start) p e ha hc hk s m _ below hf ((Spec.applies_iff_loose hf).mp happ).1 ⟨rfl, State.Warmed39.refl s, rfl⟩ trivial
  refine ⟨n, _, h1, h2, h3, hpost _ _ _ _ _ _ ⟨Cond.after_iff.mpr rfl, Cond.after_iff.mpr (eq_i res_at (Term.int_eval (1)) rfl), trivial⟩ ⟨hq.1, hq.2.1, (hq.2.2.sift fun y hy => Or.inr (N y hy)).mono (by decide) (by decide)⟩⟩
theorem main_1_1 : Claimed_1_1 := comes_1 fun _ _ _ _ _ _ h hF => ⟨h.1, hF⟩
theorem main_1_2 : Claimed_1_2 := comes_1 fun _ _ _ _ _ _ h hF => ⟨h.2.1, hF⟩
end Jvm.Pilot.@@N@@
namespace Jvm.Pilot.@@N@@
open Jvm Jvm.ClassFile Sem Op Lib Jvm.Free Jvm.Stand Jvm.Pilot.@@N@@.Jvm.D
/-! MADE BY PROGRAM (witnessworld.py) out of the Statement's table words and the real class files: 20 classes; the members and pool entries that the words name. The judged class is class 1, her method 2. -/
namespace start1
open Jvm.ClassFile
def u (s : String) : CpInfo := .utf8 (stringToUtf16 s)
/-- a pool by its gaps: so many unusable entries, then the entry; so many at the end -/
def gap : Nat → List CpInfo → List CpInfo
  | 0, r => r
  | n + 1, r => .unusable :: gap n r
def poolList (es : List (Nat × CpInfo)) (last : Nat) : List CpInfo := es.foldr (fun e r => gap e.1 (e.2 :: r)) (gap last [])
def pool (es : List (Nat × CpInfo)) (last : Nat) : Array CpInfo := ⟨poolList es last⟩
def fileOf (pool : Array CpInfo) (this : Nat) (attrs : Array Attribute := #[]) (ms : Array MethodInfo := #[]) (fl : Nat := 33) (sup : Nat := 0) (ifs : Array Nat := #[]) (fds : Array FieldInfo := #[]) : ClassFile where
  minorVersion := 0
  majorVersion := 65
  constantPool := pool
  accessFlags := fl
  thisClass := this
  superClass := sup
  interfaces := ifs
  fields := fds
  methods := ms
  attributes := attrs
def plain (name : String) (sup : Option ClassId) : Class where
  name := name
  kind := .ordinary
  loader := none
  accessFlags := 33
  super := sup
  interfaces := #[]
  cf := none
  fields := #[]
  methods := #[]
  instanceTypes := #[]
  staticTypes := #[]
  resolved := #[]
  callSites := []
  init := .initialized
  statics := none
  mirror := none

def pool0 : Array CpInfo := pool [(5, u "<init>"), (0, u "()V"), (1, .class_ 10), (1, u "java/lang/Object")] 113

def k0c0 : Code := { maxStack := 0, maxLocals := 1, code := object_method_1_code, exceptionTable := #[], attributes := #[] }
def k0m0 : Method := { name := "<init>", desc := "()V", sig := { parameters := [], returnType := none }, accessFlags := 1, code := some k0c0 }
/-- java/lang/Object -/
def k0 : Class := { plain "java/lang/Object" none with
  accessFlags := 33
  interfaces := #[]
  cf := some (fileOf pool0 8 #[] #[{ accessFlags := 1, nameIndex := 5, descriptorIndex := 6, attributes := #[] }] 33 0 #[] #[])
  fields := #[]
  methods := #[k0m0]
  instanceTypes := #[]
  staticTypes := #[]
  resolved := Array.replicate 124 none
  statics := none }

def pool1 : Array CpInfo := pool [(2, .class_ 4), (1, u "java/lang/Object"), (0, u "<init>"), (0, u "()V"), (0, .methodref 8 9), (0, .class_ 10), (0, .nameAndType 11 12), (0, u "com/example/narrow_bounds/narrowbounds/Share"), (0, u "addParts"), (0, u "(IDD)V"), (0, .methodref 8 14), (0, .nameAndType 5 15), (0, u "([D[DZZ)V"), (0, .methodref 17 18), (0, .class_ 19), (0, .nameAndType 20 21), (0, u "com/example/narrow_bounds/narrowbounds/ShareValueAtExtremePinLaw"), (0, u "addPart"), (0, u "(Lcom/example/narrow_bounds/narrowbounds/Share;IZD)V"), (0, .methodref 8 23), (0, .nameAndType 24 25), (0, u "extreme"), (0, u "()D"), (0, .methodref 8 27), (0, .nameAndType 28 29), (0, u "valueAtExtreme"), (0, u "(I)D"), (3, u "law"), (0, u "(IIIIII)Z")] 4

def k1m0 : Method := { name := "<init>", desc := "()V", sig := { parameters := [], returnType := none }, accessFlags := 1, code := none }
def k1c1 : Code := { maxStack := 6, maxLocals := 5, code := method_2_code, exceptionTable := #[], attributes := #[] }
def k1m1 : Method := { name := "addPart", desc := "(Lcom/example/narrow_bounds/narrowbounds/Share;IZD)V", sig := { parameters := [(.object "com/example/narrow_bounds/narrowbounds/Share"), .int, .boolean, .double], returnType := none }, accessFlags := 10, code := some k1c1 }
def k1c2 : Code := { maxStack := 6, maxLocals := 40, code := code, exceptionTable := #[], attributes := #[] }
def k1m2 : Method := { name := "law", desc := "(IIIIII)Z", sig := { parameters := [.int, .int, .int, .int, .int, .int], returnType := some .boolean }, accessFlags := 9, code := some k1c2 }
/-- com/example/narrow_bounds/narrowbounds/ShareValueAtExtremePinLaw -/
def k1 : Class := { plain "com/example/narrow_bounds/narrowbounds/ShareValueAtExtremePinLaw" (some 0) with
  accessFlags := 49
  interfaces := #[]
  cf := some (fileOf pool1 17 #[] #[{ accessFlags := 1, nameIndex := 5, descriptorIndex := 6, attributes := #[] }, { accessFlags := 10, nameIndex := 20, descriptorIndex := 21, attributes := #[] }, { accessFlags := 9, nameIndex := 33, descriptorIndex := 34, attributes := #[] }] 49 2 #[] #[])
  fields := #[]
  methods := #[k1m0, k1m1, k1m2]
  instanceTypes := #[]
  staticTypes := #[]
  resolved := Array.replicate 39 none
  statics := none }

def pool2 : Array CpInfo := pool [(1, .methodref 2 3), (0, .class_ 4), (0, .nameAndType 5 6), (0, u "java/lang/Object"), (0, u "<init>"), (0, u "()V"), (0, .fieldref 8 9), (0, .class_ 10), (0, .nameAndType 11 12), (0, u "com/example/narrow_bounds/narrowbounds/Share"), (0, u "lows"), (0, u "[D"), (0, .fieldref 8 14), (0, .nameAndType 15 12), (0, u "highs"), (0, .fieldref 8 17), (0, .nameAndType 18 19), (0, u "greatest"), (0, u "Z"), (0, .fieldref 8 21), (0, .nameAndType 22 19), (0, u "running"), (0, .fieldref 8 24), (0, .nameAndType 25 12), (0, u "owns"), (0, .fieldref 8 27), (0, .nameAndType 28 12), (0, u "others"), (0, .fieldref 8 30), (0, .nameAndType 31 32), (0, u "listed"), (0, u "[Z"), (0, .fieldref 8 34), (0, .nameAndType 35 36), (0, u "ranges"), (0, u "[I"), (0, .fieldref 8 38), (0, .nameAndType 39 12), (0, u "ownLows"), (0, .fieldref 8 41), (0, .nameAndType 42 12), (0, u "ownHighs"), (0, .fieldref 8 44), (0, .nameAndType 45 12), (0, u "othersLows"), (0, .fieldref 8 47), (0, .nameAndType 48 12), (0, u "othersHighs"), (0, .fieldref 8 50), (0, .nameAndType 51 52), (0, u "ownFixed"), (0, u "D"), (0, .fieldref 8 54), (0, .nameAndType 55 52), (0, u "othersFixed"), (0, .fieldref 8 57), (0, .nameAndType 58 59), (0, u "rangeCount"), (0, u "I"), (0, .methodref 61 62), (0, .class_ 63), (0, .nameAndType 64 65), (0, u "com/example/narrow_bounds/narrowbounds/DirectedRounding"), (0, u "add"), (0, u "(DDZ)D"), (0, .methodref 8 67), (0, .nameAndType 68 6), (0, u "sortRanges"), (0, .methodref 61 70), (0, .nameAndType 71 65), (0, u "multiply"), (0, .fieldref 8 73), (0, .nameAndType 74 59), (0, u "atHighestForExtreme"), (0, .methodref 8 76), (0, .nameAndType 77 78), (0, u "greatestShare"), (0, u "(DD)D"), (0, .methodref 8 80), (0, .nameAndType 81 78), (0, u "leastShare"), (0, .methodref 61 83), (0, .nameAndType 84 78), (0, u "addUp"), (0, .methodref 61 86), (0, .nameAndType 87 78), (0, u "divideDown"), (0, .methodref 89 90), (0, .class_ 91), (0, .nameAndType 92 93), (0, u "java/lang/Double"), (0, u "isInfinite"), (0, u "(D)Z"), (0, .methodref 61 95), (0, .nameAndType 96 78), (0, u "addDown"), (0, .methodref 61 98), (0, .nameAndType 99 78), (0, u "divideUp"), (0, .methodref 101 102), (0, .class_ 103), (0, .nameAndType 104 78), (0, u "java/lang/Math"), (0, u "min"), (0, .methodref 8 106), (0, .nameAndType 107 108), (0, u "comesBefore"), (0, u "(II)Z"), (0, .methodref 8 110), (0, .nameAndType 111 112), (0, u "compareRatios"), (0, u "(DDDD)I"), (0, .methodref 89 114), (0, .nameAndType 115 116), (0, u "compare"), (0, u "(DD)I"), (0, .methodref 89 118), (0, .nameAndType 119 93), (0, u "isFinite"), (12, u "([D[DZZ)V"), (4, u "addParts"), (0, u "(IDD)V"), (1, u "extreme"), (0, u "()D"), (0, u "valueAtExtreme"), (0, u "(I)D")] 2

def k2c0 : Code := { maxStack := 2, maxLocals := 5, code := prog_45_method_1_code, exceptionTable := #[], attributes := #[] }
def k2m0 : Method := { name := "<init>", desc := "([D[DZZ)V", sig := { parameters := [(.array .double), (.array .double), .boolean, .boolean], returnType := none }, accessFlags := 0, code := some k2c0 }
def k2c1 : Code := { maxStack := 7, maxLocals := 6, code := prog_45_method_3_code, exceptionTable := #[], attributes := #[] }
def k2m1 : Method := { name := "addParts", desc := "(IDD)V", sig := { parameters := [.int, .double, .double], returnType := none }, accessFlags := 0, code := some k2c1 }
def k2c2 : Code := { maxStack := 7, maxLocals := 15, code := prog_45_method_4_code, exceptionTable := #[], attributes := #[] }
def k2m2 : Method := { name := "extreme", desc := "()D", sig := { parameters := [], returnType := some .double }, accessFlags := 0, code := some k2c2 }
def k2c3 : Code := { maxStack := 3, maxLocals := 4, code := prog_45_method_5_code, exceptionTable := #[], attributes := #[] }
def k2m3 : Method := { name := "valueAtExtreme", desc := "(I)D", sig := { parameters := [.int], returnType := some .double }, accessFlags := 0, code := some k2c3 }
def k2c4 : Code := { maxStack := 6, maxLocals := 4, code := prog_45_method_6_code, exceptionTable := #[], attributes := #[] }
def k2m4 : Method := { name := "leastShare", desc := "(DD)D", sig := { parameters := [.double, .double], returnType := some .double }, accessFlags := 10, code := some k2c4 }
def k2c5 : Code := { maxStack := 6, maxLocals := 6, code := prog_45_method_7_code, exceptionTable := #[], attributes := #[] }
def k2m5 : Method := { name := "greatestShare", desc := "(DD)D", sig := { parameters := [.double, .double], returnType := some .double }, accessFlags := 10, code := some k2c5 }
def k2c6 : Code := { maxStack := 5, maxLocals := 4, code := prog_45_method_8_code, exceptionTable := #[], attributes := #[] }
def k2m6 : Method := { name := "sortRanges", desc := "()V", sig := { parameters := [], returnType := none }, accessFlags := 2, code := some k2c6 }
def k2c7 : Code := { maxStack := 8, maxLocals := 4, code := prog_45_method_9_code, exceptionTable := #[], attributes := #[] }
def k2m7 : Method := { name := "comesBefore", desc := "(II)Z", sig := { parameters := [.int, .int], returnType := some .boolean }, accessFlags := 2, code := some k2c7 }
def k2c8 : Code := { maxStack := 6, maxLocals := 14, code := prog_45_method_10_code, exceptionTable := #[], attributes := #[] }
def k2m8 : Method := { name := "compareRatios", desc := "(DDDD)I", sig := { parameters := [.double, .double, .double, .double], returnType := some .int }, accessFlags := 10, code := some k2c8 }
/-- com/example/narrow_bounds/narrowbounds/Share -/
def k2 : Class := { plain "com/example/narrow_bounds/narrowbounds/Share" (some 0) with
  accessFlags := 48
  interfaces := #[]
  cf := some (fileOf pool2 8 #[] #[{ accessFlags := 0, nameIndex := 5, descriptorIndex := 132, attributes := #[] }, { accessFlags := 0, nameIndex := 137, descriptorIndex := 138, attributes := #[] }, { accessFlags := 0, nameIndex := 140, descriptorIndex := 141, attributes := #[] }, { accessFlags := 0, nameIndex := 142, descriptorIndex := 143, attributes := #[] }, { accessFlags := 10, nameIndex := 81, descriptorIndex := 78, attributes := #[] }, { accessFlags := 10, nameIndex := 77, descriptorIndex := 78, attributes := #[] }, { accessFlags := 2, nameIndex := 68, descriptorIndex := 6, attributes := #[] }, { accessFlags := 2, nameIndex := 107, descriptorIndex := 108, attributes := #[] }, { accessFlags := 10, nameIndex := 111, descriptorIndex := 112, attributes := #[] }] 48 2 #[] #[{ accessFlags := 18, nameIndex := 11, descriptorIndex := 12, attributes := #[] }, { accessFlags := 18, nameIndex := 15, descriptorIndex := 12, attributes := #[] }, { accessFlags := 18, nameIndex := 18, descriptorIndex := 19, attributes := #[] }, { accessFlags := 18, nameIndex := 22, descriptorIndex := 19, attributes := #[] }, { accessFlags := 2, nameIndex := 51, descriptorIndex := 52, attributes := #[] }, { accessFlags := 2, nameIndex := 55, descriptorIndex := 52, attributes := #[] }, { accessFlags := 18, nameIndex := 25, descriptorIndex := 12, attributes := #[] }, { accessFlags := 18, nameIndex := 28, descriptorIndex := 12, attributes := #[] }, { accessFlags := 18, nameIndex := 31, descriptorIndex := 32, attributes := #[] }, { accessFlags := 18, nameIndex := 35, descriptorIndex := 36, attributes := #[] }, { accessFlags := 2, nameIndex := 58, descriptorIndex := 59, attributes := #[] }, { accessFlags := 18, nameIndex := 39, descriptorIndex := 12, attributes := #[] }, { accessFlags := 18, nameIndex := 42, descriptorIndex := 12, attributes := #[] }, { accessFlags := 18, nameIndex := 45, descriptorIndex := 12, attributes := #[] }, { accessFlags := 18, nameIndex := 48, descriptorIndex := 12, attributes := #[] }, { accessFlags := 2, nameIndex := 74, descriptorIndex := 59, attributes := #[] }])
  fields := #[{ name := "lows", type := (.array .double), accessFlags := 18, slot := 0, constantValue := 0 }, { name := "highs", type := (.array .double), accessFlags := 18, slot := 1, constantValue := 0 }, { name := "greatest", type := .boolean, accessFlags := 18, slot := 2, constantValue := 0 }, { name := "running", type := .boolean, accessFlags := 18, slot := 3, constantValue := 0 }, { name := "ownFixed", type := .double, accessFlags := 2, slot := 4, constantValue := 0 }, { name := "othersFixed", type := .double, accessFlags := 2, slot := 5, constantValue := 0 }, { name := "owns", type := (.array .double), accessFlags := 18, slot := 6, constantValue := 0 }, { name := "others", type := (.array .double), accessFlags := 18, slot := 7, constantValue := 0 }, { name := "listed", type := (.array .boolean), accessFlags := 18, slot := 8, constantValue := 0 }, { name := "ranges", type := (.array .int), accessFlags := 18, slot := 9, constantValue := 0 }, { name := "rangeCount", type := .int, accessFlags := 2, slot := 10, constantValue := 0 }, { name := "ownLows", type := (.array .double), accessFlags := 18, slot := 11, constantValue := 0 }, { name := "ownHighs", type := (.array .double), accessFlags := 18, slot := 12, constantValue := 0 }, { name := "othersLows", type := (.array .double), accessFlags := 18, slot := 13, constantValue := 0 }, { name := "othersHighs", type := (.array .double), accessFlags := 18, slot := 14, constantValue := 0 }, { name := "atHighestForExtreme", type := .int, accessFlags := 2, slot := 15, constantValue := 0 }]
  methods := #[k2m0, k2m1, k2m2, k2m3, k2m4, k2m5, k2m6, k2m7, k2m8]
  instanceTypes := #[(.array .double), (.array .double), .boolean, .boolean, .double, .double, (.array .double), (.array .double), (.array .boolean), (.array .int), .int, (.array .double), (.array .double), (.array .double), (.array .double), .int]
  staticTypes := #[]
  resolved := Array.replicate 146 none
  statics := none }

def pool3 : Array CpInfo := pool [(2, .class_ 4), (1, u "java/lang/Object"), (0, u "<init>"), (0, u "()V"), (0, .methodref 8 9), (0, .class_ 10), (0, .nameAndType 11 12), (0, u "java/lang/Math"), (0, u "nextDown"), (0, u "(D)D"), (0, .methodref 8 14), (0, .nameAndType 15 12), (0, u "nextUp"), (2, .double 9223372036854775809), (1, .methodref 21 22), (0, .class_ 23), (0, .nameAndType 24 25), (0, u "com/example/narrow_bounds/narrowbounds/DirectedRounding"), (0, u "addUp"), (0, u "(DD)D"), (0, .methodref 21 27), (0, .nameAndType 28 25), (0, u "addDown"), (8, u "add"), (0, u "(DDZ)D"), (0, .methodref 21 40), (0, .nameAndType 41 25), (0, u "multiplyUp"), (0, .methodref 21 43), (0, .nameAndType 44 25), (0, u "multiplyDown"), (2, u "divideUp"), (2, u "divideDown"), (25, u "multiply")] 6

def k3m0 : Method := { name := "<init>", desc := "()V", sig := { parameters := [], returnType := none }, accessFlags := 2, code := none }
def k3c1 : Code := { maxStack := 4, maxLocals := 4, code := prog_13_method_2_code, exceptionTable := #[], attributes := #[] }
def k3m1 : Method := { name := "addDown", desc := "(DD)D", sig := { parameters := [.double, .double], returnType := some .double }, accessFlags := 8, code := some k3c1 }
def k3c2 : Code := { maxStack := 4, maxLocals := 4, code := prog_13_method_3_code, exceptionTable := #[], attributes := #[] }
def k3m2 : Method := { name := "addUp", desc := "(DD)D", sig := { parameters := [.double, .double], returnType := some .double }, accessFlags := 8, code := some k3c2 }
def k3c3 : Code := { maxStack := 5, maxLocals := 8, code := prog_13_method_6_code, exceptionTable := #[], attributes := #[] }
def k3m3 : Method := { name := "multiplyDown", desc := "(DD)D", sig := { parameters := [.double, .double], returnType := some .double }, accessFlags := 8, code := some k3c3 }
def k3c4 : Code := { maxStack := 4, maxLocals := 4, code := prog_13_method_7_code, exceptionTable := #[], attributes := #[] }
def k3m4 : Method := { name := "multiplyUp", desc := "(DD)D", sig := { parameters := [.double, .double], returnType := some .double }, accessFlags := 8, code := some k3c4 }
def k3c5 : Code := { maxStack := 4, maxLocals := 6, code := prog_13_method_8_code, exceptionTable := #[], attributes := #[] }
def k3m5 : Method := { name := "divideDown", desc := "(DD)D", sig := { parameters := [.double, .double], returnType := some .double }, accessFlags := 8, code := some k3c5 }
def k3c6 : Code := { maxStack := 4, maxLocals := 4, code := prog_13_method_9_code, exceptionTable := #[], attributes := #[] }
def k3m6 : Method := { name := "divideUp", desc := "(DD)D", sig := { parameters := [.double, .double], returnType := some .double }, accessFlags := 8, code := some k3c6 }
def k3c7 : Code := { maxStack := 4, maxLocals := 5, code := prog_13_method_10_code, exceptionTable := #[], attributes := #[] }
def k3m7 : Method := { name := "add", desc := "(DDZ)D", sig := { parameters := [.double, .double, .boolean], returnType := some .double }, accessFlags := 8, code := some k3c7 }
def k3c8 : Code := { maxStack := 4, maxLocals := 5, code := prog_13_method_13_code, exceptionTable := #[], attributes := #[] }
def k3m8 : Method := { name := "multiply", desc := "(DDZ)D", sig := { parameters := [.double, .double, .boolean], returnType := some .double }, accessFlags := 8, code := some k3c8 }
/-- com/example/narrow_bounds/narrowbounds/DirectedRounding -/
def k3 : Class := { plain "com/example/narrow_bounds/narrowbounds/DirectedRounding" (some 0) with
  accessFlags := 48
  interfaces := #[]
  cf := some (fileOf pool3 21 #[] #[{ accessFlags := 2, nameIndex := 5, descriptorIndex := 6, attributes := #[] }, { accessFlags := 8, nameIndex := 28, descriptorIndex := 25, attributes := #[] }, { accessFlags := 8, nameIndex := 24, descriptorIndex := 25, attributes := #[] }, { accessFlags := 8, nameIndex := 44, descriptorIndex := 25, attributes := #[] }, { accessFlags := 8, nameIndex := 41, descriptorIndex := 25, attributes := #[] }, { accessFlags := 8, nameIndex := 50, descriptorIndex := 25, attributes := #[] }, { accessFlags := 8, nameIndex := 47, descriptorIndex := 25, attributes := #[] }, { accessFlags := 8, nameIndex := 37, descriptorIndex := 38, attributes := #[] }, { accessFlags := 8, nameIndex := 76, descriptorIndex := 38, attributes := #[] }] 48 2 #[] #[])
  fields := #[]
  methods := #[k3m0, k3m1, k3m2, k3m3, k3m4, k3m5, k3m6, k3m7, k3m8]
  instanceTypes := #[]
  staticTypes := #[]
  resolved := Array.replicate 83 none
  statics := none }

def pool4 : Array CpInfo := pool [(1, .class_ 2), (0, u "java/io/Serializable"), (0, .class_ 4), (0, u "java/lang/Object")] 2

/-- java/io/Serializable -/
def k4 : Class := { plain "java/io/Serializable" (some 0) with
  accessFlags := 1537
  interfaces := #[]
  cf := some (fileOf pool4 1 #[] #[] 1537 3 #[] #[])
  fields := #[]
  methods := #[]
  instanceTypes := #[]
  staticTypes := #[]
  resolved := Array.replicate 7 none
  statics := none }

def pool5 : Array CpInfo := pool [(2, .class_ 4), (1, u "java/lang/Object"), (0, u "<init>"), (0, u "()V"), (1, .class_ 10), (1, u "java/lang/Number"), (2, .class_ 14), (0, u "java/io/Serializable"), (0, u "serialVersionUID"), (0, u "J")] 20

def k5m0 : Method := { name := "<init>", desc := "()V", sig := { parameters := [], returnType := none }, accessFlags := 1, code := none }
/-- java/lang/Number -/
def k5 : Class := { plain "java/lang/Number" (some 0) with
  accessFlags := 1057
  interfaces := #[4]
  cf := some (fileOf pool5 8 #[] #[{ accessFlags := 1, nameIndex := 5, descriptorIndex := 6, attributes := #[] }] 1057 2 #[13] #[{ accessFlags := 26, nameIndex := 15, descriptorIndex := 16, attributes := #[] }])
  fields := #[{ name := "serialVersionUID", type := .long, accessFlags := 26, slot := 0, constantValue := 0 }]
  methods := #[k5m0]
  instanceTypes := #[]
  staticTypes := #[.long]
  resolved := Array.replicate 37 none
  statics := none }

def pool6 : Array CpInfo := pool [(1, .class_ 2), (0, u "java/lang/Comparable"), (0, .class_ 4), (0, u "java/lang/Object")] 7

/-- java/lang/Comparable -/
def k6 : Class := { plain "java/lang/Comparable" (some 0) with
  accessFlags := 1537
  interfaces := #[]
  cf := some (fileOf pool6 1 #[] #[] 1537 3 #[] #[])
  fields := #[]
  methods := #[]
  instanceTypes := #[]
  staticTypes := #[]
  resolved := Array.replicate 12 none
  statics := none }

def pool7 : Array CpInfo := pool [(1, .class_ 2), (0, u "java/lang/constant/Constable"), (0, .class_ 4), (0, u "java/lang/Object")] 6

/-- java/lang/constant/Constable -/
def k7 : Class := { plain "java/lang/constant/Constable" (some 0) with
  accessFlags := 1537
  interfaces := #[]
  cf := some (fileOf pool7 1 #[] #[] 1537 3 #[] #[])
  fields := #[]
  methods := #[]
  instanceTypes := #[]
  staticTypes := #[]
  resolved := Array.replicate 11 none
  statics := none }

def pool8 : Array CpInfo := pool [(1, .class_ 2), (0, u "java/lang/constant/ConstantDesc"), (0, .class_ 4), (0, u "java/lang/Object")] 32

/-- java/lang/constant/ConstantDesc -/
def k8 : Class := { plain "java/lang/constant/ConstantDesc" (some 0) with
  accessFlags := 1537
  interfaces := #[]
  cf := some (fileOf pool8 1 #[] #[] 1537 3 #[] #[])
  fields := #[]
  methods := #[]
  instanceTypes := #[]
  staticTypes := #[]
  resolved := Array.replicate 37 none
  statics := none }

def pool9 : Array CpInfo := pool [(1, .class_ 2), (0, u "java/lang/Double"), (10, u "isFinite"), (0, u "(D)Z"), (8, .class_ 25), (1, u "java/lang/Math"), (12, .methodref 23 39), (0, .nameAndType 40 41), (0, u "abs"), (0, u "(D)D"), (4, .methodref 1 47), (0, .nameAndType 48 49), (0, u "doubleToLongBits"), (0, u "(D)J"), (61, .double 9218868437227405311), (2, .class_ 116), (1, u "java/lang/Number"), (3, u "value"), (0, u "D"), (0, .methodref 1 123), (0, .nameAndType 124 14), (0, u "isNaN"), (2, u "isInfinite"), (6, .methodref 1 135), (0, .nameAndType 136 49), (0, u "doubleToRawLongBits"), (4, u "compare"), (0, u "(DD)I"), (30, u "TYPE"), (0, u "Ljava/lang/Class;"), (0, .class_ 176), (0, u "java/lang/Comparable"), (0, .class_ 178), (0, u "java/lang/constant/Constable"), (0, .class_ 180), (0, u "java/lang/constant/ConstantDesc"), (0, u "POSITIVE_INFINITY"), (3, u "NEGATIVE_INFINITY"), (2, u "NaN"), (2, u "MAX_VALUE"), (0, u "MIN_NORMAL"), (0, u "MIN_VALUE"), (2, u "SIZE"), (0, u "I"), (1, u "PRECISION"), (1, u "MAX_EXPONENT"), (1, u "MIN_EXPONENT"), (1, u "BYTES"), (3, u "serialVersionUID"), (0, u "J"), (48, u "longBitsToDouble"), (0, u "(J)D")] 29

def k9c0 : Code := { maxStack := 4, maxLocals := 2, code := jdk_117_method_6_code, exceptionTable := #[], attributes := #[] }
def k9m0 : Method := { name := "isNaN", desc := "(D)Z", sig := { parameters := [.double], returnType := some .boolean }, accessFlags := 9, code := some k9c0 }
def k9c1 : Code := { maxStack := 4, maxLocals := 2, code := jdk_117_method_7_code, exceptionTable := #[], attributes := #[] }
def k9m1 : Method := { name := "isInfinite", desc := "(D)Z", sig := { parameters := [.double], returnType := some .boolean }, accessFlags := 9, code := some k9c1 }
def k9c2 : Code := { maxStack := 4, maxLocals := 2, code := jdk_117_method_8_code, exceptionTable := #[], attributes := #[] }
def k9m2 : Method := { name := "isFinite", desc := "(D)Z", sig := { parameters := [.double], returnType := some .boolean }, accessFlags := 9, code := some k9c2 }
def k9c3 : Code := { maxStack := 2, maxLocals := 2, code := jdk_117_method_23_code, exceptionTable := #[], attributes := #[] }
def k9m3 : Method := { name := "doubleToLongBits", desc := "(D)J", sig := { parameters := [.double], returnType := some .long }, accessFlags := 9, code := some k9c3 }
def k9m4 : Method := { name := "doubleToRawLongBits", desc := "(D)J", sig := { parameters := [.double], returnType := some .long }, accessFlags := 265, code := none }
def k9m5 : Method := { name := "longBitsToDouble", desc := "(J)D", sig := { parameters := [.long], returnType := some .double }, accessFlags := 265, code := none }
def k9c6 : Code := { maxStack := 4, maxLocals := 8, code := jdk_117_method_27_code, exceptionTable := #[], attributes := #[] }
def k9m6 : Method := { name := "compare", desc := "(DD)I", sig := { parameters := [.double, .double], returnType := some .int }, accessFlags := 9, code := some k9c6 }
/-- java/lang/Double -/
def k9 : Class := { plain "java/lang/Double" (some 5) with
  accessFlags := 49
  interfaces := #[6, 7, 8]
  cf := some (fileOf pool9 1 #[] #[{ accessFlags := 9, nameIndex := 124, descriptorIndex := 14, attributes := #[] }, { accessFlags := 9, nameIndex := 127, descriptorIndex := 14, attributes := #[] }, { accessFlags := 9, nameIndex := 13, descriptorIndex := 14, attributes := #[] }, { accessFlags := 9, nameIndex := 48, descriptorIndex := 49, attributes := #[] }, { accessFlags := 265, nameIndex := 136, descriptorIndex := 49, attributes := #[] }, { accessFlags := 265, nameIndex := 259, descriptorIndex := 260, attributes := #[] }, { accessFlags := 9, nameIndex := 141, descriptorIndex := 142, attributes := #[] }] 49 114 #[175, 177, 179] #[{ accessFlags := 25, nameIndex := 181, descriptorIndex := 121, attributes := #[] }, { accessFlags := 25, nameIndex := 185, descriptorIndex := 121, attributes := #[] }, { accessFlags := 25, nameIndex := 188, descriptorIndex := 121, attributes := #[] }, { accessFlags := 25, nameIndex := 191, descriptorIndex := 121, attributes := #[] }, { accessFlags := 25, nameIndex := 192, descriptorIndex := 121, attributes := #[] }, { accessFlags := 25, nameIndex := 193, descriptorIndex := 121, attributes := #[] }, { accessFlags := 25, nameIndex := 196, descriptorIndex := 197, attributes := #[] }, { accessFlags := 25, nameIndex := 199, descriptorIndex := 197, attributes := #[] }, { accessFlags := 25, nameIndex := 201, descriptorIndex := 197, attributes := #[] }, { accessFlags := 25, nameIndex := 203, descriptorIndex := 197, attributes := #[] }, { accessFlags := 25, nameIndex := 205, descriptorIndex := 197, attributes := #[] }, { accessFlags := 25, nameIndex := 173, descriptorIndex := 174, attributes := #[] }, { accessFlags := 18, nameIndex := 120, descriptorIndex := 121, attributes := #[] }, { accessFlags := 26, nameIndex := 209, descriptorIndex := 210, attributes := #[] }])
  fields := #[{ name := "POSITIVE_INFINITY", type := .double, accessFlags := 25, slot := 0, constantValue := 0 }, { name := "NEGATIVE_INFINITY", type := .double, accessFlags := 25, slot := 1, constantValue := 0 }, { name := "NaN", type := .double, accessFlags := 25, slot := 2, constantValue := 0 }, { name := "MAX_VALUE", type := .double, accessFlags := 25, slot := 3, constantValue := 0 }, { name := "MIN_NORMAL", type := .double, accessFlags := 25, slot := 4, constantValue := 0 }, { name := "MIN_VALUE", type := .double, accessFlags := 25, slot := 5, constantValue := 0 }, { name := "SIZE", type := .int, accessFlags := 25, slot := 6, constantValue := 0 }, { name := "PRECISION", type := .int, accessFlags := 25, slot := 7, constantValue := 0 }, { name := "MAX_EXPONENT", type := .int, accessFlags := 25, slot := 8, constantValue := 0 }, { name := "MIN_EXPONENT", type := .int, accessFlags := 25, slot := 9, constantValue := 0 }, { name := "BYTES", type := .int, accessFlags := 25, slot := 10, constantValue := 0 }, { name := "TYPE", type := (.object "java/lang/Class"), accessFlags := 25, slot := 11, constantValue := 0 }, { name := "value", type := .double, accessFlags := 18, slot := 0, constantValue := 0 }, { name := "serialVersionUID", type := .long, accessFlags := 26, slot := 12, constantValue := 0 }]
  methods := #[k9m0, k9m1, k9m2, k9m3, k9m4, k9m5, k9m6]
  instanceTypes := #[.double]
  staticTypes := #[.double, .double, .double, .double, .double, .double, .int, .int, .int, .int, .int, (.object "java/lang/Class"), .long]
  resolved := Array.replicate 290 none
  statics := none }

def pool10 : Array CpInfo := pool [(1, .class_ 2), (0, u "java/lang/Math"), (1, .class_ 6), (1, u "java/lang/Object"), (0, u "<init>"), (0, u "()V"), (5, u "(D)D"), (37, u "(DD)D"), (26, .methodref 80 81), (0, .class_ 82), (0, .nameAndType 83 84), (0, u "java/lang/Double"), (0, u "doubleToRawLongBits"), (0, u "(D)J"), (13, .class_ 100), (1, u "java/lang/Math$RandomNumberGeneratorHolder"), (23, u "abs"), (5, .long 18446744073709551615), (35, .methodref 80 167), (0, .nameAndType 168 169), (0, u "longBitsToDouble"), (0, u "(J)D"), (2, u "negativeZeroFloatBits"), (0, u "J"), (2, u "negativeZeroDoubleBits"), (24, u "min"), (3, .methodref 80 206), (0, .nameAndType 207 208), (0, u "isNaN"), (0, u "(D)Z"), (36, u "$assertionsDisabled"), (0, u "Z"), (80, .double 9218868437227405312), (2, .double 18442240474082181120), (7, u "twoToTheDoubleScaleDown"), (0, u "D"), (4, u "twoToTheDoubleScaleUp"), (9, u "E"), (3, u "PI"), (2, u "TAU"), (2, u "DEGREES_TO_RADIANS"), (0, u "RADIANS_TO_DEGREES"), (77, u "nextUp"), (0, u "nextDown")] 15

def k10m0 : Method := { name := "<init>", desc := "()V", sig := { parameters := [], returnType := none }, accessFlags := 2, code := none }
def k10c1 : Code := { maxStack := 4, maxLocals := 2, code := jdk_29_method_64_code, exceptionTable := #[], attributes := #[] }
def k10m1 : Method := { name := "abs", desc := "(D)D", sig := { parameters := [.double], returnType := some .double }, accessFlags := 9, code := some k10c1 }
def k10c2 : Code := { maxStack := 4, maxLocals := 4, code := jdk_29_method_72_code, exceptionTable := #[], attributes := #[] }
def k10m2 : Method := { name := "min", desc := "(DD)D", sig := { parameters := [.double, .double], returnType := some .double }, accessFlags := 9, code := some k10c2 }
def k10c3 : Code := { maxStack := 6, maxLocals := 4, code := jdk_29_method_95_code, exceptionTable := #[], attributes := #[] }
def k10m3 : Method := { name := "nextUp", desc := "(D)D", sig := { parameters := [.double], returnType := some .double }, accessFlags := 9, code := some k10c3 }
def k10c4 : Code := { maxStack := 6, maxLocals := 2, code := jdk_29_method_97_code, exceptionTable := #[], attributes := #[] }
def k10m4 : Method := { name := "nextDown", desc := "(D)D", sig := { parameters := [.double], returnType := some .double }, accessFlags := 9, code := some k10c4 }
/-- java/lang/Math -/
def k10 : Class := { plain "java/lang/Math" (some 0) with
  accessFlags := 49
  interfaces := #[]
  cf := some (fileOf pool10 1 #[.nestMembers #[98]] #[{ accessFlags := 2, nameIndex := 7, descriptorIndex := 8, attributes := #[] }, { accessFlags := 9, nameIndex := 124, descriptorIndex := 14, attributes := #[] }, { accessFlags := 9, nameIndex := 201, descriptorIndex := 52, attributes := #[] }, { accessFlags := 9, nameIndex := 443, descriptorIndex := 14, attributes := #[] }, { accessFlags := 9, nameIndex := 444, descriptorIndex := 14, attributes := #[] }] 49 4 #[] #[{ accessFlags := 25, nameIndex := 354, descriptorIndex := 339, attributes := #[] }, { accessFlags := 25, nameIndex := 358, descriptorIndex := 339, attributes := #[] }, { accessFlags := 25, nameIndex := 361, descriptorIndex := 339, attributes := #[] }, { accessFlags := 26, nameIndex := 364, descriptorIndex := 339, attributes := #[] }, { accessFlags := 26, nameIndex := 365, descriptorIndex := 339, attributes := #[] }, { accessFlags := 26, nameIndex := 172, descriptorIndex := 173, attributes := #[] }, { accessFlags := 26, nameIndex := 176, descriptorIndex := 173, attributes := #[] }, { accessFlags := 8, nameIndex := 344, descriptorIndex := 339, attributes := #[] }, { accessFlags := 8, nameIndex := 338, descriptorIndex := 339, attributes := #[] }, { accessFlags := 4120, nameIndex := 245, descriptorIndex := 246, attributes := #[] }])
  fields := #[{ name := "E", type := .double, accessFlags := 25, slot := 0, constantValue := 0 }, { name := "PI", type := .double, accessFlags := 25, slot := 1, constantValue := 0 }, { name := "TAU", type := .double, accessFlags := 25, slot := 2, constantValue := 0 }, { name := "DEGREES_TO_RADIANS", type := .double, accessFlags := 26, slot := 3, constantValue := 0 }, { name := "RADIANS_TO_DEGREES", type := .double, accessFlags := 26, slot := 4, constantValue := 0 }, { name := "negativeZeroFloatBits", type := .long, accessFlags := 26, slot := 5, constantValue := 0 }, { name := "negativeZeroDoubleBits", type := .long, accessFlags := 26, slot := 6, constantValue := 0 }, { name := "twoToTheDoubleScaleUp", type := .double, accessFlags := 8, slot := 7, constantValue := 0 }, { name := "twoToTheDoubleScaleDown", type := .double, accessFlags := 8, slot := 8, constantValue := 0 }, { name := "$assertionsDisabled", type := .boolean, accessFlags := 4120, slot := 9, constantValue := 0 }]
  methods := #[k10m0, k10m1, k10m2, k10m3, k10m4]
  instanceTypes := #[]
  staticTypes := #[.double, .double, .double, .double, .double, .long, .long, .double, .double, .boolean]
  resolved := Array.replicate 460 none
  statics := none }

def pool11 : Array CpInfo := pool [(1, u "java/lang/Cloneable"), (0, .class_ 1), (0, u "java/lang/Object"), (0, .class_ 3)] 3

/-- java/lang/Cloneable -/
def k11 : Class := { plain "java/lang/Cloneable" (some 0) with
  accessFlags := 1537
  interfaces := #[]
  cf := some (fileOf pool11 2 #[] #[] 1537 4 #[] #[])
  fields := #[]
  methods := #[]
  instanceTypes := #[]
  staticTypes := #[]
  resolved := Array.replicate 8 none
  statics := none }

/-- the primitive boolean -/
def k12 : Class := { plain "boolean" none with kind := .primitive 'Z', accessFlags := 0x411 }
/-- [Z -/
def k13 : Class := { plain "[Z" (some 0) with kind := .array 12 .boolean, interfaces := #[11, 4], accessFlags := 1041 }

/-- the primitive byte -/
def k14 : Class := { plain "byte" none with kind := .primitive 'B', accessFlags := 0x411 }
/-- [B -/
def k15 : Class := { plain "[B" (some 0) with kind := .array 14 .byte, interfaces := #[11, 4], accessFlags := 1041 }

/-- the primitive double -/
def k16 : Class := { plain "double" none with kind := .primitive 'D', accessFlags := 0x411 }
/-- [D -/
def k17 : Class := { plain "[D" (some 0) with kind := .array 16 .double, interfaces := #[11, 4], accessFlags := 1041 }

/-- the primitive int -/
def k18 : Class := { plain "int" none with kind := .primitive 'I', accessFlags := 0x411 }
/-- [I -/
def k19 : Class := { plain "[I" (some 0) with kind := .array 18 .int, interfaces := #[11, 4], accessFlags := 1041 }

def heap : Heap := #[]
def classes : Array Class := #[k0, k1, k2, k3, k4, k5, k6, k7, k8, k9, k10, k11, k12, k13, k14, k15, k16, k17, k18, k19]
def interned : List (Array UInt16 × Addr) := []
def slotsUsed : Nat := 0
def theMethod : MethodId := ⟨1, 2⟩
def args0 : Array Value := #[.int 1, .int 1, .int 1, .int 1, .int 1, .int 1]
def aboutOver (below : List Frame) : State where
  vm := { classes := classes, interned := interned.toArray }
  heap := heap
  slotsUsed := slotsUsed
  threads := #[{ frames := .invoking theMethod args0 :: below }]
def below0 : List Frame := [.native { method := ⟨0, 0⟩, args := #[] }]
def about1 : State := aboutOver below0
def p0 : Program := .bare "" "" ""
def e0 : Env := launch0.env 0 0 0
theorem w_frames : about1.frames = Frame.invoking theMethod args0 :: below0 := rfl
set_option maxRecDepth 65536 in
theorem w_args : argsFit about1.vm theMethod args0 = true := by decide +kernel
set_option maxRecDepth 65536 in
theorem w_heap : heapFits about1 = true := by decide +kernel
set_option maxRecDepth 65536 in
theorem w_runnable : about1.curStatus? = some .runnable := by decide +kernel
set_option maxRecDepth 65536 in
theorem w_alone : about1.alone = true := by decide +kernel
set_option maxRecDepth 65536 in
theorem w_named : about1.methodNamed? x = some theMethod := by decide +kernel
set_option maxRecDepth 65536 in
theorem w_hears : about1.hears theMethod below0 = true := by decide +kernel
set_option maxRecDepth 65536 in
theorem w_ripe : about1.ripe theMethod args0 below0 = true := by decide +kernel
theorem w_running : about1.status = .running := rfl
set_option maxRecDepth 65536 in
theorem w_room : about1.hasRoom e0.platform room_1 = true :=
  launch0.hasRoom_least _ room_1 (by decide +kernel) (by decide +kernel) (by decide +kernel) (by decide +kernel) (by decide +kernel) (by decide +kernel)
theorem allAtoms_all (ts : List Jvm.Cond) (a : Array Jvm.Value) (st : Jvm.State) : (allAtoms ts).before a st = ts.all (fun c => c.before a st) := by
  induction ts with
  | nil => rfl
  | cons c t ih =>
    show (Jvm.Cond.and c (allAtoms t)).before a st = _
    rw [Jvm.Cond.before_and, ih, List.all_cons]
def words1 : List Jvm.Cond := Jvm.Cond.code x code maxLocals ret :: tables_1
/-- a 'code' word, met by the world's own term for the bytes: nothing is compared byte by byte -/
theorem code_word {y : MethodName} {bytes : ByteArray} {mx : Nat} {rt : Option FieldType} {a : Array Value} {s : State} {m : MethodId} {meth : Method} {c : Code} (h1 : s.methodNamed? y = some m) (h2 : s.vm.method? m = some meth) (h3 : meth.code = some c) (h4 : c.code = bytes)
    (h5 : (c.maxLocals == mx && c.exceptionTable.isEmpty && decide (c.maxStack ≤ mostOperands) && decide (meth.sig.returnType = rt) && !meth.locks && decide (parseMethodDescriptor y.desc = some meth.sig)) = true) : (Jvm.Cond.code y bytes mx rt).before a s = true := by
  simp only [Bool.and_eq_true, beq_iff_eq, Bool.not_eq_true', decide_eq_true_eq] at h5
  obtain ⟨⟨⟨⟨⟨g1, g2⟩, g3⟩, g4⟩, g5⟩, g6⟩ := h5
  simp [Cond.before, Cond.holds, Cond.value, h1, h2, h3, h4, g1, g2, g3, g4, g5, g6]
def isCode : Jvm.Cond → Bool
  | .code _ _ _ _ => true
  | _ => false
theorem all_split {L : List Jvm.Cond} {P : Jvm.Cond → Bool} (h1 : L.all (fun c => isCode c || P c) = true) (h2 : ∀ c ∈ L.filter isCode, P c = true) : L.all P = true := by
  refine List.all_eq_true.mpr fun c hc => ?_
  have h := List.all_eq_true.mp h1 c hc
  rcases Bool.eq_false_or_eq_true (isCode c) with hi | hi
  · exact h2 c (List.mem_filter.mpr ⟨hc, hi⟩)
  · simpa [hi] using h
set_option maxRecDepth 65536 in
theorem w_c0 : (Jvm.Cond.code x code maxLocals ret).before args0 about1 = true := code_word (m := ⟨1, 2⟩) (meth := k1m2) (c := k1c2) (by decide +kernel) rfl rfl rfl (by decide +kernel)
set_option maxRecDepth 65536 in
theorem w_c1 : (Jvm.Cond.code ({ cls := "com/example/narrow_bounds/narrowbounds/Share", name := "<init>", desc := "([D[DZZ)V" } : Jvm.MethodName) prog_45_method_1_code (5 : Nat) (Option.none : Option Jvm.ClassFile.FieldType)).before args0 about1 = true := code_word (m := ⟨2, 0⟩) (meth := k2m0) (c := k2c0) (by decide +kernel) rfl rfl rfl (by decide +kernel)
set_option maxRecDepth 65536 in
theorem w_c2 : (Jvm.Cond.code ({ cls := "java/lang/Object", name := "<init>", desc := "()V" } : Jvm.MethodName) object_method_1_code (1 : Nat) (Option.none : Option Jvm.ClassFile.FieldType)).before args0 about1 = true := code_word (m := ⟨0, 0⟩) (meth := k0m0) (c := k0c0) (by decide +kernel) rfl rfl rfl (by decide +kernel)
set_option maxRecDepth 65536 in
theorem w_c3 : (Jvm.Cond.code ({ cls := "com/example/narrow_bounds/narrowbounds/Share", name := "addParts", desc := "(IDD)V" } : Jvm.MethodName) prog_45_method_3_code (6 : Nat) (Option.none : Option Jvm.ClassFile.FieldType)).before args0 about1 = true := code_word (m := ⟨2, 1⟩) (meth := k2m1) (c := k2c1) (by decide +kernel) rfl rfl rfl (by decide +kernel)
set_option maxRecDepth 65536 in
theorem w_c4 : (Jvm.Cond.code ({ cls := "com/example/narrow_bounds/narrowbounds/DirectedRounding", name := "add", desc := "(DDZ)D" } : Jvm.MethodName) prog_13_method_10_code (5 : Nat) (Option.some Jvm.ClassFile.FieldType.double)).before args0 about1 = true := code_word (m := ⟨3, 7⟩) (meth := k3m7) (c := k3c7) (by decide +kernel) rfl rfl rfl (by decide +kernel)
set_option maxRecDepth 65536 in
theorem w_c5 : (Jvm.Cond.code ({ cls := "com/example/narrow_bounds/narrowbounds/DirectedRounding", name := "addDown", desc := "(DD)D" } : Jvm.MethodName) prog_13_method_2_code (4 : Nat) (Option.some Jvm.ClassFile.FieldType.double)).before args0 about1 = true := code_word (m := ⟨3, 1⟩) (meth := k3m1) (c := k3c1) (by decide +kernel) rfl rfl rfl (by decide +kernel)
set_option maxRecDepth 65536 in
theorem w_c6 : (Jvm.Cond.code ({ cls := "com/example/narrow_bounds/narrowbounds/DirectedRounding", name := "addUp", desc := "(DD)D" } : Jvm.MethodName) prog_13_method_3_code (4 : Nat) (Option.some Jvm.ClassFile.FieldType.double)).before args0 about1 = true := code_word (m := ⟨3, 2⟩) (meth := k3m2) (c := k3c2) (by decide +kernel) rfl rfl rfl (by decide +kernel)
set_option maxRecDepth 65536 in
theorem w_c7 : (Jvm.Cond.code ({ cls := "com/example/narrow_bounds/narrowbounds/ShareValueAtExtremePinLaw", name := "addPart", desc := "(Lcom/example/narrow_bounds/narrowbounds/Share;IZD)V" } : Jvm.MethodName) method_2_code (5 : Nat) (Option.none : Option Jvm.ClassFile.FieldType)).before args0 about1 = true := code_word (m := ⟨1, 1⟩) (meth := k1m1) (c := k1c1) (by decide +kernel) rfl rfl rfl (by decide +kernel)
set_option maxRecDepth 65536 in
theorem w_c8 : (Jvm.Cond.code ({ cls := "com/example/narrow_bounds/narrowbounds/Share", name := "extreme", desc := "()D" } : Jvm.MethodName) prog_45_method_4_code (15 : Nat) (Option.some Jvm.ClassFile.FieldType.double)).before args0 about1 = true := code_word (m := ⟨2, 2⟩) (meth := k2m2) (c := k2c2) (by decide +kernel) rfl rfl rfl (by decide +kernel)
set_option maxRecDepth 65536 in
theorem w_c9 : (Jvm.Cond.code ({ cls := "com/example/narrow_bounds/narrowbounds/Share", name := "sortRanges", desc := "()V" } : Jvm.MethodName) prog_45_method_8_code (4 : Nat) (Option.none : Option Jvm.ClassFile.FieldType)).before args0 about1 = true := code_word (m := ⟨2, 6⟩) (meth := k2m6) (c := k2c6) (by decide +kernel) rfl rfl rfl (by decide +kernel)
set_option maxRecDepth 65536 in
theorem w_c10 : (Jvm.Cond.code ({ cls := "com/example/narrow_bounds/narrowbounds/Share", name := "comesBefore", desc := "(II)Z" } : Jvm.MethodName) prog_45_method_9_code (4 : Nat) (Option.some Jvm.ClassFile.FieldType.boolean)).before args0 about1 = true := code_word (m := ⟨2, 7⟩) (meth := k2m7) (c := k2c7) (by decide +kernel) rfl rfl rfl (by decide +kernel)
set_option maxRecDepth 65536 in
theorem w_c11 : (Jvm.Cond.code ({ cls := "com/example/narrow_bounds/narrowbounds/Share", name := "compareRatios", desc := "(DDDD)I" } : Jvm.MethodName) prog_45_method_10_code (14 : Nat) (Option.some Jvm.ClassFile.FieldType.int)).before args0 about1 = true := code_word (m := ⟨2, 8⟩) (meth := k2m8) (c := k2c8) (by decide +kernel) rfl rfl rfl (by decide +kernel)
set_option maxRecDepth 65536 in
theorem w_c12 : (Jvm.Cond.code ({ cls := "java/lang/Double", name := "compare", desc := "(DD)I" } : Jvm.MethodName) jdk_117_method_27_code (8 : Nat) (Option.some Jvm.ClassFile.FieldType.int)).before args0 about1 = true := code_word (m := ⟨9, 6⟩) (meth := k9m6) (c := k9c6) (by decide +kernel) rfl rfl rfl (by decide +kernel)
set_option maxRecDepth 65536 in
theorem w_c13 : (Jvm.Cond.code ({ cls := "java/lang/Double", name := "doubleToLongBits", desc := "(D)J" } : Jvm.MethodName) jdk_117_method_23_code (2 : Nat) (Option.some Jvm.ClassFile.FieldType.long)).before args0 about1 = true := code_word (m := ⟨9, 3⟩) (meth := k9m3) (c := k9c3) (by decide +kernel) rfl rfl rfl (by decide +kernel)
set_option maxRecDepth 65536 in
theorem w_c14 : (Jvm.Cond.code ({ cls := "java/lang/Double", name := "isNaN", desc := "(D)Z" } : Jvm.MethodName) jdk_117_method_6_code (2 : Nat) (Option.some Jvm.ClassFile.FieldType.boolean)).before args0 about1 = true := code_word (m := ⟨9, 0⟩) (meth := k9m0) (c := k9c0) (by decide +kernel) rfl rfl rfl (by decide +kernel)
set_option maxRecDepth 65536 in
theorem w_c15 : (Jvm.Cond.code ({ cls := "java/lang/Double", name := "isFinite", desc := "(D)Z" } : Jvm.MethodName) jdk_117_method_8_code (2 : Nat) (Option.some Jvm.ClassFile.FieldType.boolean)).before args0 about1 = true := code_word (m := ⟨9, 2⟩) (meth := k9m2) (c := k9c2) (by decide +kernel) rfl rfl rfl (by decide +kernel)
set_option maxRecDepth 65536 in
theorem w_c16 : (Jvm.Cond.code ({ cls := "java/lang/Math", name := "abs", desc := "(D)D" } : Jvm.MethodName) jdk_29_method_64_code (2 : Nat) (Option.some Jvm.ClassFile.FieldType.double)).before args0 about1 = true := code_word (m := ⟨10, 1⟩) (meth := k10m1) (c := k10c1) (by decide +kernel) rfl rfl rfl (by decide +kernel)
set_option maxRecDepth 65536 in
theorem w_c17 : (Jvm.Cond.code ({ cls := "com/example/narrow_bounds/narrowbounds/DirectedRounding", name := "multiply", desc := "(DDZ)D" } : Jvm.MethodName) prog_13_method_13_code (5 : Nat) (Option.some Jvm.ClassFile.FieldType.double)).before args0 about1 = true := code_word (m := ⟨3, 8⟩) (meth := k3m8) (c := k3c8) (by decide +kernel) rfl rfl rfl (by decide +kernel)
set_option maxRecDepth 65536 in
theorem w_c18 : (Jvm.Cond.code ({ cls := "com/example/narrow_bounds/narrowbounds/DirectedRounding", name := "multiplyDown", desc := "(DD)D" } : Jvm.MethodName) prog_13_method_6_code (8 : Nat) (Option.some Jvm.ClassFile.FieldType.double)).before args0 about1 = true := code_word (m := ⟨3, 3⟩) (meth := k3m3) (c := k3c3) (by decide +kernel) rfl rfl rfl (by decide +kernel)
set_option maxRecDepth 65536 in
theorem w_c19 : (Jvm.Cond.code ({ cls := "com/example/narrow_bounds/narrowbounds/DirectedRounding", name := "multiplyUp", desc := "(DD)D" } : Jvm.MethodName) prog_13_method_7_code (4 : Nat) (Option.some Jvm.ClassFile.FieldType.double)).before args0 about1 = true := code_word (m := ⟨3, 4⟩) (meth := k3m4) (c := k3c4) (by decide +kernel) rfl rfl rfl (by decide +kernel)
set_option maxRecDepth 65536 in
theorem w_c20 : (Jvm.Cond.code ({ cls := "java/lang/Math", name := "nextUp", desc := "(D)D" } : Jvm.MethodName) jdk_29_method_95_code (4 : Nat) (Option.some Jvm.ClassFile.FieldType.double)).before args0 about1 = true := code_word (m := ⟨10, 3⟩) (meth := k10m3) (c := k10c3) (by decide +kernel) rfl rfl rfl (by decide +kernel)
set_option maxRecDepth 65536 in
theorem w_c21 : (Jvm.Cond.code ({ cls := "com/example/narrow_bounds/narrowbounds/Share", name := "leastShare", desc := "(DD)D" } : Jvm.MethodName) prog_45_method_6_code (4 : Nat) (Option.some Jvm.ClassFile.FieldType.double)).before args0 about1 = true := code_word (m := ⟨2, 4⟩) (meth := k2m4) (c := k2c4) (by decide +kernel) rfl rfl rfl (by decide +kernel)
set_option maxRecDepth 65536 in
theorem w_c22 : (Jvm.Cond.code ({ cls := "com/example/narrow_bounds/narrowbounds/DirectedRounding", name := "divideDown", desc := "(DD)D" } : Jvm.MethodName) prog_13_method_8_code (6 : Nat) (Option.some Jvm.ClassFile.FieldType.double)).before args0 about1 = true := code_word (m := ⟨3, 5⟩) (meth := k3m5) (c := k3c5) (by decide +kernel) rfl rfl rfl (by decide +kernel)
set_option maxRecDepth 65536 in
theorem w_c23 : (Jvm.Cond.code ({ cls := "java/lang/Math", name := "nextDown", desc := "(D)D" } : Jvm.MethodName) jdk_29_method_97_code (2 : Nat) (Option.some Jvm.ClassFile.FieldType.double)).before args0 about1 = true := code_word (m := ⟨10, 4⟩) (meth := k10m4) (c := k10c4) (by decide +kernel) rfl rfl rfl (by decide +kernel)
set_option maxRecDepth 65536 in
theorem w_c24 : (Jvm.Cond.code ({ cls := "com/example/narrow_bounds/narrowbounds/Share", name := "valueAtExtreme", desc := "(I)D" } : Jvm.MethodName) prog_45_method_5_code (4 : Nat) (Option.some Jvm.ClassFile.FieldType.double)).before args0 about1 = true := code_word (m := ⟨2, 3⟩) (meth := k2m3) (c := k2c3) (by decide +kernel) rfl rfl rfl (by decide +kernel)
set_option maxRecDepth 65536 in
theorem w_c25 : (Jvm.Cond.code ({ cls := "com/example/narrow_bounds/narrowbounds/Share", name := "greatestShare", desc := "(DD)D" } : Jvm.MethodName) prog_45_method_7_code (6 : Nat) (Option.some Jvm.ClassFile.FieldType.double)).before args0 about1 = true := code_word (m := ⟨2, 5⟩) (meth := k2m5) (c := k2c5) (by decide +kernel) rfl rfl rfl (by decide +kernel)
set_option maxRecDepth 65536 in
theorem w_c26 : (Jvm.Cond.code ({ cls := "java/lang/Double", name := "isInfinite", desc := "(D)Z" } : Jvm.MethodName) jdk_117_method_7_code (2 : Nat) (Option.some Jvm.ClassFile.FieldType.boolean)).before args0 about1 = true := code_word (m := ⟨9, 1⟩) (meth := k9m1) (c := k9c1) (by decide +kernel) rfl rfl rfl (by decide +kernel)
set_option maxRecDepth 65536 in
theorem w_c27 : (Jvm.Cond.code ({ cls := "com/example/narrow_bounds/narrowbounds/DirectedRounding", name := "divideUp", desc := "(DD)D" } : Jvm.MethodName) prog_13_method_9_code (4 : Nat) (Option.some Jvm.ClassFile.FieldType.double)).before args0 about1 = true := code_word (m := ⟨3, 6⟩) (meth := k3m6) (c := k3c6) (by decide +kernel) rfl rfl rfl (by decide +kernel)
set_option maxRecDepth 65536 in
theorem w_c28 : (Jvm.Cond.code ({ cls := "java/lang/Math", name := "min", desc := "(DD)D" } : Jvm.MethodName) jdk_29_method_72_code (4 : Nat) (Option.some Jvm.ClassFile.FieldType.double)).before args0 about1 = true := code_word (m := ⟨10, 2⟩) (meth := k10m2) (c := k10c2) (by decide +kernel) rfl rfl rfl (by decide +kernel)
def codes1 : List Jvm.Cond := [Jvm.Cond.code x code maxLocals ret, Jvm.Cond.code ({ cls := "com/example/narrow_bounds/narrowbounds/Share", name := "<init>", desc := "([D[DZZ)V" } : Jvm.MethodName) prog_45_method_1_code (5 : Nat) (Option.none : Option Jvm.ClassFile.FieldType), Jvm.Cond.code ({ cls := "java/lang/Object", name := "<init>", desc := "()V" } : Jvm.MethodName) object_method_1_code (1 : Nat) (Option.none : Option Jvm.ClassFile.FieldType), Jvm.Cond.code ({ cls := "com/example/narrow_bounds/narrowbounds/Share", name := "addParts", desc := "(IDD)V" } : Jvm.MethodName) prog_45_method_3_code (6 : Nat) (Option.none : Option Jvm.ClassFile.FieldType), Jvm.Cond.code ({ cls := "com/example/narrow_bounds/narrowbounds/DirectedRounding", name := "add", desc := "(DDZ)D" } : Jvm.MethodName) prog_13_method_10_code (5 : Nat) (Option.some Jvm.ClassFile.FieldType.double), Jvm.Cond.code ({ cls := "com/example/narrow_bounds/narrowbounds/DirectedRounding", name := "addDown", desc := "(DD)D" } : Jvm.MethodName) prog_13_method_2_code (4 : Nat) (Option.some Jvm.ClassFile.FieldType.double), Jvm.Cond.code ({ cls := "com/example/narrow_bounds/narrowbounds/DirectedRounding", name := "addUp", desc := "(DD)D" } : Jvm.MethodName) prog_13_method_3_code (4 : Nat) (Option.some Jvm.ClassFile.FieldType.double), Jvm.Cond.code ({ cls := "com/example/narrow_bounds/narrowbounds/ShareValueAtExtremePinLaw", name := "addPart", desc := "(Lcom/example/narrow_bounds/narrowbounds/Share;IZD)V" } : Jvm.MethodName) method_2_code (5 : Nat) (Option.none : Option Jvm.ClassFile.FieldType), Jvm.Cond.code ({ cls := "com/example/narrow_bounds/narrowbounds/Share", name := "extreme", desc := "()D" } : Jvm.MethodName) prog_45_method_4_code (15 : Nat) (Option.some Jvm.ClassFile.FieldType.double), Jvm.Cond.code ({ cls := "com/example/narrow_bounds/narrowbounds/Share", name := "sortRanges", desc := "()V" } : Jvm.MethodName) prog_45_method_8_code (4 : Nat) (Option.none : Option Jvm.ClassFile.FieldType), Jvm.Cond.code ({ cls := "com/example/narrow_bounds/narrowbounds/Share", name := "comesBefore", desc := "(II)Z" } : Jvm.MethodName) prog_45_method_9_code (4 : Nat) (Option.some Jvm.ClassFile.FieldType.boolean), Jvm.Cond.code ({ cls := "com/example/narrow_bounds/narrowbounds/Share", name := "compareRatios", desc := "(DDDD)I" } : Jvm.MethodName) prog_45_method_10_code (14 : Nat) (Option.some Jvm.ClassFile.FieldType.int), Jvm.Cond.code ({ cls := "java/lang/Double", name := "compare", desc := "(DD)I" } : Jvm.MethodName) jdk_117_method_27_code (8 : Nat) (Option.some Jvm.ClassFile.FieldType.int), Jvm.Cond.code ({ cls := "java/lang/Double", name := "doubleToLongBits", desc := "(D)J" } : Jvm.MethodName) jdk_117_method_23_code (2 : Nat) (Option.some Jvm.ClassFile.FieldType.long), Jvm.Cond.code ({ cls := "java/lang/Double", name := "isNaN", desc := "(D)Z" } : Jvm.MethodName) jdk_117_method_6_code (2 : Nat) (Option.some Jvm.ClassFile.FieldType.boolean), Jvm.Cond.code ({ cls := "java/lang/Double", name := "isFinite", desc := "(D)Z" } : Jvm.MethodName) jdk_117_method_8_code (2 : Nat) (Option.some Jvm.ClassFile.FieldType.boolean), Jvm.Cond.code ({ cls := "java/lang/Math", name := "abs", desc := "(D)D" } : Jvm.MethodName) jdk_29_method_64_code (2 : Nat) (Option.some Jvm.ClassFile.FieldType.double), Jvm.Cond.code ({ cls := "com/example/narrow_bounds/narrowbounds/DirectedRounding", name := "multiply", desc := "(DDZ)D" } : Jvm.MethodName) prog_13_method_13_code (5 : Nat) (Option.some Jvm.ClassFile.FieldType.double), Jvm.Cond.code ({ cls := "com/example/narrow_bounds/narrowbounds/DirectedRounding", name := "multiplyDown", desc := "(DD)D" } : Jvm.MethodName) prog_13_method_6_code (8 : Nat) (Option.some Jvm.ClassFile.FieldType.double), Jvm.Cond.code ({ cls := "com/example/narrow_bounds/narrowbounds/DirectedRounding", name := "multiplyUp", desc := "(DD)D" } : Jvm.MethodName) prog_13_method_7_code (4 : Nat) (Option.some Jvm.ClassFile.FieldType.double), Jvm.Cond.code ({ cls := "java/lang/Math", name := "nextUp", desc := "(D)D" } : Jvm.MethodName) jdk_29_method_95_code (4 : Nat) (Option.some Jvm.ClassFile.FieldType.double), Jvm.Cond.code ({ cls := "com/example/narrow_bounds/narrowbounds/Share", name := "leastShare", desc := "(DD)D" } : Jvm.MethodName) prog_45_method_6_code (4 : Nat) (Option.some Jvm.ClassFile.FieldType.double), Jvm.Cond.code ({ cls := "com/example/narrow_bounds/narrowbounds/DirectedRounding", name := "divideDown", desc := "(DD)D" } : Jvm.MethodName) prog_13_method_8_code (6 : Nat) (Option.some Jvm.ClassFile.FieldType.double), Jvm.Cond.code ({ cls := "java/lang/Math", name := "nextDown", desc := "(D)D" } : Jvm.MethodName) jdk_29_method_97_code (2 : Nat) (Option.some Jvm.ClassFile.FieldType.double), Jvm.Cond.code ({ cls := "com/example/narrow_bounds/narrowbounds/Share", name := "valueAtExtreme", desc := "(I)D" } : Jvm.MethodName) prog_45_method_5_code (4 : Nat) (Option.some Jvm.ClassFile.FieldType.double), Jvm.Cond.code ({ cls := "com/example/narrow_bounds/narrowbounds/Share", name := "greatestShare", desc := "(DD)D" } : Jvm.MethodName) prog_45_method_7_code (6 : Nat) (Option.some Jvm.ClassFile.FieldType.double), Jvm.Cond.code ({ cls := "java/lang/Double", name := "isInfinite", desc := "(D)Z" } : Jvm.MethodName) jdk_117_method_7_code (2 : Nat) (Option.some Jvm.ClassFile.FieldType.boolean), Jvm.Cond.code ({ cls := "com/example/narrow_bounds/narrowbounds/DirectedRounding", name := "divideUp", desc := "(DD)D" } : Jvm.MethodName) prog_13_method_9_code (4 : Nat) (Option.some Jvm.ClassFile.FieldType.double), Jvm.Cond.code ({ cls := "java/lang/Math", name := "min", desc := "(DD)D" } : Jvm.MethodName) jdk_29_method_72_code (4 : Nat) (Option.some Jvm.ClassFile.FieldType.double)]
set_option maxRecDepth 65536 in
theorem codes_eq : words1.filter isCode = codes1 := rfl
theorem w_codes : ∀ c ∈ words1.filter isCode, c.before args0 about1 = true := by
  rw [codes_eq]
  intro c hc
  simp only [codes1, List.mem_cons, List.not_mem_nil, or_false] at hc
  rcases hc with rfl | rfl | rfl | rfl | rfl | rfl | rfl | rfl | rfl | rfl | rfl | rfl | rfl | rfl | rfl | rfl | rfl | rfl | rfl | rfl | rfl | rfl | rfl | rfl | rfl | rfl | rfl | rfl | rfl
  · exact w_c0
  · exact w_c1
  · exact w_c2
  · exact w_c3
  · exact w_c4
  · exact w_c5
  · exact w_c6
  · exact w_c7
  · exact w_c8
  · exact w_c9
  · exact w_c10
  · exact w_c11
  · exact w_c12
  · exact w_c13
  · exact w_c14
  · exact w_c15
  · exact w_c16
  · exact w_c17
  · exact w_c18
  · exact w_c19
  · exact w_c20
  · exact w_c21
  · exact w_c22
  · exact w_c23
  · exact w_c24
  · exact w_c25
  · exact w_c26
  · exact w_c27
  · exact w_c28
set_option maxRecDepth 65536 in
theorem w_t1 : (words1.take 24).all (fun c => isCode c || c.before args0 about1) = true := by decide +kernel
set_option maxRecDepth 65536 in
theorem w_t2 : ((words1.drop 24).take 24).all (fun c => isCode c || c.before args0 about1) = true := by decide +kernel
set_option maxRecDepth 65536 in
theorem w_t3 : (((words1.drop 24).drop 24).take 24).all (fun c => isCode c || c.before args0 about1) = true := by decide +kernel
set_option maxRecDepth 65536 in
theorem w_t4 : ((((words1.drop 24).drop 24).drop 24).take 24).all (fun c => isCode c || c.before args0 about1) = true := by decide +kernel
set_option maxRecDepth 65536 in
theorem w_t5 : (((((words1.drop 24).drop 24).drop 24).drop 24).take 24).all (fun c => isCode c || c.before args0 about1) = true := by decide +kernel
set_option maxRecDepth 65536 in
theorem w_t6 : ((((((words1.drop 24).drop 24).drop 24).drop 24).drop 24).take 24).all (fun c => isCode c || c.before args0 about1) = true := by decide +kernel
set_option maxRecDepth 65536 in
theorem w_t7 : ((((((words1.drop 24).drop 24).drop 24).drop 24).drop 24).drop 24).all (fun c => isCode c || c.before args0 about1) = true := by decide +kernel
theorem w_tables : (allAtoms (Jvm.Cond.code x code maxLocals ret :: tables_1)).before args0 about1 = true := by
  rw [allAtoms_all]
  show words1.all (fun c => c.before args0 about1) = true
  refine all_split ?_ w_codes
  rw [← List.take_append_drop 24 words1, List.all_append, w_t1, ← List.take_append_drop 24 (words1.drop 24), List.all_append, w_t2, ← List.take_append_drop 24 ((words1.drop 24).drop 24), List.all_append, w_t3, ← List.take_append_drop 24 (((words1.drop 24).drop 24).drop 24), List.all_append, w_t4, ← List.take_append_drop 24 ((((words1.drop 24).drop 24).drop 24).drop 24), List.all_append, w_t5, ← List.take_append_drop 24 (((((words1.drop 24).drop 24).drop 24).drop 24).drop 24), List.all_append, w_t6, w_t7]
  rfl
set_option maxRecDepth 65536 in
theorem w_case : (Jvm.Cond.and given_1 narrow_1).before args0 about1 = true := by decide +kernel
theorem w_applies : (headSpec (Jvm.Cond.code x code maxLocals ret :: tables_1) room_1).applies x e0.platform about1 = true :=
  (Spec.applies_iff w_frames).mpr ⟨w_running, w_runnable, w_alone, w_named, w_hears, w_ripe, w_room, w_tables⟩
theorem atStart : AtStart classFile x code maxLocals ret World_1 tables_1 room_1 Calls_1 rest_1 Pre_1 launch0 p0 e0 about1 theMethod args0 below0 :=
  ⟨lists_1, trivial, launch0.admits_env _ _ _, launch0.least_env, fairChoices_fair.cas, fairChoices_fair.clock, w_frames, w_args, w_heap, w_applies, trivial, trivial, w_case⟩
end start1
theorem witness_1 : WitnessClaimed_1 := ⟨start1.p0, start1.e0, start1.about1, start1.theMethod, start1.args0, start1.below0, start1.atStart⟩
end Jvm.Pilot.@@N@@
