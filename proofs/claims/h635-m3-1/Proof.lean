import JvmDerived
import JvmDerived.Pilot.@@N@@Statement
import JvmDerived.Pilot.@@N@@Code
set_option linter.unusedVariables false
set_option linter.unusedSimpArgs false
namespace Jvm.Pilot.@@N@@
open Jvm Jvm.ClassFile Sem Op Lib Jvm.Free Jvm.Stand Jvm.LawKit Jvm.RoadKit Bundle Jvm.Pilot.@@N@@.Jvm.D

section Own
variable {p : Program} {l : Launch} {e : Env} {R : Room} {s : State} {m : MethodId} {args : Array Value} {below : List Frame} {meth : Method} {c : Code} {T : State} {locs : List Loc} {cells slots : Nat} {Z : State} {a0 : Array Value} {h : Heap} {own nm : String} {cd : ByteArray} {mx : Nat} {rt : Option FieldType} {G : State → Prop} {pc pc' : Nat} {Ls Ls' : Array Slot} {st : List Value}
/-- what a walk carries: the goal is closed under steps taken backwards; the body's own facts -/
def ow_K (p : Program) (e : Env) (below : List Frame) (s : State) (m : MethodId) (meth : Method) (c : Code) (Z : State) (own : String) (cd : ByteArray) (mx : Nat) (rt : Option FieldType) (nm : String) (G : State → Prop) : Prop :=
  (∀ A B, (∀ t, Steps p.tables e below B t → Steps p.tables e below A t) → G B → G A) ∧ p.tables.exec = Jvm.exec ∧ c.code = cd ∧ c.maxLocals = mx ∧ s.vm.findClass own = some m.cls ∧ Z.Warmed39 s.vm ∧ meth.sig.returnType = rt ∧ meth.locks = false ∧ meth.name = nm
/-- the goal of a body: it returns, and Q holds of what it returns, of the heap and of the places written -/
def ow_Gl (p : Program) (e : Env) (below : List Frame) (s : State) (Q : Option Value → Heap → List Loc → Prop) (ce sl : Nat) (S : State) : Prop :=
  ∃ s₂ o, Steps p.tables e below S s₂ ∧ s₂.status = .running ∧ Ended s₂ below o ∧ ∃ v L, o = .returned v ∧ Q v s₂.heap L ∧ FrameEnd s o s₂ L ce sl
theorem ow_Gl_bc {Q : Option Value → Heap → List Loc → Prop} {ce sl : Nat} : ∀ A B, (∀ t, Steps p.tables e below B t → Steps p.tables e below A t) → ow_Gl p e below s Q ce sl B → ow_Gl p e below s Q ce sl A := fun A B hs hG => by
  obtain ⟨s₂, o, h1, h2⟩ := hG
  exact ⟨s₂, o, hs _ h1, h2⟩
theorem ow_entry {Q : Option Value → Heap → List Loc → Prop} {ce sl : Nat} {n : Nat} {g : JFrame} (q : entryFrame m args n = g) (hG : ow_Gl p e below s Q ce sl (T.setTop g)) : ow_Gl p e below s Q ce sl (T.setTop (entryFrame m args n)) := q ▸ hG
theorem ow_ne {a b n : Nat} (h : b < n) (g : a = n) : b ≠ a := fun q => by omega
theorem ow_at {g : JFrame} (hG : G (T.setTop g)) : G (T.setTop g) := hG

theorem ow_iload (K : ow_K p e below s m meth c Z own cd mx rt nm G) (X : Stand p l e R s m args below meth c T locs cells slots) {k : Nat} (v : Int32) (hd : decode cd pc = .ok (.iload k, 2)) (hp : pc' = pc + 2) (hl : Ls[k]? = some (.val (.int v))) (hr : G (T.setTop (mkF m pc' Ls (.int v :: st)))) : G (T.setTop (mkF m pc Ls (st))) := by
  subst hp
  exact K.1 _ _ (fun t q => XS.iload X.here K.2.1 rfl (hb K.2.2.1 hd) hl q) hr
theorem ow_iloadN (K : ow_K p e below s m meth c Z own cd mx rt nm G) (X : Stand p l e R s m args below meth c T locs cells slots) {k : Fin 4} (v : Int32) (hd : decode cd pc = .ok (.iload_n k, 1)) (hp : pc' = pc + 1) (hl : Ls[k.val]? = some (.val (.int v))) (hr : G (T.setTop (mkF m pc' Ls (.int v :: st)))) : G (T.setTop (mkF m pc Ls (st))) := by
  subst hp
  exact K.1 _ _ (fun t q => XS.iloadN X.here K.2.1 rfl (hb K.2.2.1 hd) hl q) hr
theorem ow_lload (K : ow_K p e below s m meth c Z own cd mx rt nm G) (X : Stand p l e R s m args below meth c T locs cells slots) {k : Nat} (v : Int64) (hd : decode cd pc = .ok (.lload k, 2)) (hp : pc' = pc + 2) (hl : Ls[k]? = some (.val (.long v))) (hr : G (T.setTop (mkF m pc' Ls (.long v :: st)))) : G (T.setTop (mkF m pc Ls (st))) := by
  subst hp
  exact K.1 _ _ (fun t q => XT.lload X.here K.2.1 rfl (hb K.2.2.1 hd) hl q) hr
theorem ow_lloadN (K : ow_K p e below s m meth c Z own cd mx rt nm G) (X : Stand p l e R s m args below meth c T locs cells slots) {k : Fin 4} (v : Int64) (hd : decode cd pc = .ok (.lload_n k, 1)) (hp : pc' = pc + 1) (hl : Ls[k.val]? = some (.val (.long v))) (hr : G (T.setTop (mkF m pc' Ls (.long v :: st)))) : G (T.setTop (mkF m pc Ls (st))) := by
  subst hp
  exact K.1 _ _ (fun t q => XT.lloadN X.here K.2.1 rfl (hb K.2.2.1 hd) hl q) hr
theorem ow_aload (K : ow_K p e below s m meth c Z own cd mx rt nm G) (X : Stand p l e R s m args below meth c T locs cells slots) {k : Nat} (v : Addr) (hd : decode cd pc = .ok (.aload k, 2)) (hp : pc' = pc + 2) (hl : Ls[k]? = some (.val (.ref v))) (hr : G (T.setTop (mkF m pc' Ls (.ref v :: st)))) : G (T.setTop (mkF m pc Ls (st))) := by
  subst hp
  exact K.1 _ _ (fun t q => XS.aload X.here K.2.1 rfl (hb K.2.2.1 hd) hl rfl q) hr
theorem ow_aloadN (K : ow_K p e below s m meth c Z own cd mx rt nm G) (X : Stand p l e R s m args below meth c T locs cells slots) {k : Fin 4} (v : Addr) (hd : decode cd pc = .ok (.aload_n k, 1)) (hp : pc' = pc + 1) (hl : Ls[k.val]? = some (.val (.ref v))) (hr : G (T.setTop (mkF m pc' Ls (.ref v :: st)))) : G (T.setTop (mkF m pc Ls (st))) := by
  subst hp
  exact K.1 _ _ (fun t q => XS.aloadN X.here K.2.1 rfl (hb K.2.2.1 hd) hl rfl q) hr
theorem ow_istore (K : ow_K p e below s m meth c Z own cd mx rt nm G) (X : Stand p l e R s m args below meth c T locs cells slots) {k : Nat} {v : Int32} (hd : decode cd pc = .ok (.istore k, 2)) (hp : pc' = pc + 2) (hl : storeLocals Ls k (.int v) = some Ls') (hr : G (T.setTop (mkF m pc' Ls' (st)))) : G (T.setTop (mkF m pc Ls (.int v :: st))) := by
  subst hp
  exact K.1 _ _ (fun t q => XS.istore X.here K.2.1 rfl (hb K.2.2.1 hd) rfl hl q) hr
theorem ow_istoreN (K : ow_K p e below s m meth c Z own cd mx rt nm G) (X : Stand p l e R s m args below meth c T locs cells slots) {k : Fin 4} {v : Int32} (hd : decode cd pc = .ok (.istore_n k, 1)) (hp : pc' = pc + 1) (hl : storeLocals Ls k.val (.int v) = some Ls') (hr : G (T.setTop (mkF m pc' Ls' (st)))) : G (T.setTop (mkF m pc Ls (.int v :: st))) := by
  subst hp
  exact K.1 _ _ (fun t q => XS.istoreN X.here K.2.1 rfl (hb K.2.2.1 hd) rfl hl q) hr
theorem ow_lstore (K : ow_K p e below s m meth c Z own cd mx rt nm G) (X : Stand p l e R s m args below meth c T locs cells slots) {k : Nat} {v : Int64} (hd : decode cd pc = .ok (.lstore k, 2)) (hp : pc' = pc + 2) (hl : storeLocals Ls k (.long v) = some Ls') (hr : G (T.setTop (mkF m pc' Ls' (st)))) : G (T.setTop (mkF m pc Ls (.long v :: st))) := by
  subst hp
  exact K.1 _ _ (fun t q => XT.lstore X.here K.2.1 rfl (hb K.2.2.1 hd) rfl hl q) hr
theorem ow_lstoreN (K : ow_K p e below s m meth c Z own cd mx rt nm G) (X : Stand p l e R s m args below meth c T locs cells slots) {k : Fin 4} {v : Int64} (hd : decode cd pc = .ok (.lstore_n k, 1)) (hp : pc' = pc + 1) (hl : storeLocals Ls k.val (.long v) = some Ls') (hr : G (T.setTop (mkF m pc' Ls' (st)))) : G (T.setTop (mkF m pc Ls (.long v :: st))) := by
  subst hp
  exact K.1 _ _ (fun t q => XT.lstoreN X.here K.2.1 rfl (hb K.2.2.1 hd) rfl hl q) hr
theorem ow_astore (K : ow_K p e below s m meth c Z own cd mx rt nm G) (X : Stand p l e R s m args below meth c T locs cells slots) {k : Nat} {v : Addr} (hd : decode cd pc = .ok (.astore k, 2)) (hp : pc' = pc + 2) (hl : storeLocals Ls k (.ref v) = some Ls') (hr : G (T.setTop (mkF m pc' Ls' (st)))) : G (T.setTop (mkF m pc Ls (.ref v :: st))) := by
  subst hp
  exact K.1 _ _ (fun t q => XS.astore X.here K.2.1 rfl (hb K.2.2.1 hd) rfl rfl hl q) hr
theorem ow_astoreN (K : ow_K p e below s m meth c Z own cd mx rt nm G) (X : Stand p l e R s m args below meth c T locs cells slots) {k : Fin 4} {v : Addr} (hd : decode cd pc = .ok (.astore_n k, 1)) (hp : pc' = pc + 1) (hl : storeLocals Ls k.val (.ref v) = some Ls') (hr : G (T.setTop (mkF m pc' Ls' (st)))) : G (T.setTop (mkF m pc Ls (.ref v :: st))) := by
  subst hp
  exact K.1 _ _ (fun t q => XS.astoreN X.here K.2.1 rfl (hb K.2.2.1 hd) rfl rfl hl q) hr
theorem ow_iinc (K : ow_K p e below s m meth c Z own cd mx rt nm G) (X : Stand p l e R s m args below meth c T locs cells slots) {k : Nat} {i : Int} {x : Int32} (y v : Int32) (hd : decode cd pc = .ok (.iinc k i, 3)) (hp : pc' = pc + 3) (hy : Int32.ofInt i = y) (hx : Ls[k]? = some (.val (.int x))) (hv : x + y = v) (hl : storeLocals Ls k (.int v) = some Ls') (hr : G (T.setTop (mkF m pc' Ls' (st)))) : G (T.setTop (mkF m pc Ls (st))) := by
  subst hp
  exact K.1 _ _ (fun t q => XT.iincV X.here K.2.1 rfl y (hb K.2.2.1 hd) hy hx (hv ▸ hl) q) hr
theorem ow_iconst (K : ow_K p e below s m meth c Z own cd mx rt nm G) (X : Stand p l e R s m args below meth c T locs cells slots) {i : Int} (v : Int32) (hd : decode cd pc = .ok (.iconst i, 1)) (hp : pc' = pc + 1) (hv : Int32.ofInt i = v) (hr : G (T.setTop (mkF m pc' Ls (.int v :: st)))) : G (T.setTop (mkF m pc Ls (st))) := by
  subst hp
  exact K.1 _ _ (fun t q => XT.iconstV X.here K.2.1 rfl v (hb K.2.2.1 hd) hv q) hr
theorem ow_bipush (K : ow_K p e below s m meth c Z own cd mx rt nm G) (X : Stand p l e R s m args below meth c T locs cells slots) {i : Int} (v : Int32) (hd : decode cd pc = .ok (.bipush i, 2)) (hp : pc' = pc + 2) (hv : (Int8.ofInt i).toInt32 = v) (hr : G (T.setTop (mkF m pc' Ls (.int v :: st)))) : G (T.setTop (mkF m pc Ls (st))) := by
  subst hp
  exact K.1 _ _ (fun t q => XT.bipushV X.here K.2.1 rfl v (hb K.2.2.1 hd) hv q) hr
theorem ow_sipush (K : ow_K p e below s m meth c Z own cd mx rt nm G) (X : Stand p l e R s m args below meth c T locs cells slots) {i : Int} (v : Int32) (hd : decode cd pc = .ok (.sipush i, 3)) (hp : pc' = pc + 3) (hv : (Int16.ofInt i).toInt32 = v) (hr : G (T.setTop (mkF m pc' Ls (.int v :: st)))) : G (T.setTop (mkF m pc Ls (st))) := by
  subst hp
  exact K.1 _ _ (fun t q => XT.sipushV X.here K.2.1 rfl v (hb K.2.2.1 hd) hv q) hr
theorem ow_lconst (K : ow_K p e below s m meth c Z own cd mx rt nm G) (X : Stand p l e R s m args below meth c T locs cells slots) {k : Fin 2} (v : Int64) (hd : decode cd pc = .ok (.lconst k, 1)) (hp : pc' = pc + 1) (hv : Int64.ofNat k = v) (hr : G (T.setTop (mkF m pc' Ls (.long v :: st)))) : G (T.setTop (mkF m pc Ls (st))) := by
  subst hp
  exact K.1 _ _ (fun t q => XT.lconstV X.here K.2.1 rfl v (hb K.2.2.1 hd) hv q) hr
theorem ow_ldcI (K : ow_K p e below s m meth c Z own cd mx rt nm G) (X : Stand p l e R s m args below meth c T locs cells slots) {i : Nat} (v : Int32) (hd : decode cd pc = .ok (.ldc i, 2)) (hp : pc' = pc + 2) (w : (Jvm.Cond.constant own i v).before a0 Z = true) (hr : G (T.setTop (mkF m pc' Ls (.int v :: st)))) : G (T.setTop (mkF m pc Ls (st))) := by
  subst hp
  exact K.1 _ _ (fun t q => X.ldcI K.2.1 K.2.2.2.2.1 (mvT K.2.2.2.2.2.1 w) rfl (hb K.2.2.1 hd) q) hr
theorem ow_ldcWI (K : ow_K p e below s m meth c Z own cd mx rt nm G) (X : Stand p l e R s m args below meth c T locs cells slots) {i : Nat} (v : Int32) (hd : decode cd pc = .ok (.ldc_w i, 3)) (hp : pc' = pc + 3) (w : (Jvm.Cond.constant own i v).before a0 Z = true) (hr : G (T.setTop (mkF m pc' Ls (.int v :: st)))) : G (T.setTop (mkF m pc Ls (st))) := by
  subst hp
  exact K.1 _ _ (fun t q => X.ldcWI K.2.1 K.2.2.2.2.1 (mvT K.2.2.2.2.2.1 w) rfl (hb K.2.2.1 hd) q) hr
theorem ow_ldc2 (K : ow_K p e below s m meth c Z own cd mx rt nm G) (X : Stand p l e R s m args below meth c T locs cells slots) {i : Nat} (v : Int64) (hd : decode cd pc = .ok (.ldc2_w i, 3)) (hp : pc' = pc + 3) (w : (Jvm.Cond.constantLong own i v).before a0 Z = true) (hr : G (T.setTop (mkF m pc' Ls (.long v :: st)))) : G (T.setTop (mkF m pc Ls (st))) := by
  subst hp
  exact K.1 _ _ (fun t q => X.ldc2J K.2.1 K.2.2.2.2.1 (mvT K.2.2.2.2.2.1 w) rfl (hb K.2.2.1 hd) q) hr
theorem ow_iadd (K : ow_K p e below s m meth c Z own cd mx rt nm G) (X : Stand p l e R s m args below meth c T locs cells slots) {x y : Int32} (v : Int32) (hd : decode cd pc = .ok (.iadd, 1)) (hp : pc' = pc + 1) (hv : x + y = v) (hr : G (T.setTop (mkF m pc' Ls (.int v :: st)))) : G (T.setTop (mkF m pc Ls (.int y :: .int x :: st))) := by
  subst hp
  exact K.1 _ _ (fun t q => XS.iadd X.here K.2.1 rfl (hb K.2.2.1 hd) rfl (hv ▸ q)) hr
theorem ow_isub (K : ow_K p e below s m meth c Z own cd mx rt nm G) (X : Stand p l e R s m args below meth c T locs cells slots) {x y : Int32} (v : Int32) (hd : decode cd pc = .ok (.isub, 1)) (hp : pc' = pc + 1) (hv : x - y = v) (hr : G (T.setTop (mkF m pc' Ls (.int v :: st)))) : G (T.setTop (mkF m pc Ls (.int y :: .int x :: st))) := by
  subst hp
  exact K.1 _ _ (fun t q => XS.isub X.here K.2.1 rfl (hb K.2.2.1 hd) rfl (hv ▸ q)) hr
theorem ow_imul (K : ow_K p e below s m meth c Z own cd mx rt nm G) (X : Stand p l e R s m args below meth c T locs cells slots) {x y : Int32} (v : Int32) (hd : decode cd pc = .ok (.imul, 1)) (hp : pc' = pc + 1) (hv : x * y = v) (hr : G (T.setTop (mkF m pc' Ls (.int v :: st)))) : G (T.setTop (mkF m pc Ls (.int y :: .int x :: st))) := by
  subst hp
  exact K.1 _ _ (fun t q => XS.imul X.here K.2.1 rfl (hb K.2.2.1 hd) rfl (hv ▸ q)) hr
theorem ow_iand (K : ow_K p e below s m meth c Z own cd mx rt nm G) (X : Stand p l e R s m args below meth c T locs cells slots) {x y : Int32} (v : Int32) (hd : decode cd pc = .ok (.iand, 1)) (hp : pc' = pc + 1) (hv : x &&& y = v) (hr : G (T.setTop (mkF m pc' Ls (.int v :: st)))) : G (T.setTop (mkF m pc Ls (.int y :: .int x :: st))) := by
  subst hp
  exact K.1 _ _ (fun t q => XS.iand X.here K.2.1 rfl (hb K.2.2.1 hd) rfl (hv ▸ q)) hr
theorem ow_ixor (K : ow_K p e below s m meth c Z own cd mx rt nm G) (X : Stand p l e R s m args below meth c T locs cells slots) {x y : Int32} (v : Int32) (hd : decode cd pc = .ok (.ixor, 1)) (hp : pc' = pc + 1) (hv : x ^^^ y = v) (hr : G (T.setTop (mkF m pc' Ls (.int v :: st)))) : G (T.setTop (mkF m pc Ls (.int y :: .int x :: st))) := by
  subst hp
  exact K.1 _ _ (fun t q => XT.ixor X.here K.2.1 rfl (hb K.2.2.1 hd) rfl (hv ▸ q)) hr
theorem ow_ior (K : ow_K p e below s m meth c Z own cd mx rt nm G) (X : Stand p l e R s m args below meth c T locs cells slots) {x y : Int32} (v : Int32) (hd : decode cd pc = .ok (.ior, 1)) (hp : pc' = pc + 1) (hv : x ||| y = v) (hr : G (T.setTop (mkF m pc' Ls (.int v :: st)))) : G (T.setTop (mkF m pc Ls (.int y :: .int x :: st))) := by
  subst hp
  exact K.1 _ _ (fun t q => XT.ior X.here K.2.1 rfl (hb K.2.2.1 hd) rfl (hv ▸ q)) hr
theorem ow_ishl (K : ow_K p e below s m meth c Z own cd mx rt nm G) (X : Stand p l e R s m args below meth c T locs cells slots) {x y : Int32} (v : Int32) (hd : decode cd pc = .ok (.ishl, 1)) (hp : pc' = pc + 1) (hv : x <<< (y &&& 31) = v) (hr : G (T.setTop (mkF m pc' Ls (.int v :: st)))) : G (T.setTop (mkF m pc Ls (.int y :: .int x :: st))) := by
  subst hp
  exact K.1 _ _ (fun t q => XT.ishl X.here K.2.1 rfl (hb K.2.2.1 hd) rfl (hv ▸ q)) hr
theorem ow_ishr (K : ow_K p e below s m meth c Z own cd mx rt nm G) (X : Stand p l e R s m args below meth c T locs cells slots) {x y : Int32} (v : Int32) (hd : decode cd pc = .ok (.ishr, 1)) (hp : pc' = pc + 1) (hv : x >>> (y &&& 31) = v) (hr : G (T.setTop (mkF m pc' Ls (.int v :: st)))) : G (T.setTop (mkF m pc Ls (.int y :: .int x :: st))) := by
  subst hp
  exact K.1 _ _ (fun t q => XT.ishr X.here K.2.1 rfl (hb K.2.2.1 hd) rfl (hv ▸ q)) hr
theorem ow_iushr (K : ow_K p e below s m meth c Z own cd mx rt nm G) (X : Stand p l e R s m args below meth c T locs cells slots) {x y : Int32} (v : Int32) (hd : decode cd pc = .ok (.iushr, 1)) (hp : pc' = pc + 1) (hv : XT.ushr x y = v) (hr : G (T.setTop (mkF m pc' Ls (.int v :: st)))) : G (T.setTop (mkF m pc Ls (.int y :: .int x :: st))) := by
  subst hp
  exact K.1 _ _ (fun t q => XT.iushr X.here K.2.1 rfl (hb K.2.2.1 hd) rfl (hv ▸ q)) hr
theorem ow_irem (K : ow_K p e below s m meth c Z own cd mx rt nm G) (X : Stand p l e R s m args below meth c T locs cells slots) {x y : Int32} (v : Int32) (hd : decode cd pc = .ok (.irem, 1)) (hp : pc' = pc + 1) (hy : y ≠ 0) (hv : x - (x / y) * y = v) (hr : G (T.setTop (mkF m pc' Ls (.int v :: st)))) : G (T.setTop (mkF m pc Ls (.int y :: .int x :: st))) := by
  subst hp
  exact K.1 _ _ (fun t q => XS.irem X.here K.2.1 rfl (hb K.2.2.1 hd) rfl hy (hv ▸ q)) hr
theorem ow_ladd (K : ow_K p e below s m meth c Z own cd mx rt nm G) (X : Stand p l e R s m args below meth c T locs cells slots) {x y : Int64} (v : Int64) (hd : decode cd pc = .ok (.ladd, 1)) (hp : pc' = pc + 1) (hv : x + y = v) (hr : G (T.setTop (mkF m pc' Ls (.long v :: st)))) : G (T.setTop (mkF m pc Ls (.long y :: .long x :: st))) := by
  subst hp
  exact K.1 _ _ (fun t q => XT.ladd X.here K.2.1 rfl (hb K.2.2.1 hd) rfl (hv ▸ q)) hr
theorem ow_lsub (K : ow_K p e below s m meth c Z own cd mx rt nm G) (X : Stand p l e R s m args below meth c T locs cells slots) {x y : Int64} (v : Int64) (hd : decode cd pc = .ok (.lsub, 1)) (hp : pc' = pc + 1) (hv : x - y = v) (hr : G (T.setTop (mkF m pc' Ls (.long v :: st)))) : G (T.setTop (mkF m pc Ls (.long y :: .long x :: st))) := by
  subst hp
  exact K.1 _ _ (fun t q => XT.lsub X.here K.2.1 rfl (hb K.2.2.1 hd) rfl (hv ▸ q)) hr
theorem ow_lmul (K : ow_K p e below s m meth c Z own cd mx rt nm G) (X : Stand p l e R s m args below meth c T locs cells slots) {x y : Int64} (v : Int64) (hd : decode cd pc = .ok (.lmul, 1)) (hp : pc' = pc + 1) (hv : x * y = v) (hr : G (T.setTop (mkF m pc' Ls (.long v :: st)))) : G (T.setTop (mkF m pc Ls (.long y :: .long x :: st))) := by
  subst hp
  exact K.1 _ _ (fun t q => XT.lmul X.here K.2.1 rfl (hb K.2.2.1 hd) rfl (hv ▸ q)) hr
theorem ow_land (K : ow_K p e below s m meth c Z own cd mx rt nm G) (X : Stand p l e R s m args below meth c T locs cells slots) {x y : Int64} (v : Int64) (hd : decode cd pc = .ok (.land, 1)) (hp : pc' = pc + 1) (hv : x &&& y = v) (hr : G (T.setTop (mkF m pc' Ls (.long v :: st)))) : G (T.setTop (mkF m pc Ls (.long y :: .long x :: st))) := by
  subst hp
  exact K.1 _ _ (fun t q => XT.land X.here K.2.1 rfl (hb K.2.2.1 hd) rfl (hv ▸ q)) hr
theorem ow_lor (K : ow_K p e below s m meth c Z own cd mx rt nm G) (X : Stand p l e R s m args below meth c T locs cells slots) {x y : Int64} (v : Int64) (hd : decode cd pc = .ok (.lor, 1)) (hp : pc' = pc + 1) (hv : x ||| y = v) (hr : G (T.setTop (mkF m pc' Ls (.long v :: st)))) : G (T.setTop (mkF m pc Ls (.long y :: .long x :: st))) := by
  subst hp
  exact K.1 _ _ (fun t q => XT.lor X.here K.2.1 rfl (hb K.2.2.1 hd) rfl (hv ▸ q)) hr
theorem ow_lxor (K : ow_K p e below s m meth c Z own cd mx rt nm G) (X : Stand p l e R s m args below meth c T locs cells slots) {x y : Int64} (v : Int64) (hd : decode cd pc = .ok (.lxor, 1)) (hp : pc' = pc + 1) (hv : x ^^^ y = v) (hr : G (T.setTop (mkF m pc' Ls (.long v :: st)))) : G (T.setTop (mkF m pc Ls (.long y :: .long x :: st))) := by
  subst hp
  exact K.1 _ _ (fun t q => XT.lxor X.here K.2.1 rfl (hb K.2.2.1 hd) rfl (hv ▸ q)) hr
theorem ow_lrem (K : ow_K p e below s m meth c Z own cd mx rt nm G) (X : Stand p l e R s m args below meth c T locs cells slots) {x y : Int64} (v : Int64) (hd : decode cd pc = .ok (.lrem, 1)) (hp : pc' = pc + 1) (hy : y ≠ 0) (hv : x - (x / y) * y = v) (hr : G (T.setTop (mkF m pc' Ls (.long v :: st)))) : G (T.setTop (mkF m pc Ls (.long y :: .long x :: st))) := by
  subst hp
  exact K.1 _ _ (fun t q => XT.lrem X.here K.2.1 rfl (hb K.2.2.1 hd) rfl hy (hv ▸ q)) hr
theorem ow_lshl (K : ow_K p e below s m meth c Z own cd mx rt nm G) (X : Stand p l e R s m args below meth c T locs cells slots) {x : Int64} {y : Int32} (v : Int64) (hd : decode cd pc = .ok (.lshl, 1)) (hp : pc' = pc + 1) (hv : x <<< (y.toInt64 &&& 63) = v) (hr : G (T.setTop (mkF m pc' Ls (.long v :: st)))) : G (T.setTop (mkF m pc Ls (.int y :: .long x :: st))) := by
  subst hp
  exact K.1 _ _ (fun t q => XT.lshl X.here K.2.1 rfl (hb K.2.2.1 hd) rfl (hv ▸ q)) hr
theorem ow_lshr (K : ow_K p e below s m meth c Z own cd mx rt nm G) (X : Stand p l e R s m args below meth c T locs cells slots) {x : Int64} {y : Int32} (v : Int64) (hd : decode cd pc = .ok (.lshr, 1)) (hp : pc' = pc + 1) (hv : x >>> (y.toInt64 &&& 63) = v) (hr : G (T.setTop (mkF m pc' Ls (.long v :: st)))) : G (T.setTop (mkF m pc Ls (.int y :: .long x :: st))) := by
  subst hp
  exact K.1 _ _ (fun t q => XT.lshr X.here K.2.1 rfl (hb K.2.2.1 hd) rfl (hv ▸ q)) hr
theorem ow_lushr (K : ow_K p e below s m meth c Z own cd mx rt nm G) (X : Stand p l e R s m args below meth c T locs cells slots) {x : Int64} {y : Int32} (v : Int64) (hd : decode cd pc = .ok (.lushr, 1)) (hp : pc' = pc + 1) (hv : XT.ushrL x y = v) (hr : G (T.setTop (mkF m pc' Ls (.long v :: st)))) : G (T.setTop (mkF m pc Ls (.int y :: .long x :: st))) := by
  subst hp
  exact K.1 _ _ (fun t q => XT.lushr X.here K.2.1 rfl (hb K.2.2.1 hd) rfl (hv ▸ q)) hr
theorem ow_lcmp (K : ow_K p e below s m meth c Z own cd mx rt nm G) (X : Stand p l e R s m args below meth c T locs cells slots) {x y : Int64} (v : Int32) (hd : decode cd pc = .ok (.lcmp, 1)) (hp : pc' = pc + 1) (hv : XT.cmpL x y = v) (hr : G (T.setTop (mkF m pc' Ls (.int v :: st)))) : G (T.setTop (mkF m pc Ls (.long y :: .long x :: st))) := by
  subst hp
  exact K.1 _ _ (fun t q => XT.lcmp X.here K.2.1 rfl (hb K.2.2.1 hd) rfl (hv ▸ q)) hr
theorem ow_ineg (K : ow_K p e below s m meth c Z own cd mx rt nm G) (X : Stand p l e R s m args below meth c T locs cells slots) {x : Int32} (v : Int32) (hd : decode cd pc = .ok (.ineg, 1)) (hp : pc' = pc + 1) (hv : -x = v) (hr : G (T.setTop (mkF m pc' Ls (.int v :: st)))) : G (T.setTop (mkF m pc Ls (.int x :: st))) := by
  subst hp
  exact K.1 _ _ (fun t q => XS.ineg X.here K.2.1 rfl (hb K.2.2.1 hd) rfl (hv ▸ q)) hr
theorem ow_i2b (K : ow_K p e below s m meth c Z own cd mx rt nm G) (X : Stand p l e R s m args below meth c T locs cells slots) {x : Int32} (v : Int32) (hd : decode cd pc = .ok (.i2b, 1)) (hp : pc' = pc + 1) (hv : x.toInt8.toInt32 = v) (hr : G (T.setTop (mkF m pc' Ls (.int v :: st)))) : G (T.setTop (mkF m pc Ls (.int x :: st))) := by
  subst hp
  exact K.1 _ _ (fun t q => XT.i2b X.here K.2.1 rfl (hb K.2.2.1 hd) rfl (hv ▸ q)) hr
theorem ow_i2l (K : ow_K p e below s m meth c Z own cd mx rt nm G) (X : Stand p l e R s m args below meth c T locs cells slots) {x : Int32} (v : Int64) (hd : decode cd pc = .ok (.i2l, 1)) (hp : pc' = pc + 1) (hv : x.toInt64 = v) (hr : G (T.setTop (mkF m pc' Ls (.long v :: st)))) : G (T.setTop (mkF m pc Ls (.int x :: st))) := by
  subst hp
  exact K.1 _ _ (fun t q => XT.i2l X.here K.2.1 rfl (hb K.2.2.1 hd) rfl (hv ▸ q)) hr
theorem ow_l2i (K : ow_K p e below s m meth c Z own cd mx rt nm G) (X : Stand p l e R s m args below meth c T locs cells slots) {x : Int64} (v : Int32) (hd : decode cd pc = .ok (.l2i, 1)) (hp : pc' = pc + 1) (hv : x.toInt32 = v) (hr : G (T.setTop (mkF m pc' Ls (.int v :: st)))) : G (T.setTop (mkF m pc Ls (.long x :: st))) := by
  subst hp
  exact K.1 _ _ (fun t q => XT.l2i X.here K.2.1 rfl (hb K.2.2.1 hd) rfl (hv ▸ q)) hr
theorem ow_dup (K : ow_K p e below s m meth c Z own cd mx rt nm G) (X : Stand p l e R s m args below meth c T locs cells slots) {v : Value} (hd : decode cd pc = .ok (.dup, 1)) (hp : pc' = pc + 1) (hc : v.category = 1) (hr : G (T.setTop (mkF m pc' Ls (v :: v :: st)))) : G (T.setTop (mkF m pc Ls (v :: st))) := by
  subst hp
  exact K.1 _ _ (fun t q => XS.dup X.here K.2.1 rfl (hb K.2.2.1 hd) rfl hc q) hr
theorem ow_pop (K : ow_K p e below s m meth c Z own cd mx rt nm G) (X : Stand p l e R s m args below meth c T locs cells slots) {v : Value} (hd : decode cd pc = .ok (.pop, 1)) (hp : pc' = pc + 1) (hc : v.category = 1) (hr : G (T.setTop (mkF m pc' Ls (st)))) : G (T.setTop (mkF m pc Ls (v :: st))) := by
  subst hp
  exact K.1 _ _ (fun t q => XT.pop X.here K.2.1 rfl (hb K.2.2.1 hd) rfl hc q) hr
theorem ow_dupX1 (K : ow_K p e below s m meth c Z own cd mx rt nm G) (X : Stand p l e R s m args below meth c T locs cells slots) {v w : Value} (hd : decode cd pc = .ok (.dup_x1, 1)) (hp : pc' = pc + 1) (hc : v.category = 1) (hc' : w.category = 1) (hr : G (T.setTop (mkF m pc' Ls (v :: w :: v :: st)))) : G (T.setTop (mkF m pc Ls (v :: w :: st))) := by
  subst hp
  exact K.1 _ _ (fun t q => XT.dupX1 X.here K.2.1 rfl (hb K.2.2.1 hd) rfl hc hc' q) hr
theorem ow_dup2 (K : ow_K p e below s m meth c Z own cd mx rt nm G) (X : Stand p l e R s m args below meth c T locs cells slots) {v w : Value} (hd : decode cd pc = .ok (.dup2, 1)) (hp : pc' = pc + 1) (hc : v.category = 1) (hc' : w.category = 1) (hr : G (T.setTop (mkF m pc' Ls (v :: w :: v :: w :: st)))) : G (T.setTop (mkF m pc Ls (v :: w :: st))) := by
  subst hp
  exact K.1 _ _ (fun t q => XT.dup2 X.here K.2.1 rfl (hb K.2.2.1 hd) rfl hc hc' q) hr
theorem ow_goto (K : ow_K p e below s m meth c Z own cd mx rt nm G) (X : Stand p l e R s m args below meth c T locs cells slots)  {o : Int} (hd : decode cd pc = .ok (.goto o, 3))  (ho : 0 ≤ (pc : Int) + o) (hp : ((pc : Int) + o).toNat = pc') (hr : G (T.setTop (mkF m pc' Ls (st)))) : G (T.setTop (mkF m pc Ls (st))) := K.1 _ _ (fun t q => XS.goto X.here K.2.1 rfl (pc0 := pc) rfl (hb K.2.2.1 hd) ho hp q) hr
theorem ow_ifY (K : ow_K p e below s m meth c Z own cd mx rt nm G) (X : Stand p l e R s m args below meth c T locs cells slots) {cc : ClassFile.Cond} {x : Int32} {o : Int} (hd : decode cd pc = .ok (.ifCond cc o, 3)) (hc : ifCond.holds cc x = true) (ho : 0 ≤ (pc : Int) + o) (hp : ((pc : Int) + o).toNat = pc') (hr : G (T.setTop (mkF m pc' Ls (st)))) : G (T.setTop (mkF m pc Ls (.int x :: st))) := K.1 _ _ (fun t q => XS.ifYes X.here K.2.1 rfl (pc0 := pc) rfl (hb K.2.2.1 hd) rfl hc ho hp q) hr
theorem ow_icmpY (K : ow_K p e below s m meth c Z own cd mx rt nm G) (X : Stand p l e R s m args below meth c T locs cells slots) {cc : ClassFile.Cond} {x y : Int32} {o : Int} (hd : decode cd pc = .ok (.if_icmp cc o, 3)) (hc : if_icmp.holds cc x y = true) (ho : 0 ≤ (pc : Int) + o) (hp : ((pc : Int) + o).toNat = pc') (hr : G (T.setTop (mkF m pc' Ls (st)))) : G (T.setTop (mkF m pc Ls (.int y :: .int x :: st))) := K.1 _ _ (fun t q => XS.icmpYes X.here K.2.1 rfl (pc0 := pc) rfl (hb K.2.2.1 hd) rfl hc ho hp q) hr
theorem ow_ifN (K : ow_K p e below s m meth c Z own cd mx rt nm G) (X : Stand p l e R s m args below meth c T locs cells slots) {cc : ClassFile.Cond} {x : Int32} {o : Int} (hd : decode cd pc = .ok (.ifCond cc o, 3)) (hp : pc' = pc + 3) (hc : ifCond.holds cc x = false) (hr : G (T.setTop (mkF m pc' Ls (st)))) : G (T.setTop (mkF m pc Ls (.int x :: st))) := by
  subst hp
  exact K.1 _ _ (fun t q => XS.ifNo X.here K.2.1 rfl (hb K.2.2.1 hd) rfl hc q) hr
theorem ow_icmpN (K : ow_K p e below s m meth c Z own cd mx rt nm G) (X : Stand p l e R s m args below meth c T locs cells slots) {cc : ClassFile.Cond} {x y : Int32} {o : Int} (hd : decode cd pc = .ok (.if_icmp cc o, 3)) (hp : pc' = pc + 3) (hc : if_icmp.holds cc x y = false) (hr : G (T.setTop (mkF m pc' Ls (st)))) : G (T.setTop (mkF m pc Ls (.int y :: .int x :: st))) := by
  subst hp
  exact K.1 _ _ (fun t q => XS.icmpNo X.here K.2.1 rfl (hb K.2.2.1 hd) rfl hc q) hr
/-- an index as an int and as a natural -/
def ow_Ix (j : Int32) (i : Nat) : Prop := ¬ j < 0 ∧ j.toNatClampNeg = i
theorem ow_ix_nat {i : Nat} (hi : i < 2 ^ 31) : ow_Ix (Int32.ofNat i) i := by
  have q : (Int32.ofNat i).toInt = i := Int32.toInt_ofNat_of_lt hi
  refine ⟨?_, ?_⟩
  · rw [Int32.lt_iff_toInt_lt, q]; show ¬ (i : Int) < 0; omega
  · simp only [Int32.toNatClampNeg, q]; rfl
theorem ow_in {cl : Cell} {z j : Int32} {i : Nat} (S : cl.slots.size = z.toNatClampNeg) (J : ow_Ix j i) (hi : i < z.toNatClampNeg) : ¬ (j < 0 ∨ cl.slots.size ≤ j.toNatClampNeg) := fun q => q.elim J.1 fun q => by rw [S, J.2] at q; omega
theorem ow_iaload (K : ow_K p e below s m meth c Z own cd mx rt nm G) (X : Stand p l e R s m args below meth c T locs cells slots) (eT : T.heap = h) {a : Addr} {k : ClassId} {z j : Int32} {vs : List Value} {dv : Value} (F : Arv Z h a k .int z vs dv) (i : Nat) (v : Value) (J : ow_Ix j i) (hi : i < z.toNatClampNeg) (hv : vs.getD i dv = v) (hd : decode cd pc = .ok (.iaload, 1)) (hp : pc' = pc + 1) (hr : G (T.setTop (mkF m pc' Ls (v :: st)))) : G (T.setTop (mkF m pc Ls (.int j :: .ref a :: st))) := by
  subst hp
  obtain ⟨cl, A, -, S, -, H, -⟩ := F
  exact K.1 _ _ (fun t q => X.iaload K.2.1 (j := j) (v := v) (by rw [eT]; exact A.1) (State.isArrayOf_alike K.2.2.2.2.2.1.alike A.2.1) A.2.2 (ow_in S J hi) (Has.at H (ow_in S J hi) (by rw [J.2]; exact hv)) (g := mkF m pc Ls (.int j :: .ref a :: st)) rfl rfl (hb K.2.2.1 hd) t q) hr
theorem ow_baload (K : ow_K p e below s m meth c Z own cd mx rt nm G) (X : Stand p l e R s m args below meth c T locs cells slots) (eT : T.heap = h) {a : Addr} {k : ClassId} {z j : Int32} {vs : List Value} {dv : Value} (F : Arv Z h a k .byte z vs dv) (i : Nat) (v : Value) (J : ow_Ix j i) (hi : i < z.toNatClampNeg) (hv : vs.getD i dv = v) (hd : decode cd pc = .ok (.baload, 1)) (hp : pc' = pc + 1) (hr : G (T.setTop (mkF m pc' Ls (v :: st)))) : G (T.setTop (mkF m pc Ls (.int j :: .ref a :: st))) := by
  subst hp
  obtain ⟨cl, A, -, S, -, H, -⟩ := F
  exact K.1 _ _ (fun t q => X.baloadBytes K.2.1 (j := j) (v := v) (by rw [eT]; exact A.1) (State.isArrayOf_alike K.2.2.2.2.2.1.alike A.2.1) A.2.2 (ow_in S J hi) (Has.at H (ow_in S J hi) (by rw [J.2]; exact hv)) (g := mkF m pc Ls (.int j :: .ref a :: st)) rfl rfl (hb K.2.2.1 hd) t q) hr
theorem ow_laload (K : ow_K p e below s m meth c Z own cd mx rt nm G) (X : Stand p l e R s m args below meth c T locs cells slots) (eT : T.heap = h) {a : Addr} {k : ClassId} {z j : Int32} {vs : List Value} {dv : Value} (F : Arv Z h a k .long z vs dv) (i : Nat) (v : Value) (J : ow_Ix j i) (hi : i < z.toNatClampNeg) (hv : vs.getD i dv = v) (hd : decode cd pc = .ok (.laload, 1)) (hp : pc' = pc + 1) (hr : G (T.setTop (mkF m pc' Ls (v :: st)))) : G (T.setTop (mkF m pc Ls (.int j :: .ref a :: st))) := by
  subst hp
  obtain ⟨cl, A, -, S, -, H, -⟩ := F
  exact K.1 _ _ (fun t q => X.laload K.2.1 (j := j) (v := v) (by rw [eT]; exact A.1) (State.isArrayOf_alike K.2.2.2.2.2.1.alike A.2.1) A.2.2 (ow_in S J hi) (Has.at H (ow_in S J hi) (by rw [J.2]; exact hv)) (g := mkF m pc Ls (.int j :: .ref a :: st)) rfl rfl (hb K.2.2.1 hd) t q) hr
theorem ow_len (K : ow_K p e below s m meth c Z own cd mx rt nm G) (X : Stand p l e R s m args below meth c T locs cells slots) (eT : T.heap = h) {a : Addr} {k : ClassId} {ty : FieldType} {z : Int32} {vs : List Value} {dv : Value} (F : Arv Z h a k ty z vs dv) (hd : decode cd pc = .ok (.arraylength, 1)) (hp : pc' = pc + 1) (hr : G (T.setTop (mkF m pc' Ls (.int z :: st)))) : G (T.setTop (mkF m pc Ls (.ref a :: st))) := by
  subst hp
  obtain ⟨cl, A, -, S, M, -, -⟩ := F
  exact K.1 _ _ (fun t q => X.arraylength K.2.1 (cell := cl) (by rw [eT]; exact A.1) (State.isArrayOf_alike K.2.2.2.2.2.1.alike A.2.1) (g := mkF m pc Ls (.ref a :: st)) rfl (rest := st) rfl (hb K.2.2.1 hd) t (by rw [len_of S M]; exact q)) hr
theorem ow_iastore (K : ow_K p e below s m meth c Z own cd mx rt nm G) (X : Stand p l e R s m args below meth c T locs cells slots) (eT : T.heap = h) {a : Addr} {k : ClassId} {z j : Int32} {vs : List Value} {dv : Value} {x : Int32} (F : Arv Z h a k .int z vs dv) (i : Nat) (vs' : List Value) (J : ow_Ix j i) (hi : i < z.toNatClampNeg) (hi' : i < vs.length) (hs : vs.set i (.int x) = vs') (hd : decode cd pc = .ok (.iastore, 1)) (hp : pc' = pc + 1)
    (hr : ∀ T' h', Stand p l e R s m args below meth c T' (locs ++ [⟨a, i⟩]) cells slots → T'.heap = h' → Wr h h' a i (.int x) → Arv Z h' a k .int z vs' dv → G (T'.setTop (mkF m pc' Ls st))) : G (T.setTop (mkF m pc Ls (.int x :: .int j :: .ref a :: st))) := by
  subst hp hs
  obtain ⟨cl, A, q1, S, q3, H, F⟩ := F
  obtain ⟨T', h', X', e', W', st'⟩ := stI X K.2.1 K.2.2.2.2.2.1 eT A (j := j) (x := x) (ow_in S J hi) (g := mkF m pc Ls (.int x :: .int j :: .ref a :: st)) rfl rfl (hb K.2.2.1 hd)
  have V := Arv.set A q1 S q3 H F (rfl) W' i J.2 hi'
  rw [J.2] at X' W'
  exact K.1 _ _ st' (hr T' h' X' e' W' V)
theorem ow_bastore (K : ow_K p e below s m meth c Z own cd mx rt nm G) (X : Stand p l e R s m args below meth c T locs cells slots) (eT : T.heap = h) {a : Addr} {k : ClassId} {z j : Int32} {vs : List Value} {dv : Value} {x : Int32} (F : Arv Z h a k .byte z vs dv) (i : Nat) (vs' : List Value) (J : ow_Ix j i) (hi : i < z.toNatClampNeg) (hi' : i < vs.length) (hs : vs.set i (.int (nar .byte x)) = vs') (hd : decode cd pc = .ok (.bastore, 1)) (hp : pc' = pc + 1)
    (hr : ∀ T' h', Stand p l e R s m args below meth c T' (locs ++ [⟨a, i⟩]) cells slots → T'.heap = h' → Wr h h' a i (.int (nar .byte x)) → Arv Z h' a k .byte z vs' dv → G (T'.setTop (mkF m pc' Ls st))) : G (T.setTop (mkF m pc Ls (.int x :: .int j :: .ref a :: st))) := by
  subst hp hs
  obtain ⟨cl, A, q1, S, q3, H, F⟩ := F
  obtain ⟨T', h', X', e', W', st'⟩ := stB X K.2.1 K.2.2.2.2.2.1 eT A (j := j) (x := x) (ow_in S J hi) (g := mkF m pc Ls (.int x :: .int j :: .ref a :: st)) rfl rfl (hb K.2.2.1 hd)
  have V := Arv.set A q1 S q3 H F (fits_nar_byte x) W' i J.2 hi'
  rw [J.2] at X' W'
  exact K.1 _ _ st' (hr T' h' X' e' W' V)
theorem ow_lastore (K : ow_K p e below s m meth c Z own cd mx rt nm G) (X : Stand p l e R s m args below meth c T locs cells slots) (eT : T.heap = h) {a : Addr} {k : ClassId} {z j : Int32} {vs : List Value} {dv : Value} {x : Int64} (F : Arv Z h a k .long z vs dv) (i : Nat) (vs' : List Value) (J : ow_Ix j i) (hi : i < z.toNatClampNeg) (hi' : i < vs.length) (hs : vs.set i (.long x) = vs') (hd : decode cd pc = .ok (.lastore, 1)) (hp : pc' = pc + 1)
    (hr : ∀ T' h', Stand p l e R s m args below meth c T' (locs ++ [⟨a, i⟩]) cells slots → T'.heap = h' → Wr h h' a i (.long x) → Arv Z h' a k .long z vs' dv → G (T'.setTop (mkF m pc' Ls st))) : G (T.setTop (mkF m pc Ls (.long x :: .int j :: .ref a :: st))) := by
  subst hp hs
  obtain ⟨cl, A, q1, S, q3, H, F⟩ := F
  obtain ⟨T', h', X', e', W', st'⟩ := stJ X K.2.1 K.2.2.2.2.2.1 eT A (j := j) (x := x) (ow_in S J hi) (g := mkF m pc Ls (.long x :: .int j :: .ref a :: st)) rfl rfl (hb K.2.2.1 hd)
  have V := Arv.set A q1 S q3 H F (rfl) W' i J.2 hi'
  rw [J.2] at X' W'
  exact K.1 _ _ st' (hr T' h' X' e' W' V)
theorem ow_newP (K : ow_K p e below s m meth c Z own cd mx rt nm G) (X : Stand p l e R s m args below meth c T locs cells slots) (eT : T.heap = h) {aty : ArrayType} {n : Int32} (w : (Jvm.Cond.arrayClass (newarray.typeOf aty)).before a0 Z = true) (hn : ¬ n < 0) (cap : Nat) (hcap : n.toNatClampNeg ≤ cap) (hbb : cap * 8 ≤ 536870912) (hc : cells + 1 ≤ R.cells) (hl : slots + cap ≤ R.slots) (hd : decode cd pc = .ok (.newarray aty, 2)) (hp : pc' = pc + 2)
    (hr : ∀ T' h' k a, Stand p l e R s m args below meth c T' locs (cells + 1) (slots + cap) → T'.heap = h' → Ext h h' → a = h.size → Arv Z h' a k (newarray.typeOf aty) n [] (defaultValue (newarray.typeOf aty)) → G (T'.setTop (mkF m pc' Ls (.ref a :: st)))) : G (T.setTop (mkF m pc Ls (.int n :: st))) := by
  subst hp
  obtain ⟨T', h', k, X', e', E, A, st'⟩ := newP X K.2.1 K.2.2.2.2.2.1 w eT (g := mkF m pc Ls (.int n :: st)) rfl (hb K.2.2.1 hd) rfl hn hcap hbb hc hl
  exact K.1 _ _ st' (hr T' h' k _ X' e' E rfl (Arv.new A hn))
theorem ow_newO (K : ow_K p e below s m meth c Z own cd mx rt nm G) (X : Stand p l e R s m args below meth c T locs cells slots) (eT : T.heap = h) {C : String} {i n : Nat} (w : (Jvm.Cond.classLink own i C).before a0 Z = true) (wi : (Jvm.Cond.instantiable C n).before a0 Z = true) (wz : (Jvm.Cond.initialized C).before a0 Z = true) (hc : cells + 1 ≤ R.cells) (hl : slots + n ≤ R.slots) (hd : decode cd pc = .ok (.new i, 3)) (hp : pc' = pc + 3)
    (hr : ∀ T' h' a, Stand p l e R s m args below meth c T' locs (cells + 1) (slots + n) → T'.heap = h' → Ext h h' → a = h.size → Exa Z h' a C → (∀ {O nm d : String} {ty : FieldType}, Laid Z a0 C O nm d → parseFieldDescriptor d = some ty → Fld Z h' a O nm d (defaultValue ty)) → G (T'.setTop (mkF m pc' Ls (.ref a :: st)))) : G (T.setTop (mkF m pc Ls st)) := by
  subst hp
  obtain ⟨T', h', X', e', E, A, D, -, st'⟩ := newO X K.2.1 K.2.2.2.2.2.1 K.2.2.2.2.1 w wi wz eT (g := mkF m pc Ls st) rfl (hb K.2.2.1 hd) hc hl
  exact K.1 _ _ st' (hr T' h' _ X' e' E rfl A D)
theorem ow_getF (K : ow_K p e below s m meth c Z own cd mx rt nm G) (X : Stand p l e R s m args below meth c T locs cells slots) (eT : T.heap = h) {C n d : String} {i : Nat} {a : Addr} {v : Value} (w : (Jvm.Cond.fieldLink own i C n d).before a0 Z = true) (F : Fld Z h a C n d v) (hd : decode cd pc = .ok (.getfield i, 3)) (hp : pc' = pc + 3)
    (hr : ∀ T', Stand p l e R s m args below meth c T' locs cells slots → T'.heap = h → G (T'.setTop (mkF m pc' Ls (v :: st)))) : G (T.setTop (mkF m pc Ls (.ref a :: st))) := by
  subst hp
  obtain ⟨T', X', e', st'⟩ := getF X K.2.1 K.2.2.2.2.2.1 K.2.2.2.2.1 (host := "") (Or.inl w) Via.refl eT F (g := mkF m pc Ls (.ref a :: st)) rfl rfl (hb K.2.2.1 hd)
  exact K.1 _ _ st' (hr T' X' e')
theorem ow_putF (K : ow_K p e below s m meth c Z own cd mx rt nm G) (X : Stand p l e R s m args below meth c T locs cells slots) (eT : T.heap = h) {C n d : String} {i kk : Nat} {a : Addr} {v old : Value} (ty : FieldType) (w : (Jvm.Cond.fieldLink own i C n d).before a0 Z = true) (F : Fld Z h a C n d old) (E : Exa Z h a C) (L : (Jvm.Cond.lays C C n d).before a0 Z = true ∨ ((Jvm.Cond.laysFinal C C n d).before a0 Z = true ∧ own = C ∧ nm = "<init>")) (wi : (Jvm.Cond.instantiable C kk).before a0 Z = true) (hty : parseFieldDescriptor d = some ty) (hn : narrow ty v = v) (hf : fits ty v = true) (hd : decode cd pc = .ok (.putfield i, 3)) (hp : pc' = pc + 3)
    (hr : ∀ T' h', Stand p l e R s m args below meth c T' (locs ++ [⟨a, Jvm.RoadKit.slotOf Z C n d⟩]) cells slots → T'.heap = h' → Wr h h' a (Jvm.RoadKit.slotOf Z C n d) v → Fld Z h' a C n d v → Exa Z h' a C → G (T'.setTop (mkF m pc' Ls st))) : G (T.setTop (mkF m pc Ls (v :: .ref a :: st))) := by
  subst hp
  obtain ⟨T', h', X', e', W, st'⟩ := putF X K.2.1 K.2.2.2.2.2.1 K.2.2.2.2.1 (host := "") (Or.inl w) Via.refl eT F E (L.imp id fun q => ⟨q.1, q.2.1, K.2.2.2.2.2.2.2.2.trans q.2.2⟩) wi hty hn hf (g := mkF m pc Ls (v :: .ref a :: st)) rfl rfl (hb K.2.2.1 hd)
  exact K.1 _ _ st' (hr T' h' X' e' W (F.same W) (E.wr W))
theorem ow_initO (K : ow_K p e below s m meth c Z own cd mx rt nm G) (X : Stand p l e R s m args below meth c T locs cells slots) (eT : T.heap = h) {i : Nat} {a : Addr} (w1 : (Jvm.Cond.methodLink own i Lib.objectInit).before a0 Z = true) (w2 : (Jvm.Cond.instanceMethod Lib.objectInit).before a0 Z = true) (w3 : (Jvm.Cond.code Lib.objectInit ⟨#[0xb1]⟩ 1 none).before a0 Z = true) (hz : Ls.size = mx) (W : Nat) (hW : (st.map fun v => v.category).sum ≤ W) (hf : 1 ≤ R.frames) (hl : W + 12 ≤ R.locals) (hd : decode cd pc = .ok (.invokespecial i, 3)) (hp : pc' = pc + 3)
    (hr : ∀ T', Stand p l e R s m args below meth c T' locs cells slots → T'.heap = h → G (T'.setTop (mkF m pc' Ls st))) : G (T.setTop (mkF m pc Ls (.ref a :: st))) := by
  subst hp
  obtain ⟨T', X', e', st'⟩ := initO X K.2.1 K.2.2.2.2.2.1 K.2.2.2.2.1 w1 w2 w3 eT (g := mkF m pc Ls (.ref a :: st)) rfl (hz.trans K.2.2.2.1.symm) rfl (hb K.2.2.1 hd) hf (W := W) (by show 2 * 0 + _ ≤ _; omega) hl
  exact K.1 _ _ st' (hr T' X' e')
theorem ow_callS (K : ow_K p e below s m meth c Z own cd mx rt nm G) (X : Stand p l e R s m args below meth c T locs cells slots) (eT : T.heap = h) {y : MethodName} {i : Nat} {bytes : ByteArray} {maxL : Nat} {rt' : Option FieldType} {rm : Room} {as : Array Value} {Q : Option Value → Heap → List Loc → Prop} (hM : MetFree l y (head1 [Jvm.Cond.code y bytes maxL rt'] rm) (fun a U => a = as ∧ Z.Warmed39 U.vm ∧ U.heap = h) (fun _ _ _ _ _ => True) (fun _ U o U' => ∃ v L, o = .returned v ∧ Q v U'.heap L ∧ FrameEnd U o U' L rm.cells rm.slots)) (wl : (Jvm.Cond.methodLink own i y).before a0 Z = true) (ws : (Jvm.Cond.static y).before a0 Z = true) (wi : (Jvm.Cond.initialized y.cls).before a0 Z = true) (wc : (Jvm.Cond.code y bytes maxL rt').before a0 Z = true) (hy : y.cls ≠ "java/lang/invoke/MethodHandle" ∧ y.cls ≠ "java/lang/invoke/VarHandle") (W : Nat) (hW : (st.map fun v => v.category).sum ≤ W) (hf : rm.frames + 1 ≤ R.frames) (hl : W + (maxL + 11) + rm.locals ≤ R.locals) (hc : cells + rm.cells ≤ R.cells) (hs : slots + rm.slots ≤ R.slots) (hz : Ls.size = mx) {full : List Value} (argsL : List Value) (has : argsL.toArray = as) (hlen : ∀ sig, parseMethodDescriptor y.desc = some sig → argsL.length = sig.parameters.length) (hst : full = argsL.reverse ++ st) (hd : decode cd pc = .ok (.invokestatic i, 3)) (hp : pc' = pc + 3)
    (hr : ∀ v T' L, Stand p l e R s m args below meth c T' (locs ++ L) (cells + rm.cells) (slots + rm.slots) → Q v T'.heap L → G (T'.setTop (mkF m pc' Ls (v.toList ++ st)))) : G (T.setTop (mkF m pc Ls full)) := by
  subst hp has
  obtain ⟨v, vm₁, ⟨T', L', c', s'⟩, -, X', ⟨L, hQ, l1, l2, l3⟩, st'⟩ := Jvm.LawKit.callS X K.2.1 (y := y) K.2.2.2.2.1 (mvT K.2.2.2.2.2.1 wl) (mvT K.2.2.2.2.2.1 ws) (mvT K.2.2.2.2.2.1 wi) (mvT K.2.2.2.2.2.1 wc) hy (backOf (W := W) hM K.2.2.2.2.2.1 wc wi hf hl) (g := mkF m pc Ls full) rfl (hz.trans K.2.2.2.1.symm) (argsL := argsL) (rest := st) hlen hst (by show 2 * 0 + _ ≤ _; omega) (hb K.2.2.1 hd) (fun _ _ => ⟨rfl, eT, hc, hs⟩)
  dsimp only [Pt.U, Pt.locs, Pt.cells, Pt.slots] at X' l1 l2 l3 st' hQ
  subst l1 l2 l3
  exact K.1 _ _ st' (hr v T' L X' hQ)
theorem ow_callP (K : ow_K p e below s m meth c Z own cd mx rt nm G) (X : Stand p l e R s m args below meth c T locs cells slots) (eT : T.heap = h) {y : MethodName} {i : Nat} {bytes : ByteArray} {maxL : Nat}  {rm : Room} {as : Array Value} {Q : Option Value → Heap → List Loc → Prop} {a : Addr} (hM : MetFree l y (head1 [Jvm.Cond.code y bytes maxL none] rm) (fun a U => a = as ∧ Z.Warmed39 U.vm ∧ U.heap = h) (fun _ _ _ _ _ => True) (fun _ U o U' => ∃ v L, o = .returned v ∧ Q v U'.heap L ∧ FrameEnd U o U' L rm.cells rm.slots)) (hn : y.name = "<init>") (wl : (Jvm.Cond.methodLink own i y).before a0 Z = true) (ws : (Jvm.Cond.instanceMethod y).before a0 Z = true) (wi : (Jvm.Cond.initialized y.cls).before a0 Z = true) (wc : (Jvm.Cond.code y bytes maxL none).before a0 Z = true) (hy : y.cls ≠ "java/lang/invoke/MethodHandle" ∧ y.cls ≠ "java/lang/invoke/VarHandle") (W : Nat) (hW : (st.map fun v => v.category).sum ≤ W) (hf : rm.frames + 1 ≤ R.frames) (hl : W + (maxL + 11) + rm.locals ≤ R.locals) (hc : cells + rm.cells ≤ R.cells) (hs : slots + rm.slots ≤ R.slots) (hz : Ls.size = mx) {full : List Value} (argsL : List Value) (has : (.ref a :: argsL).toArray = as) (hlen : ∀ sig, parseMethodDescriptor y.desc = some sig → argsL.length = sig.parameters.length) (hst : full = argsL.reverse ++ .ref a :: st) (hd : decode cd pc = .ok (.invokespecial i, 3)) (hp : pc' = pc + 3)
    (hr : ∀ v T' L, Stand p l e R s m args below meth c T' (locs ++ L) (cells + rm.cells) (slots + rm.slots) → Q v T'.heap L → G (T'.setTop (mkF m pc' Ls (v.toList ++ st)))) : G (T.setTop (mkF m pc Ls full)) := by
  subst hp has
  obtain ⟨v, vm₁, ⟨T', L', c', s'⟩, -, X', ⟨L, hQ, l1, l2, l3⟩, st'⟩ := X.specialBack K.2.1 (y := y) hn K.2.2.2.2.1 (mvT K.2.2.2.2.2.1 wl) (mvT K.2.2.2.2.2.1 ws) (mvT K.2.2.2.2.2.1 wc) hy (backOf (W := W) hM K.2.2.2.2.2.1 wc wi hf hl) (g := mkF m pc Ls full) rfl (hz.trans K.2.2.2.1.symm) (Steps.refl _) (a := a) (argsL := argsL) (rest := st) hlen hst (by show 2 * 0 + _ ≤ _; omega) (hb K.2.2.1 hd) (fun _ _ => ⟨rfl, eT, hc, hs⟩)
  dsimp only [Pt.U, Pt.locs, Pt.cells, Pt.slots] at X' l1 l2 l3 st' hQ
  subst l1 l2 l3
  exact K.1 _ _ (fun t q => st'.trans q) (hr v T' L X' hQ)
theorem ow_callV (K : ow_K p e below s m meth c Z own cd mx rt nm G) (X : Stand p l e R s m args below meth c T locs cells slots) (eT : T.heap = h) {y : MethodName} {i : Nat} {bytes : ByteArray} {maxL : Nat} {rt' : Option FieldType} {rm : Room} {as : Array Value} {Q : Option Value → Heap → List Loc → Prop} {a : Addr} (hM : MetFree l y (head1 [Jvm.Cond.code y bytes maxL rt'] rm) (fun a U => a = as ∧ Z.Warmed39 U.vm ∧ U.heap = h) (fun _ _ _ _ _ => True) (fun _ U o U' => ∃ v L, o = .returned v ∧ Q v U'.heap L ∧ FrameEnd U o U' L rm.cells rm.slots)) (E : Exa Z h a y.cls) (wl : (Jvm.Cond.methodLink own i y).before a0 Z = true) (wd : (Jvm.Cond.declares y).before a0 Z = true) (wsel : (Jvm.Cond.selects y.cls y y).before a0 Z = true) (ws : (Jvm.Cond.instanceMethod y).before a0 Z = true) (wi : (Jvm.Cond.initialized y.cls).before a0 Z = true) (wc : (Jvm.Cond.code y bytes maxL rt').before a0 Z = true) (hy : y.cls ≠ "java/lang/invoke/MethodHandle" ∧ y.cls ≠ "java/lang/invoke/VarHandle") (W : Nat) (hW : (st.map fun v => v.category).sum ≤ W) (hf : rm.frames + 1 ≤ R.frames) (hl : W + (maxL + 11) + rm.locals ≤ R.locals) (hc : cells + rm.cells ≤ R.cells) (hs : slots + rm.slots ≤ R.slots) (hz : Ls.size = mx) {full : List Value} (argsL : List Value) (has : (.ref a :: argsL).toArray = as) (hlen : ∀ sig, parseMethodDescriptor y.desc = some sig → argsL.length = sig.parameters.length) (hst : full = argsL.reverse ++ .ref a :: st) (hd : decode cd pc = .ok (.invokevirtual i, 3)) (hp : pc' = pc + 3)
    (hr : ∀ v T' L, Stand p l e R s m args below meth c T' (locs ++ L) (cells + rm.cells) (slots + rm.slots) → Q v T'.heap L → G (T'.setTop (mkF m pc' Ls (v.toList ++ st)))) : G (T.setTop (mkF m pc Ls full)) := by
  subst hp has
  obtain ⟨cq, kq, qa, qb, qc⟩ := isOf K.2.2.2.2.2.1 eT E
  obtain ⟨v, vm₁, ⟨T', L', c', s'⟩, -, X', ⟨L, hQ, l1, l2, l3⟩, st'⟩ := X.virtualBack K.2.1 (y := y) (z := y) K.2.2.2.2.1 (mvT K.2.2.2.2.2.1 wl) (mvT K.2.2.2.2.2.1 wd) (notFace_of_selects (args := #[]) (mvT K.2.2.2.2.2.1 wsel)) (mvT K.2.2.2.2.2.1 wsel) (mvT K.2.2.2.2.2.1 ws) hy (backOf (W := W) hM K.2.2.2.2.2.1 wc wi hf hl) qa qc (g := mkF m pc Ls full) rfl (hz.trans K.2.2.2.1.symm) (Steps.refl _) (argsL := argsL) (rest := st) hlen hst (by show 2 * 0 + _ ≤ _; omega) (hb K.2.2.1 hd) (fun _ _ => ⟨rfl, eT, hc, hs⟩)
  dsimp only [Pt.U, Pt.locs, Pt.cells, Pt.slots] at X' l1 l2 l3 st' hQ
  subst l1 l2 l3
  exact K.1 _ _ (fun t q => st'.trans q) (hr v T' L X' hQ)
theorem ow_retI {Q : Option Value → Heap → List Loc → Prop} {ce sl : Nat} (K : ow_K p e below s m meth c Z own cd mx rt nm (ow_Gl p e below s Q ce sl)) (X : Stand p l e R s m args below meth c T locs cells slots) (t : FieldType) {v : Int32} (hrt : rt = some t) (hn : narrow t (.int v) = .int v) (hti : t = .int ∨ t = .boolean ∨ t = .byte ∨ t = .char ∨ t = .short) (hd : decode cd pc = .ok (.ireturn, 1)) (hQ : Q (some (.int v)) T.heap locs) (hc : cells ≤ ce) (hs : slots ≤ sl) : ow_Gl p e below s Q ce sl (T.setTop (mkF m pc Ls [.int v])) := by
  obtain ⟨fs, hr, hrun, hended, hW, hsame⟩ := X.leave (v := some (.int v)) (fun h => by rw [K.2.2.2.2.2.2.1, hrt] at h; cases h) K.2.2.2.2.2.2.2.1
  exact ⟨_, _, X.ireturnOut K.2.1 (K.2.2.2.2.2.2.1.trans hrt) hn hti (hb K.2.2.1 hd) hr, hrun, hended, _, _, rfl, hQ, ⟨_, rfl⟩, hW, hsame.mono hc hs⟩
theorem ow_retJ {Q : Option Value → Heap → List Loc → Prop} {ce sl : Nat} (K : ow_K p e below s m meth c Z own cd mx rt nm (ow_Gl p e below s Q ce sl)) (X : Stand p l e R s m args below meth c T locs cells slots) {v : Int64} (hrt : rt = some .long) (hd : decode cd pc = .ok (.lreturn, 1)) (hQ : Q (some (.long v)) T.heap locs) (hc : cells ≤ ce) (hs : slots ≤ sl) : ow_Gl p e below s Q ce sl (T.setTop (mkF m pc Ls [.long v])) := by
  obtain ⟨fs, hr, hrun, hended, hW, hsame⟩ := X.leave (v := some (.long v)) (fun h => by rw [K.2.2.2.2.2.2.1, hrt] at h; cases h) K.2.2.2.2.2.2.2.1
  exact ⟨_, _, X.lreturnOut K.2.1 (K.2.2.2.2.2.2.1.trans hrt) (hb K.2.2.1 hd) hr, hrun, hended, _, _, rfl, hQ, ⟨_, rfl⟩, hW, hsame.mono hc hs⟩
theorem ow_retA {Q : Option Value → Heap → List Loc → Prop} {ce sl : Nat} (K : ow_K p e below s m meth c Z own cd mx rt nm (ow_Gl p e below s Q ce sl)) (X : Stand p l e R s m args below meth c T locs cells slots) (t : FieldType) {v : Addr} (hrt : rt = some t) (ht : t.isReference = true) (hd : decode cd pc = .ok (.areturn, 1)) (hQ : Q (some (.ref v)) T.heap locs) (hc : cells ≤ ce) (hs : slots ≤ sl) : ow_Gl p e below s Q ce sl (T.setTop (mkF m pc Ls [.ref v])) := by
  obtain ⟨fs, hr, hrun, hended, hW, hsame⟩ := X.leave (v := some (.ref v)) (fun h => by rw [K.2.2.2.2.2.2.1, hrt] at h; cases h) K.2.2.2.2.2.2.2.1
  exact ⟨_, _, X.areturnOut K.2.1 rfl (K.2.2.2.2.2.2.1.trans hrt) ht (hb K.2.2.1 hd) hr, hrun, hended, _, _, rfl, hQ, ⟨_, rfl⟩, hW, hsame.mono hc hs⟩
theorem ow_ret {Q : Option Value → Heap → List Loc → Prop} {ce sl : Nat} (K : ow_K p e below s m meth c Z own cd mx rt nm (ow_Gl p e below s Q ce sl)) (X : Stand p l e R s m args below meth c T locs cells slots) (hrt : rt = none) (hd : decode cd pc = .ok (.return_, 1)) (hQ : Q none T.heap locs) (hc : cells ≤ ce) (hs : slots ≤ sl) : ow_Gl p e below s Q ce sl (T.setTop (mkF m pc Ls [])) := by
  obtain ⟨fs, hr, hrun, hended, hW, hsame⟩ := X.leave (v := none) (fun _ => rfl) K.2.2.2.2.2.2.2.1
  exact ⟨_, _, X.returnOut K.2.1 (K.2.2.2.2.2.2.1.trans hrt) (hb K.2.2.1 hd) hr, hrun, hended, _, _, rfl, hQ, ⟨_, rfl⟩, hW, hsame.mono hc hs⟩
end Own

theorem own_and3L (x : Int64) : x &&& 3 = 0 ∨ x &&& 3 = 1 ∨ x &&& 3 = 2 ∨ x &&& 3 = 3 := by
  have h1 : (x &&& 3).toBitVec = x.toBitVec &&& 3#64 := rfl
  have h2 : (x.toBitVec &&& 3#64).toNat < 4 := by
    rw [BitVec.toNat_and]; exact Nat.lt_of_le_of_lt Nat.and_le_right (by decide)
  have h3 : ∀ y : Int64, (x &&& 3).toBitVec.toNat = y.toBitVec.toNat → x &&& 3 = y := fun y q => Int64.toBitVec_inj.mp (BitVec.eq_of_toNat_eq q)
  rw [← h1] at h2
  have h4 : ∀ n : Nat, n < 4 → n = 0 ∨ n = 1 ∨ n = 2 ∨ n = 3 := by omega
  rcases h4 _ h2 with q | q | q | q
  · exact Or.inl (h3 _ q)
  · exact Or.inr (Or.inl (h3 _ q))
  · exact Or.inr (Or.inr (Or.inl (h3 _ q)))
  · exact Or.inr (Or.inr (Or.inr (h3 _ q)))

theorem d10_0 : decode prog_30_method_10_code 0 = .ok (.iconst 0, 1) := by decide +kernel
theorem d10_1 : decode prog_30_method_10_code 1 = .ok (.istore_n 1, 1) := by decide +kernel
theorem d10_2 : decode prog_30_method_10_code 2 = .ok (.iload_n 1, 1) := by decide +kernel
theorem d10_3 : decode prog_30_method_10_code 3 = .ok (.aload_n 0, 1) := by decide +kernel
theorem d10_4 : decode prog_30_method_10_code 4 = .ok (.arraylength, 1) := by decide +kernel
theorem d10_5 : decode prog_30_method_10_code 5 = .ok (.if_icmp .ge 18, 3) := by decide +kernel
theorem d10_8 : decode prog_30_method_10_code 8 = .ok (.aload_n 0, 1) := by decide +kernel
theorem d10_9 : decode prog_30_method_10_code 9 = .ok (.iload_n 1, 1) := by decide +kernel
theorem d10_10 : decode prog_30_method_10_code 10 = .ok (.dup2, 1) := by decide +kernel
theorem d10_11 : decode prog_30_method_10_code 11 = .ok (.laload, 1) := by decide +kernel
theorem d10_12 : decode prog_30_method_10_code 12 = .ok (.ldc2_w 79, 3) := by decide +kernel
theorem d10_15 : decode prog_30_method_10_code 15 = .ok (.land, 1) := by decide +kernel
theorem d10_16 : decode prog_30_method_10_code 16 = .ok (.lastore, 1) := by decide +kernel
theorem d10_17 : decode prog_30_method_10_code 17 = .ok (.iinc 1 2, 3) := by decide +kernel
theorem d10_20 : decode prog_30_method_10_code 20 = .ok (.goto (-18), 3) := by decide +kernel
theorem d10_23 : decode prog_30_method_10_code 23 = .ok (.return_, 1) := by decide +kernel
theorem pn_10 : plainName "com/example/percolith/percolith/graph/ResidualGraph" = true := by first | (simp [plainName, overriddenIn]; done) | decide +kernel
theorem pd_10 : parseMethodDescriptor "([J)V" = some ⟨[(.array .long)], none⟩ := by decide +kernel
theorem ef_10 (m : MethodId) (a : Addr) : entryFrame m #[(.ref a)] 2 = mkF m 0 #[.val (.ref a), .unset] [] := by first | (simp [entryFrame, mkF, argsToLocals, Value.category]; done) | rfl
def Q10 (Z : State) (a : Addr) (k : ClassId) (h0 : Heap) (n0 : Nat) (v : Option Value) (h : Heap) (L : List Loc) : Prop := v = none ∧ Fr n0 L ∧ Arv Z h a k .long (0 : Int32) [] (.long 0)
set_option maxRecDepth 65536 in
set_option maxHeartbeats 40000000 in
theorem rm10 (l : Launch) (Z : State) (a0 : Array Value) (hw : ∀ d ∈ tables_1, d.before a0 Z = true) (ws : List Jvm.Cond) (a : Addr) (k : ClassId) (h0 : Heap) (n0 : Nat) (Z0 : n0 ≤ h0.size) (F : Arv Z h0 a k .long (0 : Int32) [] (.long 0)) (g : n0 ≤ a) :
    MetFree l (⟨"com/example/percolith/percolith/graph/ResidualGraph", "clearMarks", "([J)V"⟩ : MethodName) (head1 (Jvm.Cond.code (⟨"com/example/percolith/percolith/graph/ResidualGraph", "clearMarks", "([J)V"⟩ : MethodName) prog_30_method_10_code 2 none :: ws) ({ frames := 0, cells := 0, slots := 0, locals := 0 } : Room)) (fun as_ U => as_ = #[(.ref a)] ∧ Z.Warmed39 U.vm ∧ U.heap = h0) (fun _ _ _ _ _ => True) (fun _ U o U' => ∃ v L, o = .returned v ∧ Q10 Z a k h0 n0 v U'.heap L ∧ FrameEnd U o U' L ({ frames := 0, cells := 0, slots := 0, locals := 0 } : Room).cells ({ frames := 0, cells := 0, slots := 0, locals := 0 } : Room).slots) := by
  refine MetFree.of_bodySF (plainFor_of_name pn_10) hisR ?_
  intro p e s m args below meth c s₁ Bd hml0 hP hK
  obtain ⟨rfl, hZ, hh⟩ := hP
  have K : ow_K p e below s m meth c Z "com/example/percolith/percolith/graph/ResidualGraph" prog_30_method_10_code 2 none "clearMarks" (ow_Gl p e below s (Q10 Z a k h0 n0) 0 0) := ⟨ow_Gl_bc, Bd.exec, Bd.bytes, hml0, findClass_of_methodNamed Bd.named, hZ, Bd.returns, Bd.notSynchronized, (name_of_methodNamed Bd.named Bd.method).1⟩
  have X0 : Stand p l e ({ frames := 0, cells := 0, slots := 0, locals := 0 } : Room) s m #[(.ref a)] below meth c s₁ [] 0 0 := Stand.of_body Bd
  have e0 : s₁.heap = h0 := by rw [← hh, Bd.state]; rfl
  have N0 := Fr.nil n0
  refine ow_entry (Q := (Q10 Z a k h0 n0)) (ce := 0) (sl := 0) (ef_10 m a) ?_
  refine ow_iconst K X0 (pc' := 1) (0 : Int32) d10_0 rfl (by decide) ?_
  refine ow_istoreN K X0 (pc' := 2) (Ls' := #[.val (.ref a), .val (.int (0 : Int32))]) d10_1 rfl rfl ?_
  refine ow_iloadN K X0 (pc' := 3) (0 : Int32) d10_2 rfl rfl ?_
  refine ow_aloadN K X0 (pc' := 4) a d10_3 rfl rfl ?_
  refine ow_len K X0 (pc' := 5) e0 F d10_4 rfl ?_
  refine ow_icmpY K X0 (pc' := 23) d10_5 (XT.ii_ge_t (by decide)) (by decide) (by decide) ?_
  exact ow_ret K X0 rfl d10_23 ⟨rfl, N0, by rw [e0]; exact F⟩ (by decide) (by decide)
theorem d12_0 : decode prog_30_method_10_code 0 = .ok (.iconst 0, 1) := by decide +kernel
theorem d12_1 : decode prog_30_method_10_code 1 = .ok (.istore_n 1, 1) := by decide +kernel
theorem d12_2 : decode prog_30_method_10_code 2 = .ok (.iload_n 1, 1) := by decide +kernel
theorem d12_3 : decode prog_30_method_10_code 3 = .ok (.aload_n 0, 1) := by decide +kernel
theorem d12_4 : decode prog_30_method_10_code 4 = .ok (.arraylength, 1) := by decide +kernel
theorem d12_5 : decode prog_30_method_10_code 5 = .ok (.if_icmp .ge 18, 3) := by decide +kernel
theorem d12_8 : decode prog_30_method_10_code 8 = .ok (.aload_n 0, 1) := by decide +kernel
theorem d12_9 : decode prog_30_method_10_code 9 = .ok (.iload_n 1, 1) := by decide +kernel
theorem d12_10 : decode prog_30_method_10_code 10 = .ok (.dup2, 1) := by decide +kernel
theorem d12_11 : decode prog_30_method_10_code 11 = .ok (.laload, 1) := by decide +kernel
theorem d12_12 : decode prog_30_method_10_code 12 = .ok (.ldc2_w 79, 3) := by decide +kernel
theorem d12_15 : decode prog_30_method_10_code 15 = .ok (.land, 1) := by decide +kernel
theorem d12_16 : decode prog_30_method_10_code 16 = .ok (.lastore, 1) := by decide +kernel
theorem d12_17 : decode prog_30_method_10_code 17 = .ok (.iinc 1 2, 3) := by decide +kernel
theorem d12_20 : decode prog_30_method_10_code 20 = .ok (.goto (-18), 3) := by decide +kernel
theorem d12_23 : decode prog_30_method_10_code 23 = .ok (.return_, 1) := by decide +kernel
theorem pn_12 : plainName "com/example/percolith/percolith/graph/ResidualGraph" = true := by first | (simp [plainName, overriddenIn]; done) | decide +kernel
theorem pd_12 : parseMethodDescriptor "([J)V" = some ⟨[(.array .long)], none⟩ := by decide +kernel
theorem ef_12 (m : MethodId) (a : Addr) : entryFrame m #[(.ref a)] 2 = mkF m 0 #[.val (.ref a), .unset] [] := by first | (simp [entryFrame, mkF, argsToLocals, Value.category]; done) | rfl
def Q12 (Z : State) (a : Addr) (k : ClassId) (v0 : Int64) (v1 : Int64) (h0 : Heap) (n0 : Nat) (v : Option Value) (h : Heap) (L : List Loc) : Prop := v = none ∧ Fr n0 L ∧ Arv Z h a k .long (2 : Int32) [.long (v0 &&& (4294967295 : Int64)), .long v1] (.long 0)
set_option maxRecDepth 65536 in
set_option maxHeartbeats 40000000 in
theorem rm12 (l : Launch) (Z : State) (a0 : Array Value) (hw : ∀ d ∈ tables_1, d.before a0 Z = true) (ws : List Jvm.Cond) (a : Addr) (k : ClassId) (v0 : Int64) (v1 : Int64) (h0 : Heap) (n0 : Nat) (Z0 : n0 ≤ h0.size) (F : Arv Z h0 a k .long (2 : Int32) [.long v0, .long v1] (.long 0)) (g : n0 ≤ a) :
    MetFree l (⟨"com/example/percolith/percolith/graph/ResidualGraph", "clearMarks", "([J)V"⟩ : MethodName) (head1 (Jvm.Cond.code (⟨"com/example/percolith/percolith/graph/ResidualGraph", "clearMarks", "([J)V"⟩ : MethodName) prog_30_method_10_code 2 none :: ws) ({ frames := 0, cells := 0, slots := 0, locals := 0 } : Room)) (fun as_ U => as_ = #[(.ref a)] ∧ Z.Warmed39 U.vm ∧ U.heap = h0) (fun _ _ _ _ _ => True) (fun _ U o U' => ∃ v L, o = .returned v ∧ Q12 Z a k v0 v1 h0 n0 v U'.heap L ∧ FrameEnd U o U' L ({ frames := 0, cells := 0, slots := 0, locals := 0 } : Room).cells ({ frames := 0, cells := 0, slots := 0, locals := 0 } : Room).slots) := by
  refine MetFree.of_bodySF (plainFor_of_name pn_12) hisR ?_
  intro p e s m args below meth c s₁ Bd hml0 hP hK
  obtain ⟨rfl, hZ, hh⟩ := hP
  have K : ow_K p e below s m meth c Z "com/example/percolith/percolith/graph/ResidualGraph" prog_30_method_10_code 2 none "clearMarks" (ow_Gl p e below s (Q12 Z a k v0 v1 h0 n0) 0 0) := ⟨ow_Gl_bc, Bd.exec, Bd.bytes, hml0, findClass_of_methodNamed Bd.named, hZ, Bd.returns, Bd.notSynchronized, (name_of_methodNamed Bd.named Bd.method).1⟩
  have X0 : Stand p l e ({ frames := 0, cells := 0, slots := 0, locals := 0 } : Room) s m #[(.ref a)] below meth c s₁ [] 0 0 := Stand.of_body Bd
  have e0 : s₁.heap = h0 := by rw [← hh, Bd.state]; rfl
  have N0 := Fr.nil n0
  refine ow_entry (Q := (Q12 Z a k v0 v1 h0 n0)) (ce := 0) (sl := 0) (ef_12 m a) ?_
  refine ow_iconst K X0 (pc' := 1) (0 : Int32) d12_0 rfl (by decide) ?_
  refine ow_istoreN K X0 (pc' := 2) (Ls' := #[.val (.ref a), .val (.int (0 : Int32))]) d12_1 rfl rfl ?_
  refine ow_iloadN K X0 (pc' := 3) (0 : Int32) d12_2 rfl rfl ?_
  refine ow_aloadN K X0 (pc' := 4) a d12_3 rfl rfl ?_
  refine ow_len K X0 (pc' := 5) e0 F d12_4 rfl ?_
  refine ow_icmpN K X0 (pc' := 8) d12_5 rfl (XT.ii_ge_f (by decide)) ?_
  refine ow_aloadN K X0 (pc' := 9) a d12_8 rfl rfl ?_
  refine ow_iloadN K X0 (pc' := 10) (0 : Int32) d12_9 rfl rfl ?_
  refine ow_dup2 K X0 (pc' := 11) d12_10 rfl rfl rfl ?_
  refine ow_laload K X0 (pc' := 12) e0 F 0 (.long v0) ⟨by decide, by decide⟩ (by decide) rfl d12_11 rfl ?_
  refine ow_ldc2 K X0 (pc' := 15) (4294967295 : Int64) d12_12 rfl (hw _ (List.mem_of_getElem? (i := 6) rfl)) ?_
  refine ow_land K X0 (pc' := 16) (v0 &&& (4294967295 : Int64)) d12_15 rfl rfl ?_
  refine ow_lastore K X0 (pc' := 17) e0 F 0 [.long (v0 &&& (4294967295 : Int64)), .long v1] ⟨by decide, by decide⟩ (by decide) (by simp) rfl d12_16 rfl ?_
  intro T1 h1 X1 e1 W1 F1
  have Z2 : n0 ≤ h1.size := Nat.le_trans Z0 (Nat.le_of_eq W1.size.symm)
  have N3 := Fr.snoc X1 N0 g
  refine ow_iinc K X1 (pc' := 20) (Ls' := #[.val (.ref a), .val (.int (2 : Int32))]) (2 : Int32) (2 : Int32) d12_17 rfl (by decide) rfl (by decide) rfl ?_
  refine ow_goto K X1 (pc' := 2) d12_20 (by decide) (by decide) ?_
  refine ow_iloadN K X1 (pc' := 3) (2 : Int32) d12_2 rfl rfl ?_
  refine ow_aloadN K X1 (pc' := 4) a d12_3 rfl rfl ?_
  refine ow_len K X1 (pc' := 5) e1 F1 d12_4 rfl ?_
  refine ow_icmpY K X1 (pc' := 23) d12_5 (XT.ii_ge_t (by decide)) (by decide) (by decide) ?_
  exact ow_ret K X1 rfl d12_23 ⟨rfl, N3, by rw [e1]; exact F1⟩ (by decide) (by decide)
theorem d14_0 : decode prog_30_method_10_code 0 = .ok (.iconst 0, 1) := by decide +kernel
theorem d14_1 : decode prog_30_method_10_code 1 = .ok (.istore_n 1, 1) := by decide +kernel
theorem d14_2 : decode prog_30_method_10_code 2 = .ok (.iload_n 1, 1) := by decide +kernel
theorem d14_3 : decode prog_30_method_10_code 3 = .ok (.aload_n 0, 1) := by decide +kernel
theorem d14_4 : decode prog_30_method_10_code 4 = .ok (.arraylength, 1) := by decide +kernel
theorem d14_5 : decode prog_30_method_10_code 5 = .ok (.if_icmp .ge 18, 3) := by decide +kernel
theorem d14_8 : decode prog_30_method_10_code 8 = .ok (.aload_n 0, 1) := by decide +kernel
theorem d14_9 : decode prog_30_method_10_code 9 = .ok (.iload_n 1, 1) := by decide +kernel
theorem d14_10 : decode prog_30_method_10_code 10 = .ok (.dup2, 1) := by decide +kernel
theorem d14_11 : decode prog_30_method_10_code 11 = .ok (.laload, 1) := by decide +kernel
theorem d14_12 : decode prog_30_method_10_code 12 = .ok (.ldc2_w 79, 3) := by decide +kernel
theorem d14_15 : decode prog_30_method_10_code 15 = .ok (.land, 1) := by decide +kernel
theorem d14_16 : decode prog_30_method_10_code 16 = .ok (.lastore, 1) := by decide +kernel
theorem d14_17 : decode prog_30_method_10_code 17 = .ok (.iinc 1 2, 3) := by decide +kernel
theorem d14_20 : decode prog_30_method_10_code 20 = .ok (.goto (-18), 3) := by decide +kernel
theorem d14_23 : decode prog_30_method_10_code 23 = .ok (.return_, 1) := by decide +kernel
theorem pn_14 : plainName "com/example/percolith/percolith/graph/ResidualGraph" = true := by first | (simp [plainName, overriddenIn]; done) | decide +kernel
theorem pd_14 : parseMethodDescriptor "([J)V" = some ⟨[(.array .long)], none⟩ := by decide +kernel
theorem ef_14 (m : MethodId) (a : Addr) : entryFrame m #[(.ref a)] 2 = mkF m 0 #[.val (.ref a), .unset] [] := by first | (simp [entryFrame, mkF, argsToLocals, Value.category]; done) | rfl
def Q14 (Z : State) (a : Addr) (k : ClassId) (v0 : Int64) (v1 : Int64) (v2 : Int64) (v3 : Int64) (h0 : Heap) (n0 : Nat) (v : Option Value) (h : Heap) (L : List Loc) : Prop := v = none ∧ Fr n0 L ∧ Arv Z h a k .long (4 : Int32) [.long (v0 &&& (4294967295 : Int64)), .long v1, .long (v2 &&& (4294967295 : Int64)), .long v3] (.long 0)
set_option maxRecDepth 65536 in
set_option maxHeartbeats 40000000 in
theorem rm14 (l : Launch) (Z : State) (a0 : Array Value) (hw : ∀ d ∈ tables_1, d.before a0 Z = true) (ws : List Jvm.Cond) (a : Addr) (k : ClassId) (v0 : Int64) (v1 : Int64) (v2 : Int64) (v3 : Int64) (h0 : Heap) (n0 : Nat) (Z0 : n0 ≤ h0.size) (F : Arv Z h0 a k .long (4 : Int32) [.long v0, .long v1, .long v2, .long v3] (.long 0)) (g : n0 ≤ a) :
    MetFree l (⟨"com/example/percolith/percolith/graph/ResidualGraph", "clearMarks", "([J)V"⟩ : MethodName) (head1 (Jvm.Cond.code (⟨"com/example/percolith/percolith/graph/ResidualGraph", "clearMarks", "([J)V"⟩ : MethodName) prog_30_method_10_code 2 none :: ws) ({ frames := 0, cells := 0, slots := 0, locals := 0 } : Room)) (fun as_ U => as_ = #[(.ref a)] ∧ Z.Warmed39 U.vm ∧ U.heap = h0) (fun _ _ _ _ _ => True) (fun _ U o U' => ∃ v L, o = .returned v ∧ Q14 Z a k v0 v1 v2 v3 h0 n0 v U'.heap L ∧ FrameEnd U o U' L ({ frames := 0, cells := 0, slots := 0, locals := 0 } : Room).cells ({ frames := 0, cells := 0, slots := 0, locals := 0 } : Room).slots) := by
  refine MetFree.of_bodySF (plainFor_of_name pn_14) hisR ?_
  intro p e s m args below meth c s₁ Bd hml0 hP hK
  obtain ⟨rfl, hZ, hh⟩ := hP
  have K : ow_K p e below s m meth c Z "com/example/percolith/percolith/graph/ResidualGraph" prog_30_method_10_code 2 none "clearMarks" (ow_Gl p e below s (Q14 Z a k v0 v1 v2 v3 h0 n0) 0 0) := ⟨ow_Gl_bc, Bd.exec, Bd.bytes, hml0, findClass_of_methodNamed Bd.named, hZ, Bd.returns, Bd.notSynchronized, (name_of_methodNamed Bd.named Bd.method).1⟩
  have X0 : Stand p l e ({ frames := 0, cells := 0, slots := 0, locals := 0 } : Room) s m #[(.ref a)] below meth c s₁ [] 0 0 := Stand.of_body Bd
  have e0 : s₁.heap = h0 := by rw [← hh, Bd.state]; rfl
  have N0 := Fr.nil n0
  refine ow_entry (Q := (Q14 Z a k v0 v1 v2 v3 h0 n0)) (ce := 0) (sl := 0) (ef_14 m a) ?_
  refine ow_iconst K X0 (pc' := 1) (0 : Int32) d14_0 rfl (by decide) ?_
  refine ow_istoreN K X0 (pc' := 2) (Ls' := #[.val (.ref a), .val (.int (0 : Int32))]) d14_1 rfl rfl ?_
  refine ow_iloadN K X0 (pc' := 3) (0 : Int32) d14_2 rfl rfl ?_
  refine ow_aloadN K X0 (pc' := 4) a d14_3 rfl rfl ?_
  refine ow_len K X0 (pc' := 5) e0 F d14_4 rfl ?_
  refine ow_icmpN K X0 (pc' := 8) d14_5 rfl (XT.ii_ge_f (by decide)) ?_
  refine ow_aloadN K X0 (pc' := 9) a d14_8 rfl rfl ?_
  refine ow_iloadN K X0 (pc' := 10) (0 : Int32) d14_9 rfl rfl ?_
  refine ow_dup2 K X0 (pc' := 11) d14_10 rfl rfl rfl ?_
  refine ow_laload K X0 (pc' := 12) e0 F 0 (.long v0) ⟨by decide, by decide⟩ (by decide) rfl d14_11 rfl ?_
  refine ow_ldc2 K X0 (pc' := 15) (4294967295 : Int64) d14_12 rfl (hw _ (List.mem_of_getElem? (i := 6) rfl)) ?_
  refine ow_land K X0 (pc' := 16) (v0 &&& (4294967295 : Int64)) d14_15 rfl rfl ?_
  refine ow_lastore K X0 (pc' := 17) e0 F 0 [.long (v0 &&& (4294967295 : Int64)), .long v1, .long v2, .long v3] ⟨by decide, by decide⟩ (by decide) (by simp) rfl d14_16 rfl ?_
  intro T1 h1 X1 e1 W1 F1
  have Z2 : n0 ≤ h1.size := Nat.le_trans Z0 (Nat.le_of_eq W1.size.symm)
  have N3 := Fr.snoc X1 N0 g
  refine ow_iinc K X1 (pc' := 20) (Ls' := #[.val (.ref a), .val (.int (2 : Int32))]) (2 : Int32) (2 : Int32) d14_17 rfl (by decide) rfl (by decide) rfl ?_
  refine ow_goto K X1 (pc' := 2) d14_20 (by decide) (by decide) ?_
  refine ow_iloadN K X1 (pc' := 3) (2 : Int32) d14_2 rfl rfl ?_
  refine ow_aloadN K X1 (pc' := 4) a d14_3 rfl rfl ?_
  refine ow_len K X1 (pc' := 5) e1 F1 d14_4 rfl ?_
  refine ow_icmpN K X1 (pc' := 8) d14_5 rfl (XT.ii_ge_f (by decide)) ?_
  refine ow_aloadN K X1 (pc' := 9) a d14_8 rfl rfl ?_
  refine ow_iloadN K X1 (pc' := 10) (2 : Int32) d14_9 rfl rfl ?_
  refine ow_dup2 K X1 (pc' := 11) d14_10 rfl rfl rfl ?_
  refine ow_laload K X1 (pc' := 12) e1 F1 2 (.long v2) ⟨by decide, by decide⟩ (by decide) rfl d14_11 rfl ?_
  refine ow_ldc2 K X1 (pc' := 15) (4294967295 : Int64) d14_12 rfl (hw _ (List.mem_of_getElem? (i := 6) rfl)) ?_
  refine ow_land K X1 (pc' := 16) (v2 &&& (4294967295 : Int64)) d14_15 rfl rfl ?_
  refine ow_lastore K X1 (pc' := 17) e1 F1 2 [.long (v0 &&& (4294967295 : Int64)), .long v1, .long (v2 &&& (4294967295 : Int64)), .long v3] ⟨by decide, by decide⟩ (by decide) (by simp) rfl d14_16 rfl ?_
  intro T4 h4 X4 e4 W4 F4
  have Z5 : n0 ≤ h4.size := Nat.le_trans Z2 (Nat.le_of_eq W4.size.symm)
  have N6 := Fr.snoc X4 N3 g
  refine ow_iinc K X4 (pc' := 20) (Ls' := #[.val (.ref a), .val (.int (4 : Int32))]) (2 : Int32) (4 : Int32) d14_17 rfl (by decide) rfl (by decide) rfl ?_
  refine ow_goto K X4 (pc' := 2) d14_20 (by decide) (by decide) ?_
  refine ow_iloadN K X4 (pc' := 3) (4 : Int32) d14_2 rfl rfl ?_
  refine ow_aloadN K X4 (pc' := 4) a d14_3 rfl rfl ?_
  refine ow_len K X4 (pc' := 5) e4 F4 d14_4 rfl ?_
  refine ow_icmpY K X4 (pc' := 23) d14_5 (XT.ii_ge_t (by decide)) (by decide) (by decide) ?_
  exact ow_ret K X4 rfl d14_23 ⟨rfl, N6, by rw [e4]; exact F4⟩ (by decide) (by decide)
theorem d16_0 : decode prog_30_method_10_code 0 = .ok (.iconst 0, 1) := by decide +kernel
theorem d16_1 : decode prog_30_method_10_code 1 = .ok (.istore_n 1, 1) := by decide +kernel
theorem d16_2 : decode prog_30_method_10_code 2 = .ok (.iload_n 1, 1) := by decide +kernel
theorem d16_3 : decode prog_30_method_10_code 3 = .ok (.aload_n 0, 1) := by decide +kernel
theorem d16_4 : decode prog_30_method_10_code 4 = .ok (.arraylength, 1) := by decide +kernel
theorem d16_5 : decode prog_30_method_10_code 5 = .ok (.if_icmp .ge 18, 3) := by decide +kernel
theorem d16_8 : decode prog_30_method_10_code 8 = .ok (.aload_n 0, 1) := by decide +kernel
theorem d16_9 : decode prog_30_method_10_code 9 = .ok (.iload_n 1, 1) := by decide +kernel
theorem d16_10 : decode prog_30_method_10_code 10 = .ok (.dup2, 1) := by decide +kernel
theorem d16_11 : decode prog_30_method_10_code 11 = .ok (.laload, 1) := by decide +kernel
theorem d16_12 : decode prog_30_method_10_code 12 = .ok (.ldc2_w 79, 3) := by decide +kernel
theorem d16_15 : decode prog_30_method_10_code 15 = .ok (.land, 1) := by decide +kernel
theorem d16_16 : decode prog_30_method_10_code 16 = .ok (.lastore, 1) := by decide +kernel
theorem d16_17 : decode prog_30_method_10_code 17 = .ok (.iinc 1 2, 3) := by decide +kernel
theorem d16_20 : decode prog_30_method_10_code 20 = .ok (.goto (-18), 3) := by decide +kernel
theorem d16_23 : decode prog_30_method_10_code 23 = .ok (.return_, 1) := by decide +kernel
theorem pn_16 : plainName "com/example/percolith/percolith/graph/ResidualGraph" = true := by first | (simp [plainName, overriddenIn]; done) | decide +kernel
theorem pd_16 : parseMethodDescriptor "([J)V" = some ⟨[(.array .long)], none⟩ := by decide +kernel
theorem ef_16 (m : MethodId) (a : Addr) : entryFrame m #[(.ref a)] 2 = mkF m 0 #[.val (.ref a), .unset] [] := by first | (simp [entryFrame, mkF, argsToLocals, Value.category]; done) | rfl
def Q16 (Z : State) (a : Addr) (k : ClassId) (v0 : Int64) (v1 : Int64) (v2 : Int64) (v3 : Int64) (v4 : Int64) (v5 : Int64) (h0 : Heap) (n0 : Nat) (v : Option Value) (h : Heap) (L : List Loc) : Prop := v = none ∧ Fr n0 L ∧ Arv Z h a k .long (6 : Int32) [.long (v0 &&& (4294967295 : Int64)), .long v1, .long (v2 &&& (4294967295 : Int64)), .long v3, .long (v4 &&& (4294967295 : Int64)), .long v5] (.long 0)
set_option maxRecDepth 65536 in
set_option maxHeartbeats 40000000 in
theorem rm16 (l : Launch) (Z : State) (a0 : Array Value) (hw : ∀ d ∈ tables_1, d.before a0 Z = true) (ws : List Jvm.Cond) (a : Addr) (k : ClassId) (v0 : Int64) (v1 : Int64) (v2 : Int64) (v3 : Int64) (v4 : Int64) (v5 : Int64) (h0 : Heap) (n0 : Nat) (Z0 : n0 ≤ h0.size) (F : Arv Z h0 a k .long (6 : Int32) [.long v0, .long v1, .long v2, .long v3, .long v4, .long v5] (.long 0)) (g : n0 ≤ a) :
    MetFree l (⟨"com/example/percolith/percolith/graph/ResidualGraph", "clearMarks", "([J)V"⟩ : MethodName) (head1 (Jvm.Cond.code (⟨"com/example/percolith/percolith/graph/ResidualGraph", "clearMarks", "([J)V"⟩ : MethodName) prog_30_method_10_code 2 none :: ws) ({ frames := 0, cells := 0, slots := 0, locals := 0 } : Room)) (fun as_ U => as_ = #[(.ref a)] ∧ Z.Warmed39 U.vm ∧ U.heap = h0) (fun _ _ _ _ _ => True) (fun _ U o U' => ∃ v L, o = .returned v ∧ Q16 Z a k v0 v1 v2 v3 v4 v5 h0 n0 v U'.heap L ∧ FrameEnd U o U' L ({ frames := 0, cells := 0, slots := 0, locals := 0 } : Room).cells ({ frames := 0, cells := 0, slots := 0, locals := 0 } : Room).slots) := by
  refine MetFree.of_bodySF (plainFor_of_name pn_16) hisR ?_
  intro p e s m args below meth c s₁ Bd hml0 hP hK
  obtain ⟨rfl, hZ, hh⟩ := hP
  have K : ow_K p e below s m meth c Z "com/example/percolith/percolith/graph/ResidualGraph" prog_30_method_10_code 2 none "clearMarks" (ow_Gl p e below s (Q16 Z a k v0 v1 v2 v3 v4 v5 h0 n0) 0 0) := ⟨ow_Gl_bc, Bd.exec, Bd.bytes, hml0, findClass_of_methodNamed Bd.named, hZ, Bd.returns, Bd.notSynchronized, (name_of_methodNamed Bd.named Bd.method).1⟩
  have X0 : Stand p l e ({ frames := 0, cells := 0, slots := 0, locals := 0 } : Room) s m #[(.ref a)] below meth c s₁ [] 0 0 := Stand.of_body Bd
  have e0 : s₁.heap = h0 := by rw [← hh, Bd.state]; rfl
  have N0 := Fr.nil n0
  refine ow_entry (Q := (Q16 Z a k v0 v1 v2 v3 v4 v5 h0 n0)) (ce := 0) (sl := 0) (ef_16 m a) ?_
  refine ow_iconst K X0 (pc' := 1) (0 : Int32) d16_0 rfl (by decide) ?_
  refine ow_istoreN K X0 (pc' := 2) (Ls' := #[.val (.ref a), .val (.int (0 : Int32))]) d16_1 rfl rfl ?_
  refine ow_iloadN K X0 (pc' := 3) (0 : Int32) d16_2 rfl rfl ?_
  refine ow_aloadN K X0 (pc' := 4) a d16_3 rfl rfl ?_
  refine ow_len K X0 (pc' := 5) e0 F d16_4 rfl ?_
  refine ow_icmpN K X0 (pc' := 8) d16_5 rfl (XT.ii_ge_f (by decide)) ?_
  refine ow_aloadN K X0 (pc' := 9) a d16_8 rfl rfl ?_
  refine ow_iloadN K X0 (pc' := 10) (0 : Int32) d16_9 rfl rfl ?_
  refine ow_dup2 K X0 (pc' := 11) d16_10 rfl rfl rfl ?_
  refine ow_laload K X0 (pc' := 12) e0 F 0 (.long v0) ⟨by decide, by decide⟩ (by decide) rfl d16_11 rfl ?_
  refine ow_ldc2 K X0 (pc' := 15) (4294967295 : Int64) d16_12 rfl (hw _ (List.mem_of_getElem? (i := 6) rfl)) ?_
  refine ow_land K X0 (pc' := 16) (v0 &&& (4294967295 : Int64)) d16_15 rfl rfl ?_
  refine ow_lastore K X0 (pc' := 17) e0 F 0 [.long (v0 &&& (4294967295 : Int64)), .long v1, .long v2, .long v3, .long v4, .long v5] ⟨by decide, by decide⟩ (by decide) (by simp) rfl d16_16 rfl ?_
  intro T1 h1 X1 e1 W1 F1
  have Z2 : n0 ≤ h1.size := Nat.le_trans Z0 (Nat.le_of_eq W1.size.symm)
  have N3 := Fr.snoc X1 N0 g
  refine ow_iinc K X1 (pc' := 20) (Ls' := #[.val (.ref a), .val (.int (2 : Int32))]) (2 : Int32) (2 : Int32) d16_17 rfl (by decide) rfl (by decide) rfl ?_
  refine ow_goto K X1 (pc' := 2) d16_20 (by decide) (by decide) ?_
  refine ow_iloadN K X1 (pc' := 3) (2 : Int32) d16_2 rfl rfl ?_
  refine ow_aloadN K X1 (pc' := 4) a d16_3 rfl rfl ?_
  refine ow_len K X1 (pc' := 5) e1 F1 d16_4 rfl ?_
  refine ow_icmpN K X1 (pc' := 8) d16_5 rfl (XT.ii_ge_f (by decide)) ?_
  refine ow_aloadN K X1 (pc' := 9) a d16_8 rfl rfl ?_
  refine ow_iloadN K X1 (pc' := 10) (2 : Int32) d16_9 rfl rfl ?_
  refine ow_dup2 K X1 (pc' := 11) d16_10 rfl rfl rfl ?_
  refine ow_laload K X1 (pc' := 12) e1 F1 2 (.long v2) ⟨by decide, by decide⟩ (by decide) rfl d16_11 rfl ?_
  refine ow_ldc2 K X1 (pc' := 15) (4294967295 : Int64) d16_12 rfl (hw _ (List.mem_of_getElem? (i := 6) rfl)) ?_
  refine ow_land K X1 (pc' := 16) (v2 &&& (4294967295 : Int64)) d16_15 rfl rfl ?_
  refine ow_lastore K X1 (pc' := 17) e1 F1 2 [.long (v0 &&& (4294967295 : Int64)), .long v1, .long (v2 &&& (4294967295 : Int64)), .long v3, .long v4, .long v5] ⟨by decide, by decide⟩ (by decide) (by simp) rfl d16_16 rfl ?_
  intro T4 h4 X4 e4 W4 F4
  have Z5 : n0 ≤ h4.size := Nat.le_trans Z2 (Nat.le_of_eq W4.size.symm)
  have N6 := Fr.snoc X4 N3 g
  refine ow_iinc K X4 (pc' := 20) (Ls' := #[.val (.ref a), .val (.int (4 : Int32))]) (2 : Int32) (4 : Int32) d16_17 rfl (by decide) rfl (by decide) rfl ?_
  refine ow_goto K X4 (pc' := 2) d16_20 (by decide) (by decide) ?_
  refine ow_iloadN K X4 (pc' := 3) (4 : Int32) d16_2 rfl rfl ?_
  refine ow_aloadN K X4 (pc' := 4) a d16_3 rfl rfl ?_
  refine ow_len K X4 (pc' := 5) e4 F4 d16_4 rfl ?_
  refine ow_icmpN K X4 (pc' := 8) d16_5 rfl (XT.ii_ge_f (by decide)) ?_
  refine ow_aloadN K X4 (pc' := 9) a d16_8 rfl rfl ?_
  refine ow_iloadN K X4 (pc' := 10) (4 : Int32) d16_9 rfl rfl ?_
  refine ow_dup2 K X4 (pc' := 11) d16_10 rfl rfl rfl ?_
  refine ow_laload K X4 (pc' := 12) e4 F4 4 (.long v4) ⟨by decide, by decide⟩ (by decide) rfl d16_11 rfl ?_
  refine ow_ldc2 K X4 (pc' := 15) (4294967295 : Int64) d16_12 rfl (hw _ (List.mem_of_getElem? (i := 6) rfl)) ?_
  refine ow_land K X4 (pc' := 16) (v4 &&& (4294967295 : Int64)) d16_15 rfl rfl ?_
  refine ow_lastore K X4 (pc' := 17) e4 F4 4 [.long (v0 &&& (4294967295 : Int64)), .long v1, .long (v2 &&& (4294967295 : Int64)), .long v3, .long (v4 &&& (4294967295 : Int64)), .long v5] ⟨by decide, by decide⟩ (by decide) (by simp) rfl d16_16 rfl ?_
  intro T7 h7 X7 e7 W7 F7
  have Z8 : n0 ≤ h7.size := Nat.le_trans Z5 (Nat.le_of_eq W7.size.symm)
  have N9 := Fr.snoc X7 N6 g
  refine ow_iinc K X7 (pc' := 20) (Ls' := #[.val (.ref a), .val (.int (6 : Int32))]) (2 : Int32) (6 : Int32) d16_17 rfl (by decide) rfl (by decide) rfl ?_
  refine ow_goto K X7 (pc' := 2) d16_20 (by decide) (by decide) ?_
  refine ow_iloadN K X7 (pc' := 3) (6 : Int32) d16_2 rfl rfl ?_
  refine ow_aloadN K X7 (pc' := 4) a d16_3 rfl rfl ?_
  refine ow_len K X7 (pc' := 5) e7 F7 d16_4 rfl ?_
  refine ow_icmpY K X7 (pc' := 23) d16_5 (XT.ii_ge_t (by decide)) (by decide) (by decide) ?_
  exact ow_ret K X7 rfl d16_23 ⟨rfl, N9, by rw [e7]; exact F7⟩ (by decide) (by decide)
def Q0 (n0 : Nat) (v : Option Value) (h : Heap) (L : List Loc) : Prop := v = some (.int 1) ∧ Fr n0 L
theorem pn_0 : plainName "com/example/percolith/percolith/graph/ResidualGraphClearMarksPinLaw" = true := by first | (simp [plainName, overriddenIn]; done) | decide +kernel
theorem ef_0 (m : MethodId) (q0 : Int64) (q1 : Int64) (q2 : Int64) (q3 : Int64) (q4 : Int64) (q5 : Int64) : entryFrame m #[(.long q0), (.long q1), (.long q2), (.long q3), (.long q4), (.long q5)] maxLocals = mkF m 0 #[.val (.long q0), .second, .val (.long q1), .second, .val (.long q2), .second, .val (.long q3), .second, .val (.long q4), .second, .val (.long q5), .second, .unset, .unset, .unset, .unset, .unset] [] := by first | (simp [entryFrame, mkF, argsToLocals, Value.category, maxLocals]; done) | rfl
set_option maxRecDepth 65536 in
set_option maxHeartbeats 40000000 in
theorem rm0 (l : Launch) (Z : State) (a0 : Array Value) (hw : ∀ d ∈ tables_1, d.before a0 Z = true) (ws : List Jvm.Cond) (q0 : Int64) (q1 : Int64) (q2 : Int64) (q3 : Int64) (q4 : Int64) (q5 : Int64) (h0 : Heap) (n0 : Nat) (Z0 : n0 ≤ h0.size) :
    MetFree l x (head1 (Jvm.Cond.code x code maxLocals ret :: ws) room_1) (fun as_ U => as_ = #[(.long q0), (.long q1), (.long q2), (.long q3), (.long q4), (.long q5)] ∧ Z.Warmed39 U.vm ∧ U.heap = h0) (fun _ _ _ _ _ => True) (fun _ U o U' => ∃ v L, o = .returned v ∧ Q0 n0 v U'.heap L ∧ FrameEnd U o U' L 1 6) := by
  refine MetFree.of_bodySF (plainFor_of_name pn_0) hisR ?_
  intro p e s m args below meth c s₁ Bd hml0 hP hK
  obtain ⟨rfl, hZ, hh⟩ := hP
  have K : ow_K p e below s m meth c Z "com/example/percolith/percolith/graph/ResidualGraphClearMarksPinLaw" code 17 (some .boolean) "law" (ow_Gl p e below s (Q0 n0) 1 6) := ⟨ow_Gl_bc, Bd.exec, Bd.bytes, hml0, findClass_of_methodNamed Bd.named, hZ, Bd.returns, Bd.notSynchronized, (name_of_methodNamed Bd.named Bd.method).1⟩
  have X0 : Stand p l e room_1 s m #[(.long q0), (.long q1), (.long q2), (.long q3), (.long q4), (.long q5)] below meth c s₁ [] 0 0 := Stand.of_body Bd
  have e0 : s₁.heap = h0 := by rw [← hh, Bd.state]; rfl
  have N0 := Fr.nil n0
  refine ow_entry (Q := (Q0 n0)) (ce := 1) (sl := 6) (ef_0 m q0 q1 q2 q3 q4 q5) ?_
  rcases own_and3L q5 with c3 | c3 | c3 | c3
  · refine ow_iconst K X0 (pc' := 1) (2 : Int32) at_0 rfl (by decide) ?_
    refine ow_lload K X0 (pc' := 3) q5 at_1 rfl rfl ?_
    refine ow_ldc2 K X0 (pc' := 6) (3 : Int64) at_3 rfl (hw _ (List.mem_of_getElem? (i := 0) rfl)) ?_
    refine ow_land K X0 (pc' := 7) (0 : Int64) at_6 rfl c3 ?_
    refine ow_l2i K X0 (pc' := 8) (0 : Int32) at_7 rfl (by decide) ?_
    refine ow_imul K X0 (pc' := 9) (0 : Int32) at_8 rfl (by decide) ?_
    refine ow_istore K X0 (pc' := 11) (Ls' := #[.val (.long q0), .second, .val (.long q1), .second, .val (.long q2), .second, .val (.long q3), .second, .val (.long q4), .second, .val (.long q5), .second, .val (.int (0 : Int32)), .unset, .unset, .unset, .unset]) at_9 rfl rfl ?_
    refine ow_lload K X0 (pc' := 13) q5 at_11 rfl rfl ?_
    refine ow_iconst K X0 (pc' := 14) (2 : Int32) at_13 rfl (by decide) ?_
    refine ow_lshr K X0 (pc' := 15) (q5 >>> (((2 : Int32)).toInt64 &&& 63)) at_14 rfl rfl ?_
    refine ow_lstore K X0 (pc' := 17) (Ls' := #[.val (.long q0), .second, .val (.long q1), .second, .val (.long q2), .second, .val (.long q3), .second, .val (.long q4), .second, .val (.long q5), .second, .val (.int (0 : Int32)), .val (.long (q5 >>> (((2 : Int32)).toInt64 &&& 63))), .second, .unset, .unset]) at_15 rfl rfl ?_
    refine ow_iload K X0 (pc' := 19) (0 : Int32) at_17 rfl rfl ?_
    refine ow_newP K X0 (pc' := 21) e0 (hw _ (List.mem_of_getElem? (i := 1) rfl)) (by decide) 0 (by decide) (by decide) (by decide) (by decide) at_19 rfl ?_
    intro T1 h1 k1 a1 X1 e1 E1 g1 A1
    have ge2 : n0 ≤ a1 := Nat.le_trans Z0 (Nat.le_of_eq g1.symm)
    have Z3 : n0 ≤ h1.size := Nat.le_trans Z0 E1.1
    have F4 : Arv Z h1 a1 k1 .long (0 : Int32) [] (.long 0) := A1
    refine ow_astore K X1 (pc' := 23) (Ls' := #[.val (.long q0), .second, .val (.long q1), .second, .val (.long q2), .second, .val (.long q3), .second, .val (.long q4), .second, .val (.long q5), .second, .val (.int (0 : Int32)), .val (.long (q5 >>> (((2 : Int32)).toInt64 &&& 63))), .second, .val (.ref a1), .unset]) at_21 rfl rfl ?_
    refine ow_iload K X1 (pc' := 25) (0 : Int32) at_23 rfl rfl ?_
    refine ow_ifY K X1 (pc' := 38) at_25 (XT.i0_le_t (by decide)) (by decide) (by decide) ?_
    refine ow_iload K X1 (pc' := 40) (0 : Int32) at_38 rfl rfl ?_
    refine ow_iconst K X1 (pc' := 41) (2 : Int32) at_40 rfl (by decide) ?_
    refine ow_icmpY K X1 (pc' := 56) at_41 (XT.ii_le_t (by decide)) (by decide) (by decide) ?_
    refine ow_iload K X1 (pc' := 58) (0 : Int32) at_56 rfl rfl ?_
    refine ow_iconst K X1 (pc' := 59) (4 : Int32) at_58 rfl (by decide) ?_
    refine ow_icmpY K X1 (pc' := 74) at_59 (XT.ii_le_t (by decide)) (by decide) (by decide) ?_
    refine ow_aload K X1 (pc' := 76) a1 at_74 rfl rfl ?_
    refine ow_callS K X1 (pc' := 79) e1 (y := (⟨"com/example/percolith/percolith/graph/ResidualGraph", "clearMarks", "([J)V"⟩ : MethodName)) (rm10 l Z a0 hw [] a1 k1  h1 n0 Z3 F4 ge2) (hw _ (List.mem_of_getElem? (i := 2) rfl)) (hw _ (List.mem_of_getElem? (i := 3) rfl)) (hw _ (List.mem_of_getElem? (i := 4) rfl)) (hw _ (List.mem_of_getElem? (i := 5) rfl)) (by decide) (st := []) 0 (by decide) (by decide) (by decide) (by decide) (by decide) rfl [.ref a1] rfl (lenOf pd_10 rfl) rfl at_76 rfl ?_
    intro v5 T5 L5 X5 hQ5
    obtain ⟨rfl, NN, F9⟩ := hQ5
    have N9 := Fr.app N0 NN
    refine ow_at (g := (mkF m 79 #[.val (.long q0), .second, .val (.long q1), .second, .val (.long q2), .second, .val (.long q3), .second, .val (.long q4), .second, .val (.long q5), .second, .val (.int (0 : Int32)), .val (.long (q5 >>> (((2 : Int32)).toInt64 &&& 63))), .second, .val (.ref a1), .unset] [])) ?_
    refine ow_aload K X5 (pc' := 81) a1 at_79 rfl rfl ?_
    refine ow_len K X5 (pc' := 82) (rfl : T5.heap = T5.heap) F9 at_81 rfl ?_
    refine ow_iload K X5 (pc' := 84) (0 : Int32) at_82 rfl rfl ?_
    refine ow_icmpN K X5 (pc' := 87) at_84 rfl (XT.ii_ne_f rfl) ?_
    refine ow_iconst K X5 (pc' := 88) (1 : Int32) at_87 rfl (by decide) ?_
    refine ow_goto K X5 (pc' := 92) at_88 (by decide) (by decide) ?_
    refine ow_istore K X5 (pc' := 94) (Ls' := #[.val (.long q0), .second, .val (.long q1), .second, .val (.long q2), .second, .val (.long q3), .second, .val (.long q4), .second, .val (.long q5), .second, .val (.int (0 : Int32)), .val (.long (q5 >>> (((2 : Int32)).toInt64 &&& 63))), .second, .val (.ref a1), .val (.int (1 : Int32))]) at_92 rfl rfl ?_
    refine ow_iload K X5 (pc' := 96) (0 : Int32) at_94 rfl rfl ?_
    refine ow_ifY K X5 (pc' := 133) at_96 (XT.i0_le_t (by decide)) (by decide) (by decide) ?_
    refine ow_iload K X5 (pc' := 135) (0 : Int32) at_133 rfl rfl ?_
    refine ow_iconst K X5 (pc' := 136) (2 : Int32) at_135 rfl (by decide) ?_
    refine ow_icmpY K X5 (pc' := 175) at_136 (XT.ii_le_t (by decide)) (by decide) (by decide) ?_
    refine ow_iload K X5 (pc' := 177) (0 : Int32) at_175 rfl rfl ?_
    refine ow_iconst K X5 (pc' := 178) (4 : Int32) at_177 rfl (by decide) ?_
    refine ow_icmpY K X5 (pc' := 217) at_178 (XT.ii_le_t (by decide)) (by decide) (by decide) ?_
    refine ow_iload K X5 (pc' := 219) (1 : Int32) at_217 rfl rfl ?_
    exact ow_retI K X5 .boolean rfl (by decide) (Or.inr (Or.inl rfl)) at_219 ⟨rfl, N9⟩ (by decide) (by decide)
  · refine ow_iconst K X0 (pc' := 1) (2 : Int32) at_0 rfl (by decide) ?_
    refine ow_lload K X0 (pc' := 3) q5 at_1 rfl rfl ?_
    refine ow_ldc2 K X0 (pc' := 6) (3 : Int64) at_3 rfl (hw _ (List.mem_of_getElem? (i := 0) rfl)) ?_
    refine ow_land K X0 (pc' := 7) (1 : Int64) at_6 rfl c3 ?_
    refine ow_l2i K X0 (pc' := 8) (1 : Int32) at_7 rfl (by decide) ?_
    refine ow_imul K X0 (pc' := 9) (2 : Int32) at_8 rfl (by decide) ?_
    refine ow_istore K X0 (pc' := 11) (Ls' := #[.val (.long q0), .second, .val (.long q1), .second, .val (.long q2), .second, .val (.long q3), .second, .val (.long q4), .second, .val (.long q5), .second, .val (.int (2 : Int32)), .unset, .unset, .unset, .unset]) at_9 rfl rfl ?_
    refine ow_lload K X0 (pc' := 13) q5 at_11 rfl rfl ?_
    refine ow_iconst K X0 (pc' := 14) (2 : Int32) at_13 rfl (by decide) ?_
    refine ow_lshr K X0 (pc' := 15) (q5 >>> (((2 : Int32)).toInt64 &&& 63)) at_14 rfl rfl ?_
    refine ow_lstore K X0 (pc' := 17) (Ls' := #[.val (.long q0), .second, .val (.long q1), .second, .val (.long q2), .second, .val (.long q3), .second, .val (.long q4), .second, .val (.long q5), .second, .val (.int (2 : Int32)), .val (.long (q5 >>> (((2 : Int32)).toInt64 &&& 63))), .second, .unset, .unset]) at_15 rfl rfl ?_
    refine ow_iload K X0 (pc' := 19) (2 : Int32) at_17 rfl rfl ?_
    refine ow_newP K X0 (pc' := 21) e0 (hw _ (List.mem_of_getElem? (i := 1) rfl)) (by decide) 2 (by decide) (by decide) (by decide) (by decide) at_19 rfl ?_
    intro T6 h6 k6 a1 X6 e6 E6 g6 A6
    have ge7 : n0 ≤ a1 := Nat.le_trans Z0 (Nat.le_of_eq g6.symm)
    have Z8 : n0 ≤ h6.size := Nat.le_trans Z0 E6.1
    have F9 : Arv Z h6 a1 k6 .long (2 : Int32) [.long 0, .long 0] (.long 0) := Arv.pad A6 (pad_rep [] (.long 0) 2)
    refine ow_astore K X6 (pc' := 23) (Ls' := #[.val (.long q0), .second, .val (.long q1), .second, .val (.long q2), .second, .val (.long q3), .second, .val (.long q4), .second, .val (.long q5), .second, .val (.int (2 : Int32)), .val (.long (q5 >>> (((2 : Int32)).toInt64 &&& 63))), .second, .val (.ref a1), .unset]) at_21 rfl rfl ?_
    refine ow_iload K X6 (pc' := 25) (2 : Int32) at_23 rfl rfl ?_
    refine ow_ifN K X6 (pc' := 28) at_25 rfl (XT.i0_le_f (by decide)) ?_
    refine ow_aload K X6 (pc' := 30) a1 at_28 rfl rfl ?_
    refine ow_iconst K X6 (pc' := 31) (0 : Int32) at_30 rfl (by decide) ?_
    refine ow_lloadN K X6 (pc' := 32) q0 at_31 rfl rfl ?_
    refine ow_lastore K X6 (pc' := 33) e6 F9 0 [.long q0, .long 0] ⟨by decide, by decide⟩ (by decide) (by simp) rfl at_32 rfl ?_
    intro T10 h10 X10 e10 W10 F10
    have Z11 : n0 ≤ h10.size := Nat.le_trans Z8 (Nat.le_of_eq W10.size.symm)
    have N12 := Fr.snoc X10 N0 ge7
    refine ow_aload K X10 (pc' := 35) a1 at_33 rfl rfl ?_
    refine ow_iconst K X10 (pc' := 36) (1 : Int32) at_35 rfl (by decide) ?_
    refine ow_lloadN K X10 (pc' := 37) q1 at_36 rfl rfl ?_
    refine ow_lastore K X10 (pc' := 38) e10 F10 1 [.long q0, .long q1] ⟨by decide, by decide⟩ (by decide) (by simp) rfl at_37 rfl ?_
    intro T13 h13 X13 e13 W13 F13
    have Z14 : n0 ≤ h13.size := Nat.le_trans Z11 (Nat.le_of_eq W13.size.symm)
    have N15 := Fr.snoc X13 N12 ge7
    refine ow_iload K X13 (pc' := 40) (2 : Int32) at_38 rfl rfl ?_
    refine ow_iconst K X13 (pc' := 41) (2 : Int32) at_40 rfl (by decide) ?_
    refine ow_icmpY K X13 (pc' := 56) at_41 (XT.ii_le_t (by decide)) (by decide) (by decide) ?_
    refine ow_iload K X13 (pc' := 58) (2 : Int32) at_56 rfl rfl ?_
    refine ow_iconst K X13 (pc' := 59) (4 : Int32) at_58 rfl (by decide) ?_
    refine ow_icmpY K X13 (pc' := 74) at_59 (XT.ii_le_t (by decide)) (by decide) (by decide) ?_
    refine ow_aload K X13 (pc' := 76) a1 at_74 rfl rfl ?_
    refine ow_callS K X13 (pc' := 79) e13 (y := (⟨"com/example/percolith/percolith/graph/ResidualGraph", "clearMarks", "([J)V"⟩ : MethodName)) (rm12 l Z a0 hw [] a1 k6 q0 q1 h13 n0 Z14 F13 ge7) (hw _ (List.mem_of_getElem? (i := 2) rfl)) (hw _ (List.mem_of_getElem? (i := 3) rfl)) (hw _ (List.mem_of_getElem? (i := 4) rfl)) (hw _ (List.mem_of_getElem? (i := 5) rfl)) (by decide) (st := []) 0 (by decide) (by decide) (by decide) (by decide) (by decide) rfl [.ref a1] rfl (lenOf pd_12 rfl) rfl at_76 rfl ?_
    intro v16 T16 L16 X16 hQ16
    obtain ⟨rfl, NN, F9⟩ := hQ16
    have N9 := Fr.app N15 NN
    refine ow_at (g := (mkF m 79 #[.val (.long q0), .second, .val (.long q1), .second, .val (.long q2), .second, .val (.long q3), .second, .val (.long q4), .second, .val (.long q5), .second, .val (.int (2 : Int32)), .val (.long (q5 >>> (((2 : Int32)).toInt64 &&& 63))), .second, .val (.ref a1), .unset] [])) ?_
    refine ow_aload K X16 (pc' := 81) a1 at_79 rfl rfl ?_
    refine ow_len K X16 (pc' := 82) (rfl : T16.heap = T16.heap) F9 at_81 rfl ?_
    refine ow_iload K X16 (pc' := 84) (2 : Int32) at_82 rfl rfl ?_
    refine ow_icmpN K X16 (pc' := 87) at_84 rfl (XT.ii_ne_f rfl) ?_
    refine ow_iconst K X16 (pc' := 88) (1 : Int32) at_87 rfl (by decide) ?_
    refine ow_goto K X16 (pc' := 92) at_88 (by decide) (by decide) ?_
    refine ow_istore K X16 (pc' := 94) (Ls' := #[.val (.long q0), .second, .val (.long q1), .second, .val (.long q2), .second, .val (.long q3), .second, .val (.long q4), .second, .val (.long q5), .second, .val (.int (2 : Int32)), .val (.long (q5 >>> (((2 : Int32)).toInt64 &&& 63))), .second, .val (.ref a1), .val (.int (1 : Int32))]) at_92 rfl rfl ?_
    refine ow_iload K X16 (pc' := 96) (2 : Int32) at_94 rfl rfl ?_
    refine ow_ifN K X16 (pc' := 99) at_96 rfl (XT.i0_le_f (by decide)) ?_
    refine ow_iload K X16 (pc' := 101) (1 : Int32) at_99 rfl rfl ?_
    refine ow_ifN K X16 (pc' := 104) at_101 rfl (XT.i0_eq_f (by decide)) ?_
    refine ow_aload K X16 (pc' := 106) a1 at_104 rfl rfl ?_
    refine ow_iconst K X16 (pc' := 107) (0 : Int32) at_106 rfl (by decide) ?_
    refine ow_laload K X16 (pc' := 108) (rfl : T16.heap = T16.heap) F9 0 (.long (q0 &&& (4294967295 : Int64))) ⟨by decide, by decide⟩ (by decide) rfl at_107 rfl ?_
    refine ow_lloadN K X16 (pc' := 109) q0 at_108 rfl rfl ?_
    refine ow_ldc2 K X16 (pc' := 112) (4294967295 : Int64) at_109 rfl (hw _ (List.mem_of_getElem? (i := 7) rfl)) ?_
    refine ow_land K X16 (pc' := 113) (q0 &&& (4294967295 : Int64)) at_112 rfl rfl ?_
    refine ow_lcmp K X16 (pc' := 114) (XT.cmpL (q0 &&& (4294967295 : Int64)) (q0 &&& (4294967295 : Int64))) at_113 rfl rfl ?_
    refine ow_ifN K X16 (pc' := 117) at_114 rfl (XT.ll_ne_f rfl) ?_
    refine ow_aload K X16 (pc' := 119) a1 at_117 rfl rfl ?_
    refine ow_iconst K X16 (pc' := 120) (1 : Int32) at_119 rfl (by decide) ?_
    refine ow_laload K X16 (pc' := 121) (rfl : T16.heap = T16.heap) F9 1 (.long q1) ⟨by decide, by decide⟩ (by decide) rfl at_120 rfl ?_
    refine ow_lloadN K X16 (pc' := 122) q1 at_121 rfl rfl ?_
    refine ow_lcmp K X16 (pc' := 123) (XT.cmpL q1 q1) at_122 rfl rfl ?_
    refine ow_ifN K X16 (pc' := 126) at_123 rfl (XT.ll_ne_f rfl) ?_
    refine ow_iconst K X16 (pc' := 127) (1 : Int32) at_126 rfl (by decide) ?_
    refine ow_goto K X16 (pc' := 131) at_127 (by decide) (by decide) ?_
    refine ow_istore K X16 (pc' := 133) (Ls' := #[.val (.long q0), .second, .val (.long q1), .second, .val (.long q2), .second, .val (.long q3), .second, .val (.long q4), .second, .val (.long q5), .second, .val (.int (2 : Int32)), .val (.long (q5 >>> (((2 : Int32)).toInt64 &&& 63))), .second, .val (.ref a1), .val (.int (1 : Int32))]) at_131 rfl rfl ?_
    refine ow_iload K X16 (pc' := 135) (2 : Int32) at_133 rfl rfl ?_
    refine ow_iconst K X16 (pc' := 136) (2 : Int32) at_135 rfl (by decide) ?_
    refine ow_icmpY K X16 (pc' := 175) at_136 (XT.ii_le_t (by decide)) (by decide) (by decide) ?_
    refine ow_iload K X16 (pc' := 177) (2 : Int32) at_175 rfl rfl ?_
    refine ow_iconst K X16 (pc' := 178) (4 : Int32) at_177 rfl (by decide) ?_
    refine ow_icmpY K X16 (pc' := 217) at_178 (XT.ii_le_t (by decide)) (by decide) (by decide) ?_
    refine ow_iload K X16 (pc' := 219) (1 : Int32) at_217 rfl rfl ?_
    exact ow_retI K X16 .boolean rfl (by decide) (Or.inr (Or.inl rfl)) at_219 ⟨rfl, N9⟩ (by decide) (by decide)
  · refine ow_iconst K X0 (pc' := 1) (2 : Int32) at_0 rfl (by decide) ?_
    refine ow_lload K X0 (pc' := 3) q5 at_1 rfl rfl ?_
    refine ow_ldc2 K X0 (pc' := 6) (3 : Int64) at_3 rfl (hw _ (List.mem_of_getElem? (i := 0) rfl)) ?_
    refine ow_land K X0 (pc' := 7) (2 : Int64) at_6 rfl c3 ?_
    refine ow_l2i K X0 (pc' := 8) (2 : Int32) at_7 rfl (by decide) ?_
    refine ow_imul K X0 (pc' := 9) (4 : Int32) at_8 rfl (by decide) ?_
    refine ow_istore K X0 (pc' := 11) (Ls' := #[.val (.long q0), .second, .val (.long q1), .second, .val (.long q2), .second, .val (.long q3), .second, .val (.long q4), .second, .val (.long q5), .second, .val (.int (4 : Int32)), .unset, .unset, .unset, .unset]) at_9 rfl rfl ?_
    refine ow_lload K X0 (pc' := 13) q5 at_11 rfl rfl ?_
    refine ow_iconst K X0 (pc' := 14) (2 : Int32) at_13 rfl (by decide) ?_
    refine ow_lshr K X0 (pc' := 15) (q5 >>> (((2 : Int32)).toInt64 &&& 63)) at_14 rfl rfl ?_
    refine ow_lstore K X0 (pc' := 17) (Ls' := #[.val (.long q0), .second, .val (.long q1), .second, .val (.long q2), .second, .val (.long q3), .second, .val (.long q4), .second, .val (.long q5), .second, .val (.int (4 : Int32)), .val (.long (q5 >>> (((2 : Int32)).toInt64 &&& 63))), .second, .unset, .unset]) at_15 rfl rfl ?_
    refine ow_iload K X0 (pc' := 19) (4 : Int32) at_17 rfl rfl ?_
    refine ow_newP K X0 (pc' := 21) e0 (hw _ (List.mem_of_getElem? (i := 1) rfl)) (by decide) 4 (by decide) (by decide) (by decide) (by decide) at_19 rfl ?_
    intro T17 h17 k17 a1 X17 e17 E17 g17 A17
    have ge18 : n0 ≤ a1 := Nat.le_trans Z0 (Nat.le_of_eq g17.symm)
    have Z19 : n0 ≤ h17.size := Nat.le_trans Z0 E17.1
    have F20 : Arv Z h17 a1 k17 .long (4 : Int32) [.long 0, .long 0, .long 0, .long 0] (.long 0) := Arv.pad A17 (pad_rep [] (.long 0) 4)
    refine ow_astore K X17 (pc' := 23) (Ls' := #[.val (.long q0), .second, .val (.long q1), .second, .val (.long q2), .second, .val (.long q3), .second, .val (.long q4), .second, .val (.long q5), .second, .val (.int (4 : Int32)), .val (.long (q5 >>> (((2 : Int32)).toInt64 &&& 63))), .second, .val (.ref a1), .unset]) at_21 rfl rfl ?_
    refine ow_iload K X17 (pc' := 25) (4 : Int32) at_23 rfl rfl ?_
    refine ow_ifN K X17 (pc' := 28) at_25 rfl (XT.i0_le_f (by decide)) ?_
    refine ow_aload K X17 (pc' := 30) a1 at_28 rfl rfl ?_
    refine ow_iconst K X17 (pc' := 31) (0 : Int32) at_30 rfl (by decide) ?_
    refine ow_lloadN K X17 (pc' := 32) q0 at_31 rfl rfl ?_
    refine ow_lastore K X17 (pc' := 33) e17 F20 0 [.long q0, .long 0, .long 0, .long 0] ⟨by decide, by decide⟩ (by decide) (by simp) rfl at_32 rfl ?_
    intro T21 h21 X21 e21 W21 F21
    have Z22 : n0 ≤ h21.size := Nat.le_trans Z19 (Nat.le_of_eq W21.size.symm)
    have N23 := Fr.snoc X21 N0 ge18
    refine ow_aload K X21 (pc' := 35) a1 at_33 rfl rfl ?_
    refine ow_iconst K X21 (pc' := 36) (1 : Int32) at_35 rfl (by decide) ?_
    refine ow_lloadN K X21 (pc' := 37) q1 at_36 rfl rfl ?_
    refine ow_lastore K X21 (pc' := 38) e21 F21 1 [.long q0, .long q1, .long 0, .long 0] ⟨by decide, by decide⟩ (by decide) (by simp) rfl at_37 rfl ?_
    intro T24 h24 X24 e24 W24 F24
    have Z25 : n0 ≤ h24.size := Nat.le_trans Z22 (Nat.le_of_eq W24.size.symm)
    have N26 := Fr.snoc X24 N23 ge18
    refine ow_iload K X24 (pc' := 40) (4 : Int32) at_38 rfl rfl ?_
    refine ow_iconst K X24 (pc' := 41) (2 : Int32) at_40 rfl (by decide) ?_
    refine ow_icmpN K X24 (pc' := 44) at_41 rfl (XT.ii_le_f (by decide)) ?_
    refine ow_aload K X24 (pc' := 46) a1 at_44 rfl rfl ?_
    refine ow_iconst K X24 (pc' := 47) (2 : Int32) at_46 rfl (by decide) ?_
    refine ow_lload K X24 (pc' := 49) q2 at_47 rfl rfl ?_
    refine ow_lastore K X24 (pc' := 50) e24 F24 2 [.long q0, .long q1, .long q2, .long 0] ⟨by decide, by decide⟩ (by decide) (by simp) rfl at_49 rfl ?_
    intro T27 h27 X27 e27 W27 F27
    have Z28 : n0 ≤ h27.size := Nat.le_trans Z25 (Nat.le_of_eq W27.size.symm)
    have N29 := Fr.snoc X27 N26 ge18
    refine ow_aload K X27 (pc' := 52) a1 at_50 rfl rfl ?_
    refine ow_iconst K X27 (pc' := 53) (3 : Int32) at_52 rfl (by decide) ?_
    refine ow_lload K X27 (pc' := 55) q3 at_53 rfl rfl ?_
    refine ow_lastore K X27 (pc' := 56) e27 F27 3 [.long q0, .long q1, .long q2, .long q3] ⟨by decide, by decide⟩ (by decide) (by simp) rfl at_55 rfl ?_
    intro T30 h30 X30 e30 W30 F30
    have Z31 : n0 ≤ h30.size := Nat.le_trans Z28 (Nat.le_of_eq W30.size.symm)
    have N32 := Fr.snoc X30 N29 ge18
    refine ow_iload K X30 (pc' := 58) (4 : Int32) at_56 rfl rfl ?_
    refine ow_iconst K X30 (pc' := 59) (4 : Int32) at_58 rfl (by decide) ?_
    refine ow_icmpY K X30 (pc' := 74) at_59 (XT.ii_le_t (by decide)) (by decide) (by decide) ?_
    refine ow_aload K X30 (pc' := 76) a1 at_74 rfl rfl ?_
    refine ow_callS K X30 (pc' := 79) e30 (y := (⟨"com/example/percolith/percolith/graph/ResidualGraph", "clearMarks", "([J)V"⟩ : MethodName)) (rm14 l Z a0 hw [] a1 k17 q0 q1 q2 q3 h30 n0 Z31 F30 ge18) (hw _ (List.mem_of_getElem? (i := 2) rfl)) (hw _ (List.mem_of_getElem? (i := 3) rfl)) (hw _ (List.mem_of_getElem? (i := 4) rfl)) (hw _ (List.mem_of_getElem? (i := 5) rfl)) (by decide) (st := []) 0 (by decide) (by decide) (by decide) (by decide) (by decide) rfl [.ref a1] rfl (lenOf pd_14 rfl) rfl at_76 rfl ?_
    intro v33 T33 L33 X33 hQ33
    obtain ⟨rfl, NN, F9⟩ := hQ33
    have N9 := Fr.app N32 NN
    refine ow_at (g := (mkF m 79 #[.val (.long q0), .second, .val (.long q1), .second, .val (.long q2), .second, .val (.long q3), .second, .val (.long q4), .second, .val (.long q5), .second, .val (.int (4 : Int32)), .val (.long (q5 >>> (((2 : Int32)).toInt64 &&& 63))), .second, .val (.ref a1), .unset] [])) ?_
    refine ow_aload K X33 (pc' := 81) a1 at_79 rfl rfl ?_
    refine ow_len K X33 (pc' := 82) (rfl : T33.heap = T33.heap) F9 at_81 rfl ?_
    refine ow_iload K X33 (pc' := 84) (4 : Int32) at_82 rfl rfl ?_
    refine ow_icmpN K X33 (pc' := 87) at_84 rfl (XT.ii_ne_f rfl) ?_
    refine ow_iconst K X33 (pc' := 88) (1 : Int32) at_87 rfl (by decide) ?_
    refine ow_goto K X33 (pc' := 92) at_88 (by decide) (by decide) ?_
    refine ow_istore K X33 (pc' := 94) (Ls' := #[.val (.long q0), .second, .val (.long q1), .second, .val (.long q2), .second, .val (.long q3), .second, .val (.long q4), .second, .val (.long q5), .second, .val (.int (4 : Int32)), .val (.long (q5 >>> (((2 : Int32)).toInt64 &&& 63))), .second, .val (.ref a1), .val (.int (1 : Int32))]) at_92 rfl rfl ?_
    refine ow_iload K X33 (pc' := 96) (4 : Int32) at_94 rfl rfl ?_
    refine ow_ifN K X33 (pc' := 99) at_96 rfl (XT.i0_le_f (by decide)) ?_
    refine ow_iload K X33 (pc' := 101) (1 : Int32) at_99 rfl rfl ?_
    refine ow_ifN K X33 (pc' := 104) at_101 rfl (XT.i0_eq_f (by decide)) ?_
    refine ow_aload K X33 (pc' := 106) a1 at_104 rfl rfl ?_
    refine ow_iconst K X33 (pc' := 107) (0 : Int32) at_106 rfl (by decide) ?_
    refine ow_laload K X33 (pc' := 108) (rfl : T33.heap = T33.heap) F9 0 (.long (q0 &&& (4294967295 : Int64))) ⟨by decide, by decide⟩ (by decide) rfl at_107 rfl ?_
    refine ow_lloadN K X33 (pc' := 109) q0 at_108 rfl rfl ?_
    refine ow_ldc2 K X33 (pc' := 112) (4294967295 : Int64) at_109 rfl (hw _ (List.mem_of_getElem? (i := 7) rfl)) ?_
    refine ow_land K X33 (pc' := 113) (q0 &&& (4294967295 : Int64)) at_112 rfl rfl ?_
    refine ow_lcmp K X33 (pc' := 114) (XT.cmpL (q0 &&& (4294967295 : Int64)) (q0 &&& (4294967295 : Int64))) at_113 rfl rfl ?_
    refine ow_ifN K X33 (pc' := 117) at_114 rfl (XT.ll_ne_f rfl) ?_
    refine ow_aload K X33 (pc' := 119) a1 at_117 rfl rfl ?_
    refine ow_iconst K X33 (pc' := 120) (1 : Int32) at_119 rfl (by decide) ?_
    refine ow_laload K X33 (pc' := 121) (rfl : T33.heap = T33.heap) F9 1 (.long q1) ⟨by decide, by decide⟩ (by decide) rfl at_120 rfl ?_
    refine ow_lloadN K X33 (pc' := 122) q1 at_121 rfl rfl ?_
    refine ow_lcmp K X33 (pc' := 123) (XT.cmpL q1 q1) at_122 rfl rfl ?_
    refine ow_ifN K X33 (pc' := 126) at_123 rfl (XT.ll_ne_f rfl) ?_
    refine ow_iconst K X33 (pc' := 127) (1 : Int32) at_126 rfl (by decide) ?_
    refine ow_goto K X33 (pc' := 131) at_127 (by decide) (by decide) ?_
    refine ow_istore K X33 (pc' := 133) (Ls' := #[.val (.long q0), .second, .val (.long q1), .second, .val (.long q2), .second, .val (.long q3), .second, .val (.long q4), .second, .val (.long q5), .second, .val (.int (4 : Int32)), .val (.long (q5 >>> (((2 : Int32)).toInt64 &&& 63))), .second, .val (.ref a1), .val (.int (1 : Int32))]) at_131 rfl rfl ?_
    refine ow_iload K X33 (pc' := 135) (4 : Int32) at_133 rfl rfl ?_
    refine ow_iconst K X33 (pc' := 136) (2 : Int32) at_135 rfl (by decide) ?_
    refine ow_icmpN K X33 (pc' := 139) at_136 rfl (XT.ii_le_f (by decide)) ?_
    refine ow_iload K X33 (pc' := 141) (1 : Int32) at_139 rfl rfl ?_
    refine ow_ifN K X33 (pc' := 144) at_141 rfl (XT.i0_eq_f (by decide)) ?_
    refine ow_aload K X33 (pc' := 146) a1 at_144 rfl rfl ?_
    refine ow_iconst K X33 (pc' := 147) (2 : Int32) at_146 rfl (by decide) ?_
    refine ow_laload K X33 (pc' := 148) (rfl : T33.heap = T33.heap) F9 2 (.long (q2 &&& (4294967295 : Int64))) ⟨by decide, by decide⟩ (by decide) rfl at_147 rfl ?_
    refine ow_lload K X33 (pc' := 150) q2 at_148 rfl rfl ?_
    refine ow_ldc2 K X33 (pc' := 153) (4294967295 : Int64) at_150 rfl (hw _ (List.mem_of_getElem? (i := 7) rfl)) ?_
    refine ow_land K X33 (pc' := 154) (q2 &&& (4294967295 : Int64)) at_153 rfl rfl ?_
    refine ow_lcmp K X33 (pc' := 155) (XT.cmpL (q2 &&& (4294967295 : Int64)) (q2 &&& (4294967295 : Int64))) at_154 rfl rfl ?_
    refine ow_ifN K X33 (pc' := 158) at_155 rfl (XT.ll_ne_f rfl) ?_
    refine ow_aload K X33 (pc' := 160) a1 at_158 rfl rfl ?_
    refine ow_iconst K X33 (pc' := 161) (3 : Int32) at_160 rfl (by decide) ?_
    refine ow_laload K X33 (pc' := 162) (rfl : T33.heap = T33.heap) F9 3 (.long q3) ⟨by decide, by decide⟩ (by decide) rfl at_161 rfl ?_
    refine ow_lload K X33 (pc' := 164) q3 at_162 rfl rfl ?_
    refine ow_lcmp K X33 (pc' := 165) (XT.cmpL q3 q3) at_164 rfl rfl ?_
    refine ow_ifN K X33 (pc' := 168) at_165 rfl (XT.ll_ne_f rfl) ?_
    refine ow_iconst K X33 (pc' := 169) (1 : Int32) at_168 rfl (by decide) ?_
    refine ow_goto K X33 (pc' := 173) at_169 (by decide) (by decide) ?_
    refine ow_istore K X33 (pc' := 175) (Ls' := #[.val (.long q0), .second, .val (.long q1), .second, .val (.long q2), .second, .val (.long q3), .second, .val (.long q4), .second, .val (.long q5), .second, .val (.int (4 : Int32)), .val (.long (q5 >>> (((2 : Int32)).toInt64 &&& 63))), .second, .val (.ref a1), .val (.int (1 : Int32))]) at_173 rfl rfl ?_
    refine ow_iload K X33 (pc' := 177) (4 : Int32) at_175 rfl rfl ?_
    refine ow_iconst K X33 (pc' := 178) (4 : Int32) at_177 rfl (by decide) ?_
    refine ow_icmpY K X33 (pc' := 217) at_178 (XT.ii_le_t (by decide)) (by decide) (by decide) ?_
    refine ow_iload K X33 (pc' := 219) (1 : Int32) at_217 rfl rfl ?_
    exact ow_retI K X33 .boolean rfl (by decide) (Or.inr (Or.inl rfl)) at_219 ⟨rfl, N9⟩ (by decide) (by decide)
  · refine ow_iconst K X0 (pc' := 1) (2 : Int32) at_0 rfl (by decide) ?_
    refine ow_lload K X0 (pc' := 3) q5 at_1 rfl rfl ?_
    refine ow_ldc2 K X0 (pc' := 6) (3 : Int64) at_3 rfl (hw _ (List.mem_of_getElem? (i := 0) rfl)) ?_
    refine ow_land K X0 (pc' := 7) (3 : Int64) at_6 rfl c3 ?_
    refine ow_l2i K X0 (pc' := 8) (3 : Int32) at_7 rfl (by decide) ?_
    refine ow_imul K X0 (pc' := 9) (6 : Int32) at_8 rfl (by decide) ?_
    refine ow_istore K X0 (pc' := 11) (Ls' := #[.val (.long q0), .second, .val (.long q1), .second, .val (.long q2), .second, .val (.long q3), .second, .val (.long q4), .second, .val (.long q5), .second, .val (.int (6 : Int32)), .unset, .unset, .unset, .unset]) at_9 rfl rfl ?_
    refine ow_lload K X0 (pc' := 13) q5 at_11 rfl rfl ?_
    refine ow_iconst K X0 (pc' := 14) (2 : Int32) at_13 rfl (by decide) ?_
    refine ow_lshr K X0 (pc' := 15) (q5 >>> (((2 : Int32)).toInt64 &&& 63)) at_14 rfl rfl ?_
    refine ow_lstore K X0 (pc' := 17) (Ls' := #[.val (.long q0), .second, .val (.long q1), .second, .val (.long q2), .second, .val (.long q3), .second, .val (.long q4), .second, .val (.long q5), .second, .val (.int (6 : Int32)), .val (.long (q5 >>> (((2 : Int32)).toInt64 &&& 63))), .second, .unset, .unset]) at_15 rfl rfl ?_
    refine ow_iload K X0 (pc' := 19) (6 : Int32) at_17 rfl rfl ?_
    refine ow_newP K X0 (pc' := 21) e0 (hw _ (List.mem_of_getElem? (i := 1) rfl)) (by decide) 6 (by decide) (by decide) (by decide) (by decide) at_19 rfl ?_
    intro T34 h34 k34 a1 X34 e34 E34 g34 A34
    have ge35 : n0 ≤ a1 := Nat.le_trans Z0 (Nat.le_of_eq g34.symm)
    have Z36 : n0 ≤ h34.size := Nat.le_trans Z0 E34.1
    have F37 : Arv Z h34 a1 k34 .long (6 : Int32) [.long 0, .long 0, .long 0, .long 0, .long 0, .long 0] (.long 0) := Arv.pad A34 (pad_rep [] (.long 0) 6)
    refine ow_astore K X34 (pc' := 23) (Ls' := #[.val (.long q0), .second, .val (.long q1), .second, .val (.long q2), .second, .val (.long q3), .second, .val (.long q4), .second, .val (.long q5), .second, .val (.int (6 : Int32)), .val (.long (q5 >>> (((2 : Int32)).toInt64 &&& 63))), .second, .val (.ref a1), .unset]) at_21 rfl rfl ?_
    refine ow_iload K X34 (pc' := 25) (6 : Int32) at_23 rfl rfl ?_
    refine ow_ifN K X34 (pc' := 28) at_25 rfl (XT.i0_le_f (by decide)) ?_
    refine ow_aload K X34 (pc' := 30) a1 at_28 rfl rfl ?_
    refine ow_iconst K X34 (pc' := 31) (0 : Int32) at_30 rfl (by decide) ?_
    refine ow_lloadN K X34 (pc' := 32) q0 at_31 rfl rfl ?_
    refine ow_lastore K X34 (pc' := 33) e34 F37 0 [.long q0, .long 0, .long 0, .long 0, .long 0, .long 0] ⟨by decide, by decide⟩ (by decide) (by simp) rfl at_32 rfl ?_
    intro T38 h38 X38 e38 W38 F38
    have Z39 : n0 ≤ h38.size := Nat.le_trans Z36 (Nat.le_of_eq W38.size.symm)
    have N40 := Fr.snoc X38 N0 ge35
    refine ow_aload K X38 (pc' := 35) a1 at_33 rfl rfl ?_
    refine ow_iconst K X38 (pc' := 36) (1 : Int32) at_35 rfl (by decide) ?_
    refine ow_lloadN K X38 (pc' := 37) q1 at_36 rfl rfl ?_
    refine ow_lastore K X38 (pc' := 38) e38 F38 1 [.long q0, .long q1, .long 0, .long 0, .long 0, .long 0] ⟨by decide, by decide⟩ (by decide) (by simp) rfl at_37 rfl ?_
    intro T41 h41 X41 e41 W41 F41
    have Z42 : n0 ≤ h41.size := Nat.le_trans Z39 (Nat.le_of_eq W41.size.symm)
    have N43 := Fr.snoc X41 N40 ge35
    refine ow_iload K X41 (pc' := 40) (6 : Int32) at_38 rfl rfl ?_
    refine ow_iconst K X41 (pc' := 41) (2 : Int32) at_40 rfl (by decide) ?_
    refine ow_icmpN K X41 (pc' := 44) at_41 rfl (XT.ii_le_f (by decide)) ?_
    refine ow_aload K X41 (pc' := 46) a1 at_44 rfl rfl ?_
    refine ow_iconst K X41 (pc' := 47) (2 : Int32) at_46 rfl (by decide) ?_
    refine ow_lload K X41 (pc' := 49) q2 at_47 rfl rfl ?_
    refine ow_lastore K X41 (pc' := 50) e41 F41 2 [.long q0, .long q1, .long q2, .long 0, .long 0, .long 0] ⟨by decide, by decide⟩ (by decide) (by simp) rfl at_49 rfl ?_
    intro T44 h44 X44 e44 W44 F44
    have Z45 : n0 ≤ h44.size := Nat.le_trans Z42 (Nat.le_of_eq W44.size.symm)
    have N46 := Fr.snoc X44 N43 ge35
    refine ow_aload K X44 (pc' := 52) a1 at_50 rfl rfl ?_
    refine ow_iconst K X44 (pc' := 53) (3 : Int32) at_52 rfl (by decide) ?_
    refine ow_lload K X44 (pc' := 55) q3 at_53 rfl rfl ?_
    refine ow_lastore K X44 (pc' := 56) e44 F44 3 [.long q0, .long q1, .long q2, .long q3, .long 0, .long 0] ⟨by decide, by decide⟩ (by decide) (by simp) rfl at_55 rfl ?_
    intro T47 h47 X47 e47 W47 F47
    have Z48 : n0 ≤ h47.size := Nat.le_trans Z45 (Nat.le_of_eq W47.size.symm)
    have N49 := Fr.snoc X47 N46 ge35
    refine ow_iload K X47 (pc' := 58) (6 : Int32) at_56 rfl rfl ?_
    refine ow_iconst K X47 (pc' := 59) (4 : Int32) at_58 rfl (by decide) ?_
    refine ow_icmpN K X47 (pc' := 62) at_59 rfl (XT.ii_le_f (by decide)) ?_
    refine ow_aload K X47 (pc' := 64) a1 at_62 rfl rfl ?_
    refine ow_iconst K X47 (pc' := 65) (4 : Int32) at_64 rfl (by decide) ?_
    refine ow_lload K X47 (pc' := 67) q4 at_65 rfl rfl ?_
    refine ow_lastore K X47 (pc' := 68) e47 F47 4 [.long q0, .long q1, .long q2, .long q3, .long q4, .long 0] ⟨by decide, by decide⟩ (by decide) (by simp) rfl at_67 rfl ?_
    intro T50 h50 X50 e50 W50 F50
    have Z51 : n0 ≤ h50.size := Nat.le_trans Z48 (Nat.le_of_eq W50.size.symm)
    have N52 := Fr.snoc X50 N49 ge35
    refine ow_aload K X50 (pc' := 70) a1 at_68 rfl rfl ?_
    refine ow_iconst K X50 (pc' := 71) (5 : Int32) at_70 rfl (by decide) ?_
    refine ow_lload K X50 (pc' := 73) (q5 >>> (((2 : Int32)).toInt64 &&& 63)) at_71 rfl rfl ?_
    refine ow_lastore K X50 (pc' := 74) e50 F50 5 [.long q0, .long q1, .long q2, .long q3, .long q4, .long (q5 >>> (((2 : Int32)).toInt64 &&& 63))] ⟨by decide, by decide⟩ (by decide) (by simp) rfl at_73 rfl ?_
    intro T53 h53 X53 e53 W53 F53
    have Z54 : n0 ≤ h53.size := Nat.le_trans Z51 (Nat.le_of_eq W53.size.symm)
    have N55 := Fr.snoc X53 N52 ge35
    refine ow_aload K X53 (pc' := 76) a1 at_74 rfl rfl ?_
    refine ow_callS K X53 (pc' := 79) e53 (y := (⟨"com/example/percolith/percolith/graph/ResidualGraph", "clearMarks", "([J)V"⟩ : MethodName)) (rm16 l Z a0 hw [] a1 k34 q0 q1 q2 q3 q4 (q5 >>> (((2 : Int32)).toInt64 &&& 63)) h53 n0 Z54 F53 ge35) (hw _ (List.mem_of_getElem? (i := 2) rfl)) (hw _ (List.mem_of_getElem? (i := 3) rfl)) (hw _ (List.mem_of_getElem? (i := 4) rfl)) (hw _ (List.mem_of_getElem? (i := 5) rfl)) (by decide) (st := []) 0 (by decide) (by decide) (by decide) (by decide) (by decide) rfl [.ref a1] rfl (lenOf pd_16 rfl) rfl at_76 rfl ?_
    intro v56 T56 L56 X56 hQ56
    obtain ⟨rfl, NN, F9⟩ := hQ56
    have N9 := Fr.app N55 NN
    refine ow_at (g := (mkF m 79 #[.val (.long q0), .second, .val (.long q1), .second, .val (.long q2), .second, .val (.long q3), .second, .val (.long q4), .second, .val (.long q5), .second, .val (.int (6 : Int32)), .val (.long (q5 >>> (((2 : Int32)).toInt64 &&& 63))), .second, .val (.ref a1), .unset] [])) ?_
    refine ow_aload K X56 (pc' := 81) a1 at_79 rfl rfl ?_
    refine ow_len K X56 (pc' := 82) (rfl : T56.heap = T56.heap) F9 at_81 rfl ?_
    refine ow_iload K X56 (pc' := 84) (6 : Int32) at_82 rfl rfl ?_
    refine ow_icmpN K X56 (pc' := 87) at_84 rfl (XT.ii_ne_f rfl) ?_
    refine ow_iconst K X56 (pc' := 88) (1 : Int32) at_87 rfl (by decide) ?_
    refine ow_goto K X56 (pc' := 92) at_88 (by decide) (by decide) ?_
    refine ow_istore K X56 (pc' := 94) (Ls' := #[.val (.long q0), .second, .val (.long q1), .second, .val (.long q2), .second, .val (.long q3), .second, .val (.long q4), .second, .val (.long q5), .second, .val (.int (6 : Int32)), .val (.long (q5 >>> (((2 : Int32)).toInt64 &&& 63))), .second, .val (.ref a1), .val (.int (1 : Int32))]) at_92 rfl rfl ?_
    refine ow_iload K X56 (pc' := 96) (6 : Int32) at_94 rfl rfl ?_
    refine ow_ifN K X56 (pc' := 99) at_96 rfl (XT.i0_le_f (by decide)) ?_
    refine ow_iload K X56 (pc' := 101) (1 : Int32) at_99 rfl rfl ?_
    refine ow_ifN K X56 (pc' := 104) at_101 rfl (XT.i0_eq_f (by decide)) ?_
    refine ow_aload K X56 (pc' := 106) a1 at_104 rfl rfl ?_
    refine ow_iconst K X56 (pc' := 107) (0 : Int32) at_106 rfl (by decide) ?_
    refine ow_laload K X56 (pc' := 108) (rfl : T56.heap = T56.heap) F9 0 (.long (q0 &&& (4294967295 : Int64))) ⟨by decide, by decide⟩ (by decide) rfl at_107 rfl ?_
    refine ow_lloadN K X56 (pc' := 109) q0 at_108 rfl rfl ?_
    refine ow_ldc2 K X56 (pc' := 112) (4294967295 : Int64) at_109 rfl (hw _ (List.mem_of_getElem? (i := 7) rfl)) ?_
    refine ow_land K X56 (pc' := 113) (q0 &&& (4294967295 : Int64)) at_112 rfl rfl ?_
    refine ow_lcmp K X56 (pc' := 114) (XT.cmpL (q0 &&& (4294967295 : Int64)) (q0 &&& (4294967295 : Int64))) at_113 rfl rfl ?_
    refine ow_ifN K X56 (pc' := 117) at_114 rfl (XT.ll_ne_f rfl) ?_
    refine ow_aload K X56 (pc' := 119) a1 at_117 rfl rfl ?_
    refine ow_iconst K X56 (pc' := 120) (1 : Int32) at_119 rfl (by decide) ?_
    refine ow_laload K X56 (pc' := 121) (rfl : T56.heap = T56.heap) F9 1 (.long q1) ⟨by decide, by decide⟩ (by decide) rfl at_120 rfl ?_
    refine ow_lloadN K X56 (pc' := 122) q1 at_121 rfl rfl ?_
    refine ow_lcmp K X56 (pc' := 123) (XT.cmpL q1 q1) at_122 rfl rfl ?_
    refine ow_ifN K X56 (pc' := 126) at_123 rfl (XT.ll_ne_f rfl) ?_
    refine ow_iconst K X56 (pc' := 127) (1 : Int32) at_126 rfl (by decide) ?_
    refine ow_goto K X56 (pc' := 131) at_127 (by decide) (by decide) ?_
    refine ow_istore K X56 (pc' := 133) (Ls' := #[.val (.long q0), .second, .val (.long q1), .second, .val (.long q2), .second, .val (.long q3), .second, .val (.long q4), .second, .val (.long q5), .second, .val (.int (6 : Int32)), .val (.long (q5 >>> (((2 : Int32)).toInt64 &&& 63))), .second, .val (.ref a1), .val (.int (1 : Int32))]) at_131 rfl rfl ?_
    refine ow_iload K X56 (pc' := 135) (6 : Int32) at_133 rfl rfl ?_
    refine ow_iconst K X56 (pc' := 136) (2 : Int32) at_135 rfl (by decide) ?_
    refine ow_icmpN K X56 (pc' := 139) at_136 rfl (XT.ii_le_f (by decide)) ?_
    refine ow_iload K X56 (pc' := 141) (1 : Int32) at_139 rfl rfl ?_
    refine ow_ifN K X56 (pc' := 144) at_141 rfl (XT.i0_eq_f (by decide)) ?_
    refine ow_aload K X56 (pc' := 146) a1 at_144 rfl rfl ?_
    refine ow_iconst K X56 (pc' := 147) (2 : Int32) at_146 rfl (by decide) ?_
    refine ow_laload K X56 (pc' := 148) (rfl : T56.heap = T56.heap) F9 2 (.long (q2 &&& (4294967295 : Int64))) ⟨by decide, by decide⟩ (by decide) rfl at_147 rfl ?_
    refine ow_lload K X56 (pc' := 150) q2 at_148 rfl rfl ?_
    refine ow_ldc2 K X56 (pc' := 153) (4294967295 : Int64) at_150 rfl (hw _ (List.mem_of_getElem? (i := 7) rfl)) ?_
    refine ow_land K X56 (pc' := 154) (q2 &&& (4294967295 : Int64)) at_153 rfl rfl ?_
    refine ow_lcmp K X56 (pc' := 155) (XT.cmpL (q2 &&& (4294967295 : Int64)) (q2 &&& (4294967295 : Int64))) at_154 rfl rfl ?_
    refine ow_ifN K X56 (pc' := 158) at_155 rfl (XT.ll_ne_f rfl) ?_
    refine ow_aload K X56 (pc' := 160) a1 at_158 rfl rfl ?_
    refine ow_iconst K X56 (pc' := 161) (3 : Int32) at_160 rfl (by decide) ?_
    refine ow_laload K X56 (pc' := 162) (rfl : T56.heap = T56.heap) F9 3 (.long q3) ⟨by decide, by decide⟩ (by decide) rfl at_161 rfl ?_
    refine ow_lload K X56 (pc' := 164) q3 at_162 rfl rfl ?_
    refine ow_lcmp K X56 (pc' := 165) (XT.cmpL q3 q3) at_164 rfl rfl ?_
    refine ow_ifN K X56 (pc' := 168) at_165 rfl (XT.ll_ne_f rfl) ?_
    refine ow_iconst K X56 (pc' := 169) (1 : Int32) at_168 rfl (by decide) ?_
    refine ow_goto K X56 (pc' := 173) at_169 (by decide) (by decide) ?_
    refine ow_istore K X56 (pc' := 175) (Ls' := #[.val (.long q0), .second, .val (.long q1), .second, .val (.long q2), .second, .val (.long q3), .second, .val (.long q4), .second, .val (.long q5), .second, .val (.int (6 : Int32)), .val (.long (q5 >>> (((2 : Int32)).toInt64 &&& 63))), .second, .val (.ref a1), .val (.int (1 : Int32))]) at_173 rfl rfl ?_
    refine ow_iload K X56 (pc' := 177) (6 : Int32) at_175 rfl rfl ?_
    refine ow_iconst K X56 (pc' := 178) (4 : Int32) at_177 rfl (by decide) ?_
    refine ow_icmpN K X56 (pc' := 181) at_178 rfl (XT.ii_le_f (by decide)) ?_
    refine ow_iload K X56 (pc' := 183) (1 : Int32) at_181 rfl rfl ?_
    refine ow_ifN K X56 (pc' := 186) at_183 rfl (XT.i0_eq_f (by decide)) ?_
    refine ow_aload K X56 (pc' := 188) a1 at_186 rfl rfl ?_
    refine ow_iconst K X56 (pc' := 189) (4 : Int32) at_188 rfl (by decide) ?_
    refine ow_laload K X56 (pc' := 190) (rfl : T56.heap = T56.heap) F9 4 (.long (q4 &&& (4294967295 : Int64))) ⟨by decide, by decide⟩ (by decide) rfl at_189 rfl ?_
    refine ow_lload K X56 (pc' := 192) q4 at_190 rfl rfl ?_
    refine ow_ldc2 K X56 (pc' := 195) (4294967295 : Int64) at_192 rfl (hw _ (List.mem_of_getElem? (i := 7) rfl)) ?_
    refine ow_land K X56 (pc' := 196) (q4 &&& (4294967295 : Int64)) at_195 rfl rfl ?_
    refine ow_lcmp K X56 (pc' := 197) (XT.cmpL (q4 &&& (4294967295 : Int64)) (q4 &&& (4294967295 : Int64))) at_196 rfl rfl ?_
    refine ow_ifN K X56 (pc' := 200) at_197 rfl (XT.ll_ne_f rfl) ?_
    refine ow_aload K X56 (pc' := 202) a1 at_200 rfl rfl ?_
    refine ow_iconst K X56 (pc' := 203) (5 : Int32) at_202 rfl (by decide) ?_
    refine ow_laload K X56 (pc' := 204) (rfl : T56.heap = T56.heap) F9 5 (.long (q5 >>> (((2 : Int32)).toInt64 &&& 63))) ⟨by decide, by decide⟩ (by decide) rfl at_203 rfl ?_
    refine ow_lload K X56 (pc' := 206) (q5 >>> (((2 : Int32)).toInt64 &&& 63)) at_204 rfl rfl ?_
    refine ow_lcmp K X56 (pc' := 207) (XT.cmpL (q5 >>> (((2 : Int32)).toInt64 &&& 63)) (q5 >>> (((2 : Int32)).toInt64 &&& 63))) at_206 rfl rfl ?_
    refine ow_ifN K X56 (pc' := 210) at_207 rfl (XT.ll_ne_f rfl) ?_
    refine ow_iconst K X56 (pc' := 211) (1 : Int32) at_210 rfl (by decide) ?_
    refine ow_goto K X56 (pc' := 215) at_211 (by decide) (by decide) ?_
    refine ow_istore K X56 (pc' := 217) (Ls' := #[.val (.long q0), .second, .val (.long q1), .second, .val (.long q2), .second, .val (.long q3), .second, .val (.long q4), .second, .val (.long q5), .second, .val (.int (6 : Int32)), .val (.long (q5 >>> (((2 : Int32)).toInt64 &&& 63))), .second, .val (.ref a1), .val (.int (1 : Int32))]) at_215 rfl rfl ?_
    refine ow_iload K X56 (pc' := 219) (1 : Int32) at_217 rfl rfl ?_
    exact ow_retI K X56 .boolean rfl (by decide) (Or.inr (Or.inl rfl)) at_219 ⟨rfl, N9⟩ (by decide) (by decide)
set_option maxRecDepth 65536 in
set_option maxHeartbeats 40000000 in
theorem comes_1 {Post : Tables → Env → Array Value → State → Outcome → State → Prop} (hpost : ∀ tb e args s v u, (limb_1_1.after args s (.returned v) u = true ∧ limb_1_2.after args s (.returned v) u = true ∧ True) → FrameEnd s (.returned v) u (Jvm.fieldLocs frame_1_writes args s ++ Jvm.arrayLocs frame_1_arrays args s ++ Jvm.staticLocs frame_1_statics s) 16 128 → Post tb e args s (.returned v) u) :
    ArmFor flags0 classFile x code maxLocals ret World_1 tables_1 room_1 Calls_1 rest_1 Pre_1 Post := by
  intro l hfl _ _ p e ha hc hk s m args below hf hA hF happ hP
  obtain ⟨hcalls, hrest, hpre⟩ := hP
  obtain ⟨-, -, -, hnamed, -, -, -, hat⟩ := (Spec.applies_iff hf).mp happ
  obtain ⟨hg, hn⟩ := and_e (Cond.before_iff.mp (show (Jvm.Cond.and given_1 narrow_1).before args s = true from hpre))
  obtain ⟨hcount, b0⟩ := and_e hg
  obtain ⟨a0, b1⟩ := and_e b0
  obtain ⟨a1, b2⟩ := and_e b1
  obtain ⟨a2, b3⟩ := and_e b2
  obtain ⟨a3, b4⟩ := and_e b3
  obtain ⟨a4, b5⟩ := and_e b4
  obtain ⟨w0, w1, w2, w3, w4, w5, rfl⟩ : ∃ w0 w1 w2 w3 w4 w5 : Value, args = #[w0, w1, w2, w3, w4, w5] := by
    have hs : args.size = 6 := by simpa [Cond.value, given_1] using hcount
    obtain ⟨L⟩ := args
    match L, hs with
    | [w0, w1, w2, w3, w4, w5], _ => exact ⟨w0, w1, w2, w3, w4, w5, rfl⟩
  have hw := fun d (hd : d ∈ tables_1) => atoms_spec (ws := Jvm.Cond.code x code maxLocals ret :: tables_1) hat d (List.mem_cons_of_mem _ hd)
  obtain ⟨i0, f0⟩ := isL_v a0
  obtain rfl : w0 = (.long i0) := Option.some.inj f0
  obtain ⟨i1, f1⟩ := isL_v a1
  obtain rfl : w1 = (.long i1) := Option.some.inj f1
  obtain ⟨i2, f2⟩ := isL_v a2
  obtain rfl : w2 = (.long i2) := Option.some.inj f2
  obtain ⟨i3, f3⟩ := isL_v a3
  obtain rfl : w3 = (.long i3) := Option.some.inj f3
  obtain ⟨i4, f4⟩ := isL_v a4
  obtain rfl : w4 = (.long i4) := Option.some.inj f4
  obtain ⟨i5, f5⟩ := isL_v b5
  obtain rfl : w5 = (.long i5) := Option.some.inj f5
  obtain ⟨n, o, h1, h2, h3, _, L, rfl, ⟨rfl, N⟩, hq⟩ := rm0 l s _ hw tables_1 i0 i1 i2 i3 i4 i5 s.heap s.heap.size (Nat.le_refl _) p e ha hc hk s m _ below hf ((Spec.applies_iff_loose hf).mp happ).1 ⟨rfl, State.Warmed39.refl s, rfl⟩ trivial
  refine ⟨n, _, h1, h2, h3, hpost _ _ _ _ _ _ ⟨Cond.after_iff.mpr rfl, Cond.after_iff.mpr (eq_i res_at (Term.int_eval (1)) rfl), trivial⟩ ⟨hq.1, hq.2.1, (hq.2.2.sift fun y hy => Or.inr (N y hy)).mono (by decide) (by decide)⟩⟩
theorem main_1_1 : Claimed_1_1 := comes_1 fun _ _ _ _ _ _ h hF => ⟨h.1, hF⟩
theorem main_1_2 : Claimed_1_2 := comes_1 fun _ _ _ _ _ _ h hF => ⟨h.2.1, hF⟩
end Jvm.Pilot.@@N@@
namespace Jvm.Pilot.@@N@@
open Jvm Jvm.ClassFile Sem Op Lib Jvm.Free Jvm.Stand Jvm.Pilot.@@N@@.Jvm.D
/-! MADE BY PROGRAM (witnessworld.py) out of the Statement's table words and the real class files: 11 classes; the members and pool entries that the words name. The judged class is class 1, her method 1. -/
namespace start1
open Jvm.ClassFile
def u (s : String) : CpInfo := .utf8 (stringToUtf16 s)
/-- a pool by its gaps: so many unusable entries, then the entry; so many at the end -/
def gap : Nat → List CpInfo → List CpInfo
  | 0, r => r
  | n + 1, r => .unusable :: gap n r
def poolList (es : List (Nat × CpInfo)) (last : Nat) : List CpInfo := es.foldr (fun e r => gap e.1 (e.2 :: r)) (gap last [])
def pool (es : List (Nat × CpInfo)) (last : Nat) : Array CpInfo := ⟨poolList es last⟩
def fileOf (pool : Array CpInfo) (this : Nat) (attrs : Array Attribute := #[]) (ms : Array MethodInfo := #[]) (fl : Nat := 33) (sup : Nat := 0) (ifs : Array Nat := #[]) (fds : Array FieldInfo := #[]) : ClassFile where
  minorVersion := 0
  majorVersion := 65
  constantPool := pool
  accessFlags := fl
  thisClass := this
  superClass := sup
  interfaces := ifs
  fields := fds
  methods := ms
  attributes := attrs
def plain (name : String) (sup : Option ClassId) : Class where
  name := name
  kind := .ordinary
  loader := none
  accessFlags := 33
  super := sup
  interfaces := #[]
  cf := none
  fields := #[]
  methods := #[]
  instanceTypes := #[]
  staticTypes := #[]
  resolved := #[]
  callSites := []
  init := .initialized
  statics := none
  mirror := none

def pool0 : Array CpInfo := pool [(5, u "<init>"), (0, u "()V"), (1, .class_ 10), (1, u "java/lang/Object")] 113

def k0m0 : Method := { name := "<init>", desc := "()V", sig := { parameters := [], returnType := none }, accessFlags := 1, code := none }
/-- java/lang/Object -/
def k0 : Class := { plain "java/lang/Object" none with
  accessFlags := 33
  interfaces := #[]
  cf := some (fileOf pool0 8 #[] #[{ accessFlags := 1, nameIndex := 5, descriptorIndex := 6, attributes := #[] }] 33 0 #[] #[])
  fields := #[]
  methods := #[k0m0]
  instanceTypes := #[]
  staticTypes := #[]
  resolved := Array.replicate 124 none
  statics := none }

def pool1 : Array CpInfo := pool [(2, .class_ 4), (1, u "java/lang/Object"), (0, u "<init>"), (0, u "()V"), (0, .long 3), (1, .methodref 10 11), (0, .class_ 12), (0, .nameAndType 13 14), (0, u "com/example/percolith/percolith/graph/ResidualGraph"), (0, u "clearMarks"), (0, u "([J)V"), (0, .class_ 16), (0, u "com/example/percolith/percolith/graph/ResidualGraphClearMarksPinLaw"), (0, .long 4294967295), (1, u "LOW"), (0, u "J"), (3, u "law"), (0, u "(JJJJJJ)Z")] 5

def k1m0 : Method := { name := "<init>", desc := "()V", sig := { parameters := [], returnType := none }, accessFlags := 1, code := none }
def k1c1 : Code := { maxStack := 6, maxLocals := 17, code := code, exceptionTable := #[], attributes := #[] }
def k1m1 : Method := { name := "law", desc := "(JJJJJJ)Z", sig := { parameters := [.long, .long, .long, .long, .long, .long], returnType := some .boolean }, accessFlags := 9, code := some k1c1 }
/-- com/example/percolith/percolith/graph/ResidualGraphClearMarksPinLaw -/
def k1 : Class := { plain "com/example/percolith/percolith/graph/ResidualGraphClearMarksPinLaw" (some 0) with
  accessFlags := 49
  interfaces := #[]
  cf := some (fileOf pool1 15 #[] #[{ accessFlags := 1, nameIndex := 5, descriptorIndex := 6, attributes := #[] }, { accessFlags := 9, nameIndex := 24, descriptorIndex := 25, attributes := #[] }] 49 2 #[] #[{ accessFlags := 26, nameIndex := 19, descriptorIndex := 20, attributes := #[] }])
  fields := #[{ name := "LOW", type := .long, accessFlags := 26, slot := 0, constantValue := 0 }]
  methods := #[k1m0, k1m1]
  instanceTypes := #[]
  staticTypes := #[.long]
  resolved := Array.replicate 31 none
  statics := none }

def pool2 : Array CpInfo := pool [(2, .class_ 4), (1, u "java/lang/Object"), (3, .class_ 10), (1, u "com/example/percolith/percolith/graph/ResidualGraph"), (0, u "graph"), (0, u "Lcom/example/percolith/percolith/graph/Graph;"), (8, u "cells"), (0, u "[J"), (41, u "searched"), (0, u "Z"), (13, .long 4294967295), (9, u "REMOVED"), (0, u "I"), (2, u "CELL"), (1, u "STATE"), (1, u "SPAN"), (1, u "LOW_HALF"), (0, u "J"), (10, u "clearMarks"), (0, u "([J)V")] 17

def k2c0 : Code := { maxStack := 6, maxLocals := 2, code := prog_30_method_10_code, exceptionTable := #[], attributes := #[] }
def k2m0 : Method := { name := "clearMarks", desc := "([J)V", sig := { parameters := [(.array .long)], returnType := none }, accessFlags := 8, code := some k2c0 }
/-- com/example/percolith/percolith/graph/ResidualGraph -/
def k2 : Class := { plain "com/example/percolith/percolith/graph/ResidualGraph" (some 0) with
  accessFlags := 49
  interfaces := #[]
  cf := some (fileOf pool2 8 #[] #[{ accessFlags := 8, nameIndex := 111, descriptorIndex := 112, attributes := #[] }] 49 2 #[] #[{ accessFlags := 26, nameIndex := 89, descriptorIndex := 90, attributes := #[] }, { accessFlags := 26, nameIndex := 93, descriptorIndex := 90, attributes := #[] }, { accessFlags := 26, nameIndex := 95, descriptorIndex := 90, attributes := #[] }, { accessFlags := 26, nameIndex := 97, descriptorIndex := 90, attributes := #[] }, { accessFlags := 26, nameIndex := 99, descriptorIndex := 100, attributes := #[] }, { accessFlags := 18, nameIndex := 11, descriptorIndex := 12, attributes := #[] }, { accessFlags := 18, nameIndex := 21, descriptorIndex := 22, attributes := #[] }, { accessFlags := 2, nameIndex := 64, descriptorIndex := 65, attributes := #[] }])
  fields := #[{ name := "REMOVED", type := .int, accessFlags := 26, slot := 0, constantValue := 0 }, { name := "CELL", type := .int, accessFlags := 26, slot := 1, constantValue := 0 }, { name := "STATE", type := .int, accessFlags := 26, slot := 2, constantValue := 0 }, { name := "SPAN", type := .int, accessFlags := 26, slot := 3, constantValue := 0 }, { name := "LOW_HALF", type := .long, accessFlags := 26, slot := 4, constantValue := 0 }, { name := "graph", type := (.object "com/example/percolith/percolith/graph/Graph"), accessFlags := 18, slot := 0, constantValue := 0 }, { name := "cells", type := (.array .long), accessFlags := 18, slot := 1, constantValue := 0 }, { name := "searched", type := .boolean, accessFlags := 2, slot := 2, constantValue := 0 }]
  methods := #[k2m0]
  instanceTypes := #[(.object "com/example/percolith/percolith/graph/Graph"), (.array .long), .boolean]
  staticTypes := #[.int, .int, .int, .int, .long]
  resolved := Array.replicate 130 none
  statics := none }

def pool3 : Array CpInfo := pool [(1, u "java/lang/Cloneable"), (0, .class_ 1), (0, u "java/lang/Object"), (0, .class_ 3)] 3

/-- java/lang/Cloneable -/
def k3 : Class := { plain "java/lang/Cloneable" (some 0) with
  accessFlags := 1537
  interfaces := #[]
  cf := some (fileOf pool3 2 #[] #[] 1537 4 #[] #[])
  fields := #[]
  methods := #[]
  instanceTypes := #[]
  staticTypes := #[]
  resolved := Array.replicate 8 none
  statics := none }

def pool4 : Array CpInfo := pool [(1, u "java/io/Serializable"), (0, .class_ 1), (0, u "java/lang/Object"), (0, .class_ 3)] 3

/-- java/io/Serializable -/
def k4 : Class := { plain "java/io/Serializable" (some 0) with
  accessFlags := 1537
  interfaces := #[]
  cf := some (fileOf pool4 2 #[] #[] 1537 4 #[] #[])
  fields := #[]
  methods := #[]
  instanceTypes := #[]
  staticTypes := #[]
  resolved := Array.replicate 8 none
  statics := none }

/-- the primitive byte -/
def k5 : Class := { plain "byte" none with kind := .primitive 'B', accessFlags := 0x411 }
/-- [B -/
def k6 : Class := { plain "[B" (some 0) with kind := .array 5 .byte, interfaces := #[3, 4], accessFlags := 1041 }

/-- the primitive int -/
def k7 : Class := { plain "int" none with kind := .primitive 'I', accessFlags := 0x411 }
/-- [I -/
def k8 : Class := { plain "[I" (some 0) with kind := .array 7 .int, interfaces := #[3, 4], accessFlags := 1041 }

/-- the primitive long -/
def k9 : Class := { plain "long" none with kind := .primitive 'J', accessFlags := 0x411 }
/-- [J -/
def k10 : Class := { plain "[J" (some 0) with kind := .array 9 .long, interfaces := #[3, 4], accessFlags := 1041 }

def heap : Heap := #[]
def classes : Array Class := #[k0, k1, k2, k3, k4, k5, k6, k7, k8, k9, k10]
def interned : List (Array UInt16 × Addr) := []
def slotsUsed : Nat := 0
def theMethod : MethodId := ⟨1, 1⟩
def args0 : Array Value := #[.long 1, .long 2, .long 3, .long 4, .long 5, .long 3]
def aboutOver (below : List Frame) : State where
  vm := { classes := classes, interned := interned.toArray }
  heap := heap
  slotsUsed := slotsUsed
  threads := #[{ frames := .invoking theMethod args0 :: below }]
def below0 : List Frame := [.native { method := ⟨0, 0⟩, args := #[] }]
def about1 : State := aboutOver below0
def p0 : Program := .bare "" "" ""
def e0 : Env := launch0.env 0 0 0
theorem w_frames : about1.frames = Frame.invoking theMethod args0 :: below0 := rfl
set_option maxRecDepth 65536 in
theorem w_args : argsFit about1.vm theMethod args0 = true := by decide +kernel
set_option maxRecDepth 65536 in
theorem w_heap : heapFits about1 = true := by decide +kernel
set_option maxRecDepth 65536 in
theorem w_runnable : about1.curStatus? = some .runnable := by decide +kernel
set_option maxRecDepth 65536 in
theorem w_alone : about1.alone = true := by decide +kernel
set_option maxRecDepth 65536 in
theorem w_named : about1.methodNamed? x = some theMethod := by decide +kernel
set_option maxRecDepth 65536 in
theorem w_hears : about1.hears theMethod below0 = true := by decide +kernel
set_option maxRecDepth 65536 in
theorem w_ripe : about1.ripe theMethod args0 below0 = true := by decide +kernel
theorem w_running : about1.status = .running := rfl
set_option maxRecDepth 65536 in
theorem w_room : about1.hasRoom e0.platform room_1 = true :=
  launch0.hasRoom_least _ room_1 (by decide +kernel) (by decide +kernel) (by decide +kernel) (by decide +kernel) (by decide +kernel) (by decide +kernel)
theorem allAtoms_all (ts : List Jvm.Cond) (a : Array Jvm.Value) (st : Jvm.State) : (allAtoms ts).before a st = ts.all (fun c => c.before a st) := by
  induction ts with
  | nil => rfl
  | cons c t ih =>
    show (Jvm.Cond.and c (allAtoms t)).before a st = _
    rw [Jvm.Cond.before_and, ih, List.all_cons]
def words1 : List Jvm.Cond := Jvm.Cond.code x code maxLocals ret :: tables_1
/-- a 'code' word, met by the world's own term for the bytes: nothing is compared byte by byte -/
theorem code_word {y : MethodName} {bytes : ByteArray} {mx : Nat} {rt : Option FieldType} {a : Array Value} {s : State} {m : MethodId} {meth : Method} {c : Code} (h1 : s.methodNamed? y = some m) (h2 : s.vm.method? m = some meth) (h3 : meth.code = some c) (h4 : c.code = bytes)
    (h5 : (c.maxLocals == mx && c.exceptionTable.isEmpty && decide (c.maxStack ≤ mostOperands) && decide (meth.sig.returnType = rt) && !meth.locks && decide (parseMethodDescriptor y.desc = some meth.sig)) = true) : (Jvm.Cond.code y bytes mx rt).before a s = true := by
  simp only [Bool.and_eq_true, beq_iff_eq, Bool.not_eq_true', decide_eq_true_eq] at h5
  obtain ⟨⟨⟨⟨⟨g1, g2⟩, g3⟩, g4⟩, g5⟩, g6⟩ := h5
  simp [Cond.before, Cond.holds, Cond.value, h1, h2, h3, h4, g1, g2, g3, g4, g5, g6]
def isCode : Jvm.Cond → Bool
  | .code _ _ _ _ => true
  | _ => false
theorem all_split {L : List Jvm.Cond} {P : Jvm.Cond → Bool} (h1 : L.all (fun c => isCode c || P c) = true) (h2 : ∀ c ∈ L.filter isCode, P c = true) : L.all P = true := by
  refine List.all_eq_true.mpr fun c hc => ?_
  have h := List.all_eq_true.mp h1 c hc
  rcases Bool.eq_false_or_eq_true (isCode c) with hi | hi
  · exact h2 c (List.mem_filter.mpr ⟨hc, hi⟩)
  · simpa [hi] using h
set_option maxRecDepth 65536 in
theorem w_c0 : (Jvm.Cond.code x code maxLocals ret).before args0 about1 = true := code_word (m := ⟨1, 1⟩) (meth := k1m1) (c := k1c1) (by decide +kernel) rfl rfl rfl (by decide +kernel)
set_option maxRecDepth 65536 in
theorem w_c1 : (Jvm.Cond.code ({ cls := "com/example/percolith/percolith/graph/ResidualGraph", name := "clearMarks", desc := "([J)V" } : Jvm.MethodName) prog_30_method_10_code (2 : Nat) (Option.none : Option Jvm.ClassFile.FieldType)).before args0 about1 = true := code_word (m := ⟨2, 0⟩) (meth := k2m0) (c := k2c0) (by decide +kernel) rfl rfl rfl (by decide +kernel)
def codes1 : List Jvm.Cond := [Jvm.Cond.code x code maxLocals ret, Jvm.Cond.code ({ cls := "com/example/percolith/percolith/graph/ResidualGraph", name := "clearMarks", desc := "([J)V" } : Jvm.MethodName) prog_30_method_10_code (2 : Nat) (Option.none : Option Jvm.ClassFile.FieldType)]
set_option maxRecDepth 65536 in
theorem codes_eq : words1.filter isCode = codes1 := rfl
theorem w_codes : ∀ c ∈ words1.filter isCode, c.before args0 about1 = true := by
  rw [codes_eq]
  intro c hc
  simp only [codes1, List.mem_cons, List.not_mem_nil, or_false] at hc
  rcases hc with rfl | rfl
  · exact w_c0
  · exact w_c1
set_option maxRecDepth 65536 in
theorem w_t1 : words1.all (fun c => isCode c || c.before args0 about1) = true := by decide +kernel
theorem w_tables : (allAtoms (Jvm.Cond.code x code maxLocals ret :: tables_1)).before args0 about1 = true := by
  rw [allAtoms_all]
  show words1.all (fun c => c.before args0 about1) = true
  refine all_split ?_ w_codes
  rw [w_t1]
set_option maxRecDepth 65536 in
theorem w_case : (Jvm.Cond.and given_1 narrow_1).before args0 about1 = true := by decide +kernel
theorem w_applies : (headSpec (Jvm.Cond.code x code maxLocals ret :: tables_1) room_1).applies x e0.platform about1 = true :=
  (Spec.applies_iff w_frames).mpr ⟨w_running, w_runnable, w_alone, w_named, w_hears, w_ripe, w_room, w_tables⟩
theorem atStart : AtStart classFile x code maxLocals ret World_1 tables_1 room_1 Calls_1 rest_1 Pre_1 launch0 p0 e0 about1 theMethod args0 below0 :=
  ⟨lists_1, trivial, launch0.admits_env _ _ _, launch0.least_env, fairChoices_fair.cas, fairChoices_fair.clock, w_frames, w_args, w_heap, w_applies, trivial, trivial, w_case⟩
end start1
theorem witness_1 : WitnessClaimed_1 := ⟨start1.p0, start1.e0, start1.about1, start1.theMethod, start1.args0, start1.below0, start1.atStart⟩
end Jvm.Pilot.@@N@@
