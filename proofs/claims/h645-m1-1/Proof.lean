import JvmDerived
import JvmDerived.Pilot.@@N@@Statement
import JvmDerived.Pilot.@@N@@Code
set_option linter.unusedVariables false
set_option linter.unusedSimpArgs false
namespace Jvm.Pilot.@@N@@
open Jvm Jvm.ClassFile Sem Op Lib Jvm.Free Jvm.Stand Jvm.LawKit Jvm.RoadKit Bundle Jvm.Pilot.@@N@@.Jvm.D

section Own
variable {p : Program} {l : Launch} {e : Env} {R : Room} {s : State} {m : MethodId} {args : Array Value} {below : List Frame} {meth : Method} {c : Code} {T : State} {locs : List Loc} {cells slots : Nat} {Z : State} {a0 : Array Value} {h : Heap} {own nm : String} {cd : ByteArray} {mx : Nat} {rt : Option FieldType} {G : State → Prop} {pc pc' : Nat} {Ls Ls' : Array Slot} {st : List Value}
/-- what a walk carries: the goal is closed under steps taken backwards; the body's own facts -/
def ow_K (p : Program) (e : Env) (below : List Frame) (s : State) (m : MethodId) (meth : Method) (c : Code) (Z : State) (own : String) (cd : ByteArray) (mx : Nat) (rt : Option FieldType) (nm : String) (G : State → Prop) : Prop :=
  (∀ A B, (∀ t, Steps p.tables e below B t → Steps p.tables e below A t) → G B → G A) ∧ p.tables.exec = Jvm.exec ∧ c.code = cd ∧ c.maxLocals = mx ∧ s.vm.findClass own = some m.cls ∧ Z.Warmed39 s.vm ∧ meth.sig.returnType = rt ∧ meth.locks = false ∧ meth.name = nm
/-- the goal of a body: it returns, and Q holds of what it returns, of the heap and of the places written -/
def ow_Gl (p : Program) (e : Env) (below : List Frame) (s : State) (Q : Option Value → Heap → List Loc → Prop) (ce sl : Nat) (S : State) : Prop :=
  ∃ s₂ o, Steps p.tables e below S s₂ ∧ s₂.status = .running ∧ Ended s₂ below o ∧ ∃ v L, o = .returned v ∧ Q v s₂.heap L ∧ FrameEnd s o s₂ L ce sl
theorem ow_Gl_bc {Q : Option Value → Heap → List Loc → Prop} {ce sl : Nat} : ∀ A B, (∀ t, Steps p.tables e below B t → Steps p.tables e below A t) → ow_Gl p e below s Q ce sl B → ow_Gl p e below s Q ce sl A := fun A B hs hG => by
  obtain ⟨s₂, o, h1, h2⟩ := hG
  exact ⟨s₂, o, hs _ h1, h2⟩
theorem ow_entry {Q : Option Value → Heap → List Loc → Prop} {ce sl : Nat} {n : Nat} {g : JFrame} (q : entryFrame m args n = g) (hG : ow_Gl p e below s Q ce sl (T.setTop g)) : ow_Gl p e below s Q ce sl (T.setTop (entryFrame m args n)) := q ▸ hG
theorem ow_ne {a b n : Nat} (h : b < n) (g : a = n) : b ≠ a := fun q => by omega
theorem ow_at {g : JFrame} (hG : G (T.setTop g)) : G (T.setTop g) := hG

theorem ow_iload (K : ow_K p e below s m meth c Z own cd mx rt nm G) (X : Stand p l e R s m args below meth c T locs cells slots) {k : Nat} (v : Int32) (hd : decode cd pc = .ok (.iload k, 2)) (hp : pc' = pc + 2) (hl : Ls[k]? = some (.val (.int v))) (hr : G (T.setTop (mkF m pc' Ls (.int v :: st)))) : G (T.setTop (mkF m pc Ls (st))) := by
  subst hp
  exact K.1 _ _ (fun t q => XS.iload X.here K.2.1 rfl (hb K.2.2.1 hd) hl q) hr
theorem ow_iloadN (K : ow_K p e below s m meth c Z own cd mx rt nm G) (X : Stand p l e R s m args below meth c T locs cells slots) {k : Fin 4} (v : Int32) (hd : decode cd pc = .ok (.iload_n k, 1)) (hp : pc' = pc + 1) (hl : Ls[k.val]? = some (.val (.int v))) (hr : G (T.setTop (mkF m pc' Ls (.int v :: st)))) : G (T.setTop (mkF m pc Ls (st))) := by
  subst hp
  exact K.1 _ _ (fun t q => XS.iloadN X.here K.2.1 rfl (hb K.2.2.1 hd) hl q) hr
theorem ow_lload (K : ow_K p e below s m meth c Z own cd mx rt nm G) (X : Stand p l e R s m args below meth c T locs cells slots) {k : Nat} (v : Int64) (hd : decode cd pc = .ok (.lload k, 2)) (hp : pc' = pc + 2) (hl : Ls[k]? = some (.val (.long v))) (hr : G (T.setTop (mkF m pc' Ls (.long v :: st)))) : G (T.setTop (mkF m pc Ls (st))) := by
  subst hp
  exact K.1 _ _ (fun t q => XT.lload X.here K.2.1 rfl (hb K.2.2.1 hd) hl q) hr
theorem ow_lloadN (K : ow_K p e below s m meth c Z own cd mx rt nm G) (X : Stand p l e R s m args below meth c T locs cells slots) {k : Fin 4} (v : Int64) (hd : decode cd pc = .ok (.lload_n k, 1)) (hp : pc' = pc + 1) (hl : Ls[k.val]? = some (.val (.long v))) (hr : G (T.setTop (mkF m pc' Ls (.long v :: st)))) : G (T.setTop (mkF m pc Ls (st))) := by
  subst hp
  exact K.1 _ _ (fun t q => XT.lloadN X.here K.2.1 rfl (hb K.2.2.1 hd) hl q) hr
theorem ow_aload (K : ow_K p e below s m meth c Z own cd mx rt nm G) (X : Stand p l e R s m args below meth c T locs cells slots) {k : Nat} (v : Addr) (hd : decode cd pc = .ok (.aload k, 2)) (hp : pc' = pc + 2) (hl : Ls[k]? = some (.val (.ref v))) (hr : G (T.setTop (mkF m pc' Ls (.ref v :: st)))) : G (T.setTop (mkF m pc Ls (st))) := by
  subst hp
  exact K.1 _ _ (fun t q => XS.aload X.here K.2.1 rfl (hb K.2.2.1 hd) hl rfl q) hr
theorem ow_aloadN (K : ow_K p e below s m meth c Z own cd mx rt nm G) (X : Stand p l e R s m args below meth c T locs cells slots) {k : Fin 4} (v : Addr) (hd : decode cd pc = .ok (.aload_n k, 1)) (hp : pc' = pc + 1) (hl : Ls[k.val]? = some (.val (.ref v))) (hr : G (T.setTop (mkF m pc' Ls (.ref v :: st)))) : G (T.setTop (mkF m pc Ls (st))) := by
  subst hp
  exact K.1 _ _ (fun t q => XS.aloadN X.here K.2.1 rfl (hb K.2.2.1 hd) hl rfl q) hr
theorem ow_istore (K : ow_K p e below s m meth c Z own cd mx rt nm G) (X : Stand p l e R s m args below meth c T locs cells slots) {k : Nat} {v : Int32} (hd : decode cd pc = .ok (.istore k, 2)) (hp : pc' = pc + 2) (hl : storeLocals Ls k (.int v) = some Ls') (hr : G (T.setTop (mkF m pc' Ls' (st)))) : G (T.setTop (mkF m pc Ls (.int v :: st))) := by
  subst hp
  exact K.1 _ _ (fun t q => XS.istore X.here K.2.1 rfl (hb K.2.2.1 hd) rfl hl q) hr
theorem ow_istoreN (K : ow_K p e below s m meth c Z own cd mx rt nm G) (X : Stand p l e R s m args below meth c T locs cells slots) {k : Fin 4} {v : Int32} (hd : decode cd pc = .ok (.istore_n k, 1)) (hp : pc' = pc + 1) (hl : storeLocals Ls k.val (.int v) = some Ls') (hr : G (T.setTop (mkF m pc' Ls' (st)))) : G (T.setTop (mkF m pc Ls (.int v :: st))) := by
  subst hp
  exact K.1 _ _ (fun t q => XS.istoreN X.here K.2.1 rfl (hb K.2.2.1 hd) rfl hl q) hr
theorem ow_lstore (K : ow_K p e below s m meth c Z own cd mx rt nm G) (X : Stand p l e R s m args below meth c T locs cells slots) {k : Nat} {v : Int64} (hd : decode cd pc = .ok (.lstore k, 2)) (hp : pc' = pc + 2) (hl : storeLocals Ls k (.long v) = some Ls') (hr : G (T.setTop (mkF m pc' Ls' (st)))) : G (T.setTop (mkF m pc Ls (.long v :: st))) := by
  subst hp
  exact K.1 _ _ (fun t q => XT.lstore X.here K.2.1 rfl (hb K.2.2.1 hd) rfl hl q) hr
theorem ow_lstoreN (K : ow_K p e below s m meth c Z own cd mx rt nm G) (X : Stand p l e R s m args below meth c T locs cells slots) {k : Fin 4} {v : Int64} (hd : decode cd pc = .ok (.lstore_n k, 1)) (hp : pc' = pc + 1) (hl : storeLocals Ls k.val (.long v) = some Ls') (hr : G (T.setTop (mkF m pc' Ls' (st)))) : G (T.setTop (mkF m pc Ls (.long v :: st))) := by
  subst hp
  exact K.1 _ _ (fun t q => XT.lstoreN X.here K.2.1 rfl (hb K.2.2.1 hd) rfl hl q) hr
theorem ow_astore (K : ow_K p e below s m meth c Z own cd mx rt nm G) (X : Stand p l e R s m args below meth c T locs cells slots) {k : Nat} {v : Addr} (hd : decode cd pc = .ok (.astore k, 2)) (hp : pc' = pc + 2) (hl : storeLocals Ls k (.ref v) = some Ls') (hr : G (T.setTop (mkF m pc' Ls' (st)))) : G (T.setTop (mkF m pc Ls (.ref v :: st))) := by
  subst hp
  exact K.1 _ _ (fun t q => XS.astore X.here K.2.1 rfl (hb K.2.2.1 hd) rfl rfl hl q) hr
theorem ow_astoreN (K : ow_K p e below s m meth c Z own cd mx rt nm G) (X : Stand p l e R s m args below meth c T locs cells slots) {k : Fin 4} {v : Addr} (hd : decode cd pc = .ok (.astore_n k, 1)) (hp : pc' = pc + 1) (hl : storeLocals Ls k.val (.ref v) = some Ls') (hr : G (T.setTop (mkF m pc' Ls' (st)))) : G (T.setTop (mkF m pc Ls (.ref v :: st))) := by
  subst hp
  exact K.1 _ _ (fun t q => XS.astoreN X.here K.2.1 rfl (hb K.2.2.1 hd) rfl rfl hl q) hr
theorem ow_iinc (K : ow_K p e below s m meth c Z own cd mx rt nm G) (X : Stand p l e R s m args below meth c T locs cells slots) {k : Nat} {i : Int} {x : Int32} (y v : Int32) (hd : decode cd pc = .ok (.iinc k i, 3)) (hp : pc' = pc + 3) (hy : Int32.ofInt i = y) (hx : Ls[k]? = some (.val (.int x))) (hv : x + y = v) (hl : storeLocals Ls k (.int v) = some Ls') (hr : G (T.setTop (mkF m pc' Ls' (st)))) : G (T.setTop (mkF m pc Ls (st))) := by
  subst hp
  exact K.1 _ _ (fun t q => XT.iincV X.here K.2.1 rfl y (hb K.2.2.1 hd) hy hx (hv ▸ hl) q) hr
theorem ow_iconst (K : ow_K p e below s m meth c Z own cd mx rt nm G) (X : Stand p l e R s m args below meth c T locs cells slots) {i : Int} (v : Int32) (hd : decode cd pc = .ok (.iconst i, 1)) (hp : pc' = pc + 1) (hv : Int32.ofInt i = v) (hr : G (T.setTop (mkF m pc' Ls (.int v :: st)))) : G (T.setTop (mkF m pc Ls (st))) := by
  subst hp
  exact K.1 _ _ (fun t q => XT.iconstV X.here K.2.1 rfl v (hb K.2.2.1 hd) hv q) hr
theorem ow_bipush (K : ow_K p e below s m meth c Z own cd mx rt nm G) (X : Stand p l e R s m args below meth c T locs cells slots) {i : Int} (v : Int32) (hd : decode cd pc = .ok (.bipush i, 2)) (hp : pc' = pc + 2) (hv : (Int8.ofInt i).toInt32 = v) (hr : G (T.setTop (mkF m pc' Ls (.int v :: st)))) : G (T.setTop (mkF m pc Ls (st))) := by
  subst hp
  exact K.1 _ _ (fun t q => XT.bipushV X.here K.2.1 rfl v (hb K.2.2.1 hd) hv q) hr
theorem ow_sipush (K : ow_K p e below s m meth c Z own cd mx rt nm G) (X : Stand p l e R s m args below meth c T locs cells slots) {i : Int} (v : Int32) (hd : decode cd pc = .ok (.sipush i, 3)) (hp : pc' = pc + 3) (hv : (Int16.ofInt i).toInt32 = v) (hr : G (T.setTop (mkF m pc' Ls (.int v :: st)))) : G (T.setTop (mkF m pc Ls (st))) := by
  subst hp
  exact K.1 _ _ (fun t q => XT.sipushV X.here K.2.1 rfl v (hb K.2.2.1 hd) hv q) hr
theorem ow_lconst (K : ow_K p e below s m meth c Z own cd mx rt nm G) (X : Stand p l e R s m args below meth c T locs cells slots) {k : Fin 2} (v : Int64) (hd : decode cd pc = .ok (.lconst k, 1)) (hp : pc' = pc + 1) (hv : Int64.ofNat k = v) (hr : G (T.setTop (mkF m pc' Ls (.long v :: st)))) : G (T.setTop (mkF m pc Ls (st))) := by
  subst hp
  exact K.1 _ _ (fun t q => XT.lconstV X.here K.2.1 rfl v (hb K.2.2.1 hd) hv q) hr
theorem ow_ldcI (K : ow_K p e below s m meth c Z own cd mx rt nm G) (X : Stand p l e R s m args below meth c T locs cells slots) {i : Nat} (v : Int32) (hd : decode cd pc = .ok (.ldc i, 2)) (hp : pc' = pc + 2) (w : (Jvm.Cond.constant own i v).before a0 Z = true) (hr : G (T.setTop (mkF m pc' Ls (.int v :: st)))) : G (T.setTop (mkF m pc Ls (st))) := by
  subst hp
  exact K.1 _ _ (fun t q => X.ldcI K.2.1 K.2.2.2.2.1 (mvT K.2.2.2.2.2.1 w) rfl (hb K.2.2.1 hd) q) hr
theorem ow_ldcWI (K : ow_K p e below s m meth c Z own cd mx rt nm G) (X : Stand p l e R s m args below meth c T locs cells slots) {i : Nat} (v : Int32) (hd : decode cd pc = .ok (.ldc_w i, 3)) (hp : pc' = pc + 3) (w : (Jvm.Cond.constant own i v).before a0 Z = true) (hr : G (T.setTop (mkF m pc' Ls (.int v :: st)))) : G (T.setTop (mkF m pc Ls (st))) := by
  subst hp
  exact K.1 _ _ (fun t q => X.ldcWI K.2.1 K.2.2.2.2.1 (mvT K.2.2.2.2.2.1 w) rfl (hb K.2.2.1 hd) q) hr
theorem ow_ldc2 (K : ow_K p e below s m meth c Z own cd mx rt nm G) (X : Stand p l e R s m args below meth c T locs cells slots) {i : Nat} (v : Int64) (hd : decode cd pc = .ok (.ldc2_w i, 3)) (hp : pc' = pc + 3) (w : (Jvm.Cond.constantLong own i v).before a0 Z = true) (hr : G (T.setTop (mkF m pc' Ls (.long v :: st)))) : G (T.setTop (mkF m pc Ls (st))) := by
  subst hp
  exact K.1 _ _ (fun t q => X.ldc2J K.2.1 K.2.2.2.2.1 (mvT K.2.2.2.2.2.1 w) rfl (hb K.2.2.1 hd) q) hr
theorem ow_iadd (K : ow_K p e below s m meth c Z own cd mx rt nm G) (X : Stand p l e R s m args below meth c T locs cells slots) {x y : Int32} (v : Int32) (hd : decode cd pc = .ok (.iadd, 1)) (hp : pc' = pc + 1) (hv : x + y = v) (hr : G (T.setTop (mkF m pc' Ls (.int v :: st)))) : G (T.setTop (mkF m pc Ls (.int y :: .int x :: st))) := by
  subst hp
  exact K.1 _ _ (fun t q => XS.iadd X.here K.2.1 rfl (hb K.2.2.1 hd) rfl (hv ▸ q)) hr
theorem ow_isub (K : ow_K p e below s m meth c Z own cd mx rt nm G) (X : Stand p l e R s m args below meth c T locs cells slots) {x y : Int32} (v : Int32) (hd : decode cd pc = .ok (.isub, 1)) (hp : pc' = pc + 1) (hv : x - y = v) (hr : G (T.setTop (mkF m pc' Ls (.int v :: st)))) : G (T.setTop (mkF m pc Ls (.int y :: .int x :: st))) := by
  subst hp
  exact K.1 _ _ (fun t q => XS.isub X.here K.2.1 rfl (hb K.2.2.1 hd) rfl (hv ▸ q)) hr
theorem ow_imul (K : ow_K p e below s m meth c Z own cd mx rt nm G) (X : Stand p l e R s m args below meth c T locs cells slots) {x y : Int32} (v : Int32) (hd : decode cd pc = .ok (.imul, 1)) (hp : pc' = pc + 1) (hv : x * y = v) (hr : G (T.setTop (mkF m pc' Ls (.int v :: st)))) : G (T.setTop (mkF m pc Ls (.int y :: .int x :: st))) := by
  subst hp
  exact K.1 _ _ (fun t q => XS.imul X.here K.2.1 rfl (hb K.2.2.1 hd) rfl (hv ▸ q)) hr
theorem ow_iand (K : ow_K p e below s m meth c Z own cd mx rt nm G) (X : Stand p l e R s m args below meth c T locs cells slots) {x y : Int32} (v : Int32) (hd : decode cd pc = .ok (.iand, 1)) (hp : pc' = pc + 1) (hv : x &&& y = v) (hr : G (T.setTop (mkF m pc' Ls (.int v :: st)))) : G (T.setTop (mkF m pc Ls (.int y :: .int x :: st))) := by
  subst hp
  exact K.1 _ _ (fun t q => XS.iand X.here K.2.1 rfl (hb K.2.2.1 hd) rfl (hv ▸ q)) hr
theorem ow_ixor (K : ow_K p e below s m meth c Z own cd mx rt nm G) (X : Stand p l e R s m args below meth c T locs cells slots) {x y : Int32} (v : Int32) (hd : decode cd pc = .ok (.ixor, 1)) (hp : pc' = pc + 1) (hv : x ^^^ y = v) (hr : G (T.setTop (mkF m pc' Ls (.int v :: st)))) : G (T.setTop (mkF m pc Ls (.int y :: .int x :: st))) := by
  subst hp
  exact K.1 _ _ (fun t q => XT.ixor X.here K.2.1 rfl (hb K.2.2.1 hd) rfl (hv ▸ q)) hr
theorem ow_ior (K : ow_K p e below s m meth c Z own cd mx rt nm G) (X : Stand p l e R s m args below meth c T locs cells slots) {x y : Int32} (v : Int32) (hd : decode cd pc = .ok (.ior, 1)) (hp : pc' = pc + 1) (hv : x ||| y = v) (hr : G (T.setTop (mkF m pc' Ls (.int v :: st)))) : G (T.setTop (mkF m pc Ls (.int y :: .int x :: st))) := by
  subst hp
  exact K.1 _ _ (fun t q => XT.ior X.here K.2.1 rfl (hb K.2.2.1 hd) rfl (hv ▸ q)) hr
theorem ow_ishl (K : ow_K p e below s m meth c Z own cd mx rt nm G) (X : Stand p l e R s m args below meth c T locs cells slots) {x y : Int32} (v : Int32) (hd : decode cd pc = .ok (.ishl, 1)) (hp : pc' = pc + 1) (hv : x <<< (y &&& 31) = v) (hr : G (T.setTop (mkF m pc' Ls (.int v :: st)))) : G (T.setTop (mkF m pc Ls (.int y :: .int x :: st))) := by
  subst hp
  exact K.1 _ _ (fun t q => XT.ishl X.here K.2.1 rfl (hb K.2.2.1 hd) rfl (hv ▸ q)) hr
theorem ow_ishr (K : ow_K p e below s m meth c Z own cd mx rt nm G) (X : Stand p l e R s m args below meth c T locs cells slots) {x y : Int32} (v : Int32) (hd : decode cd pc = .ok (.ishr, 1)) (hp : pc' = pc + 1) (hv : x >>> (y &&& 31) = v) (hr : G (T.setTop (mkF m pc' Ls (.int v :: st)))) : G (T.setTop (mkF m pc Ls (.int y :: .int x :: st))) := by
  subst hp
  exact K.1 _ _ (fun t q => XT.ishr X.here K.2.1 rfl (hb K.2.2.1 hd) rfl (hv ▸ q)) hr
theorem ow_iushr (K : ow_K p e below s m meth c Z own cd mx rt nm G) (X : Stand p l e R s m args below meth c T locs cells slots) {x y : Int32} (v : Int32) (hd : decode cd pc = .ok (.iushr, 1)) (hp : pc' = pc + 1) (hv : XT.ushr x y = v) (hr : G (T.setTop (mkF m pc' Ls (.int v :: st)))) : G (T.setTop (mkF m pc Ls (.int y :: .int x :: st))) := by
  subst hp
  exact K.1 _ _ (fun t q => XT.iushr X.here K.2.1 rfl (hb K.2.2.1 hd) rfl (hv ▸ q)) hr
theorem ow_irem (K : ow_K p e below s m meth c Z own cd mx rt nm G) (X : Stand p l e R s m args below meth c T locs cells slots) {x y : Int32} (v : Int32) (hd : decode cd pc = .ok (.irem, 1)) (hp : pc' = pc + 1) (hy : y ≠ 0) (hv : x - (x / y) * y = v) (hr : G (T.setTop (mkF m pc' Ls (.int v :: st)))) : G (T.setTop (mkF m pc Ls (.int y :: .int x :: st))) := by
  subst hp
  exact K.1 _ _ (fun t q => XS.irem X.here K.2.1 rfl (hb K.2.2.1 hd) rfl hy (hv ▸ q)) hr
theorem ow_ladd (K : ow_K p e below s m meth c Z own cd mx rt nm G) (X : Stand p l e R s m args below meth c T locs cells slots) {x y : Int64} (v : Int64) (hd : decode cd pc = .ok (.ladd, 1)) (hp : pc' = pc + 1) (hv : x + y = v) (hr : G (T.setTop (mkF m pc' Ls (.long v :: st)))) : G (T.setTop (mkF m pc Ls (.long y :: .long x :: st))) := by
  subst hp
  exact K.1 _ _ (fun t q => XT.ladd X.here K.2.1 rfl (hb K.2.2.1 hd) rfl (hv ▸ q)) hr
theorem ow_lsub (K : ow_K p e below s m meth c Z own cd mx rt nm G) (X : Stand p l e R s m args below meth c T locs cells slots) {x y : Int64} (v : Int64) (hd : decode cd pc = .ok (.lsub, 1)) (hp : pc' = pc + 1) (hv : x - y = v) (hr : G (T.setTop (mkF m pc' Ls (.long v :: st)))) : G (T.setTop (mkF m pc Ls (.long y :: .long x :: st))) := by
  subst hp
  exact K.1 _ _ (fun t q => XT.lsub X.here K.2.1 rfl (hb K.2.2.1 hd) rfl (hv ▸ q)) hr
theorem ow_lmul (K : ow_K p e below s m meth c Z own cd mx rt nm G) (X : Stand p l e R s m args below meth c T locs cells slots) {x y : Int64} (v : Int64) (hd : decode cd pc = .ok (.lmul, 1)) (hp : pc' = pc + 1) (hv : x * y = v) (hr : G (T.setTop (mkF m pc' Ls (.long v :: st)))) : G (T.setTop (mkF m pc Ls (.long y :: .long x :: st))) := by
  subst hp
  exact K.1 _ _ (fun t q => XT.lmul X.here K.2.1 rfl (hb K.2.2.1 hd) rfl (hv ▸ q)) hr
theorem ow_land (K : ow_K p e below s m meth c Z own cd mx rt nm G) (X : Stand p l e R s m args below meth c T locs cells slots) {x y : Int64} (v : Int64) (hd : decode cd pc = .ok (.land, 1)) (hp : pc' = pc + 1) (hv : x &&& y = v) (hr : G (T.setTop (mkF m pc' Ls (.long v :: st)))) : G (T.setTop (mkF m pc Ls (.long y :: .long x :: st))) := by
  subst hp
  exact K.1 _ _ (fun t q => XT.land X.here K.2.1 rfl (hb K.2.2.1 hd) rfl (hv ▸ q)) hr
theorem ow_lor (K : ow_K p e below s m meth c Z own cd mx rt nm G) (X : Stand p l e R s m args below meth c T locs cells slots) {x y : Int64} (v : Int64) (hd : decode cd pc = .ok (.lor, 1)) (hp : pc' = pc + 1) (hv : x ||| y = v) (hr : G (T.setTop (mkF m pc' Ls (.long v :: st)))) : G (T.setTop (mkF m pc Ls (.long y :: .long x :: st))) := by
  subst hp
  exact K.1 _ _ (fun t q => XT.lor X.here K.2.1 rfl (hb K.2.2.1 hd) rfl (hv ▸ q)) hr
theorem ow_lxor (K : ow_K p e below s m meth c Z own cd mx rt nm G) (X : Stand p l e R s m args below meth c T locs cells slots) {x y : Int64} (v : Int64) (hd : decode cd pc = .ok (.lxor, 1)) (hp : pc' = pc + 1) (hv : x ^^^ y = v) (hr : G (T.setTop (mkF m pc' Ls (.long v :: st)))) : G (T.setTop (mkF m pc Ls (.long y :: .long x :: st))) := by
  subst hp
  exact K.1 _ _ (fun t q => XT.lxor X.here K.2.1 rfl (hb K.2.2.1 hd) rfl (hv ▸ q)) hr
theorem ow_lrem (K : ow_K p e below s m meth c Z own cd mx rt nm G) (X : Stand p l e R s m args below meth c T locs cells slots) {x y : Int64} (v : Int64) (hd : decode cd pc = .ok (.lrem, 1)) (hp : pc' = pc + 1) (hy : y ≠ 0) (hv : x - (x / y) * y = v) (hr : G (T.setTop (mkF m pc' Ls (.long v :: st)))) : G (T.setTop (mkF m pc Ls (.long y :: .long x :: st))) := by
  subst hp
  exact K.1 _ _ (fun t q => XT.lrem X.here K.2.1 rfl (hb K.2.2.1 hd) rfl hy (hv ▸ q)) hr
theorem ow_lshl (K : ow_K p e below s m meth c Z own cd mx rt nm G) (X : Stand p l e R s m args below meth c T locs cells slots) {x : Int64} {y : Int32} (v : Int64) (hd : decode cd pc = .ok (.lshl, 1)) (hp : pc' = pc + 1) (hv : x <<< (y.toInt64 &&& 63) = v) (hr : G (T.setTop (mkF m pc' Ls (.long v :: st)))) : G (T.setTop (mkF m pc Ls (.int y :: .long x :: st))) := by
  subst hp
  exact K.1 _ _ (fun t q => XT.lshl X.here K.2.1 rfl (hb K.2.2.1 hd) rfl (hv ▸ q)) hr
theorem ow_lshr (K : ow_K p e below s m meth c Z own cd mx rt nm G) (X : Stand p l e R s m args below meth c T locs cells slots) {x : Int64} {y : Int32} (v : Int64) (hd : decode cd pc = .ok (.lshr, 1)) (hp : pc' = pc + 1) (hv : x >>> (y.toInt64 &&& 63) = v) (hr : G (T.setTop (mkF m pc' Ls (.long v :: st)))) : G (T.setTop (mkF m pc Ls (.int y :: .long x :: st))) := by
  subst hp
  exact K.1 _ _ (fun t q => XT.lshr X.here K.2.1 rfl (hb K.2.2.1 hd) rfl (hv ▸ q)) hr
theorem ow_lushr (K : ow_K p e below s m meth c Z own cd mx rt nm G) (X : Stand p l e R s m args below meth c T locs cells slots) {x : Int64} {y : Int32} (v : Int64) (hd : decode cd pc = .ok (.lushr, 1)) (hp : pc' = pc + 1) (hv : XT.ushrL x y = v) (hr : G (T.setTop (mkF m pc' Ls (.long v :: st)))) : G (T.setTop (mkF m pc Ls (.int y :: .long x :: st))) := by
  subst hp
  exact K.1 _ _ (fun t q => XT.lushr X.here K.2.1 rfl (hb K.2.2.1 hd) rfl (hv ▸ q)) hr
theorem ow_lcmp (K : ow_K p e below s m meth c Z own cd mx rt nm G) (X : Stand p l e R s m args below meth c T locs cells slots) {x y : Int64} (v : Int32) (hd : decode cd pc = .ok (.lcmp, 1)) (hp : pc' = pc + 1) (hv : XT.cmpL x y = v) (hr : G (T.setTop (mkF m pc' Ls (.int v :: st)))) : G (T.setTop (mkF m pc Ls (.long y :: .long x :: st))) := by
  subst hp
  exact K.1 _ _ (fun t q => XT.lcmp X.here K.2.1 rfl (hb K.2.2.1 hd) rfl (hv ▸ q)) hr
theorem ow_ineg (K : ow_K p e below s m meth c Z own cd mx rt nm G) (X : Stand p l e R s m args below meth c T locs cells slots) {x : Int32} (v : Int32) (hd : decode cd pc = .ok (.ineg, 1)) (hp : pc' = pc + 1) (hv : -x = v) (hr : G (T.setTop (mkF m pc' Ls (.int v :: st)))) : G (T.setTop (mkF m pc Ls (.int x :: st))) := by
  subst hp
  exact K.1 _ _ (fun t q => XS.ineg X.here K.2.1 rfl (hb K.2.2.1 hd) rfl (hv ▸ q)) hr
theorem ow_i2b (K : ow_K p e below s m meth c Z own cd mx rt nm G) (X : Stand p l e R s m args below meth c T locs cells slots) {x : Int32} (v : Int32) (hd : decode cd pc = .ok (.i2b, 1)) (hp : pc' = pc + 1) (hv : x.toInt8.toInt32 = v) (hr : G (T.setTop (mkF m pc' Ls (.int v :: st)))) : G (T.setTop (mkF m pc Ls (.int x :: st))) := by
  subst hp
  exact K.1 _ _ (fun t q => XT.i2b X.here K.2.1 rfl (hb K.2.2.1 hd) rfl (hv ▸ q)) hr
theorem ow_i2l (K : ow_K p e below s m meth c Z own cd mx rt nm G) (X : Stand p l e R s m args below meth c T locs cells slots) {x : Int32} (v : Int64) (hd : decode cd pc = .ok (.i2l, 1)) (hp : pc' = pc + 1) (hv : x.toInt64 = v) (hr : G (T.setTop (mkF m pc' Ls (.long v :: st)))) : G (T.setTop (mkF m pc Ls (.int x :: st))) := by
  subst hp
  exact K.1 _ _ (fun t q => XT.i2l X.here K.2.1 rfl (hb K.2.2.1 hd) rfl (hv ▸ q)) hr
theorem ow_l2i (K : ow_K p e below s m meth c Z own cd mx rt nm G) (X : Stand p l e R s m args below meth c T locs cells slots) {x : Int64} (v : Int32) (hd : decode cd pc = .ok (.l2i, 1)) (hp : pc' = pc + 1) (hv : x.toInt32 = v) (hr : G (T.setTop (mkF m pc' Ls (.int v :: st)))) : G (T.setTop (mkF m pc Ls (.long x :: st))) := by
  subst hp
  exact K.1 _ _ (fun t q => XT.l2i X.here K.2.1 rfl (hb K.2.2.1 hd) rfl (hv ▸ q)) hr
theorem ow_dup (K : ow_K p e below s m meth c Z own cd mx rt nm G) (X : Stand p l e R s m args below meth c T locs cells slots) {v : Value} (hd : decode cd pc = .ok (.dup, 1)) (hp : pc' = pc + 1) (hc : v.category = 1) (hr : G (T.setTop (mkF m pc' Ls (v :: v :: st)))) : G (T.setTop (mkF m pc Ls (v :: st))) := by
  subst hp
  exact K.1 _ _ (fun t q => XS.dup X.here K.2.1 rfl (hb K.2.2.1 hd) rfl hc q) hr
theorem ow_pop (K : ow_K p e below s m meth c Z own cd mx rt nm G) (X : Stand p l e R s m args below meth c T locs cells slots) {v : Value} (hd : decode cd pc = .ok (.pop, 1)) (hp : pc' = pc + 1) (hc : v.category = 1) (hr : G (T.setTop (mkF m pc' Ls (st)))) : G (T.setTop (mkF m pc Ls (v :: st))) := by
  subst hp
  exact K.1 _ _ (fun t q => XT.pop X.here K.2.1 rfl (hb K.2.2.1 hd) rfl hc q) hr
theorem ow_dupX1 (K : ow_K p e below s m meth c Z own cd mx rt nm G) (X : Stand p l e R s m args below meth c T locs cells slots) {v w : Value} (hd : decode cd pc = .ok (.dup_x1, 1)) (hp : pc' = pc + 1) (hc : v.category = 1) (hc' : w.category = 1) (hr : G (T.setTop (mkF m pc' Ls (v :: w :: v :: st)))) : G (T.setTop (mkF m pc Ls (v :: w :: st))) := by
  subst hp
  exact K.1 _ _ (fun t q => XT.dupX1 X.here K.2.1 rfl (hb K.2.2.1 hd) rfl hc hc' q) hr
theorem ow_dup2 (K : ow_K p e below s m meth c Z own cd mx rt nm G) (X : Stand p l e R s m args below meth c T locs cells slots) {v w : Value} (hd : decode cd pc = .ok (.dup2, 1)) (hp : pc' = pc + 1) (hc : v.category = 1) (hc' : w.category = 1) (hr : G (T.setTop (mkF m pc' Ls (v :: w :: v :: w :: st)))) : G (T.setTop (mkF m pc Ls (v :: w :: st))) := by
  subst hp
  exact K.1 _ _ (fun t q => XT.dup2 X.here K.2.1 rfl (hb K.2.2.1 hd) rfl hc hc' q) hr
theorem ow_goto (K : ow_K p e below s m meth c Z own cd mx rt nm G) (X : Stand p l e R s m args below meth c T locs cells slots)  {o : Int} (hd : decode cd pc = .ok (.goto o, 3))  (ho : 0 ≤ (pc : Int) + o) (hp : ((pc : Int) + o).toNat = pc') (hr : G (T.setTop (mkF m pc' Ls (st)))) : G (T.setTop (mkF m pc Ls (st))) := K.1 _ _ (fun t q => XS.goto X.here K.2.1 rfl (pc0 := pc) rfl (hb K.2.2.1 hd) ho hp q) hr
theorem ow_ifY (K : ow_K p e below s m meth c Z own cd mx rt nm G) (X : Stand p l e R s m args below meth c T locs cells slots) {cc : ClassFile.Cond} {x : Int32} {o : Int} (hd : decode cd pc = .ok (.ifCond cc o, 3)) (hc : ifCond.holds cc x = true) (ho : 0 ≤ (pc : Int) + o) (hp : ((pc : Int) + o).toNat = pc') (hr : G (T.setTop (mkF m pc' Ls (st)))) : G (T.setTop (mkF m pc Ls (.int x :: st))) := K.1 _ _ (fun t q => XS.ifYes X.here K.2.1 rfl (pc0 := pc) rfl (hb K.2.2.1 hd) rfl hc ho hp q) hr
theorem ow_icmpY (K : ow_K p e below s m meth c Z own cd mx rt nm G) (X : Stand p l e R s m args below meth c T locs cells slots) {cc : ClassFile.Cond} {x y : Int32} {o : Int} (hd : decode cd pc = .ok (.if_icmp cc o, 3)) (hc : if_icmp.holds cc x y = true) (ho : 0 ≤ (pc : Int) + o) (hp : ((pc : Int) + o).toNat = pc') (hr : G (T.setTop (mkF m pc' Ls (st)))) : G (T.setTop (mkF m pc Ls (.int y :: .int x :: st))) := K.1 _ _ (fun t q => XS.icmpYes X.here K.2.1 rfl (pc0 := pc) rfl (hb K.2.2.1 hd) rfl hc ho hp q) hr
theorem ow_ifN (K : ow_K p e below s m meth c Z own cd mx rt nm G) (X : Stand p l e R s m args below meth c T locs cells slots) {cc : ClassFile.Cond} {x : Int32} {o : Int} (hd : decode cd pc = .ok (.ifCond cc o, 3)) (hp : pc' = pc + 3) (hc : ifCond.holds cc x = false) (hr : G (T.setTop (mkF m pc' Ls (st)))) : G (T.setTop (mkF m pc Ls (.int x :: st))) := by
  subst hp
  exact K.1 _ _ (fun t q => XS.ifNo X.here K.2.1 rfl (hb K.2.2.1 hd) rfl hc q) hr
theorem ow_icmpN (K : ow_K p e below s m meth c Z own cd mx rt nm G) (X : Stand p l e R s m args below meth c T locs cells slots) {cc : ClassFile.Cond} {x y : Int32} {o : Int} (hd : decode cd pc = .ok (.if_icmp cc o, 3)) (hp : pc' = pc + 3) (hc : if_icmp.holds cc x y = false) (hr : G (T.setTop (mkF m pc' Ls (st)))) : G (T.setTop (mkF m pc Ls (.int y :: .int x :: st))) := by
  subst hp
  exact K.1 _ _ (fun t q => XS.icmpNo X.here K.2.1 rfl (hb K.2.2.1 hd) rfl hc q) hr
/-- an index as an int and as a natural -/
def ow_Ix (j : Int32) (i : Nat) : Prop := ¬ j < 0 ∧ j.toNatClampNeg = i
theorem ow_ix_nat {i : Nat} (hi : i < 2 ^ 31) : ow_Ix (Int32.ofNat i) i := by
  have q : (Int32.ofNat i).toInt = i := Int32.toInt_ofNat_of_lt hi
  refine ⟨?_, ?_⟩
  · rw [Int32.lt_iff_toInt_lt, q]; show ¬ (i : Int) < 0; omega
  · simp only [Int32.toNatClampNeg, q]; rfl
theorem ow_in {cl : Cell} {z j : Int32} {i : Nat} (S : cl.slots.size = z.toNatClampNeg) (J : ow_Ix j i) (hi : i < z.toNatClampNeg) : ¬ (j < 0 ∨ cl.slots.size ≤ j.toNatClampNeg) := fun q => q.elim J.1 fun q => by rw [S, J.2] at q; omega
theorem ow_iaload (K : ow_K p e below s m meth c Z own cd mx rt nm G) (X : Stand p l e R s m args below meth c T locs cells slots) (eT : T.heap = h) {a : Addr} {k : ClassId} {z j : Int32} {vs : List Value} {dv : Value} (F : Arv Z h a k .int z vs dv) (i : Nat) (v : Value) (J : ow_Ix j i) (hi : i < z.toNatClampNeg) (hv : vs.getD i dv = v) (hd : decode cd pc = .ok (.iaload, 1)) (hp : pc' = pc + 1) (hr : G (T.setTop (mkF m pc' Ls (v :: st)))) : G (T.setTop (mkF m pc Ls (.int j :: .ref a :: st))) := by
  subst hp
  obtain ⟨cl, A, -, S, -, H, -⟩ := F
  exact K.1 _ _ (fun t q => X.iaload K.2.1 (j := j) (v := v) (by rw [eT]; exact A.1) (State.isArrayOf_alike K.2.2.2.2.2.1.alike A.2.1) A.2.2 (ow_in S J hi) (Has.at H (ow_in S J hi) (by rw [J.2]; exact hv)) (g := mkF m pc Ls (.int j :: .ref a :: st)) rfl rfl (hb K.2.2.1 hd) t q) hr
theorem ow_baload (K : ow_K p e below s m meth c Z own cd mx rt nm G) (X : Stand p l e R s m args below meth c T locs cells slots) (eT : T.heap = h) {a : Addr} {k : ClassId} {z j : Int32} {vs : List Value} {dv : Value} (F : Arv Z h a k .byte z vs dv) (i : Nat) (v : Value) (J : ow_Ix j i) (hi : i < z.toNatClampNeg) (hv : vs.getD i dv = v) (hd : decode cd pc = .ok (.baload, 1)) (hp : pc' = pc + 1) (hr : G (T.setTop (mkF m pc' Ls (v :: st)))) : G (T.setTop (mkF m pc Ls (.int j :: .ref a :: st))) := by
  subst hp
  obtain ⟨cl, A, -, S, -, H, -⟩ := F
  exact K.1 _ _ (fun t q => X.baloadBytes K.2.1 (j := j) (v := v) (by rw [eT]; exact A.1) (State.isArrayOf_alike K.2.2.2.2.2.1.alike A.2.1) A.2.2 (ow_in S J hi) (Has.at H (ow_in S J hi) (by rw [J.2]; exact hv)) (g := mkF m pc Ls (.int j :: .ref a :: st)) rfl rfl (hb K.2.2.1 hd) t q) hr
theorem ow_laload (K : ow_K p e below s m meth c Z own cd mx rt nm G) (X : Stand p l e R s m args below meth c T locs cells slots) (eT : T.heap = h) {a : Addr} {k : ClassId} {z j : Int32} {vs : List Value} {dv : Value} (F : Arv Z h a k .long z vs dv) (i : Nat) (v : Value) (J : ow_Ix j i) (hi : i < z.toNatClampNeg) (hv : vs.getD i dv = v) (hd : decode cd pc = .ok (.laload, 1)) (hp : pc' = pc + 1) (hr : G (T.setTop (mkF m pc' Ls (v :: st)))) : G (T.setTop (mkF m pc Ls (.int j :: .ref a :: st))) := by
  subst hp
  obtain ⟨cl, A, -, S, -, H, -⟩ := F
  exact K.1 _ _ (fun t q => X.laload K.2.1 (j := j) (v := v) (by rw [eT]; exact A.1) (State.isArrayOf_alike K.2.2.2.2.2.1.alike A.2.1) A.2.2 (ow_in S J hi) (Has.at H (ow_in S J hi) (by rw [J.2]; exact hv)) (g := mkF m pc Ls (.int j :: .ref a :: st)) rfl rfl (hb K.2.2.1 hd) t q) hr
theorem ow_len (K : ow_K p e below s m meth c Z own cd mx rt nm G) (X : Stand p l e R s m args below meth c T locs cells slots) (eT : T.heap = h) {a : Addr} {k : ClassId} {ty : FieldType} {z : Int32} {vs : List Value} {dv : Value} (F : Arv Z h a k ty z vs dv) (hd : decode cd pc = .ok (.arraylength, 1)) (hp : pc' = pc + 1) (hr : G (T.setTop (mkF m pc' Ls (.int z :: st)))) : G (T.setTop (mkF m pc Ls (.ref a :: st))) := by
  subst hp
  obtain ⟨cl, A, -, S, M, -, -⟩ := F
  exact K.1 _ _ (fun t q => X.arraylength K.2.1 (cell := cl) (by rw [eT]; exact A.1) (State.isArrayOf_alike K.2.2.2.2.2.1.alike A.2.1) (g := mkF m pc Ls (.ref a :: st)) rfl (rest := st) rfl (hb K.2.2.1 hd) t (by rw [len_of S M]; exact q)) hr
theorem ow_iastore (K : ow_K p e below s m meth c Z own cd mx rt nm G) (X : Stand p l e R s m args below meth c T locs cells slots) (eT : T.heap = h) {a : Addr} {k : ClassId} {z j : Int32} {vs : List Value} {dv : Value} {x : Int32} (F : Arv Z h a k .int z vs dv) (i : Nat) (vs' : List Value) (J : ow_Ix j i) (hi : i < z.toNatClampNeg) (hi' : i < vs.length) (hs : vs.set i (.int x) = vs') (hd : decode cd pc = .ok (.iastore, 1)) (hp : pc' = pc + 1)
    (hr : ∀ T' h', Stand p l e R s m args below meth c T' (locs ++ [⟨a, i⟩]) cells slots → T'.heap = h' → Wr h h' a i (.int x) → Arv Z h' a k .int z vs' dv → G (T'.setTop (mkF m pc' Ls st))) : G (T.setTop (mkF m pc Ls (.int x :: .int j :: .ref a :: st))) := by
  subst hp hs
  obtain ⟨cl, A, q1, S, q3, H, F⟩ := F
  obtain ⟨T', h', X', e', W', st'⟩ := stI X K.2.1 K.2.2.2.2.2.1 eT A (j := j) (x := x) (ow_in S J hi) (g := mkF m pc Ls (.int x :: .int j :: .ref a :: st)) rfl rfl (hb K.2.2.1 hd)
  have V := Arv.set A q1 S q3 H F (rfl) W' i J.2 hi'
  rw [J.2] at X' W'
  exact K.1 _ _ st' (hr T' h' X' e' W' V)
theorem ow_bastore (K : ow_K p e below s m meth c Z own cd mx rt nm G) (X : Stand p l e R s m args below meth c T locs cells slots) (eT : T.heap = h) {a : Addr} {k : ClassId} {z j : Int32} {vs : List Value} {dv : Value} {x : Int32} (F : Arv Z h a k .byte z vs dv) (i : Nat) (vs' : List Value) (J : ow_Ix j i) (hi : i < z.toNatClampNeg) (hi' : i < vs.length) (hs : vs.set i (.int (nar .byte x)) = vs') (hd : decode cd pc = .ok (.bastore, 1)) (hp : pc' = pc + 1)
    (hr : ∀ T' h', Stand p l e R s m args below meth c T' (locs ++ [⟨a, i⟩]) cells slots → T'.heap = h' → Wr h h' a i (.int (nar .byte x)) → Arv Z h' a k .byte z vs' dv → G (T'.setTop (mkF m pc' Ls st))) : G (T.setTop (mkF m pc Ls (.int x :: .int j :: .ref a :: st))) := by
  subst hp hs
  obtain ⟨cl, A, q1, S, q3, H, F⟩ := F
  obtain ⟨T', h', X', e', W', st'⟩ := stB X K.2.1 K.2.2.2.2.2.1 eT A (j := j) (x := x) (ow_in S J hi) (g := mkF m pc Ls (.int x :: .int j :: .ref a :: st)) rfl rfl (hb K.2.2.1 hd)
  have V := Arv.set A q1 S q3 H F (fits_nar_byte x) W' i J.2 hi'
  rw [J.2] at X' W'
  exact K.1 _ _ st' (hr T' h' X' e' W' V)
theorem ow_lastore (K : ow_K p e below s m meth c Z own cd mx rt nm G) (X : Stand p l e R s m args below meth c T locs cells slots) (eT : T.heap = h) {a : Addr} {k : ClassId} {z j : Int32} {vs : List Value} {dv : Value} {x : Int64} (F : Arv Z h a k .long z vs dv) (i : Nat) (vs' : List Value) (J : ow_Ix j i) (hi : i < z.toNatClampNeg) (hi' : i < vs.length) (hs : vs.set i (.long x) = vs') (hd : decode cd pc = .ok (.lastore, 1)) (hp : pc' = pc + 1)
    (hr : ∀ T' h', Stand p l e R s m args below meth c T' (locs ++ [⟨a, i⟩]) cells slots → T'.heap = h' → Wr h h' a i (.long x) → Arv Z h' a k .long z vs' dv → G (T'.setTop (mkF m pc' Ls st))) : G (T.setTop (mkF m pc Ls (.long x :: .int j :: .ref a :: st))) := by
  subst hp hs
  obtain ⟨cl, A, q1, S, q3, H, F⟩ := F
  obtain ⟨T', h', X', e', W', st'⟩ := stJ X K.2.1 K.2.2.2.2.2.1 eT A (j := j) (x := x) (ow_in S J hi) (g := mkF m pc Ls (.long x :: .int j :: .ref a :: st)) rfl rfl (hb K.2.2.1 hd)
  have V := Arv.set A q1 S q3 H F (rfl) W' i J.2 hi'
  rw [J.2] at X' W'
  exact K.1 _ _ st' (hr T' h' X' e' W' V)
theorem ow_newP (K : ow_K p e below s m meth c Z own cd mx rt nm G) (X : Stand p l e R s m args below meth c T locs cells slots) (eT : T.heap = h) {aty : ArrayType} {n : Int32} (w : (Jvm.Cond.arrayClass (newarray.typeOf aty)).before a0 Z = true) (hn : ¬ n < 0) (cap : Nat) (hcap : n.toNatClampNeg ≤ cap) (hbb : cap * 8 ≤ 536870912) (hc : cells + 1 ≤ R.cells) (hl : slots + cap ≤ R.slots) (hd : decode cd pc = .ok (.newarray aty, 2)) (hp : pc' = pc + 2)
    (hr : ∀ T' h' k a, Stand p l e R s m args below meth c T' locs (cells + 1) (slots + cap) → T'.heap = h' → Ext h h' → a = h.size → Arv Z h' a k (newarray.typeOf aty) n [] (defaultValue (newarray.typeOf aty)) → G (T'.setTop (mkF m pc' Ls (.ref a :: st)))) : G (T.setTop (mkF m pc Ls (.int n :: st))) := by
  subst hp
  obtain ⟨T', h', k, X', e', E, A, st'⟩ := newP X K.2.1 K.2.2.2.2.2.1 w eT (g := mkF m pc Ls (.int n :: st)) rfl (hb K.2.2.1 hd) rfl hn hcap hbb hc hl
  exact K.1 _ _ st' (hr T' h' k _ X' e' E rfl (Arv.new A hn))
theorem ow_newO (K : ow_K p e below s m meth c Z own cd mx rt nm G) (X : Stand p l e R s m args below meth c T locs cells slots) (eT : T.heap = h) {C : String} {i n : Nat} (w : (Jvm.Cond.classLink own i C).before a0 Z = true) (wi : (Jvm.Cond.instantiable C n).before a0 Z = true) (wz : (Jvm.Cond.initialized C).before a0 Z = true) (hc : cells + 1 ≤ R.cells) (hl : slots + n ≤ R.slots) (hd : decode cd pc = .ok (.new i, 3)) (hp : pc' = pc + 3)
    (hr : ∀ T' h' a, Stand p l e R s m args below meth c T' locs (cells + 1) (slots + n) → T'.heap = h' → Ext h h' → a = h.size → Exa Z h' a C → (∀ {O nm d : String} {ty : FieldType}, Laid Z a0 C O nm d → parseFieldDescriptor d = some ty → Fld Z h' a O nm d (defaultValue ty)) → G (T'.setTop (mkF m pc' Ls (.ref a :: st)))) : G (T.setTop (mkF m pc Ls st)) := by
  subst hp
  obtain ⟨T', h', X', e', E, A, D, -, st'⟩ := newO X K.2.1 K.2.2.2.2.2.1 K.2.2.2.2.1 w wi wz eT (g := mkF m pc Ls st) rfl (hb K.2.2.1 hd) hc hl
  exact K.1 _ _ st' (hr T' h' _ X' e' E rfl A D)
theorem ow_getF (K : ow_K p e below s m meth c Z own cd mx rt nm G) (X : Stand p l e R s m args below meth c T locs cells slots) (eT : T.heap = h) {C n d : String} {i : Nat} {a : Addr} {v : Value} (w : (Jvm.Cond.fieldLink own i C n d).before a0 Z = true) (F : Fld Z h a C n d v) (hd : decode cd pc = .ok (.getfield i, 3)) (hp : pc' = pc + 3)
    (hr : ∀ T', Stand p l e R s m args below meth c T' locs cells slots → T'.heap = h → G (T'.setTop (mkF m pc' Ls (v :: st)))) : G (T.setTop (mkF m pc Ls (.ref a :: st))) := by
  subst hp
  obtain ⟨T', X', e', st'⟩ := getF X K.2.1 K.2.2.2.2.2.1 K.2.2.2.2.1 (host := "") (Or.inl w) Via.refl eT F (g := mkF m pc Ls (.ref a :: st)) rfl rfl (hb K.2.2.1 hd)
  exact K.1 _ _ st' (hr T' X' e')
theorem ow_putF (K : ow_K p e below s m meth c Z own cd mx rt nm G) (X : Stand p l e R s m args below meth c T locs cells slots) (eT : T.heap = h) {C n d : String} {i kk : Nat} {a : Addr} {v old : Value} (ty : FieldType) (w : (Jvm.Cond.fieldLink own i C n d).before a0 Z = true) (F : Fld Z h a C n d old) (E : Exa Z h a C) (L : (Jvm.Cond.lays C C n d).before a0 Z = true ∨ ((Jvm.Cond.laysFinal C C n d).before a0 Z = true ∧ own = C ∧ nm = "<init>")) (wi : (Jvm.Cond.instantiable C kk).before a0 Z = true) (hty : parseFieldDescriptor d = some ty) (hn : narrow ty v = v) (hf : fits ty v = true) (hd : decode cd pc = .ok (.putfield i, 3)) (hp : pc' = pc + 3)
    (hr : ∀ T' h', Stand p l e R s m args below meth c T' (locs ++ [⟨a, Jvm.RoadKit.slotOf Z C n d⟩]) cells slots → T'.heap = h' → Wr h h' a (Jvm.RoadKit.slotOf Z C n d) v → Fld Z h' a C n d v → Exa Z h' a C → G (T'.setTop (mkF m pc' Ls st))) : G (T.setTop (mkF m pc Ls (v :: .ref a :: st))) := by
  subst hp
  obtain ⟨T', h', X', e', W, st'⟩ := putF X K.2.1 K.2.2.2.2.2.1 K.2.2.2.2.1 (host := "") (Or.inl w) Via.refl eT F E (L.imp id fun q => ⟨q.1, q.2.1, K.2.2.2.2.2.2.2.2.trans q.2.2⟩) wi hty hn hf (g := mkF m pc Ls (v :: .ref a :: st)) rfl rfl (hb K.2.2.1 hd)
  exact K.1 _ _ st' (hr T' h' X' e' W (F.same W) (E.wr W))
theorem ow_initO (K : ow_K p e below s m meth c Z own cd mx rt nm G) (X : Stand p l e R s m args below meth c T locs cells slots) (eT : T.heap = h) {i : Nat} {a : Addr} (w1 : (Jvm.Cond.methodLink own i Lib.objectInit).before a0 Z = true) (w2 : (Jvm.Cond.instanceMethod Lib.objectInit).before a0 Z = true) (w3 : (Jvm.Cond.code Lib.objectInit ⟨#[0xb1]⟩ 1 none).before a0 Z = true) (hz : Ls.size = mx) (W : Nat) (hW : (st.map fun v => v.category).sum ≤ W) (hf : 1 ≤ R.frames) (hl : W + 12 ≤ R.locals) (hd : decode cd pc = .ok (.invokespecial i, 3)) (hp : pc' = pc + 3)
    (hr : ∀ T', Stand p l e R s m args below meth c T' locs cells slots → T'.heap = h → G (T'.setTop (mkF m pc' Ls st))) : G (T.setTop (mkF m pc Ls (.ref a :: st))) := by
  subst hp
  obtain ⟨T', X', e', st'⟩ := initO X K.2.1 K.2.2.2.2.2.1 K.2.2.2.2.1 w1 w2 w3 eT (g := mkF m pc Ls (.ref a :: st)) rfl (hz.trans K.2.2.2.1.symm) rfl (hb K.2.2.1 hd) hf (W := W) (by show 2 * 0 + _ ≤ _; omega) hl
  exact K.1 _ _ st' (hr T' X' e')
theorem ow_callS (K : ow_K p e below s m meth c Z own cd mx rt nm G) (X : Stand p l e R s m args below meth c T locs cells slots) (eT : T.heap = h) {y : MethodName} {i : Nat} {bytes : ByteArray} {maxL : Nat} {rt' : Option FieldType} {rm : Room} {as : Array Value} {Q : Option Value → Heap → List Loc → Prop} (hM : MetFree l y (head1 [Jvm.Cond.code y bytes maxL rt'] rm) (fun a U => a = as ∧ Z.Warmed39 U.vm ∧ U.heap = h) (fun _ _ _ _ _ => True) (fun _ U o U' => ∃ v L, o = .returned v ∧ Q v U'.heap L ∧ FrameEnd U o U' L rm.cells rm.slots)) (wl : (Jvm.Cond.methodLink own i y).before a0 Z = true) (ws : (Jvm.Cond.static y).before a0 Z = true) (wi : (Jvm.Cond.initialized y.cls).before a0 Z = true) (wc : (Jvm.Cond.code y bytes maxL rt').before a0 Z = true) (hy : y.cls ≠ "java/lang/invoke/MethodHandle" ∧ y.cls ≠ "java/lang/invoke/VarHandle") (W : Nat) (hW : (st.map fun v => v.category).sum ≤ W) (hf : rm.frames + 1 ≤ R.frames) (hl : W + (maxL + 11) + rm.locals ≤ R.locals) (hc : cells + rm.cells ≤ R.cells) (hs : slots + rm.slots ≤ R.slots) (hz : Ls.size = mx) {full : List Value} (argsL : List Value) (has : argsL.toArray = as) (hlen : ∀ sig, parseMethodDescriptor y.desc = some sig → argsL.length = sig.parameters.length) (hst : full = argsL.reverse ++ st) (hd : decode cd pc = .ok (.invokestatic i, 3)) (hp : pc' = pc + 3)
    (hr : ∀ v T' L, Stand p l e R s m args below meth c T' (locs ++ L) (cells + rm.cells) (slots + rm.slots) → Q v T'.heap L → G (T'.setTop (mkF m pc' Ls (v.toList ++ st)))) : G (T.setTop (mkF m pc Ls full)) := by
  subst hp has
  obtain ⟨v, vm₁, ⟨T', L', c', s'⟩, -, X', ⟨L, hQ, l1, l2, l3⟩, st'⟩ := Jvm.LawKit.callS X K.2.1 (y := y) K.2.2.2.2.1 (mvT K.2.2.2.2.2.1 wl) (mvT K.2.2.2.2.2.1 ws) (mvT K.2.2.2.2.2.1 wi) (mvT K.2.2.2.2.2.1 wc) hy (backOf (W := W) hM K.2.2.2.2.2.1 wc wi hf hl) (g := mkF m pc Ls full) rfl (hz.trans K.2.2.2.1.symm) (argsL := argsL) (rest := st) hlen hst (by show 2 * 0 + _ ≤ _; omega) (hb K.2.2.1 hd) (fun _ _ => ⟨rfl, eT, hc, hs⟩)
  dsimp only [Pt.U, Pt.locs, Pt.cells, Pt.slots] at X' l1 l2 l3 st' hQ
  subst l1 l2 l3
  exact K.1 _ _ st' (hr v T' L X' hQ)
theorem ow_callP (K : ow_K p e below s m meth c Z own cd mx rt nm G) (X : Stand p l e R s m args below meth c T locs cells slots) (eT : T.heap = h) {y : MethodName} {i : Nat} {bytes : ByteArray} {maxL : Nat}  {rm : Room} {as : Array Value} {Q : Option Value → Heap → List Loc → Prop} {a : Addr} (hM : MetFree l y (head1 [Jvm.Cond.code y bytes maxL none] rm) (fun a U => a = as ∧ Z.Warmed39 U.vm ∧ U.heap = h) (fun _ _ _ _ _ => True) (fun _ U o U' => ∃ v L, o = .returned v ∧ Q v U'.heap L ∧ FrameEnd U o U' L rm.cells rm.slots)) (hn : y.name = "<init>") (wl : (Jvm.Cond.methodLink own i y).before a0 Z = true) (ws : (Jvm.Cond.instanceMethod y).before a0 Z = true) (wi : (Jvm.Cond.initialized y.cls).before a0 Z = true) (wc : (Jvm.Cond.code y bytes maxL none).before a0 Z = true) (hy : y.cls ≠ "java/lang/invoke/MethodHandle" ∧ y.cls ≠ "java/lang/invoke/VarHandle") (W : Nat) (hW : (st.map fun v => v.category).sum ≤ W) (hf : rm.frames + 1 ≤ R.frames) (hl : W + (maxL + 11) + rm.locals ≤ R.locals) (hc : cells + rm.cells ≤ R.cells) (hs : slots + rm.slots ≤ R.slots) (hz : Ls.size = mx) {full : List Value} (argsL : List Value) (has : (.ref a :: argsL).toArray = as) (hlen : ∀ sig, parseMethodDescriptor y.desc = some sig → argsL.length = sig.parameters.length) (hst : full = argsL.reverse ++ .ref a :: st) (hd : decode cd pc = .ok (.invokespecial i, 3)) (hp : pc' = pc + 3)
    (hr : ∀ v T' L, Stand p l e R s m args below meth c T' (locs ++ L) (cells + rm.cells) (slots + rm.slots) → Q v T'.heap L → G (T'.setTop (mkF m pc' Ls (v.toList ++ st)))) : G (T.setTop (mkF m pc Ls full)) := by
  subst hp has
  obtain ⟨v, vm₁, ⟨T', L', c', s'⟩, -, X', ⟨L, hQ, l1, l2, l3⟩, st'⟩ := X.specialBack K.2.1 (y := y) hn K.2.2.2.2.1 (mvT K.2.2.2.2.2.1 wl) (mvT K.2.2.2.2.2.1 ws) (mvT K.2.2.2.2.2.1 wc) hy (backOf (W := W) hM K.2.2.2.2.2.1 wc wi hf hl) (g := mkF m pc Ls full) rfl (hz.trans K.2.2.2.1.symm) (Steps.refl _) (a := a) (argsL := argsL) (rest := st) hlen hst (by show 2 * 0 + _ ≤ _; omega) (hb K.2.2.1 hd) (fun _ _ => ⟨rfl, eT, hc, hs⟩)
  dsimp only [Pt.U, Pt.locs, Pt.cells, Pt.slots] at X' l1 l2 l3 st' hQ
  subst l1 l2 l3
  exact K.1 _ _ (fun t q => st'.trans q) (hr v T' L X' hQ)
theorem ow_callV (K : ow_K p e below s m meth c Z own cd mx rt nm G) (X : Stand p l e R s m args below meth c T locs cells slots) (eT : T.heap = h) {y : MethodName} {i : Nat} {bytes : ByteArray} {maxL : Nat} {rt' : Option FieldType} {rm : Room} {as : Array Value} {Q : Option Value → Heap → List Loc → Prop} {a : Addr} (hM : MetFree l y (head1 [Jvm.Cond.code y bytes maxL rt'] rm) (fun a U => a = as ∧ Z.Warmed39 U.vm ∧ U.heap = h) (fun _ _ _ _ _ => True) (fun _ U o U' => ∃ v L, o = .returned v ∧ Q v U'.heap L ∧ FrameEnd U o U' L rm.cells rm.slots)) (E : Exa Z h a y.cls) (wl : (Jvm.Cond.methodLink own i y).before a0 Z = true) (wd : (Jvm.Cond.declares y).before a0 Z = true) (wsel : (Jvm.Cond.selects y.cls y y).before a0 Z = true) (ws : (Jvm.Cond.instanceMethod y).before a0 Z = true) (wi : (Jvm.Cond.initialized y.cls).before a0 Z = true) (wc : (Jvm.Cond.code y bytes maxL rt').before a0 Z = true) (hy : y.cls ≠ "java/lang/invoke/MethodHandle" ∧ y.cls ≠ "java/lang/invoke/VarHandle") (W : Nat) (hW : (st.map fun v => v.category).sum ≤ W) (hf : rm.frames + 1 ≤ R.frames) (hl : W + (maxL + 11) + rm.locals ≤ R.locals) (hc : cells + rm.cells ≤ R.cells) (hs : slots + rm.slots ≤ R.slots) (hz : Ls.size = mx) {full : List Value} (argsL : List Value) (has : (.ref a :: argsL).toArray = as) (hlen : ∀ sig, parseMethodDescriptor y.desc = some sig → argsL.length = sig.parameters.length) (hst : full = argsL.reverse ++ .ref a :: st) (hd : decode cd pc = .ok (.invokevirtual i, 3)) (hp : pc' = pc + 3)
    (hr : ∀ v T' L, Stand p l e R s m args below meth c T' (locs ++ L) (cells + rm.cells) (slots + rm.slots) → Q v T'.heap L → G (T'.setTop (mkF m pc' Ls (v.toList ++ st)))) : G (T.setTop (mkF m pc Ls full)) := by
  subst hp has
  obtain ⟨cq, kq, qa, qb, qc⟩ := isOf K.2.2.2.2.2.1 eT E
  obtain ⟨v, vm₁, ⟨T', L', c', s'⟩, -, X', ⟨L, hQ, l1, l2, l3⟩, st'⟩ := X.virtualBack K.2.1 (y := y) (z := y) K.2.2.2.2.1 (mvT K.2.2.2.2.2.1 wl) (mvT K.2.2.2.2.2.1 wd) (notFace_of_selects (args := #[]) (mvT K.2.2.2.2.2.1 wsel)) (mvT K.2.2.2.2.2.1 wsel) (mvT K.2.2.2.2.2.1 ws) hy (backOf (W := W) hM K.2.2.2.2.2.1 wc wi hf hl) qa qc (g := mkF m pc Ls full) rfl (hz.trans K.2.2.2.1.symm) (Steps.refl _) (argsL := argsL) (rest := st) hlen hst (by show 2 * 0 + _ ≤ _; omega) (hb K.2.2.1 hd) (fun _ _ => ⟨rfl, eT, hc, hs⟩)
  dsimp only [Pt.U, Pt.locs, Pt.cells, Pt.slots] at X' l1 l2 l3 st' hQ
  subst l1 l2 l3
  exact K.1 _ _ (fun t q => st'.trans q) (hr v T' L X' hQ)
theorem ow_retI {Q : Option Value → Heap → List Loc → Prop} {ce sl : Nat} (K : ow_K p e below s m meth c Z own cd mx rt nm (ow_Gl p e below s Q ce sl)) (X : Stand p l e R s m args below meth c T locs cells slots) (t : FieldType) {v : Int32} (hrt : rt = some t) (hn : narrow t (.int v) = .int v) (hti : t = .int ∨ t = .boolean ∨ t = .byte ∨ t = .char ∨ t = .short) (hd : decode cd pc = .ok (.ireturn, 1)) (hQ : Q (some (.int v)) T.heap locs) (hc : cells ≤ ce) (hs : slots ≤ sl) : ow_Gl p e below s Q ce sl (T.setTop (mkF m pc Ls [.int v])) := by
  obtain ⟨fs, hr, hrun, hended, hW, hsame⟩ := X.leave (v := some (.int v)) (fun h => by rw [K.2.2.2.2.2.2.1, hrt] at h; cases h) K.2.2.2.2.2.2.2.1
  exact ⟨_, _, X.ireturnOut K.2.1 (K.2.2.2.2.2.2.1.trans hrt) hn hti (hb K.2.2.1 hd) hr, hrun, hended, _, _, rfl, hQ, ⟨_, rfl⟩, hW, hsame.mono hc hs⟩
theorem ow_retJ {Q : Option Value → Heap → List Loc → Prop} {ce sl : Nat} (K : ow_K p e below s m meth c Z own cd mx rt nm (ow_Gl p e below s Q ce sl)) (X : Stand p l e R s m args below meth c T locs cells slots) {v : Int64} (hrt : rt = some .long) (hd : decode cd pc = .ok (.lreturn, 1)) (hQ : Q (some (.long v)) T.heap locs) (hc : cells ≤ ce) (hs : slots ≤ sl) : ow_Gl p e below s Q ce sl (T.setTop (mkF m pc Ls [.long v])) := by
  obtain ⟨fs, hr, hrun, hended, hW, hsame⟩ := X.leave (v := some (.long v)) (fun h => by rw [K.2.2.2.2.2.2.1, hrt] at h; cases h) K.2.2.2.2.2.2.2.1
  exact ⟨_, _, X.lreturnOut K.2.1 (K.2.2.2.2.2.2.1.trans hrt) (hb K.2.2.1 hd) hr, hrun, hended, _, _, rfl, hQ, ⟨_, rfl⟩, hW, hsame.mono hc hs⟩
theorem ow_retA {Q : Option Value → Heap → List Loc → Prop} {ce sl : Nat} (K : ow_K p e below s m meth c Z own cd mx rt nm (ow_Gl p e below s Q ce sl)) (X : Stand p l e R s m args below meth c T locs cells slots) (t : FieldType) {v : Addr} (hrt : rt = some t) (ht : t.isReference = true) (hd : decode cd pc = .ok (.areturn, 1)) (hQ : Q (some (.ref v)) T.heap locs) (hc : cells ≤ ce) (hs : slots ≤ sl) : ow_Gl p e below s Q ce sl (T.setTop (mkF m pc Ls [.ref v])) := by
  obtain ⟨fs, hr, hrun, hended, hW, hsame⟩ := X.leave (v := some (.ref v)) (fun h => by rw [K.2.2.2.2.2.2.1, hrt] at h; cases h) K.2.2.2.2.2.2.2.1
  exact ⟨_, _, X.areturnOut K.2.1 rfl (K.2.2.2.2.2.2.1.trans hrt) ht (hb K.2.2.1 hd) hr, hrun, hended, _, _, rfl, hQ, ⟨_, rfl⟩, hW, hsame.mono hc hs⟩
theorem ow_ret {Q : Option Value → Heap → List Loc → Prop} {ce sl : Nat} (K : ow_K p e below s m meth c Z own cd mx rt nm (ow_Gl p e below s Q ce sl)) (X : Stand p l e R s m args below meth c T locs cells slots) (hrt : rt = none) (hd : decode cd pc = .ok (.return_, 1)) (hQ : Q none T.heap locs) (hc : cells ≤ ce) (hs : slots ≤ sl) : ow_Gl p e below s Q ce sl (T.setTop (mkF m pc Ls [])) := by
  obtain ⟨fs, hr, hrun, hended, hW, hsame⟩ := X.leave (v := none) (fun _ => rfl) K.2.2.2.2.2.2.2.1
  exact ⟨_, _, X.returnOut K.2.1 (K.2.2.2.2.2.2.1.trans hrt) (hb K.2.2.1 hd) hr, hrun, hended, _, _, rfl, hQ, ⟨_, rfl⟩, hW, hsame.mono hc hs⟩
theorem ow_selPriv {s : State} {args : Array Value} {y y' : MethodName} (hc : y'.cls = y.cls) (wsel : (Jvm.Cond.selects y'.cls y' y').before args s = true) (hpriv : (Jvm.Cond.privateMethod y).before args s = true) (hinst : (Jvm.Cond.instanceMethod y).before args s = true) (hy : y.cls ≠ "java/lang/invoke/MethodHandle" ∧ y.cls ≠ "java/lang/invoke/VarHandle") : (Jvm.Cond.selects y.cls y y).before args s = true := by
  obtain ⟨_, _, m, -, -, h3, -, k, h5, h6⟩ := Cond.selects_spec wsel
  exact selects_self_of_private (c := m.cls) (k := k) (hc ▸ findClass_of_methodNamed h3) h5 h6 (Cond.privateMethod_at hpriv) hinst hy
theorem ow_callR (K : ow_K p e below s m meth c Z own cd mx rt nm G) (X : Stand p l e R s m args below meth c T locs cells slots) (eT : T.heap = h) {y : MethodName} {i : Nat} {bytes : ByteArray} {maxL : Nat} {rt' : Option FieldType} {rm : Room} {as : Array Value} {Q : Option Value → Heap → List Loc → Prop} {y' : MethodName} {a : Addr} (hM : MetFree l y (head1 [Jvm.Cond.code y bytes maxL rt'] rm) (fun a U => a = as ∧ Z.Warmed39 U.vm ∧ U.heap = h) (fun _ _ _ _ _ => True) (fun _ U o U' => ∃ v L, o = .returned v ∧ Q v U'.heap L ∧ FrameEnd U o U' L rm.cells rm.slots)) (E : Exa Z h a y.cls) (hcl : y'.cls = y.cls) (wsel : (Jvm.Cond.selects y'.cls y' y').before a0 Z = true) (wp : (Jvm.Cond.privateMethod y).before a0 Z = true) (wl : (Jvm.Cond.methodLink own i y).before a0 Z = true) (ws : (Jvm.Cond.instanceMethod y).before a0 Z = true) (wi : (Jvm.Cond.initialized y.cls).before a0 Z = true) (wc : (Jvm.Cond.code y bytes maxL rt').before a0 Z = true) (hy : y.cls ≠ "java/lang/invoke/MethodHandle" ∧ y.cls ≠ "java/lang/invoke/VarHandle") (W : Nat) (hW : (st.map fun v => v.category).sum ≤ W) (hf : rm.frames + 1 ≤ R.frames) (hl : W + (maxL + 11) + rm.locals ≤ R.locals) (hc : cells + rm.cells ≤ R.cells) (hs : slots + rm.slots ≤ R.slots) (hz : Ls.size = mx) {full : List Value} (argsL : List Value) (has : (.ref a :: argsL).toArray = as) (hlen : ∀ sig, parseMethodDescriptor y.desc = some sig → argsL.length = sig.parameters.length) (hst : full = argsL.reverse ++ .ref a :: st) (hd : decode cd pc = .ok (.invokevirtual i, 3)) (hp : pc' = pc + 3)
    (hr : ∀ v T' L, Stand p l e R s m args below meth c T' (locs ++ L) (cells + rm.cells) (slots + rm.slots) → Q v T'.heap L → G (T'.setTop (mkF m pc' Ls (v.toList ++ st)))) : G (T.setTop (mkF m pc Ls full)) := by
  subst hp has
  obtain ⟨cq, q1, q2⟩ := E.cell
  have hpv : (Jvm.Cond.privateMethod y).before args s = true := mvP K.2.2.2.2.2.1 wp
  have hin : (Jvm.Cond.instanceMethod y).before args s = true := mvT K.2.2.2.2.2.1 ws
  obtain ⟨v, vm₁, ⟨T', L', c', s'⟩, -, X', ⟨L, hQ, l1, l2, l3⟩, st'⟩ := X.privateBack K.2.1 (y := y) K.2.2.2.2.1 (mvT K.2.2.2.2.2.1 wl) hin (ow_selPriv hcl (mvT K.2.2.2.2.2.1 wsel) hpv hin hy) (Cond.privateMethod_at hpv) (mvT K.2.2.2.2.2.1 wc) hy (backOf (W := W) hM K.2.2.2.2.2.1 wc wi hf hl) (g := mkF m pc Ls full) rfl (hz.trans K.2.2.2.1.symm) (Steps.refl _) (a := a) (by rw [eT]; exact q1) q2 (argsL := argsL) (rest := st) hlen hst (by show 2 * 0 + _ ≤ _; omega) (hb K.2.2.1 hd) (fun _ _ => ⟨rfl, eT, hc, hs⟩)
  dsimp only [Pt.U, Pt.locs, Pt.cells, Pt.slots] at X' l1 l2 l3 st' hQ
  subst l1 l2 l3
  exact K.1 _ _ (fun t q => st'.trans q) (hr v T' L X' hQ)
theorem ow_newPE (K : ow_K p e below s m meth c Z own cd mx rt nm G) (X : Stand p l e R s m args below meth c T locs cells slots) (eT : T.heap = h) {aty : ArrayType} {n : Int32} {C : String} (hC : "[" ++ (newarray.typeOf aty).toString = C) (w : (Jvm.Cond.arrayClass (newarray.typeOf aty)).before a0 Z = true) (hn : ¬ n < 0) (cap : Nat) (hcap : n.toNatClampNeg ≤ cap) (hbb : cap * 8 ≤ 536870912) (hc : cells + 1 ≤ R.cells) (hl : slots + cap ≤ R.slots) (hd : decode cd pc = .ok (.newarray aty, 2)) (hp : pc' = pc + 2)
    (hr : ∀ T' h' k a, Stand p l e R s m args below meth c T' locs (cells + 1) (slots + cap) → T'.heap = h' → Ext h h' → a = h.size → Arv Z h' a k (newarray.typeOf aty) n [] (defaultValue (newarray.typeOf aty)) → Exa Z h' a C → G (T'.setTop (mkF m pc' Ls (.ref a :: st)))) : G (T.setTop (mkF m pc Ls (.int n :: st))) := by
  have hcb : componentBytes (newarray.typeOf aty) ≤ 8 := by cases aty <;> decide
  obtain ⟨cA, kA, comp, h1, h2, h3, X', st'⟩ := X.newarrayPrim K.2.1 (mvA K.2.2.2.2.2.1 w) (g := mkF m pc Ls (.int n :: st)) rfl (hb K.2.2.1 hd) rfl hn (Nat.le_trans (Nat.mul_le_mul hcap hcb) hbb) hc (by omega)
  subst hp eT hC
  rw [K.2.2.2.2.2.1.alike.findClass] at h1
  obtain ⟨kZ, z1, -⟩ := Vm.findClass_spec h1
  obtain ⟨k', z2, z3⟩ := K.2.2.2.2.2.1.alike.2.2 _ _ z1
  cases h2.symm.trans z2
  have hk : kZ.kind = .array comp (newarray.typeOf aty) := by rw [← h3, z3]
  have hN : (T.heap.push (newA cA (newarray.typeOf aty) n))[T.heap.size]? = some (newA cA (newarray.typeOf aty) n) := by simp
  have A : Arr Z (T.heap.push (newA cA (newarray.typeOf aty) n)) T.heap.size (newA cA (newarray.typeOf aty) n) (newarray.typeOf aty) := ⟨hN, ⟨by simp [newA], kZ, z1, comp, hk⟩, by simp [newA]⟩
  refine K.1 _ _ st' (hr _ _ cA _ (X'.more (Nat.le_refl _) (by omega)) rfl ⟨by show T.heap.size ≤ (T.heap.push _).size; simp, fun a c h => ?_⟩ rfl (Arv.new A hn) ⟨_, kZ, hN, h1, z1, rfl, fun q => by rw [hk] at q; cases q⟩)
  show (T.heap.push _)[a]? = _
  rw [Array.getElem?_push_lt (Array.getElem?_eq_some_iff.mp h).1]; exact (Array.getElem?_eq_getElem _).symm.trans h
theorem ow_copy (K : ow_K p e below s m meth c Z own cd mx rt nm G) (X : Stand p l e R s m args below meth c T locs cells slots) (eT : T.heap = h) {i : Nat} (w1 : (Jvm.Cond.methodLink own i Jvm.Stand.acN).before a0 Z = true) (w2 : (Jvm.Cond.native Jvm.Stand.acN).before a0 Z = true) (w3 : (Jvm.Cond.static Jvm.Stand.acN).before a0 Z = true) (w4 : (Jvm.Cond.initialized "java/lang/System").before a0 Z = true) {a b : Addr} {k k' : ClassId} {ty : FieldType} {z z' sp dp nn : Int32} {vs vd us : List Value} {dv dd : Value} (A : Arv Z h a k ty z vs dv) (B : Arv Z h b k' ty z' vd dd) (hty : refKind ty = false) (h1 : ¬ sp < 0) (h2 : ¬ dp < 0) (h3 : ¬ nn < 0) (h4 : sp.toNatClampNeg + nn.toNatClampNeg ≤ z.toNatClampNeg) (h5 : dp.toNatClampNeg + nn.toNatClampNeg ≤ z'.toNatClampNeg) (hus : us = (List.range nn.toNatClampNeg).map fun i => vs.getD (sp.toNatClampNeg + i) dv) (hll : dp.toNatClampNeg + nn.toNatClampNeg ≤ vd.length) {n0 : Nat} (N : Fr n0 locs) (ge : n0 ≤ b) (hz : Ls.size = mx) (W : Nat) (hW : (st.map fun v => v.category).sum ≤ W) (hf : 1 ≤ R.frames) (hl : W + (nativeFrameWords "java/lang/System" "arraycopy" 5 + 11) ≤ R.locals) (hd : decode cd pc = .ok (.invokestatic i, 3)) (hp : pc' = pc + 3)
    (hr : ∀ T' h' L, Stand p l e R s m args below meth c T' L cells slots → T'.heap = h' → Fr n0 L → Keep h h' [b] → Arv Z h' b k' ty z' (vd.take dp.toNatClampNeg ++ us ++ vd.drop (dp.toNatClampNeg + nn.toNatClampNeg)) dd → G (T'.setTop (mkF m pc' Ls st))) : G (T.setTop (mkF m pc Ls (.int nn :: .int dp :: .ref b :: .int sp :: .ref a :: st))) := by
  subst hp
  obtain ⟨T', h', L, X', e', N', K', V', st'⟩ := cpA X K.2.1 K.2.2.2.2.2.1 K.2.2.2.2.1 w1 w2 w3 w4 eT A B (Or.inl ⟨rfl, hty⟩) h1 h2 h3 h4 h5 hus hll N ge (g := mkF m pc Ls (.int nn :: .int dp :: .ref b :: .int sp :: .ref a :: st)) rfl (hz.trans K.2.2.2.1.symm) rfl (hb K.2.2.1 hd) hf (W := W) (by show 2 * 0 + _ ≤ _; omega) hl
  exact K.1 _ _ st' (hr T' h' L X' e' N' K' V')
theorem ow_clone (K : ow_K p e below s m meth c Z own cd mx rt nm G) (X : Stand p l e R s m args below meth c T locs cells slots) (eT : T.heap = h) {i : Nat} {ad : String} (w1 : (Jvm.Cond.methodLink own i ⟨ad, "clone", "()Ljava/lang/Object;"⟩).before a0 Z = true) (w2 : (Jvm.Cond.sameMethod ad "java/lang/Object" "clone" "()Ljava/lang/Object;").before a0 Z = true) (w3 : (Jvm.Cond.native ⟨"java/lang/Object", "clone", "()Ljava/lang/Object;"⟩).before a0 Z = true) (w4 : (Jvm.Cond.instanceMethod ⟨"java/lang/Object", "clone", "()Ljava/lang/Object;"⟩).before a0 Z = true) (w5 : (Jvm.Cond.selects ad ⟨ad, "clone", "()Ljava/lang/Object;"⟩ ⟨"java/lang/Object", "clone", "()Ljava/lang/Object;"⟩).before a0 Z = true) (w6 : (Jvm.Cond.castable ad "java/lang/Cloneable").before a0 Z = true) {a : Addr} {k : ClassId} {ty : FieldType} {z : Int32} {vs : List Value} {dv : Value} (F : Arv Z h a k ty z vs dv) (E : Exa Z h a ad) (hz : Ls.size = mx) (W cap : Nat) (hW : (st.map fun v => v.category).sum ≤ W) (hf : 1 ≤ R.frames) (hl : W + 14 ≤ R.locals) (hcap : z.toNatClampNeg ≤ cap) (hc : cells + 1 ≤ R.cells) (hs : slots + cap ≤ R.slots) (hd : decode cd pc = .ok (.invokevirtual i, 3)) (hp : pc' = pc + 3)
    (hr : ∀ T' h' b, Stand p l e R s m args below meth c T' locs (cells + 1) (slots + cap) → T'.heap = h' → Ext h h' → b = h.size → Arv Z h' b k ty z vs dv → Exa Z h' b ad → G (T'.setTop (mkF m pc' Ls (.ref b :: st)))) : G (T.setTop (mkF m pc Ls (.ref a :: st))) := by
  subst hp
  obtain ⟨T', h', X', e', E', F', A', st'⟩ := cloneH X K.2.1 K.2.2.2.2.2.1 K.2.2.2.2.1 w1 w2 w3 w4 w5 w6 eT F.arh E (g := mkF m pc Ls (.ref a :: st)) rfl (hz.trans K.2.2.2.1.symm) rfl (hb K.2.2.1 hd) hf (W := W) (by show 2 * 0 + _ ≤ _; omega) hl hcap hc hs
  exact K.1 _ _ st' (hr T' h' _ X' e' E' rfl F' A')
theorem ow_cast (K : ow_K p e below s m meth c Z own cd mx rt nm G) (X : Stand p l e R s m args below meth c T locs cells slots) (eT : T.heap = h) {i : Nat} {C : String} {a : Addr} (w : (Jvm.Cond.classLink own i C).before a0 Z = true) (E : Exa Z h a C) (hd : decode cd pc = .ok (.checkcast i, 3)) (hp : pc' = pc + 3)
    (hr : ∀ T', Stand p l e R s m args below meth c T' locs cells slots → T'.heap = h → G (T'.setTop (mkF m pc' Ls (.ref a :: st)))) : G (T.setTop (mkF m pc Ls (.ref a :: st))) := by
  subst hp
  obtain ⟨T', X', e', st'⟩ := castY X K.2.1 K.2.2.2.2.2.1 K.2.2.2.2.1 w eT (Ins.self E) (g := mkF m pc Ls (.ref a :: st)) rfl rfl (hb K.2.2.1 hd)
  exact K.1 _ _ st' (hr T' X' e')
/-- the goal of a body that may intern a String constant -/
def ow_GlW (p : Program) (e : Env) (below : List Frame) (s : State) (Q : Option Value → Heap → List Loc → Prop) (H : State → Prop) (ce sl : Nat) (S : State) : Prop :=
  ∃ s₂ o, Steps p.tables e below S s₂ ∧ s₂.status = .running ∧ Ended s₂ below o ∧ ∃ v L, o = .returned v ∧ Q v s₂.heap L ∧ H s₂ ∧ ReturnedEndW s o s₂ L ce sl
theorem ow_GlW_bc {Q : Option Value → Heap → List Loc → Prop} {H : State → Prop} {ce sl : Nat} : ∀ A B, (∀ t, Steps p.tables e below B t → Steps p.tables e below A t) → ow_GlW p e below s Q H ce sl B → ow_GlW p e below s Q H ce sl A := fun A B hs hG => by
  obtain ⟨s₂, o, h1, h2⟩ := hG
  exact ⟨s₂, o, hs _ h1, h2⟩
theorem ow_entryW {Q : Option Value → Heap → List Loc → Prop} {H : State → Prop} {ce sl : Nat} {n : Nat} {g : JFrame} (q : entryFrame m args n = g) (hG : ow_GlW p e below s Q H ce sl (T.setTop g)) : ow_GlW p e below s Q H ce sl (T.setTop (entryFrame m args n)) := q ▸ hG
theorem ow_retIW {Q : Option Value → Heap → List Loc → Prop} {H : State → Prop} {ce sl n : Nat} {vm1 : Vm} (K : ow_K p e below (s.setVm vm1) m meth c Z own cd mx rt nm (ow_GlW p e below s Q H ce sl)) (X : Stand p l e R (s.setVm vm1) m args below meth c T locs cells slots) (hS : s.Since vm1 n) (hn' : n ≤ T.heap.size) (t : FieldType) {v : Int32} (hrt : rt = some t) (hn : narrow t (.int v) = .int v) (hti : t = .int ∨ t = .boolean ∨ t = .byte ∨ t = .char ∨ t = .short) (hd : decode cd pc = .ok (.ireturn, 1)) (hQ : Q (some (.int v)) T.heap locs) (hH : ∀ fs, H (T.setFrames fs)) (hc : cells ≤ ce) (hs : slots ≤ sl) : ow_GlW p e below s Q H ce sl (T.setTop (mkF m pc Ls [.int v])) := by
  obtain ⟨fs, hr, hrun, hended, hE⟩ := Stand.leaveW (s := s) X hS hn' (v := some (.int v)) (fun h => by rw [K.2.2.2.2.2.2.1, hrt] at h; cases h) K.2.2.2.2.2.2.2.1
  exact ⟨_, _, X.ireturnOut K.2.1 (K.2.2.2.2.2.2.1.trans hrt) hn hti (hb K.2.2.1 hd) hr, hrun, hended, _, _, rfl, hQ, hH fs, hE.1, hE.2.1, hE.2.2.1, hE.2.2.2.mono hc hs⟩
theorem ow_ldcS {vm0 : Vm} {EL : List (String × Nat)} (K : ow_K p e below (s.setVm vm0) m meth c Z own cd mx rt nm G) (X : Stand p l e R (s.setVm vm0) m args below meth c T locs cells slots) (eT : T.heap = h) {text : String} {i : Nat} (w : (Jvm.Cond.stringLink own i text).before a0 Z = true) (wS : ∀ a ∈ Bundle.stringAtoms, a.before a0 Z = true) {k0 : Nat} (hS : s.Since vm0 k0) (hk : k0 ≤ h.size) (hEL : EW Z a0 EL) (hmem : (own, i) ∈ EL) (H : CHv Z EL vm0 h) {vs : List Value} {z : Int32} (ht : (∀ c ∈ text.toList, c.toNat < 256) ∧ text.toList.map (fun c => Value.int (Jvm.Lit.byteI c.toNat.toUInt16)) = vs) (hz : ¬ z < 0) (hl : z.toNatClampNeg = vs.length) (n : Nat) (hn : 4 * text.toList.length ≤ n) (hbig : n ≤ 536870912) (hc : cells + 2 ≤ R.cells) (hl' : slots + (n + 4) ≤ R.slots) (hd : decode cd pc = .ok (.ldc i, 2)) (hp : pc' = pc + 2)
    (hr : ∀ a T' h' k1 b k, Stand p l e R (s.setVm T'.vm) m args below meth c T' locs (cells + 2) (slots + (n + 4)) → T'.heap = h' → Ext h h' → s.Since T'.vm k1 → k1 ≤ h'.size → ow_K p e below (s.setVm T'.vm) m meth c Z own cd mx rt nm G → Exa Z h' a "java/lang/String" → Fld Z h' a "java/lang/String" "coder" "B" (.int 0) → Fld Z h' a "java/lang/String" "value" "[B" (.ref b) → Arv Z h' b k .byte z vs (.int 0) → CHr Z EL vm0 h T'.vm h' → G (T'.setTop (mkF m pc' Ls (.ref a :: st)))) : G (T.setTop (mkF m pc Ls st)) := by
  subst hp
  obtain ⟨a, T', h', k1, b, k, X', e', E, S', hk', hW, hf, A1, F1, F2, V, -, -, C, -, -, st'⟩ := ldcCH X K.2.1 K.2.2.2.2.2.1 K.2.2.2.2.1 w wS eT hS hk hEL hmem H ht hz hl (g := mkF m pc Ls st) rfl (hb K.2.2.1 hd) hn hbig hc hl'
  exact K.1 _ _ st' (hr a T' h' k1 b k X' e' E S' hk' ⟨K.1, K.2.1, K.2.2.1, K.2.2.2.1, hf, hW, K.2.2.2.2.2.2⟩ A1 F1 F2 V C)
theorem ow_callSS {vm0 : Vm} {EL : List (String × Nat)} (K : ow_K p e below (s.setVm vm0) m meth c Z own cd mx rt nm G) (X : Stand p l e R (s.setVm vm0) m args below meth c T locs cells slots) (eT : T.heap = h) {y : MethodName} {i : Nat} {bytes : ByteArray} {maxL : Nat} {rt' : Option FieldType} {rm : Room} {as : Array Value} {Q : Option Value → Heap → List Loc → Prop} (hM : MetFree l y (head1 [Jvm.Cond.code y bytes maxL rt'] rm) (fun a U => a = as ∧ Z.Warmed39 U.vm ∧ U.heap = h ∧ CHv Z EL U.vm h) (fun _ _ _ _ _ => True) (fun _ U o U' => ∃ v L, o = .returned v ∧ Q v U'.heap L ∧ CHr Z EL U.vm U.heap U'.vm U'.heap ∧ ReturnedEndW U o U' L rm.cells rm.slots)) (hEL : EW Z a0 EL) (H : CHv Z EL vm0 h) {k0 : Nat} (hS : s.Since vm0 k0) (hk : k0 ≤ h.size) (wl : (Jvm.Cond.methodLink own i y).before a0 Z = true) (ws : (Jvm.Cond.static y).before a0 Z = true) (wi : (Jvm.Cond.initialized y.cls).before a0 Z = true) (wc : (Jvm.Cond.code y bytes maxL rt').before a0 Z = true) (hy : y.cls ≠ "java/lang/invoke/MethodHandle" ∧ y.cls ≠ "java/lang/invoke/VarHandle") (W : Nat) (hW : (st.map fun v => v.category).sum ≤ W) (hf : rm.frames + 1 ≤ R.frames) (hl : W + (maxL + 11) + rm.locals ≤ R.locals) (hc : cells + rm.cells ≤ R.cells) (hs : slots + rm.slots ≤ R.slots) (hz : Ls.size = mx) {full : List Value} (argsL : List Value) (has : argsL.toArray = as) (hlen : ∀ sig, parseMethodDescriptor y.desc = some sig → argsL.length = sig.parameters.length) (hst : full = argsL.reverse ++ st) (hd : decode cd pc = .ok (.invokestatic i, 3)) (hp : pc' = pc + 3)
    (hr : ∀ v T' L, Stand p l e R (s.setVm T'.vm) m args below meth c T' (locs ++ L) (cells + rm.cells) (slots + rm.slots) → s.Since T'.vm T'.heap.size → ow_K p e below (s.setVm T'.vm) m meth c Z own cd mx rt nm G → Q v T'.heap L → G (T'.setTop (mkF m pc' Ls (v.toList ++ st)))) : G (T.setTop (mkF m pc Ls full)) := by
  subst hp has
  obtain ⟨v, vm₁, ⟨T', L', c', s'⟩, -, X', S', hsz, ⟨L, hQ, l1, l2, l3, -⟩, st'⟩ := callSS X K.2.1 (y := y) K.2.2.2.2.1 (mvT (s := s.setVm vm0) K.2.2.2.2.2.1 wl) (mvT (s := s.setVm vm0) K.2.2.2.2.2.1 ws) (mvT (s := s.setVm vm0) K.2.2.2.2.2.1 wi) (mvT (s := s.setVm vm0) K.2.2.2.2.2.1 wc) hy (backOfSH (s := s) (W := W) hM K.2.2.2.2.2.1 wc wi hf hl hEL H) (g := mkF m pc Ls full) rfl (hz.trans K.2.2.2.1.symm) (argsL := argsL) (rest := st) hlen hst (by show 2 * 0 + _ ≤ _; omega) (hb K.2.2.1 hd) (fun _ _ => ⟨rfl, eT, hc, hs⟩)
  dsimp only [Pt.U, Pt.locs, Pt.cells, Pt.slots] at X' S' hsz l1 l2 l3 st' hQ
  subst l1 l2 l3
  have S2 : s.Since T'.vm T'.heap.size := hS.trans S' (Nat.le_trans hk (by rw [← eT]; exact hsz))
  exact K.1 _ _ (fun t q => st'.trans q) (hr v T' L X' S2 ⟨K.1, K.2.1, K.2.2.1, K.2.2.2.1, (S'.1.alike.findClass _ _).trans K.2.2.2.2.1, State.Warmed39.trans K.2.2.2.2.2.1 S'.1, K.2.2.2.2.2.2⟩ hQ)
theorem ow_getS (K : ow_K p e below s m meth c Z own cd mx rt nm G) (X : Stand p l e R s m args below meth c T locs cells slots) (eT : T.heap = h) {C n d : String} {i : Nat} {v : Value} (w : (Jvm.Cond.fieldLink own i C n d).before a0 Z = true) (F : Sta Z h C n d v) (hd : decode cd pc = .ok (.getstatic i, 3)) (hp : pc' = pc + 3)
    (hr : ∀ T', Stand p l e R s m args below meth c T' locs cells slots → T'.heap = h → G (T'.setTop (mkF m pc' Ls (v :: st)))) : G (T.setTop (mkF m pc Ls st)) := by
  subst hp
  obtain ⟨T', X', e', st'⟩ := getS (host := "") X K.2.1 K.2.2.2.2.2.1 K.2.2.2.2.1 w Via.refl eT F (g := mkF m pc Ls st) rfl (hb K.2.2.1 hd)
  exact K.1 _ _ st' (hr T' X' e')
end Own

def own_T : List Int32 := [33, 35, 36, 37, 38, 39, 42, 43, 45, 46, 94, 95, 96, 124, 126]
def own_DL : List Int32 := [34, 40, 41, 44, 47, 58, 59, 60, 61, 62, 63, 64, 91, 92, 93, 123, 125]
def own_enc (x : Int32) : Int32 := if x < 0 then 0 else if 255 < x then 0 else 1
def own_min (x y : Int32) : Int32 := if y < x then y else x
def own_max (x y : Int32) : Int32 := if x < y then y else x
abbrev own_tk (x : Int32) : Prop := own_enc x = 1 ∧ x.toInt8.toInt32 ∈ own_T
def own_tok (x : Int32) : Int32 := if (¬ x < 48 ∧ ¬ 57 < x) ∨ (¬ x < 97 ∧ ¬ 122 < x) ∨ (¬ x < 65 ∧ ¬ 90 < x) ∨ own_tk x then 1 else 0
def own_exv (x : Int32) : Int32 := if (¬ x < 33 ∧ ¬ 126 < x) ∧ ¬ x ∈ own_DL then 1 else 0
theorem own_natI {i : Nat} (hi : i < 2 ^ 31) : (Int32.ofNat i).toInt = i := Int32.toInt_ofNat_of_lt hi
theorem own_ltn {i n : Nat} (h : i < n) (hn : n < 2 ^ 31) : Int32.ofNat i < Int32.ofNat n := by
  rw [Int32.lt_iff_toInt_lt, own_natI hn, own_natI (Nat.lt_trans h hn)]; omega
theorem own_gen {i n : Nat} (h : n ≤ i) (hi : i < 2 ^ 31) : ¬ Int32.ofNat i < Int32.ofNat n := by
  rw [Int32.lt_iff_toInt_lt, own_natI hi, own_natI (Nat.lt_of_le_of_lt h hi)]; omega
theorem own_succ {i : Nat} (hi : i + 1 < 2 ^ 31) : Int32.ofNat i + 1 = Int32.ofNat (i + 1) := by
  apply Int32.toInt_inj.mp
  rw [Int32.toInt_add, own_natI hi, own_natI (Nat.lt_of_succ_lt hi)]
  have e : (1 : Int32).toInt = 1 := rfl
  rw [e]
  apply Int.bmod_eq_of_le <;> omega
theorem own_addn {i j : Nat} (hi : i + j < 2 ^ 31) : Int32.ofNat i + Int32.ofNat j = Int32.ofNat (i + j) := by
  apply Int32.toInt_inj.mp
  rw [Int32.toInt_add, own_natI hi, own_natI (by omega), own_natI (by omega)]
  apply Int.bmod_eq_of_le <;> omega
theorem own_nat_of {x : Int32} (h : ¬ x < 0) : x = Int32.ofNat x.toNatClampNeg ∧ (x.toNatClampNeg : Int) = x.toInt := by
  have e : (0 : Int32).toInt = 0 := rfl
  have a2 := x.toInt_lt
  rw [Int32.lt_iff_toInt_lt, e] at h
  have q : (x.toNatClampNeg : Int) = x.toInt := by simp only [Int32.toNatClampNeg]; omega
  refine ⟨Int32.toInt_inj.mp ?_, q⟩
  rw [own_natI (by omega)]; exact q.symm
theorem ow_cut {P Q : Prop} (f : P → Q) (q : P) : Q := f q
theorem own_all : ∀ n : Fin 256, own_tok (Int32.ofNat n.val) = own_exv (Int32.ofNat n.val) := by decide +kernel
theorem own_law (x : Int32) : own_tok x = own_exv x := by
  by_cases h0 : x < 0
  · have e0 : own_enc x = 0 := by rw [own_enc, if_pos h0]
    rw [own_tok, own_exv, if_neg, if_neg]
    · rintro ⟨⟨q, -⟩, -⟩
      rw [Int32.lt_iff_toInt_lt] at *
      have e : (0 : Int32).toInt = 0 := rfl
      have e' : (33 : Int32).toInt = 33 := rfl
      omega
    · have e : (0 : Int32).toInt = 0 := rfl
      have e1 : (48 : Int32).toInt = 48 := rfl
      have e2 : (97 : Int32).toInt = 97 := rfl
      have e3 : (65 : Int32).toInt = 65 := rfl
      rw [Int32.lt_iff_toInt_lt] at h0
      simp only [Int32.lt_iff_toInt_lt]
      rintro (⟨q, -⟩ | ⟨q, -⟩ | ⟨q, -⟩ | q)
      · omega
      · omega
      · omega
      · rw [own_tk, e0] at q; exact absurd q.1 (by decide)
  · by_cases h1 : 255 < x
    · have e0 : own_enc x = 0 := by rw [own_enc, if_neg h0, if_pos h1]
      rw [own_tok, own_exv, if_neg, if_neg]
      · rintro ⟨⟨-, q⟩, -⟩
        rw [Int32.lt_iff_toInt_lt] at *
        have e : (255 : Int32).toInt = 255 := rfl
        have e' : (126 : Int32).toInt = 126 := rfl
        omega
      · have e : (255 : Int32).toInt = 255 := rfl
        have e1 : (57 : Int32).toInt = 57 := rfl
        have e2 : (122 : Int32).toInt = 122 := rfl
        have e3 : (90 : Int32).toInt = 90 := rfl
        rw [Int32.lt_iff_toInt_lt] at h1
        simp only [Int32.lt_iff_toInt_lt]
        rintro (⟨-, q⟩ | ⟨-, q⟩ | ⟨-, q⟩ | q)
        · omega
        · omega
        · omega
        · rw [own_tk, e0] at q; exact absurd q.1 (by decide)
    · obtain ⟨q1, q2⟩ := own_nat_of h0
      have e : (255 : Int32).toInt = 255 := rfl
      rw [Int32.lt_iff_toInt_lt] at h1
      have := own_all ⟨x.toNatClampNeg, by omega⟩
      rw [q1]; exact this

theorem d1_0 : decode jdk_43_method_4_code 0 = .ok (.iload_n 0, 1) := by decide +kernel
theorem d1_1 : decode jdk_43_method_4_code 1 = .ok (.ifCond .lt 14, 3) := by decide +kernel
theorem d1_4 : decode jdk_43_method_4_code 4 = .ok (.iload_n 0, 1) := by decide +kernel
theorem d1_5 : decode jdk_43_method_4_code 5 = .ok (.sipush 255, 3) := by decide +kernel
theorem d1_8 : decode jdk_43_method_4_code 8 = .ok (.if_icmp .gt 7, 3) := by decide +kernel
theorem d1_11 : decode jdk_43_method_4_code 11 = .ok (.iconst 1, 1) := by decide +kernel
theorem d1_12 : decode jdk_43_method_4_code 12 = .ok (.goto 4, 3) := by decide +kernel
theorem d1_15 : decode jdk_43_method_4_code 15 = .ok (.iconst 0, 1) := by decide +kernel
theorem d1_16 : decode jdk_43_method_4_code 16 = .ok (.ireturn, 1) := by decide +kernel
theorem pn_1 : plainFor (⟨"java/lang/StringLatin1", "canEncode", "(I)Z"⟩ : MethodName) = true := by first | exact plainFor_of_name (by first | (simp [plainName, overriddenIn]; done) | decide +kernel) | decide +kernel
theorem pd_1 : parseMethodDescriptor "(I)Z" = some ⟨[.int], some .boolean⟩ := by decide +kernel
theorem ef_1 (m : MethodId) (x : Int32) : entryFrame m #[(.int x)] 1 = mkF m 0 #[.val (.int x)] [] := by first | (simp [entryFrame, mkF, argsToLocals, Value.category]; done) | rfl
def Q1 (Z : State) (x : Int32)  (h0 : Heap) (n0 : Nat) (v : Option Value) (h : Heap) (L : List Loc) : Prop := v = some (.int (own_enc x)) ∧ Fr n0 L ∧ h = h0
set_option maxRecDepth 65536 in
set_option maxHeartbeats 40000000 in
theorem rm1 (l : Launch) (Z : State) (a0 : Array Value) (hw : ∀ d ∈ tables_1, d.before a0 Z = true) (ws : List Jvm.Cond) (x : Int32)  (h0 : Heap) (n0 : Nat) (Z0 : n0 ≤ h0.size)  :
    MetFree l (⟨"java/lang/StringLatin1", "canEncode", "(I)Z"⟩ : MethodName) (head1 (Jvm.Cond.code (⟨"java/lang/StringLatin1", "canEncode", "(I)Z"⟩ : MethodName) jdk_43_method_4_code 1 (some .boolean) :: ws) ({ frames := 0, cells := 0, slots := 0, locals := 0 } : Room)) (fun as_ U => as_ = #[(.int x)] ∧ Z.Warmed39 U.vm ∧ U.heap = h0) (fun _ _ _ _ _ => True) (fun _ U oc U' => ∃ v L, oc = .returned v ∧ Q1 Z x h0 n0 v U'.heap L ∧ FrameEnd U oc U' L ({ frames := 0, cells := 0, slots := 0, locals := 0 } : Room).cells ({ frames := 0, cells := 0, slots := 0, locals := 0 } : Room).slots) := by
  refine MetFree.of_bodySF pn_1 hisR ?_
  intro p e s m args below meth c s₁ Bd hml0 hP hK
  obtain ⟨rfl, hZ, hh⟩ := hP
  have K : ow_K p e below s m meth c Z "java/lang/StringLatin1" jdk_43_method_4_code 1 (some .boolean) "canEncode" (ow_Gl p e below s (Q1 Z x h0 n0) 0 0) := ⟨ow_Gl_bc, Bd.exec, Bd.bytes, hml0, findClass_of_methodNamed Bd.named, hZ, Bd.returns, Bd.notSynchronized, (name_of_methodNamed Bd.named Bd.method).1⟩
  have X0 : Stand p l e ({ frames := 0, cells := 0, slots := 0, locals := 0 } : Room) s m #[(.int x)] below meth c s₁ [] 0 0 := Stand.of_body Bd
  have e0 : s₁.heap = h0 := by rw [← hh, Bd.state]; rfl
  have N0 := Fr.nil n0
  refine ow_entry (Q := (Q1 Z x h0 n0)) (ce := 0) (sl := 0) (ef_1 m x) ?_
  refine ow_iloadN K X0 (pc' := 1) x d1_0 rfl rfl ?_
  by_cases h1 : x < 0
  · refine ow_ifY K X0 (pc' := 15) d1_1 (XT.i0_lt_t h1) (by decide) (by decide) ?_
    refine ow_iconst K X0 (pc' := 16) (0 : Int32) d1_15 rfl (by decide) ?_
    exact ow_retI K X0 .boolean rfl (by decide) (Or.inr (Or.inl rfl)) d1_16 ⟨by rw [own_enc, if_pos h1], N0, e0⟩ (by decide) (by decide)
  · refine ow_ifN K X0 (pc' := 4) d1_1 rfl (XT.i0_lt_f h1) ?_
    refine ow_iloadN K X0 (pc' := 5) x d1_4 rfl rfl ?_
    refine ow_sipush K X0 (pc' := 8) (255 : Int32) d1_5 rfl (by decide) ?_
    by_cases h2 : (255 : Int32) < x
    · refine ow_icmpY K X0 (pc' := 15) d1_8 (XT.ii_gt_t h2) (by decide) (by decide) ?_
      refine ow_iconst K X0 (pc' := 16) (0 : Int32) d1_15 rfl (by decide) ?_
      exact ow_retI K X0 .boolean rfl (by decide) (Or.inr (Or.inl rfl)) d1_16 ⟨by rw [own_enc, if_neg h1, if_pos h2], N0, e0⟩ (by decide) (by decide)
    · refine ow_icmpN K X0 (pc' := 11) d1_8 rfl (XT.ii_gt_f h2) ?_
      refine ow_iconst K X0 (pc' := 12) (1 : Int32) d1_11 rfl (by decide) ?_
      refine ow_goto K X0 (pc' := 16) d1_12 (by decide) (by decide) ?_
      exact ow_retI K X0 .boolean rfl (by decide) (Or.inr (Or.inl rfl)) d1_16 ⟨by rw [own_enc, if_neg h1, if_neg h2], N0, e0⟩ (by decide) (by decide)
theorem d2_0 : decode jdk_29_method_65_code 0 = .ok (.iload_n 0, 1) := by decide +kernel
theorem d2_1 : decode jdk_29_method_65_code 1 = .ok (.iload_n 1, 1) := by decide +kernel
theorem d2_2 : decode jdk_29_method_65_code 2 = .ok (.if_icmp .lt 7, 3) := by decide +kernel
theorem d2_5 : decode jdk_29_method_65_code 5 = .ok (.iload_n 0, 1) := by decide +kernel
theorem d2_6 : decode jdk_29_method_65_code 6 = .ok (.goto 4, 3) := by decide +kernel
theorem d2_9 : decode jdk_29_method_65_code 9 = .ok (.iload_n 1, 1) := by decide +kernel
theorem d2_10 : decode jdk_29_method_65_code 10 = .ok (.ireturn, 1) := by decide +kernel
theorem pn_2 : plainFor (⟨"java/lang/Math", "max", "(II)I"⟩ : MethodName) = true := by first | exact plainFor_of_name (by first | (simp [plainName, overriddenIn]; done) | decide +kernel) | decide +kernel
theorem pd_2 : parseMethodDescriptor "(II)I" = some ⟨[.int, .int], some .int⟩ := by decide +kernel
theorem ef_2 (m : MethodId) (x : Int32) (y : Int32) : entryFrame m #[(.int x), (.int y)] 2 = mkF m 0 #[.val (.int x), .val (.int y)] [] := by first | (simp [entryFrame, mkF, argsToLocals, Value.category]; done) | rfl
def Q2 (Z : State) (x : Int32) (y : Int32)  (h0 : Heap) (n0 : Nat) (v : Option Value) (h : Heap) (L : List Loc) : Prop := v = some (.int (own_max x y)) ∧ Fr n0 L ∧ h = h0
set_option maxRecDepth 65536 in
set_option maxHeartbeats 40000000 in
theorem rm2 (l : Launch) (Z : State) (a0 : Array Value) (hw : ∀ d ∈ tables_1, d.before a0 Z = true) (ws : List Jvm.Cond) (x : Int32) (y : Int32)  (h0 : Heap) (n0 : Nat) (Z0 : n0 ≤ h0.size)  :
    MetFree l (⟨"java/lang/Math", "max", "(II)I"⟩ : MethodName) (head1 (Jvm.Cond.code (⟨"java/lang/Math", "max", "(II)I"⟩ : MethodName) jdk_29_method_65_code 2 (some .int) :: ws) ({ frames := 0, cells := 0, slots := 0, locals := 0 } : Room)) (fun as_ U => as_ = #[(.int x), (.int y)] ∧ Z.Warmed39 U.vm ∧ U.heap = h0) (fun _ _ _ _ _ => True) (fun _ U oc U' => ∃ v L, oc = .returned v ∧ Q2 Z x y h0 n0 v U'.heap L ∧ FrameEnd U oc U' L ({ frames := 0, cells := 0, slots := 0, locals := 0 } : Room).cells ({ frames := 0, cells := 0, slots := 0, locals := 0 } : Room).slots) := by
  refine MetFree.of_bodySF pn_2 hisR ?_
  intro p e s m args below meth c s₁ Bd hml0 hP hK
  obtain ⟨rfl, hZ, hh⟩ := hP
  have K : ow_K p e below s m meth c Z "java/lang/Math" jdk_29_method_65_code 2 (some .int) "max" (ow_Gl p e below s (Q2 Z x y h0 n0) 0 0) := ⟨ow_Gl_bc, Bd.exec, Bd.bytes, hml0, findClass_of_methodNamed Bd.named, hZ, Bd.returns, Bd.notSynchronized, (name_of_methodNamed Bd.named Bd.method).1⟩
  have X0 : Stand p l e ({ frames := 0, cells := 0, slots := 0, locals := 0 } : Room) s m #[(.int x), (.int y)] below meth c s₁ [] 0 0 := Stand.of_body Bd
  have e0 : s₁.heap = h0 := by rw [← hh, Bd.state]; rfl
  have N0 := Fr.nil n0
  refine ow_entry (Q := (Q2 Z x y h0 n0)) (ce := 0) (sl := 0) (ef_2 m x y) ?_
  refine ow_iloadN K X0 (pc' := 1) x d2_0 rfl rfl ?_
  refine ow_iloadN K X0 (pc' := 2) y d2_1 rfl rfl ?_
  by_cases hc : x < y
  · refine ow_icmpY K X0 (pc' := 9) d2_2 (XT.ii_lt_t hc) (by decide) (by decide) ?_
    refine ow_iloadN K X0 (pc' := 10) y d2_9 rfl rfl ?_
    exact ow_retI K X0 .int rfl rfl (Or.inl rfl) d2_10 ⟨by rw [own_max, if_pos hc], N0, e0⟩ (by decide) (by decide)
  · refine ow_icmpN K X0 (pc' := 5) d2_2 rfl (XT.ii_lt_f hc) ?_
    refine ow_iloadN K X0 (pc' := 6) x d2_5 rfl rfl ?_
    refine ow_goto K X0 (pc' := 10) d2_6 (by decide) (by decide) ?_
    exact ow_retI K X0 .int rfl rfl (Or.inl rfl) d2_10 ⟨by rw [own_max, if_neg hc], N0, e0⟩ (by decide) (by decide)
theorem d3_0 : decode jdk_29_method_69_code 0 = .ok (.iload_n 0, 1) := by decide +kernel
theorem d3_1 : decode jdk_29_method_69_code 1 = .ok (.iload_n 1, 1) := by decide +kernel
theorem d3_2 : decode jdk_29_method_69_code 2 = .ok (.if_icmp .gt 7, 3) := by decide +kernel
theorem d3_5 : decode jdk_29_method_69_code 5 = .ok (.iload_n 0, 1) := by decide +kernel
theorem d3_6 : decode jdk_29_method_69_code 6 = .ok (.goto 4, 3) := by decide +kernel
theorem d3_9 : decode jdk_29_method_69_code 9 = .ok (.iload_n 1, 1) := by decide +kernel
theorem d3_10 : decode jdk_29_method_69_code 10 = .ok (.ireturn, 1) := by decide +kernel
theorem pn_3 : plainFor (⟨"java/lang/Math", "min", "(II)I"⟩ : MethodName) = true := by first | exact plainFor_of_name (by first | (simp [plainName, overriddenIn]; done) | decide +kernel) | decide +kernel
theorem pd_3 : parseMethodDescriptor "(II)I" = some ⟨[.int, .int], some .int⟩ := by decide +kernel
theorem ef_3 (m : MethodId) (x : Int32) (y : Int32) : entryFrame m #[(.int x), (.int y)] 2 = mkF m 0 #[.val (.int x), .val (.int y)] [] := by first | (simp [entryFrame, mkF, argsToLocals, Value.category]; done) | rfl
def Q3 (Z : State) (x : Int32) (y : Int32)  (h0 : Heap) (n0 : Nat) (v : Option Value) (h : Heap) (L : List Loc) : Prop := v = some (.int (own_min x y)) ∧ Fr n0 L ∧ h = h0
set_option maxRecDepth 65536 in
set_option maxHeartbeats 40000000 in
theorem rm3 (l : Launch) (Z : State) (a0 : Array Value) (hw : ∀ d ∈ tables_1, d.before a0 Z = true) (ws : List Jvm.Cond) (x : Int32) (y : Int32)  (h0 : Heap) (n0 : Nat) (Z0 : n0 ≤ h0.size)  :
    MetFree l (⟨"java/lang/Math", "min", "(II)I"⟩ : MethodName) (head1 (Jvm.Cond.code (⟨"java/lang/Math", "min", "(II)I"⟩ : MethodName) jdk_29_method_69_code 2 (some .int) :: ws) ({ frames := 0, cells := 0, slots := 0, locals := 0 } : Room)) (fun as_ U => as_ = #[(.int x), (.int y)] ∧ Z.Warmed39 U.vm ∧ U.heap = h0) (fun _ _ _ _ _ => True) (fun _ U oc U' => ∃ v L, oc = .returned v ∧ Q3 Z x y h0 n0 v U'.heap L ∧ FrameEnd U oc U' L ({ frames := 0, cells := 0, slots := 0, locals := 0 } : Room).cells ({ frames := 0, cells := 0, slots := 0, locals := 0 } : Room).slots) := by
  refine MetFree.of_bodySF pn_3 hisR ?_
  intro p e s m args below meth c s₁ Bd hml0 hP hK
  obtain ⟨rfl, hZ, hh⟩ := hP
  have K : ow_K p e below s m meth c Z "java/lang/Math" jdk_29_method_69_code 2 (some .int) "min" (ow_Gl p e below s (Q3 Z x y h0 n0) 0 0) := ⟨ow_Gl_bc, Bd.exec, Bd.bytes, hml0, findClass_of_methodNamed Bd.named, hZ, Bd.returns, Bd.notSynchronized, (name_of_methodNamed Bd.named Bd.method).1⟩
  have X0 : Stand p l e ({ frames := 0, cells := 0, slots := 0, locals := 0 } : Room) s m #[(.int x), (.int y)] below meth c s₁ [] 0 0 := Stand.of_body Bd
  have e0 : s₁.heap = h0 := by rw [← hh, Bd.state]; rfl
  have N0 := Fr.nil n0
  refine ow_entry (Q := (Q3 Z x y h0 n0)) (ce := 0) (sl := 0) (ef_3 m x y) ?_
  refine ow_iloadN K X0 (pc' := 1) x d3_0 rfl rfl ?_
  refine ow_iloadN K X0 (pc' := 2) y d3_1 rfl rfl ?_
  by_cases hc : y < x
  · refine ow_icmpY K X0 (pc' := 9) d3_2 (XT.ii_gt_t hc) (by decide) (by decide) ?_
    refine ow_iloadN K X0 (pc' := 10) y d3_9 rfl rfl ?_
    exact ow_retI K X0 .int rfl rfl (Or.inl rfl) d3_10 ⟨by rw [own_min, if_pos hc], N0, e0⟩ (by decide) (by decide)
  · refine ow_icmpN K X0 (pc' := 5) d3_2 rfl (XT.ii_gt_f hc) ?_
    refine ow_iloadN K X0 (pc' := 6) x d3_5 rfl rfl ?_
    refine ow_goto K X0 (pc' := 10) d3_6 (by decide) (by decide) ?_
    exact ow_retI K X0 .int rfl rfl (Or.inl rfl) d3_10 ⟨by rw [own_min, if_neg hc], N0, e0⟩ (by decide) (by decide)
theorem d4_0 : decode jdk_43_method_23_code 0 = .ok (.iload_n 1, 1) := by decide +kernel
theorem d4_1 : decode jdk_43_method_23_code 1 = .ok (.i2b, 1) := by decide +kernel
theorem d4_2 : decode jdk_43_method_23_code 2 = .ok (.istore 4, 2) := by decide +kernel
theorem d4_4 : decode jdk_43_method_23_code 4 = .ok (.iload_n 2, 1) := by decide +kernel
theorem d4_5 : decode jdk_43_method_23_code 5 = .ok (.istore 5, 2) := by decide +kernel
theorem d4_7 : decode jdk_43_method_23_code 7 = .ok (.iload 5, 2) := by decide +kernel
theorem d4_9 : decode jdk_43_method_23_code 9 = .ok (.iload_n 3, 1) := by decide +kernel
theorem d4_10 : decode jdk_43_method_23_code 10 = .ok (.if_icmp .ge 21, 3) := by decide +kernel
theorem d4_13 : decode jdk_43_method_23_code 13 = .ok (.aload_n 0, 1) := by decide +kernel
theorem d4_14 : decode jdk_43_method_23_code 14 = .ok (.iload 5, 2) := by decide +kernel
theorem d4_16 : decode jdk_43_method_23_code 16 = .ok (.baload, 1) := by decide +kernel
theorem d4_17 : decode jdk_43_method_23_code 17 = .ok (.iload 4, 2) := by decide +kernel
theorem d4_19 : decode jdk_43_method_23_code 19 = .ok (.if_icmp .ne 6, 3) := by decide +kernel
theorem d4_22 : decode jdk_43_method_23_code 22 = .ok (.iload 5, 2) := by decide +kernel
theorem d4_24 : decode jdk_43_method_23_code 24 = .ok (.ireturn, 1) := by decide +kernel
theorem d4_25 : decode jdk_43_method_23_code 25 = .ok (.iinc 5 1, 3) := by decide +kernel
theorem d4_28 : decode jdk_43_method_23_code 28 = .ok (.goto (-21), 3) := by decide +kernel
theorem d4_31 : decode jdk_43_method_23_code 31 = .ok (.iconst (-1), 1) := by decide +kernel
theorem d4_32 : decode jdk_43_method_23_code 32 = .ok (.ireturn, 1) := by decide +kernel
theorem pn_4 : plainFor (⟨"java/lang/StringLatin1", "indexOfChar", "([BIII)I"⟩ : MethodName) = true := by first | exact plainFor_of_name (by first | (simp [plainName, overriddenIn]; done) | decide +kernel) | decide +kernel
theorem pd_4 : parseMethodDescriptor "([BIII)I" = some ⟨[(.array .byte), .int, .int, .int], some .int⟩ := by decide +kernel
theorem ef_4 (m : MethodId) (b : Addr) (x : Int32) (f : Int32) (t : Int32) : entryFrame m #[(.ref b), (.int x), (.int f), (.int t)] 6 = mkF m 0 #[.val (.ref b), .val (.int x), .val (.int f), .val (.int t), .unset, .unset] [] := by first | (simp [entryFrame, mkF, argsToLocals, Value.category]; done) | rfl
def Q4 (Z : State) (b : Addr) (x : Int32) (f : Int32) (t : Int32) (k : ClassId) (h0 : Heap) (n0 : Nat) (v : Option Value) (h : Heap) (L : List Loc) : Prop := ∃ r : Int32, v = some (.int r) ∧ (¬ r < 0 ↔ x.toInt8.toInt32 ∈ own_T) ∧ Fr n0 L ∧ h = h0
set_option maxRecDepth 65536 in
set_option maxHeartbeats 40000000 in
theorem rm4 (l : Launch) (Z : State) (a0 : Array Value) (hw : ∀ d ∈ tables_1, d.before a0 Z = true) (ws : List Jvm.Cond) (b : Addr) (x : Int32) (f : Int32) (t : Int32) (k : ClassId) (h0 : Heap) (n0 : Nat) (Z0 : n0 ≤ h0.size) (F : Arv Z h0 b k .byte (15 : Int32) [.int (33 : Int32), .int (35 : Int32), .int (36 : Int32), .int (37 : Int32), .int (38 : Int32), .int (39 : Int32), .int (42 : Int32), .int (43 : Int32), .int (45 : Int32), .int (46 : Int32), .int (94 : Int32), .int (95 : Int32), .int (96 : Int32), .int (124 : Int32), .int (126 : Int32)] (.int 0)) (hf : f = 0) (ht : t = 15) :
    MetFree l (⟨"java/lang/StringLatin1", "indexOfChar", "([BIII)I"⟩ : MethodName) (head1 (Jvm.Cond.code (⟨"java/lang/StringLatin1", "indexOfChar", "([BIII)I"⟩ : MethodName) jdk_43_method_23_code 6 (some .int) :: ws) ({ frames := 0, cells := 0, slots := 0, locals := 0 } : Room)) (fun as_ U => as_ = #[(.ref b), (.int x), (.int f), (.int t)] ∧ Z.Warmed39 U.vm ∧ U.heap = h0) (fun _ _ _ _ _ => True) (fun _ U oc U' => ∃ v L, oc = .returned v ∧ Q4 Z b x f t k h0 n0 v U'.heap L ∧ FrameEnd U oc U' L ({ frames := 0, cells := 0, slots := 0, locals := 0 } : Room).cells ({ frames := 0, cells := 0, slots := 0, locals := 0 } : Room).slots) := by
  refine MetFree.of_bodySF pn_4 hisR ?_
  intro p e s m args below meth c s₁ Bd hml0 hP hK
  obtain ⟨rfl, hZ, hh⟩ := hP
  have K : ow_K p e below s m meth c Z "java/lang/StringLatin1" jdk_43_method_23_code 6 (some .int) "indexOfChar" (ow_Gl p e below s (Q4 Z b x f t k h0 n0) 0 0) := ⟨ow_Gl_bc, Bd.exec, Bd.bytes, hml0, findClass_of_methodNamed Bd.named, hZ, Bd.returns, Bd.notSynchronized, (name_of_methodNamed Bd.named Bd.method).1⟩
  have X0 : Stand p l e ({ frames := 0, cells := 0, slots := 0, locals := 0 } : Room) s m #[(.ref b), (.int x), (.int f), (.int t)] below meth c s₁ [] 0 0 := Stand.of_body Bd
  have e0 : s₁.heap = h0 := by rw [← hh, Bd.state]; rfl
  have N0 := Fr.nil n0
  refine ow_entry (Q := (Q4 Z b x f t k h0 n0)) (ce := 0) (sl := 0) (ef_4 m b x f t) ?_
  subst hf ht
  refine ow_iloadN K X0 (pc' := 1) x d4_0 rfl rfl ?_
  refine ow_i2b K X0 (pc' := 2) ((x).toInt8.toInt32) d4_1 rfl rfl ?_
  refine ow_istore K X0 (pc' := 4) (Ls' := #[.val (.ref b), .val (.int x), .val (.int (0 : Int32)), .val (.int (15 : Int32)), .val (.int ((x).toInt8.toInt32)), .unset]) d4_2 rfl rfl ?_
  refine ow_iloadN K X0 (pc' := 5) (0 : Int32) d4_4 rfl rfl ?_
  refine ow_istore K X0 (pc' := 7) (Ls' := #[.val (.ref b), .val (.int x), .val (.int (0 : Int32)), .val (.int (15 : Int32)), .val (.int ((x).toInt8.toInt32)), .val (.int (0 : Int32))]) d4_5 rfl rfl ?_
  refine ow_iload K X0 (pc' := 9) (0 : Int32) d4_7 rfl rfl ?_
  refine ow_iloadN K X0 (pc' := 10) (15 : Int32) d4_9 rfl rfl ?_
  refine ow_icmpN K X0 (pc' := 13) d4_10 rfl (XT.ii_ge_f (by decide)) ?_
  refine ow_aloadN K X0 (pc' := 14) b d4_13 rfl rfl ?_
  refine ow_iload K X0 (pc' := 16) (0 : Int32) d4_14 rfl rfl ?_
  refine ow_baload K X0 (pc' := 17) e0 F 0 (.int (33 : Int32)) ⟨by decide, by decide⟩ (by decide) rfl d4_16 rfl ?_
  refine ow_iload K X0 (pc' := 19) ((x).toInt8.toInt32) d4_17 rfl rfl ?_
  by_cases c0 : (33 : Int32) = ((x).toInt8.toInt32)
  · refine ow_icmpN K X0 (pc' := 22) d4_19 rfl (XT.ii_ne_f c0) ?_
    refine ow_iload K X0 (pc' := 24) (0 : Int32) d4_22 rfl rfl ?_
    exact ow_retI K X0 .int rfl rfl (Or.inl rfl) d4_24 ⟨_, rfl, ⟨fun _ => by rw [← c0]; decide, fun _ => by decide⟩, N0, e0⟩ (by decide) (by decide)
  · refine ow_icmpY K X0 (pc' := 25) d4_19 (XT.ii_ne_t c0) (by decide) (by decide) ?_
    refine ow_iinc K X0 (pc' := 28) (Ls' := #[.val (.ref b), .val (.int x), .val (.int (0 : Int32)), .val (.int (15 : Int32)), .val (.int ((x).toInt8.toInt32)), .val (.int (1 : Int32))]) (1 : Int32) (1 : Int32) d4_25 rfl (by decide) rfl (by decide) rfl ?_
    refine ow_goto K X0 (pc' := 7) d4_28 (by decide) (by decide) ?_
    refine ow_iload K X0 (pc' := 9) (1 : Int32) d4_7 rfl rfl ?_
    refine ow_iloadN K X0 (pc' := 10) (15 : Int32) d4_9 rfl rfl ?_
    refine ow_icmpN K X0 (pc' := 13) d4_10 rfl (XT.ii_ge_f (by decide)) ?_
    refine ow_aloadN K X0 (pc' := 14) b d4_13 rfl rfl ?_
    refine ow_iload K X0 (pc' := 16) (1 : Int32) d4_14 rfl rfl ?_
    refine ow_baload K X0 (pc' := 17) e0 F 1 (.int (35 : Int32)) ⟨by decide, by decide⟩ (by decide) rfl d4_16 rfl ?_
    refine ow_iload K X0 (pc' := 19) ((x).toInt8.toInt32) d4_17 rfl rfl ?_
    by_cases c1 : (35 : Int32) = ((x).toInt8.toInt32)
    · refine ow_icmpN K X0 (pc' := 22) d4_19 rfl (XT.ii_ne_f c1) ?_
      refine ow_iload K X0 (pc' := 24) (1 : Int32) d4_22 rfl rfl ?_
      exact ow_retI K X0 .int rfl rfl (Or.inl rfl) d4_24 ⟨_, rfl, ⟨fun _ => by rw [← c1]; decide, fun _ => by decide⟩, N0, e0⟩ (by decide) (by decide)
    · refine ow_icmpY K X0 (pc' := 25) d4_19 (XT.ii_ne_t c1) (by decide) (by decide) ?_
      refine ow_iinc K X0 (pc' := 28) (Ls' := #[.val (.ref b), .val (.int x), .val (.int (0 : Int32)), .val (.int (15 : Int32)), .val (.int ((x).toInt8.toInt32)), .val (.int (2 : Int32))]) (1 : Int32) (2 : Int32) d4_25 rfl (by decide) rfl (by decide) rfl ?_
      refine ow_goto K X0 (pc' := 7) d4_28 (by decide) (by decide) ?_
      refine ow_iload K X0 (pc' := 9) (2 : Int32) d4_7 rfl rfl ?_
      refine ow_iloadN K X0 (pc' := 10) (15 : Int32) d4_9 rfl rfl ?_
      refine ow_icmpN K X0 (pc' := 13) d4_10 rfl (XT.ii_ge_f (by decide)) ?_
      refine ow_aloadN K X0 (pc' := 14) b d4_13 rfl rfl ?_
      refine ow_iload K X0 (pc' := 16) (2 : Int32) d4_14 rfl rfl ?_
      refine ow_baload K X0 (pc' := 17) e0 F 2 (.int (36 : Int32)) ⟨by decide, by decide⟩ (by decide) rfl d4_16 rfl ?_
      refine ow_iload K X0 (pc' := 19) ((x).toInt8.toInt32) d4_17 rfl rfl ?_
      by_cases c2 : (36 : Int32) = ((x).toInt8.toInt32)
      · refine ow_icmpN K X0 (pc' := 22) d4_19 rfl (XT.ii_ne_f c2) ?_
        refine ow_iload K X0 (pc' := 24) (2 : Int32) d4_22 rfl rfl ?_
        exact ow_retI K X0 .int rfl rfl (Or.inl rfl) d4_24 ⟨_, rfl, ⟨fun _ => by rw [← c2]; decide, fun _ => by decide⟩, N0, e0⟩ (by decide) (by decide)
      · refine ow_icmpY K X0 (pc' := 25) d4_19 (XT.ii_ne_t c2) (by decide) (by decide) ?_
        refine ow_iinc K X0 (pc' := 28) (Ls' := #[.val (.ref b), .val (.int x), .val (.int (0 : Int32)), .val (.int (15 : Int32)), .val (.int ((x).toInt8.toInt32)), .val (.int (3 : Int32))]) (1 : Int32) (3 : Int32) d4_25 rfl (by decide) rfl (by decide) rfl ?_
        refine ow_goto K X0 (pc' := 7) d4_28 (by decide) (by decide) ?_
        refine ow_iload K X0 (pc' := 9) (3 : Int32) d4_7 rfl rfl ?_
        refine ow_iloadN K X0 (pc' := 10) (15 : Int32) d4_9 rfl rfl ?_
        refine ow_icmpN K X0 (pc' := 13) d4_10 rfl (XT.ii_ge_f (by decide)) ?_
        refine ow_aloadN K X0 (pc' := 14) b d4_13 rfl rfl ?_
        refine ow_iload K X0 (pc' := 16) (3 : Int32) d4_14 rfl rfl ?_
        refine ow_baload K X0 (pc' := 17) e0 F 3 (.int (37 : Int32)) ⟨by decide, by decide⟩ (by decide) rfl d4_16 rfl ?_
        refine ow_iload K X0 (pc' := 19) ((x).toInt8.toInt32) d4_17 rfl rfl ?_
        by_cases c3 : (37 : Int32) = ((x).toInt8.toInt32)
        · refine ow_icmpN K X0 (pc' := 22) d4_19 rfl (XT.ii_ne_f c3) ?_
          refine ow_iload K X0 (pc' := 24) (3 : Int32) d4_22 rfl rfl ?_
          exact ow_retI K X0 .int rfl rfl (Or.inl rfl) d4_24 ⟨_, rfl, ⟨fun _ => by rw [← c3]; decide, fun _ => by decide⟩, N0, e0⟩ (by decide) (by decide)
        · refine ow_icmpY K X0 (pc' := 25) d4_19 (XT.ii_ne_t c3) (by decide) (by decide) ?_
          refine ow_iinc K X0 (pc' := 28) (Ls' := #[.val (.ref b), .val (.int x), .val (.int (0 : Int32)), .val (.int (15 : Int32)), .val (.int ((x).toInt8.toInt32)), .val (.int (4 : Int32))]) (1 : Int32) (4 : Int32) d4_25 rfl (by decide) rfl (by decide) rfl ?_
          refine ow_goto K X0 (pc' := 7) d4_28 (by decide) (by decide) ?_
          refine ow_iload K X0 (pc' := 9) (4 : Int32) d4_7 rfl rfl ?_
          refine ow_iloadN K X0 (pc' := 10) (15 : Int32) d4_9 rfl rfl ?_
          refine ow_icmpN K X0 (pc' := 13) d4_10 rfl (XT.ii_ge_f (by decide)) ?_
          refine ow_aloadN K X0 (pc' := 14) b d4_13 rfl rfl ?_
          refine ow_iload K X0 (pc' := 16) (4 : Int32) d4_14 rfl rfl ?_
          refine ow_baload K X0 (pc' := 17) e0 F 4 (.int (38 : Int32)) ⟨by decide, by decide⟩ (by decide) rfl d4_16 rfl ?_
          refine ow_iload K X0 (pc' := 19) ((x).toInt8.toInt32) d4_17 rfl rfl ?_
          by_cases c4 : (38 : Int32) = ((x).toInt8.toInt32)
          · refine ow_icmpN K X0 (pc' := 22) d4_19 rfl (XT.ii_ne_f c4) ?_
            refine ow_iload K X0 (pc' := 24) (4 : Int32) d4_22 rfl rfl ?_
            exact ow_retI K X0 .int rfl rfl (Or.inl rfl) d4_24 ⟨_, rfl, ⟨fun _ => by rw [← c4]; decide, fun _ => by decide⟩, N0, e0⟩ (by decide) (by decide)
          · refine ow_icmpY K X0 (pc' := 25) d4_19 (XT.ii_ne_t c4) (by decide) (by decide) ?_
            refine ow_iinc K X0 (pc' := 28) (Ls' := #[.val (.ref b), .val (.int x), .val (.int (0 : Int32)), .val (.int (15 : Int32)), .val (.int ((x).toInt8.toInt32)), .val (.int (5 : Int32))]) (1 : Int32) (5 : Int32) d4_25 rfl (by decide) rfl (by decide) rfl ?_
            refine ow_goto K X0 (pc' := 7) d4_28 (by decide) (by decide) ?_
            refine ow_iload K X0 (pc' := 9) (5 : Int32) d4_7 rfl rfl ?_
            refine ow_iloadN K X0 (pc' := 10) (15 : Int32) d4_9 rfl rfl ?_
            refine ow_icmpN K X0 (pc' := 13) d4_10 rfl (XT.ii_ge_f (by decide)) ?_
            refine ow_aloadN K X0 (pc' := 14) b d4_13 rfl rfl ?_
            refine ow_iload K X0 (pc' := 16) (5 : Int32) d4_14 rfl rfl ?_
            refine ow_baload K X0 (pc' := 17) e0 F 5 (.int (39 : Int32)) ⟨by decide, by decide⟩ (by decide) rfl d4_16 rfl ?_
            refine ow_iload K X0 (pc' := 19) ((x).toInt8.toInt32) d4_17 rfl rfl ?_
            by_cases c5 : (39 : Int32) = ((x).toInt8.toInt32)
            · refine ow_icmpN K X0 (pc' := 22) d4_19 rfl (XT.ii_ne_f c5) ?_
              refine ow_iload K X0 (pc' := 24) (5 : Int32) d4_22 rfl rfl ?_
              exact ow_retI K X0 .int rfl rfl (Or.inl rfl) d4_24 ⟨_, rfl, ⟨fun _ => by rw [← c5]; decide, fun _ => by decide⟩, N0, e0⟩ (by decide) (by decide)
            · refine ow_icmpY K X0 (pc' := 25) d4_19 (XT.ii_ne_t c5) (by decide) (by decide) ?_
              refine ow_iinc K X0 (pc' := 28) (Ls' := #[.val (.ref b), .val (.int x), .val (.int (0 : Int32)), .val (.int (15 : Int32)), .val (.int ((x).toInt8.toInt32)), .val (.int (6 : Int32))]) (1 : Int32) (6 : Int32) d4_25 rfl (by decide) rfl (by decide) rfl ?_
              refine ow_goto K X0 (pc' := 7) d4_28 (by decide) (by decide) ?_
              refine ow_iload K X0 (pc' := 9) (6 : Int32) d4_7 rfl rfl ?_
              refine ow_iloadN K X0 (pc' := 10) (15 : Int32) d4_9 rfl rfl ?_
              refine ow_icmpN K X0 (pc' := 13) d4_10 rfl (XT.ii_ge_f (by decide)) ?_
              refine ow_aloadN K X0 (pc' := 14) b d4_13 rfl rfl ?_
              refine ow_iload K X0 (pc' := 16) (6 : Int32) d4_14 rfl rfl ?_
              refine ow_baload K X0 (pc' := 17) e0 F 6 (.int (42 : Int32)) ⟨by decide, by decide⟩ (by decide) rfl d4_16 rfl ?_
              refine ow_iload K X0 (pc' := 19) ((x).toInt8.toInt32) d4_17 rfl rfl ?_
              by_cases c6 : (42 : Int32) = ((x).toInt8.toInt32)
              · refine ow_icmpN K X0 (pc' := 22) d4_19 rfl (XT.ii_ne_f c6) ?_
                refine ow_iload K X0 (pc' := 24) (6 : Int32) d4_22 rfl rfl ?_
                exact ow_retI K X0 .int rfl rfl (Or.inl rfl) d4_24 ⟨_, rfl, ⟨fun _ => by rw [← c6]; decide, fun _ => by decide⟩, N0, e0⟩ (by decide) (by decide)
              · refine ow_icmpY K X0 (pc' := 25) d4_19 (XT.ii_ne_t c6) (by decide) (by decide) ?_
                refine ow_iinc K X0 (pc' := 28) (Ls' := #[.val (.ref b), .val (.int x), .val (.int (0 : Int32)), .val (.int (15 : Int32)), .val (.int ((x).toInt8.toInt32)), .val (.int (7 : Int32))]) (1 : Int32) (7 : Int32) d4_25 rfl (by decide) rfl (by decide) rfl ?_
                refine ow_goto K X0 (pc' := 7) d4_28 (by decide) (by decide) ?_
                refine ow_iload K X0 (pc' := 9) (7 : Int32) d4_7 rfl rfl ?_
                refine ow_iloadN K X0 (pc' := 10) (15 : Int32) d4_9 rfl rfl ?_
                refine ow_icmpN K X0 (pc' := 13) d4_10 rfl (XT.ii_ge_f (by decide)) ?_
                refine ow_aloadN K X0 (pc' := 14) b d4_13 rfl rfl ?_
                refine ow_iload K X0 (pc' := 16) (7 : Int32) d4_14 rfl rfl ?_
                refine ow_baload K X0 (pc' := 17) e0 F 7 (.int (43 : Int32)) ⟨by decide, by decide⟩ (by decide) rfl d4_16 rfl ?_
                refine ow_iload K X0 (pc' := 19) ((x).toInt8.toInt32) d4_17 rfl rfl ?_
                by_cases c7 : (43 : Int32) = ((x).toInt8.toInt32)
                · refine ow_icmpN K X0 (pc' := 22) d4_19 rfl (XT.ii_ne_f c7) ?_
                  refine ow_iload K X0 (pc' := 24) (7 : Int32) d4_22 rfl rfl ?_
                  exact ow_retI K X0 .int rfl rfl (Or.inl rfl) d4_24 ⟨_, rfl, ⟨fun _ => by rw [← c7]; decide, fun _ => by decide⟩, N0, e0⟩ (by decide) (by decide)
                · refine ow_icmpY K X0 (pc' := 25) d4_19 (XT.ii_ne_t c7) (by decide) (by decide) ?_
                  refine ow_iinc K X0 (pc' := 28) (Ls' := #[.val (.ref b), .val (.int x), .val (.int (0 : Int32)), .val (.int (15 : Int32)), .val (.int ((x).toInt8.toInt32)), .val (.int (8 : Int32))]) (1 : Int32) (8 : Int32) d4_25 rfl (by decide) rfl (by decide) rfl ?_
                  refine ow_goto K X0 (pc' := 7) d4_28 (by decide) (by decide) ?_
                  refine ow_iload K X0 (pc' := 9) (8 : Int32) d4_7 rfl rfl ?_
                  refine ow_iloadN K X0 (pc' := 10) (15 : Int32) d4_9 rfl rfl ?_
                  refine ow_icmpN K X0 (pc' := 13) d4_10 rfl (XT.ii_ge_f (by decide)) ?_
                  refine ow_aloadN K X0 (pc' := 14) b d4_13 rfl rfl ?_
                  refine ow_iload K X0 (pc' := 16) (8 : Int32) d4_14 rfl rfl ?_
                  refine ow_baload K X0 (pc' := 17) e0 F 8 (.int (45 : Int32)) ⟨by decide, by decide⟩ (by decide) rfl d4_16 rfl ?_
                  refine ow_iload K X0 (pc' := 19) ((x).toInt8.toInt32) d4_17 rfl rfl ?_
                  by_cases c8 : (45 : Int32) = ((x).toInt8.toInt32)
                  · refine ow_icmpN K X0 (pc' := 22) d4_19 rfl (XT.ii_ne_f c8) ?_
                    refine ow_iload K X0 (pc' := 24) (8 : Int32) d4_22 rfl rfl ?_
                    exact ow_retI K X0 .int rfl rfl (Or.inl rfl) d4_24 ⟨_, rfl, ⟨fun _ => by rw [← c8]; decide, fun _ => by decide⟩, N0, e0⟩ (by decide) (by decide)
                  · refine ow_icmpY K X0 (pc' := 25) d4_19 (XT.ii_ne_t c8) (by decide) (by decide) ?_
                    refine ow_iinc K X0 (pc' := 28) (Ls' := #[.val (.ref b), .val (.int x), .val (.int (0 : Int32)), .val (.int (15 : Int32)), .val (.int ((x).toInt8.toInt32)), .val (.int (9 : Int32))]) (1 : Int32) (9 : Int32) d4_25 rfl (by decide) rfl (by decide) rfl ?_
                    refine ow_goto K X0 (pc' := 7) d4_28 (by decide) (by decide) ?_
                    refine ow_iload K X0 (pc' := 9) (9 : Int32) d4_7 rfl rfl ?_
                    refine ow_iloadN K X0 (pc' := 10) (15 : Int32) d4_9 rfl rfl ?_
                    refine ow_icmpN K X0 (pc' := 13) d4_10 rfl (XT.ii_ge_f (by decide)) ?_
                    refine ow_aloadN K X0 (pc' := 14) b d4_13 rfl rfl ?_
                    refine ow_iload K X0 (pc' := 16) (9 : Int32) d4_14 rfl rfl ?_
                    refine ow_baload K X0 (pc' := 17) e0 F 9 (.int (46 : Int32)) ⟨by decide, by decide⟩ (by decide) rfl d4_16 rfl ?_
                    refine ow_iload K X0 (pc' := 19) ((x).toInt8.toInt32) d4_17 rfl rfl ?_
                    by_cases c9 : (46 : Int32) = ((x).toInt8.toInt32)
                    · refine ow_icmpN K X0 (pc' := 22) d4_19 rfl (XT.ii_ne_f c9) ?_
                      refine ow_iload K X0 (pc' := 24) (9 : Int32) d4_22 rfl rfl ?_
                      exact ow_retI K X0 .int rfl rfl (Or.inl rfl) d4_24 ⟨_, rfl, ⟨fun _ => by rw [← c9]; decide, fun _ => by decide⟩, N0, e0⟩ (by decide) (by decide)
                    · refine ow_icmpY K X0 (pc' := 25) d4_19 (XT.ii_ne_t c9) (by decide) (by decide) ?_
                      refine ow_iinc K X0 (pc' := 28) (Ls' := #[.val (.ref b), .val (.int x), .val (.int (0 : Int32)), .val (.int (15 : Int32)), .val (.int ((x).toInt8.toInt32)), .val (.int (10 : Int32))]) (1 : Int32) (10 : Int32) d4_25 rfl (by decide) rfl (by decide) rfl ?_
                      refine ow_goto K X0 (pc' := 7) d4_28 (by decide) (by decide) ?_
                      refine ow_iload K X0 (pc' := 9) (10 : Int32) d4_7 rfl rfl ?_
                      refine ow_iloadN K X0 (pc' := 10) (15 : Int32) d4_9 rfl rfl ?_
                      refine ow_icmpN K X0 (pc' := 13) d4_10 rfl (XT.ii_ge_f (by decide)) ?_
                      refine ow_aloadN K X0 (pc' := 14) b d4_13 rfl rfl ?_
                      refine ow_iload K X0 (pc' := 16) (10 : Int32) d4_14 rfl rfl ?_
                      refine ow_baload K X0 (pc' := 17) e0 F 10 (.int (94 : Int32)) ⟨by decide, by decide⟩ (by decide) rfl d4_16 rfl ?_
                      refine ow_iload K X0 (pc' := 19) ((x).toInt8.toInt32) d4_17 rfl rfl ?_
                      by_cases c10 : (94 : Int32) = ((x).toInt8.toInt32)
                      · refine ow_icmpN K X0 (pc' := 22) d4_19 rfl (XT.ii_ne_f c10) ?_
                        refine ow_iload K X0 (pc' := 24) (10 : Int32) d4_22 rfl rfl ?_
                        exact ow_retI K X0 .int rfl rfl (Or.inl rfl) d4_24 ⟨_, rfl, ⟨fun _ => by rw [← c10]; decide, fun _ => by decide⟩, N0, e0⟩ (by decide) (by decide)
                      · refine ow_icmpY K X0 (pc' := 25) d4_19 (XT.ii_ne_t c10) (by decide) (by decide) ?_
                        refine ow_iinc K X0 (pc' := 28) (Ls' := #[.val (.ref b), .val (.int x), .val (.int (0 : Int32)), .val (.int (15 : Int32)), .val (.int ((x).toInt8.toInt32)), .val (.int (11 : Int32))]) (1 : Int32) (11 : Int32) d4_25 rfl (by decide) rfl (by decide) rfl ?_
                        refine ow_goto K X0 (pc' := 7) d4_28 (by decide) (by decide) ?_
                        refine ow_iload K X0 (pc' := 9) (11 : Int32) d4_7 rfl rfl ?_
                        refine ow_iloadN K X0 (pc' := 10) (15 : Int32) d4_9 rfl rfl ?_
                        refine ow_icmpN K X0 (pc' := 13) d4_10 rfl (XT.ii_ge_f (by decide)) ?_
                        refine ow_aloadN K X0 (pc' := 14) b d4_13 rfl rfl ?_
                        refine ow_iload K X0 (pc' := 16) (11 : Int32) d4_14 rfl rfl ?_
                        refine ow_baload K X0 (pc' := 17) e0 F 11 (.int (95 : Int32)) ⟨by decide, by decide⟩ (by decide) rfl d4_16 rfl ?_
                        refine ow_iload K X0 (pc' := 19) ((x).toInt8.toInt32) d4_17 rfl rfl ?_
                        by_cases c11 : (95 : Int32) = ((x).toInt8.toInt32)
                        · refine ow_icmpN K X0 (pc' := 22) d4_19 rfl (XT.ii_ne_f c11) ?_
                          refine ow_iload K X0 (pc' := 24) (11 : Int32) d4_22 rfl rfl ?_
                          exact ow_retI K X0 .int rfl rfl (Or.inl rfl) d4_24 ⟨_, rfl, ⟨fun _ => by rw [← c11]; decide, fun _ => by decide⟩, N0, e0⟩ (by decide) (by decide)
                        · refine ow_icmpY K X0 (pc' := 25) d4_19 (XT.ii_ne_t c11) (by decide) (by decide) ?_
                          refine ow_iinc K X0 (pc' := 28) (Ls' := #[.val (.ref b), .val (.int x), .val (.int (0 : Int32)), .val (.int (15 : Int32)), .val (.int ((x).toInt8.toInt32)), .val (.int (12 : Int32))]) (1 : Int32) (12 : Int32) d4_25 rfl (by decide) rfl (by decide) rfl ?_
                          refine ow_goto K X0 (pc' := 7) d4_28 (by decide) (by decide) ?_
                          refine ow_iload K X0 (pc' := 9) (12 : Int32) d4_7 rfl rfl ?_
                          refine ow_iloadN K X0 (pc' := 10) (15 : Int32) d4_9 rfl rfl ?_
                          refine ow_icmpN K X0 (pc' := 13) d4_10 rfl (XT.ii_ge_f (by decide)) ?_
                          refine ow_aloadN K X0 (pc' := 14) b d4_13 rfl rfl ?_
                          refine ow_iload K X0 (pc' := 16) (12 : Int32) d4_14 rfl rfl ?_
                          refine ow_baload K X0 (pc' := 17) e0 F 12 (.int (96 : Int32)) ⟨by decide, by decide⟩ (by decide) rfl d4_16 rfl ?_
                          refine ow_iload K X0 (pc' := 19) ((x).toInt8.toInt32) d4_17 rfl rfl ?_
                          by_cases c12 : (96 : Int32) = ((x).toInt8.toInt32)
                          · refine ow_icmpN K X0 (pc' := 22) d4_19 rfl (XT.ii_ne_f c12) ?_
                            refine ow_iload K X0 (pc' := 24) (12 : Int32) d4_22 rfl rfl ?_
                            exact ow_retI K X0 .int rfl rfl (Or.inl rfl) d4_24 ⟨_, rfl, ⟨fun _ => by rw [← c12]; decide, fun _ => by decide⟩, N0, e0⟩ (by decide) (by decide)
                          · refine ow_icmpY K X0 (pc' := 25) d4_19 (XT.ii_ne_t c12) (by decide) (by decide) ?_
                            refine ow_iinc K X0 (pc' := 28) (Ls' := #[.val (.ref b), .val (.int x), .val (.int (0 : Int32)), .val (.int (15 : Int32)), .val (.int ((x).toInt8.toInt32)), .val (.int (13 : Int32))]) (1 : Int32) (13 : Int32) d4_25 rfl (by decide) rfl (by decide) rfl ?_
                            refine ow_goto K X0 (pc' := 7) d4_28 (by decide) (by decide) ?_
                            refine ow_iload K X0 (pc' := 9) (13 : Int32) d4_7 rfl rfl ?_
                            refine ow_iloadN K X0 (pc' := 10) (15 : Int32) d4_9 rfl rfl ?_
                            refine ow_icmpN K X0 (pc' := 13) d4_10 rfl (XT.ii_ge_f (by decide)) ?_
                            refine ow_aloadN K X0 (pc' := 14) b d4_13 rfl rfl ?_
                            refine ow_iload K X0 (pc' := 16) (13 : Int32) d4_14 rfl rfl ?_
                            refine ow_baload K X0 (pc' := 17) e0 F 13 (.int (124 : Int32)) ⟨by decide, by decide⟩ (by decide) rfl d4_16 rfl ?_
                            refine ow_iload K X0 (pc' := 19) ((x).toInt8.toInt32) d4_17 rfl rfl ?_
                            by_cases c13 : (124 : Int32) = ((x).toInt8.toInt32)
                            · refine ow_icmpN K X0 (pc' := 22) d4_19 rfl (XT.ii_ne_f c13) ?_
                              refine ow_iload K X0 (pc' := 24) (13 : Int32) d4_22 rfl rfl ?_
                              exact ow_retI K X0 .int rfl rfl (Or.inl rfl) d4_24 ⟨_, rfl, ⟨fun _ => by rw [← c13]; decide, fun _ => by decide⟩, N0, e0⟩ (by decide) (by decide)
                            · refine ow_icmpY K X0 (pc' := 25) d4_19 (XT.ii_ne_t c13) (by decide) (by decide) ?_
                              refine ow_iinc K X0 (pc' := 28) (Ls' := #[.val (.ref b), .val (.int x), .val (.int (0 : Int32)), .val (.int (15 : Int32)), .val (.int ((x).toInt8.toInt32)), .val (.int (14 : Int32))]) (1 : Int32) (14 : Int32) d4_25 rfl (by decide) rfl (by decide) rfl ?_
                              refine ow_goto K X0 (pc' := 7) d4_28 (by decide) (by decide) ?_
                              refine ow_iload K X0 (pc' := 9) (14 : Int32) d4_7 rfl rfl ?_
                              refine ow_iloadN K X0 (pc' := 10) (15 : Int32) d4_9 rfl rfl ?_
                              refine ow_icmpN K X0 (pc' := 13) d4_10 rfl (XT.ii_ge_f (by decide)) ?_
                              refine ow_aloadN K X0 (pc' := 14) b d4_13 rfl rfl ?_
                              refine ow_iload K X0 (pc' := 16) (14 : Int32) d4_14 rfl rfl ?_
                              refine ow_baload K X0 (pc' := 17) e0 F 14 (.int (126 : Int32)) ⟨by decide, by decide⟩ (by decide) rfl d4_16 rfl ?_
                              refine ow_iload K X0 (pc' := 19) ((x).toInt8.toInt32) d4_17 rfl rfl ?_
                              by_cases c14 : (126 : Int32) = ((x).toInt8.toInt32)
                              · refine ow_icmpN K X0 (pc' := 22) d4_19 rfl (XT.ii_ne_f c14) ?_
                                refine ow_iload K X0 (pc' := 24) (14 : Int32) d4_22 rfl rfl ?_
                                exact ow_retI K X0 .int rfl rfl (Or.inl rfl) d4_24 ⟨_, rfl, ⟨fun _ => by rw [← c14]; decide, fun _ => by decide⟩, N0, e0⟩ (by decide) (by decide)
                              · refine ow_icmpY K X0 (pc' := 25) d4_19 (XT.ii_ne_t c14) (by decide) (by decide) ?_
                                refine ow_iinc K X0 (pc' := 28) (Ls' := #[.val (.ref b), .val (.int x), .val (.int (0 : Int32)), .val (.int (15 : Int32)), .val (.int ((x).toInt8.toInt32)), .val (.int (15 : Int32))]) (1 : Int32) (15 : Int32) d4_25 rfl (by decide) rfl (by decide) rfl ?_
                                refine ow_goto K X0 (pc' := 7) d4_28 (by decide) (by decide) ?_
                                refine ow_iload K X0 (pc' := 9) (15 : Int32) d4_7 rfl rfl ?_
                                refine ow_iloadN K X0 (pc' := 10) (15 : Int32) d4_9 rfl rfl ?_
                                refine ow_icmpY K X0 (pc' := 31) d4_10 (XT.ii_ge_t (by decide)) (by decide) (by decide) ?_
                                refine ow_iconst K X0 (pc' := 32) (-1 : Int32) d4_31 rfl (by decide) ?_
                                refine ow_retI K X0 .int rfl rfl (Or.inl rfl) d4_32 ⟨_, rfl, ⟨fun q => absurd (show ((-1 : Int32) < 0) by decide) q, fun q => ?_⟩, N0, e0⟩ (by decide) (by decide)
                                simp only [own_T, List.mem_cons, List.not_mem_nil, or_false] at q
                                rcases q with q | q | q | q | q | q | q | q | q | q | q | q | q | q | q
                                · exact absurd q.symm c0
                                · exact absurd q.symm c1
                                · exact absurd q.symm c2
                                · exact absurd q.symm c3
                                · exact absurd q.symm c4
                                · exact absurd q.symm c5
                                · exact absurd q.symm c6
                                · exact absurd q.symm c7
                                · exact absurd q.symm c8
                                · exact absurd q.symm c9
                                · exact absurd q.symm c10
                                · exact absurd q.symm c11
                                · exact absurd q.symm c12
                                · exact absurd q.symm c13
                                · exact absurd q.symm c14
theorem d5_0 : decode jdk_43_method_22_code 0 = .ok (.iload_n 1, 1) := by decide +kernel
theorem d5_1 : decode jdk_43_method_22_code 1 = .ok (.invokestatic 88, 3) := by decide +kernel
theorem d5_4 : decode jdk_43_method_22_code 4 = .ok (.ifCond .ne 5, 3) := by decide +kernel
theorem d5_7 : decode jdk_43_method_22_code 7 = .ok (.iconst (-1), 1) := by decide +kernel
theorem d5_8 : decode jdk_43_method_22_code 8 = .ok (.ireturn, 1) := by decide +kernel
theorem d5_9 : decode jdk_43_method_22_code 9 = .ok (.iload_n 2, 1) := by decide +kernel
theorem d5_10 : decode jdk_43_method_22_code 10 = .ok (.iconst 0, 1) := by decide +kernel
theorem d5_11 : decode jdk_43_method_22_code 11 = .ok (.invokestatic 92, 3) := by decide +kernel
theorem d5_14 : decode jdk_43_method_22_code 14 = .ok (.istore_n 2, 1) := by decide +kernel
theorem d5_15 : decode jdk_43_method_22_code 15 = .ok (.iload_n 3, 1) := by decide +kernel
theorem d5_16 : decode jdk_43_method_22_code 16 = .ok (.aload_n 0, 1) := by decide +kernel
theorem d5_17 : decode jdk_43_method_22_code 17 = .ok (.arraylength, 1) := by decide +kernel
theorem d5_18 : decode jdk_43_method_22_code 18 = .ok (.invokestatic 38, 3) := by decide +kernel
theorem d5_21 : decode jdk_43_method_22_code 21 = .ok (.istore_n 3, 1) := by decide +kernel
theorem d5_22 : decode jdk_43_method_22_code 22 = .ok (.iload_n 2, 1) := by decide +kernel
theorem d5_23 : decode jdk_43_method_22_code 23 = .ok (.iload_n 3, 1) := by decide +kernel
theorem d5_24 : decode jdk_43_method_22_code 24 = .ok (.if_icmp .lt 5, 3) := by decide +kernel
theorem d5_27 : decode jdk_43_method_22_code 27 = .ok (.iconst (-1), 1) := by decide +kernel
theorem d5_28 : decode jdk_43_method_22_code 28 = .ok (.ireturn, 1) := by decide +kernel
theorem d5_29 : decode jdk_43_method_22_code 29 = .ok (.aload_n 0, 1) := by decide +kernel
theorem d5_30 : decode jdk_43_method_22_code 30 = .ok (.iload_n 1, 1) := by decide +kernel
theorem d5_31 : decode jdk_43_method_22_code 31 = .ok (.iload_n 2, 1) := by decide +kernel
theorem d5_32 : decode jdk_43_method_22_code 32 = .ok (.iload_n 3, 1) := by decide +kernel
theorem d5_33 : decode jdk_43_method_22_code 33 = .ok (.invokestatic 95, 3) := by decide +kernel
theorem d5_36 : decode jdk_43_method_22_code 36 = .ok (.ireturn, 1) := by decide +kernel
theorem pn_5 : plainFor (⟨"java/lang/StringLatin1", "indexOf", "([BIII)I"⟩ : MethodName) = true := by first | exact plainFor_of_name (by first | (simp [plainName, overriddenIn]; done) | decide +kernel) | decide +kernel
theorem pd_5 : parseMethodDescriptor "([BIII)I" = some ⟨[(.array .byte), .int, .int, .int], some .int⟩ := by decide +kernel
theorem ef_5 (m : MethodId) (b : Addr) (x : Int32) (f : Int32) (t : Int32) : entryFrame m #[(.ref b), (.int x), (.int f), (.int t)] 4 = mkF m 0 #[.val (.ref b), .val (.int x), .val (.int f), .val (.int t)] [] := by first | (simp [entryFrame, mkF, argsToLocals, Value.category]; done) | rfl
def Q5 (Z : State) (b : Addr) (x : Int32) (f : Int32) (t : Int32) (k : ClassId) (h0 : Heap) (n0 : Nat) (v : Option Value) (h : Heap) (L : List Loc) : Prop := ∃ r : Int32, v = some (.int r) ∧ (¬ r < 0 ↔ own_tk x) ∧ Fr n0 L ∧ h = h0
set_option maxRecDepth 65536 in
set_option maxHeartbeats 40000000 in
theorem rm5 (l : Launch) (Z : State) (a0 : Array Value) (hw : ∀ d ∈ tables_1, d.before a0 Z = true) (ws : List Jvm.Cond) (b : Addr) (x : Int32) (f : Int32) (t : Int32) (k : ClassId) (h0 : Heap) (n0 : Nat) (Z0 : n0 ≤ h0.size) (F : Arv Z h0 b k .byte (15 : Int32) [.int (33 : Int32), .int (35 : Int32), .int (36 : Int32), .int (37 : Int32), .int (38 : Int32), .int (39 : Int32), .int (42 : Int32), .int (43 : Int32), .int (45 : Int32), .int (46 : Int32), .int (94 : Int32), .int (95 : Int32), .int (96 : Int32), .int (124 : Int32), .int (126 : Int32)] (.int 0)) (hf : f = 0) (ht : t = 15) :
    MetFree l (⟨"java/lang/StringLatin1", "indexOf", "([BIII)I"⟩ : MethodName) (head1 (Jvm.Cond.code (⟨"java/lang/StringLatin1", "indexOf", "([BIII)I"⟩ : MethodName) jdk_43_method_22_code 4 (some .int) :: ws) ({ frames := 1, cells := 0, slots := 0, locals := 20 } : Room)) (fun as_ U => as_ = #[(.ref b), (.int x), (.int f), (.int t)] ∧ Z.Warmed39 U.vm ∧ U.heap = h0) (fun _ _ _ _ _ => True) (fun _ U oc U' => ∃ v L, oc = .returned v ∧ Q5 Z b x f t k h0 n0 v U'.heap L ∧ FrameEnd U oc U' L ({ frames := 1, cells := 0, slots := 0, locals := 20 } : Room).cells ({ frames := 1, cells := 0, slots := 0, locals := 20 } : Room).slots) := by
  refine MetFree.of_bodySF pn_5 hisR ?_
  intro p e s m args below meth c s₁ Bd hml0 hP hK
  obtain ⟨rfl, hZ, hh⟩ := hP
  have K : ow_K p e below s m meth c Z "java/lang/StringLatin1" jdk_43_method_22_code 4 (some .int) "indexOf" (ow_Gl p e below s (Q5 Z b x f t k h0 n0) 0 0) := ⟨ow_Gl_bc, Bd.exec, Bd.bytes, hml0, findClass_of_methodNamed Bd.named, hZ, Bd.returns, Bd.notSynchronized, (name_of_methodNamed Bd.named Bd.method).1⟩
  have X0 : Stand p l e ({ frames := 1, cells := 0, slots := 0, locals := 20 } : Room) s m #[(.ref b), (.int x), (.int f), (.int t)] below meth c s₁ [] 0 0 := Stand.of_body Bd
  have e0 : s₁.heap = h0 := by rw [← hh, Bd.state]; rfl
  have N0 := Fr.nil n0
  refine ow_entry (Q := (Q5 Z b x f t k h0 n0)) (ce := 0) (sl := 0) (ef_5 m b x f t) ?_
  subst hf ht
  refine ow_iloadN K X0 (pc' := 1) x d5_0 rfl rfl ?_
  refine ow_callS K X0 (pc' := 4) e0 (y := (⟨"java/lang/StringLatin1", "canEncode", "(I)Z"⟩ : MethodName)) (rm1 l Z a0 hw [] x h0 n0 Z0) (hw _ (List.mem_of_getElem? (i := 44) rfl)) (hw _ (List.mem_of_getElem? (i := 45) rfl)) (hw _ (List.mem_of_getElem? (i := 42) rfl)) (hw _ (List.mem_of_getElem? (i := 46) rfl)) (by decide) (st := []) 0 (Nat.le_of_eq rfl) (by decide) (by decide) (by decide) (by decide) rfl [.int x] rfl (lenOf pd_1 rfl) rfl d5_1 rfl ?_
  intro v1 T1 L1 X1 hQ1
  obtain ⟨rfl, NNa, exa⟩ := hQ1
  have NXa := Fr.app N0 NNa
  refine ow_at (g := (mkF m 4 #[.val (.ref b), .val (.int x), .val (.int (0 : Int32)), .val (.int (15 : Int32))] [.int (own_enc x)])) ?_
  by_cases he : (own_enc x) = 0
  · refine ow_ifN K X1 (pc' := 7) d5_4 rfl (XT.i0_ne_f he) ?_
    refine ow_iconst K X1 (pc' := 8) (-1 : Int32) d5_7 rfl (by decide) ?_
    exact ow_retI K X1 .int rfl rfl (Or.inl rfl) d5_8 ⟨_, rfl, ⟨fun q => absurd (show ((-1 : Int32) < 0) by decide) q, fun q => by rw [own_tk, he] at q; exact absurd q.1 (by decide)⟩, NXa, exa⟩ (by decide) (by decide)
  · refine ow_ifY K X1 (pc' := 9) d5_4 (XT.i0_ne_t he) (by decide) (by decide) ?_
    have he1 : own_enc x = 1 := by
      unfold own_enc at he ⊢
      split
      · rename_i q; rw [if_pos q] at he; exact absurd rfl he
      · split
        · rename_i q r; rw [if_neg q, if_pos r] at he; exact absurd rfl he
        · rfl
    refine ow_iloadN K X1 (pc' := 10) (0 : Int32) d5_9 rfl rfl ?_
    refine ow_iconst K X1 (pc' := 11) (0 : Int32) d5_10 rfl (by decide) ?_
    refine ow_callS K X1 (pc' := 14) exa (y := (⟨"java/lang/Math", "max", "(II)I"⟩ : MethodName)) (rm2 l Z a0 hw [] (0 : Int32) (0 : Int32) h0 n0 Z0) (hw _ (List.mem_of_getElem? (i := 47) rfl)) (hw _ (List.mem_of_getElem? (i := 48) rfl)) (hw _ (List.mem_of_getElem? (i := 49) rfl)) (hw _ (List.mem_of_getElem? (i := 50) rfl)) (by decide) (st := []) 0 (Nat.le_of_eq rfl) (by decide) (by decide) (by decide) (by decide) rfl [.int (0 : Int32), .int (0 : Int32)] rfl (lenOf pd_2 rfl) rfl d5_11 rfl ?_
    intro v2 T2 L2 X2 hQ2
    obtain ⟨rfl, NNb, exb⟩ := hQ2
    have NXb := Fr.app NXa NNb
    refine ow_at (g := (mkF m 14 #[.val (.ref b), .val (.int x), .val (.int (0 : Int32)), .val (.int (15 : Int32))] [.int (own_max (0 : Int32) (0 : Int32))])) ?_
    refine ow_at (g := (mkF m 14 #[.val (.ref b), .val (.int x), .val (.int (0 : Int32)), .val (.int (15 : Int32))] [.int (0 : Int32)])) ?_
    refine ow_istoreN K X2 (pc' := 15) (Ls' := #[.val (.ref b), .val (.int x), .val (.int (0 : Int32)), .val (.int (15 : Int32))]) d5_14 rfl rfl ?_
    refine ow_iloadN K X2 (pc' := 16) (15 : Int32) d5_15 rfl rfl ?_
    refine ow_aloadN K X2 (pc' := 17) b d5_16 rfl rfl ?_
    refine ow_len K X2 (pc' := 18) exb F d5_17 rfl ?_
    refine ow_callS K X2 (pc' := 21) exb (y := (⟨"java/lang/Math", "min", "(II)I"⟩ : MethodName)) (rm3 l Z a0 hw [] (15 : Int32) (15 : Int32) h0 n0 Z0) (hw _ (List.mem_of_getElem? (i := 51) rfl)) (hw _ (List.mem_of_getElem? (i := 52) rfl)) (hw _ (List.mem_of_getElem? (i := 49) rfl)) (hw _ (List.mem_of_getElem? (i := 53) rfl)) (by decide) (st := []) 0 (Nat.le_of_eq rfl) (by decide) (by decide) (by decide) (by decide) rfl [.int (15 : Int32), .int (15 : Int32)] rfl (lenOf pd_3 rfl) rfl d5_18 rfl ?_
    intro v3 T3 L3 X3 hQ3
    obtain ⟨rfl, NNd, exd⟩ := hQ3
    have NXd := Fr.app NXb NNd
    refine ow_at (g := (mkF m 21 #[.val (.ref b), .val (.int x), .val (.int (0 : Int32)), .val (.int (15 : Int32))] [.int (own_min (15 : Int32) (15 : Int32))])) ?_
    refine ow_at (g := (mkF m 21 #[.val (.ref b), .val (.int x), .val (.int (0 : Int32)), .val (.int (15 : Int32))] [.int (15 : Int32)])) ?_
    refine ow_istoreN K X3 (pc' := 22) (Ls' := #[.val (.ref b), .val (.int x), .val (.int (0 : Int32)), .val (.int (15 : Int32))]) d5_21 rfl rfl ?_
    refine ow_iloadN K X3 (pc' := 23) (0 : Int32) d5_22 rfl rfl ?_
    refine ow_iloadN K X3 (pc' := 24) (15 : Int32) d5_23 rfl rfl ?_
    refine ow_icmpY K X3 (pc' := 29) d5_24 (XT.ii_lt_t (by decide)) (by decide) (by decide) ?_
    refine ow_aloadN K X3 (pc' := 30) b d5_29 rfl rfl ?_
    refine ow_iloadN K X3 (pc' := 31) x d5_30 rfl rfl ?_
    refine ow_iloadN K X3 (pc' := 32) (0 : Int32) d5_31 rfl rfl ?_
    refine ow_iloadN K X3 (pc' := 33) (15 : Int32) d5_32 rfl rfl ?_
    refine ow_callS K X3 (pc' := 36) exd (y := (⟨"java/lang/StringLatin1", "indexOfChar", "([BIII)I"⟩ : MethodName)) (rm4 l Z a0 hw [] b x (0 : Int32) (15 : Int32) k h0 n0 Z0 F rfl rfl) (hw _ (List.mem_of_getElem? (i := 54) rfl)) (hw _ (List.mem_of_getElem? (i := 55) rfl)) (hw _ (List.mem_of_getElem? (i := 42) rfl)) (hw _ (List.mem_of_getElem? (i := 56) rfl)) (by decide) (st := []) 0 (Nat.le_of_eq rfl) (by decide) (by decide) (by decide) (by decide) rfl [.ref b, .int x, .int (0 : Int32), .int (15 : Int32)] rfl (lenOf pd_4 rfl) rfl d5_33 rfl ?_
    intro v4 T4 L4 X4 hQ4
    obtain ⟨r, rfl, hr, NNe, exe⟩ := hQ4
    have NXe := Fr.app NXd NNe
    refine ow_at (g := (mkF m 36 #[.val (.ref b), .val (.int x), .val (.int (0 : Int32)), .val (.int (15 : Int32))] [.int r])) ?_
    exact ow_retI K X4 .int rfl rfl (Or.inl rfl) d5_36 ⟨r, rfl, hr.trans ⟨fun q => ⟨he1, q⟩, fun q => q.2⟩, NXe, exe⟩ (by decide) (by decide)
theorem d6_0 : decode jdk_42_method_152_code 0 = .ok (.getstatic 38, 3) := by decide +kernel
theorem d6_3 : decode jdk_42_method_152_code 3 = .ok (.ifCond .eq 10, 3) := by decide +kernel
theorem d6_6 : decode jdk_42_method_152_code 6 = .ok (.aload_n 0, 1) := by decide +kernel
theorem d6_7 : decode jdk_42_method_152_code 7 = .ok (.getfield 15, 3) := by decide +kernel
theorem d6_10 : decode jdk_42_method_152_code 10 = .ok (.goto 4, 3) := by decide +kernel
theorem d6_13 : decode jdk_42_method_152_code 13 = .ok (.iconst 1, 1) := by decide +kernel
theorem d6_14 : decode jdk_42_method_152_code 14 = .ok (.ireturn, 1) := by decide +kernel
theorem pn_6 : plainFor (⟨"java/lang/String", "coder", "()B"⟩ : MethodName) = true := by first | exact plainFor_of_name (by first | (simp [plainName, overriddenIn]; done) | decide +kernel) | decide +kernel
theorem pd_6 : parseMethodDescriptor "()B" = some ⟨[], some .byte⟩ := by decide +kernel
theorem ef_6 (m : MethodId) (a : Addr) : entryFrame m #[(.ref a)] 1 = mkF m 0 #[.val (.ref a)] [] := by first | (simp [entryFrame, mkF, argsToLocals, Value.category]; done) | rfl
def Q6 (Z : State) (a : Addr) (b : Addr) (k : ClassId) (cs : Int32) (h0 : Heap) (n0 : Nat) (v : Option Value) (h : Heap) (L : List Loc) : Prop := v = some (.int 0) ∧ Fr n0 L ∧ h = h0
set_option maxRecDepth 65536 in
set_option maxHeartbeats 40000000 in
theorem rm6 (l : Launch) (Z : State) (a0 : Array Value) (hw : ∀ d ∈ tables_1, d.before a0 Z = true) (ws : List Jvm.Cond) (a : Addr) (b : Addr) (k : ClassId) (cs : Int32) (h0 : Heap) (n0 : Nat) (Z0 : n0 ≤ h0.size) (E : Exa Z h0 a "java/lang/String") (FC : Fld Z h0 a "java/lang/String" "coder" "B" (.int 0)) (FV : Fld Z h0 a "java/lang/String" "value" "[B" (.ref b)) (F : Arv Z h0 b k .byte (15 : Int32) [.int (33 : Int32), .int (35 : Int32), .int (36 : Int32), .int (37 : Int32), .int (38 : Int32), .int (39 : Int32), .int (42 : Int32), .int (43 : Int32), .int (45 : Int32), .int (46 : Int32), .int (94 : Int32), .int (95 : Int32), .int (96 : Int32), .int (124 : Int32), .int (126 : Int32)] (.int 0)) (FS : Sta Z h0 "java/lang/String" "COMPACT_STRINGS" "Z" (.int cs)) (hcs : ¬ cs = 0) :
    MetFree l (⟨"java/lang/String", "coder", "()B"⟩ : MethodName) (head1 (Jvm.Cond.code (⟨"java/lang/String", "coder", "()B"⟩ : MethodName) jdk_42_method_152_code 1 (some .byte) :: ws) ({ frames := 0, cells := 0, slots := 0, locals := 0 } : Room)) (fun as_ U => as_ = #[(.ref a)] ∧ Z.Warmed39 U.vm ∧ U.heap = h0) (fun _ _ _ _ _ => True) (fun _ U oc U' => ∃ v L, oc = .returned v ∧ Q6 Z a b k cs h0 n0 v U'.heap L ∧ FrameEnd U oc U' L ({ frames := 0, cells := 0, slots := 0, locals := 0 } : Room).cells ({ frames := 0, cells := 0, slots := 0, locals := 0 } : Room).slots) := by
  refine MetFree.of_bodySF pn_6 hisR ?_
  intro p e s m args below meth c s₁ Bd hml0 hP hK
  obtain ⟨rfl, hZ, hh⟩ := hP
  have K : ow_K p e below s m meth c Z "java/lang/String" jdk_42_method_152_code 1 (some .byte) "coder" (ow_Gl p e below s (Q6 Z a b k cs h0 n0) 0 0) := ⟨ow_Gl_bc, Bd.exec, Bd.bytes, hml0, findClass_of_methodNamed Bd.named, hZ, Bd.returns, Bd.notSynchronized, (name_of_methodNamed Bd.named Bd.method).1⟩
  have X0 : Stand p l e ({ frames := 0, cells := 0, slots := 0, locals := 0 } : Room) s m #[(.ref a)] below meth c s₁ [] 0 0 := Stand.of_body Bd
  have e0 : s₁.heap = h0 := by rw [← hh, Bd.state]; rfl
  have N0 := Fr.nil n0
  refine ow_entry (Q := (Q6 Z a b k cs h0 n0)) (ce := 0) (sl := 0) (ef_6 m a) ?_
  refine ow_getS K X0 (pc' := 3) e0 (hw _ (List.mem_of_getElem? (i := 27) rfl)) FS d6_0 rfl ?_
  intro T1 X1 e1
  refine ow_ifN K X1 (pc' := 6) d6_3 rfl (XT.i0_eq_f hcs) ?_
  refine ow_aloadN K X1 (pc' := 7) a d6_6 rfl rfl ?_
  refine ow_getF K X1 (pc' := 10) e1 (hw _ (List.mem_of_getElem? (i := 28) rfl)) FC d6_7 rfl ?_
  intro T2 X2 e2
  refine ow_goto K X2 (pc' := 14) d6_10 (by decide) (by decide) ?_
  exact ow_retI K X2 .byte rfl (by decide) (Or.inr (Or.inr (Or.inl rfl))) d6_14 ⟨rfl, N0, e2⟩ (by decide) (by decide)
theorem d7_0 : decode jdk_42_method_54_code 0 = .ok (.aload_n 0, 1) := by decide +kernel
theorem d7_1 : decode jdk_42_method_54_code 1 = .ok (.getfield 9, 3) := by decide +kernel
theorem d7_4 : decode jdk_42_method_54_code 4 = .ok (.arraylength, 1) := by decide +kernel
theorem d7_5 : decode jdk_42_method_54_code 5 = .ok (.aload_n 0, 1) := by decide +kernel
theorem d7_6 : decode jdk_42_method_54_code 6 = .ok (.invokevirtual 335, 3) := by decide +kernel
theorem d7_9 : decode jdk_42_method_54_code 9 = .ok (.ishr, 1) := by decide +kernel
theorem d7_10 : decode jdk_42_method_54_code 10 = .ok (.ireturn, 1) := by decide +kernel
theorem pn_7 : plainFor (⟨"java/lang/String", "length", "()I"⟩ : MethodName) = true := by first | exact plainFor_of_name (by first | (simp [plainName, overriddenIn]; done) | decide +kernel) | decide +kernel
theorem pd_7 : parseMethodDescriptor "()I" = some ⟨[], some .int⟩ := by decide +kernel
theorem ef_7 (m : MethodId) (a : Addr) : entryFrame m #[(.ref a)] 1 = mkF m 0 #[.val (.ref a)] [] := by first | (simp [entryFrame, mkF, argsToLocals, Value.category]; done) | rfl
def Q7 (Z : State) (a : Addr) (b : Addr) (k : ClassId) (cs : Int32) (h0 : Heap) (n0 : Nat) (v : Option Value) (h : Heap) (L : List Loc) : Prop := v = some (.int 15) ∧ Fr n0 L ∧ h = h0
set_option maxRecDepth 65536 in
set_option maxHeartbeats 40000000 in
theorem rm7 (l : Launch) (Z : State) (a0 : Array Value) (hw : ∀ d ∈ tables_1, d.before a0 Z = true) (ws : List Jvm.Cond) (a : Addr) (b : Addr) (k : ClassId) (cs : Int32) (h0 : Heap) (n0 : Nat) (Z0 : n0 ≤ h0.size) (E : Exa Z h0 a "java/lang/String") (FC : Fld Z h0 a "java/lang/String" "coder" "B" (.int 0)) (FV : Fld Z h0 a "java/lang/String" "value" "[B" (.ref b)) (F : Arv Z h0 b k .byte (15 : Int32) [.int (33 : Int32), .int (35 : Int32), .int (36 : Int32), .int (37 : Int32), .int (38 : Int32), .int (39 : Int32), .int (42 : Int32), .int (43 : Int32), .int (45 : Int32), .int (46 : Int32), .int (94 : Int32), .int (95 : Int32), .int (96 : Int32), .int (124 : Int32), .int (126 : Int32)] (.int 0)) (FS : Sta Z h0 "java/lang/String" "COMPACT_STRINGS" "Z" (.int cs)) (hcs : ¬ cs = 0) :
    MetFree l (⟨"java/lang/String", "length", "()I"⟩ : MethodName) (head1 (Jvm.Cond.code (⟨"java/lang/String", "length", "()I"⟩ : MethodName) jdk_42_method_54_code 1 (some .int) :: ws) ({ frames := 1, cells := 0, slots := 0, locals := 14 } : Room)) (fun as_ U => as_ = #[(.ref a)] ∧ Z.Warmed39 U.vm ∧ U.heap = h0) (fun _ _ _ _ _ => True) (fun _ U oc U' => ∃ v L, oc = .returned v ∧ Q7 Z a b k cs h0 n0 v U'.heap L ∧ FrameEnd U oc U' L ({ frames := 1, cells := 0, slots := 0, locals := 14 } : Room).cells ({ frames := 1, cells := 0, slots := 0, locals := 14 } : Room).slots) := by
  refine MetFree.of_bodySF pn_7 hisR ?_
  intro p e s m args below meth c s₁ Bd hml0 hP hK
  obtain ⟨rfl, hZ, hh⟩ := hP
  have K : ow_K p e below s m meth c Z "java/lang/String" jdk_42_method_54_code 1 (some .int) "length" (ow_Gl p e below s (Q7 Z a b k cs h0 n0) 0 0) := ⟨ow_Gl_bc, Bd.exec, Bd.bytes, hml0, findClass_of_methodNamed Bd.named, hZ, Bd.returns, Bd.notSynchronized, (name_of_methodNamed Bd.named Bd.method).1⟩
  have X0 : Stand p l e ({ frames := 1, cells := 0, slots := 0, locals := 14 } : Room) s m #[(.ref a)] below meth c s₁ [] 0 0 := Stand.of_body Bd
  have e0 : s₁.heap = h0 := by rw [← hh, Bd.state]; rfl
  have N0 := Fr.nil n0
  refine ow_entry (Q := (Q7 Z a b k cs h0 n0)) (ce := 0) (sl := 0) (ef_7 m a) ?_
  refine ow_aloadN K X0 (pc' := 1) a d7_0 rfl rfl ?_
  refine ow_getF K X0 (pc' := 4) e0 (hw _ (List.mem_of_getElem? (i := 29) rfl)) FV d7_1 rfl ?_
  intro T1 X1 e1
  refine ow_len K X1 (pc' := 5) e1 F d7_4 rfl ?_
  refine ow_aloadN K X1 (pc' := 6) a d7_5 rfl rfl ?_
  refine ow_callV K X1 (pc' := 9) e1 (y := (⟨"java/lang/String", "coder", "()B"⟩ : MethodName)) (rm6 l Z a0 hw [] a b k cs h0 n0 Z0 E FC FV F FS hcs) E (hw _ (List.mem_of_getElem? (i := 35) rfl)) (hw _ (List.mem_of_getElem? (i := 36) rfl)) (hw _ (List.mem_of_getElem? (i := 38) rfl)) (hw _ (List.mem_of_getElem? (i := 37) rfl)) (hw _ (List.mem_of_getElem? (i := 5) rfl)) (hw _ (List.mem_of_getElem? (i := 39) rfl)) (by decide) (st := [.int (15 : Int32)]) 1 (Nat.le_of_eq rfl) (by decide) (by decide) (by decide) (by decide) rfl [] rfl (lenOf pd_6 rfl) rfl d7_6 rfl ?_
  intro v2 T2 L2 X2 hQ2
  obtain ⟨rfl, NNa, exa⟩ := hQ2
  have NXa := Fr.app N0 NNa
  refine ow_at (g := (mkF m 9 #[.val (.ref a)] [.int 0, .int (15 : Int32)])) ?_
  refine ow_ishr K X2 (pc' := 10) (15 : Int32) d7_9 rfl (by decide) ?_
  exact ow_retI K X2 .int rfl rfl (Or.inl rfl) d7_10 ⟨rfl, NXa, exa⟩ (by decide) (by decide)
theorem d8_0 : decode jdk_42_method_154_code 0 = .ok (.getstatic 38, 3) := by decide +kernel
theorem d8_3 : decode jdk_42_method_154_code 3 = .ok (.ifCond .eq 14, 3) := by decide +kernel
theorem d8_6 : decode jdk_42_method_154_code 6 = .ok (.aload_n 0, 1) := by decide +kernel
theorem d8_7 : decode jdk_42_method_154_code 7 = .ok (.getfield 15, 3) := by decide +kernel
theorem d8_10 : decode jdk_42_method_154_code 10 = .ok (.ifCond .ne 7, 3) := by decide +kernel
theorem d8_13 : decode jdk_42_method_154_code 13 = .ok (.iconst 1, 1) := by decide +kernel
theorem d8_14 : decode jdk_42_method_154_code 14 = .ok (.goto 4, 3) := by decide +kernel
theorem d8_17 : decode jdk_42_method_154_code 17 = .ok (.iconst 0, 1) := by decide +kernel
theorem d8_18 : decode jdk_42_method_154_code 18 = .ok (.ireturn, 1) := by decide +kernel
theorem pn_8 : plainFor (⟨"java/lang/String", "isLatin1", "()Z"⟩ : MethodName) = true := by first | exact plainFor_of_name (by first | (simp [plainName, overriddenIn]; done) | decide +kernel) | decide +kernel
theorem pd_8 : parseMethodDescriptor "()Z" = some ⟨[], some .boolean⟩ := by decide +kernel
theorem ef_8 (m : MethodId) (a : Addr) : entryFrame m #[(.ref a)] 1 = mkF m 0 #[.val (.ref a)] [] := by first | (simp [entryFrame, mkF, argsToLocals, Value.category]; done) | rfl
def Q8 (Z : State) (a : Addr) (b : Addr) (k : ClassId) (cs : Int32) (h0 : Heap) (n0 : Nat) (v : Option Value) (h : Heap) (L : List Loc) : Prop := v = some (.int 1) ∧ Fr n0 L ∧ h = h0
set_option maxRecDepth 65536 in
set_option maxHeartbeats 40000000 in
theorem rm8 (l : Launch) (Z : State) (a0 : Array Value) (hw : ∀ d ∈ tables_1, d.before a0 Z = true) (ws : List Jvm.Cond) (a : Addr) (b : Addr) (k : ClassId) (cs : Int32) (h0 : Heap) (n0 : Nat) (Z0 : n0 ≤ h0.size) (E : Exa Z h0 a "java/lang/String") (FC : Fld Z h0 a "java/lang/String" "coder" "B" (.int 0)) (FV : Fld Z h0 a "java/lang/String" "value" "[B" (.ref b)) (F : Arv Z h0 b k .byte (15 : Int32) [.int (33 : Int32), .int (35 : Int32), .int (36 : Int32), .int (37 : Int32), .int (38 : Int32), .int (39 : Int32), .int (42 : Int32), .int (43 : Int32), .int (45 : Int32), .int (46 : Int32), .int (94 : Int32), .int (95 : Int32), .int (96 : Int32), .int (124 : Int32), .int (126 : Int32)] (.int 0)) (FS : Sta Z h0 "java/lang/String" "COMPACT_STRINGS" "Z" (.int cs)) (hcs : ¬ cs = 0) :
    MetFree l (⟨"java/lang/String", "isLatin1", "()Z"⟩ : MethodName) (head1 (Jvm.Cond.code (⟨"java/lang/String", "isLatin1", "()Z"⟩ : MethodName) jdk_42_method_154_code 1 (some .boolean) :: ws) ({ frames := 0, cells := 0, slots := 0, locals := 0 } : Room)) (fun as_ U => as_ = #[(.ref a)] ∧ Z.Warmed39 U.vm ∧ U.heap = h0) (fun _ _ _ _ _ => True) (fun _ U oc U' => ∃ v L, oc = .returned v ∧ Q8 Z a b k cs h0 n0 v U'.heap L ∧ FrameEnd U oc U' L ({ frames := 0, cells := 0, slots := 0, locals := 0 } : Room).cells ({ frames := 0, cells := 0, slots := 0, locals := 0 } : Room).slots) := by
  refine MetFree.of_bodySF pn_8 hisR ?_
  intro p e s m args below meth c s₁ Bd hml0 hP hK
  obtain ⟨rfl, hZ, hh⟩ := hP
  have K : ow_K p e below s m meth c Z "java/lang/String" jdk_42_method_154_code 1 (some .boolean) "isLatin1" (ow_Gl p e below s (Q8 Z a b k cs h0 n0) 0 0) := ⟨ow_Gl_bc, Bd.exec, Bd.bytes, hml0, findClass_of_methodNamed Bd.named, hZ, Bd.returns, Bd.notSynchronized, (name_of_methodNamed Bd.named Bd.method).1⟩
  have X0 : Stand p l e ({ frames := 0, cells := 0, slots := 0, locals := 0 } : Room) s m #[(.ref a)] below meth c s₁ [] 0 0 := Stand.of_body Bd
  have e0 : s₁.heap = h0 := by rw [← hh, Bd.state]; rfl
  have N0 := Fr.nil n0
  refine ow_entry (Q := (Q8 Z a b k cs h0 n0)) (ce := 0) (sl := 0) (ef_8 m a) ?_
  refine ow_getS K X0 (pc' := 3) e0 (hw _ (List.mem_of_getElem? (i := 27) rfl)) FS d8_0 rfl ?_
  intro T1 X1 e1
  refine ow_ifN K X1 (pc' := 6) d8_3 rfl (XT.i0_eq_f hcs) ?_
  refine ow_aloadN K X1 (pc' := 7) a d8_6 rfl rfl ?_
  refine ow_getF K X1 (pc' := 10) e1 (hw _ (List.mem_of_getElem? (i := 28) rfl)) FC d8_7 rfl ?_
  intro T2 X2 e2
  refine ow_ifN K X2 (pc' := 13) d8_10 rfl (XT.i0_ne_f rfl) ?_
  refine ow_iconst K X2 (pc' := 14) (1 : Int32) d8_13 rfl (by decide) ?_
  refine ow_goto K X2 (pc' := 18) d8_14 (by decide) (by decide) ?_
  exact ow_retI K X2 .boolean rfl (by decide) (Or.inr (Or.inl rfl)) d8_18 ⟨rfl, N0, e2⟩ (by decide) (by decide)
theorem d9_0 : decode jdk_42_method_80_code 0 = .ok (.aload_n 0, 1) := by decide +kernel
theorem d9_1 : decode jdk_42_method_80_code 1 = .ok (.invokevirtual 492, 3) := by decide +kernel
theorem d9_4 : decode jdk_42_method_80_code 4 = .ok (.ifCond .eq 19, 3) := by decide +kernel
theorem d9_7 : decode jdk_42_method_80_code 7 = .ok (.aload_n 0, 1) := by decide +kernel
theorem d9_8 : decode jdk_42_method_80_code 8 = .ok (.getfield 9, 3) := by decide +kernel
theorem d9_11 : decode jdk_42_method_80_code 11 = .ok (.iload_n 1, 1) := by decide +kernel
theorem d9_12 : decode jdk_42_method_80_code 12 = .ok (.iload_n 2, 1) := by decide +kernel
theorem d9_13 : decode jdk_42_method_80_code 13 = .ok (.aload_n 0, 1) := by decide +kernel
theorem d9_14 : decode jdk_42_method_80_code 14 = .ok (.invokevirtual 505, 3) := by decide +kernel
theorem d9_17 : decode jdk_42_method_80_code 17 = .ok (.invokestatic 637, 3) := by decide +kernel
theorem d9_20 : decode jdk_42_method_80_code 20 = .ok (.goto 16, 3) := by decide +kernel
theorem d9_23 : decode jdk_42_method_80_code 23 = .ok (.aload_n 0, 1) := by decide +kernel
theorem d9_24 : decode jdk_42_method_80_code 24 = .ok (.getfield 9, 3) := by decide +kernel
theorem d9_27 : decode jdk_42_method_80_code 27 = .ok (.iload_n 1, 1) := by decide +kernel
theorem d9_28 : decode jdk_42_method_80_code 28 = .ok (.iload_n 2, 1) := by decide +kernel
theorem d9_29 : decode jdk_42_method_80_code 29 = .ok (.aload_n 0, 1) := by decide +kernel
theorem d9_30 : decode jdk_42_method_80_code 30 = .ok (.invokevirtual 505, 3) := by decide +kernel
theorem d9_33 : decode jdk_42_method_80_code 33 = .ok (.invokestatic 640, 3) := by decide +kernel
theorem d9_36 : decode jdk_42_method_80_code 36 = .ok (.ireturn, 1) := by decide +kernel
theorem pn_9 : plainFor (⟨"java/lang/String", "indexOf", "(II)I"⟩ : MethodName) = true := by first | exact plainFor_of_name (by first | (simp [plainName, overriddenIn]; done) | decide +kernel) | decide +kernel
theorem pd_9 : parseMethodDescriptor "(II)I" = some ⟨[.int, .int], some .int⟩ := by decide +kernel
theorem ef_9 (m : MethodId) (a : Addr) (x : Int32) (f : Int32) : entryFrame m #[(.ref a), (.int x), (.int f)] 3 = mkF m 0 #[.val (.ref a), .val (.int x), .val (.int f)] [] := by first | (simp [entryFrame, mkF, argsToLocals, Value.category]; done) | rfl
def Q9 (Z : State) (a : Addr) (x : Int32) (f : Int32) (b : Addr) (k : ClassId) (cs : Int32) (h0 : Heap) (n0 : Nat) (v : Option Value) (h : Heap) (L : List Loc) : Prop := ∃ r : Int32, v = some (.int r) ∧ (¬ r < 0 ↔ own_tk x) ∧ Fr n0 L ∧ h = h0
set_option maxRecDepth 65536 in
set_option maxHeartbeats 40000000 in
theorem rm9 (l : Launch) (Z : State) (a0 : Array Value) (hw : ∀ d ∈ tables_1, d.before a0 Z = true) (ws : List Jvm.Cond) (a : Addr) (x : Int32) (f : Int32) (b : Addr) (k : ClassId) (cs : Int32) (h0 : Heap) (n0 : Nat) (Z0 : n0 ≤ h0.size) (E : Exa Z h0 a "java/lang/String") (FC : Fld Z h0 a "java/lang/String" "coder" "B" (.int 0)) (FV : Fld Z h0 a "java/lang/String" "value" "[B" (.ref b)) (F : Arv Z h0 b k .byte (15 : Int32) [.int (33 : Int32), .int (35 : Int32), .int (36 : Int32), .int (37 : Int32), .int (38 : Int32), .int (39 : Int32), .int (42 : Int32), .int (43 : Int32), .int (45 : Int32), .int (46 : Int32), .int (94 : Int32), .int (95 : Int32), .int (96 : Int32), .int (124 : Int32), .int (126 : Int32)] (.int 0)) (FS : Sta Z h0 "java/lang/String" "COMPACT_STRINGS" "Z" (.int cs)) (hcs : ¬ cs = 0) (hf : f = 0) :
    MetFree l (⟨"java/lang/String", "indexOf", "(II)I"⟩ : MethodName) (head1 (Jvm.Cond.code (⟨"java/lang/String", "indexOf", "(II)I"⟩ : MethodName) jdk_42_method_80_code 3 (some .int) :: ws) ({ frames := 2, cells := 0, slots := 0, locals := 40 } : Room)) (fun as_ U => as_ = #[(.ref a), (.int x), (.int f)] ∧ Z.Warmed39 U.vm ∧ U.heap = h0) (fun _ _ _ _ _ => True) (fun _ U oc U' => ∃ v L, oc = .returned v ∧ Q9 Z a x f b k cs h0 n0 v U'.heap L ∧ FrameEnd U oc U' L ({ frames := 2, cells := 0, slots := 0, locals := 40 } : Room).cells ({ frames := 2, cells := 0, slots := 0, locals := 40 } : Room).slots) := by
  refine MetFree.of_bodySF pn_9 hisR ?_
  intro p e s m args below meth c s₁ Bd hml0 hP hK
  obtain ⟨rfl, hZ, hh⟩ := hP
  have K : ow_K p e below s m meth c Z "java/lang/String" jdk_42_method_80_code 3 (some .int) "indexOf" (ow_Gl p e below s (Q9 Z a x f b k cs h0 n0) 0 0) := ⟨ow_Gl_bc, Bd.exec, Bd.bytes, hml0, findClass_of_methodNamed Bd.named, hZ, Bd.returns, Bd.notSynchronized, (name_of_methodNamed Bd.named Bd.method).1⟩
  have X0 : Stand p l e ({ frames := 2, cells := 0, slots := 0, locals := 40 } : Room) s m #[(.ref a), (.int x), (.int f)] below meth c s₁ [] 0 0 := Stand.of_body Bd
  have e0 : s₁.heap = h0 := by rw [← hh, Bd.state]; rfl
  have N0 := Fr.nil n0
  refine ow_entry (Q := (Q9 Z a x f b k cs h0 n0)) (ce := 0) (sl := 0) (ef_9 m a x f) ?_
  subst hf
  refine ow_aloadN K X0 (pc' := 1) a d9_0 rfl rfl ?_
  refine ow_callV K X0 (pc' := 4) e0 (y := (⟨"java/lang/String", "isLatin1", "()Z"⟩ : MethodName)) (rm8 l Z a0 hw [] a b k cs h0 n0 Z0 E FC FV F FS hcs) E (hw _ (List.mem_of_getElem? (i := 22) rfl)) (hw _ (List.mem_of_getElem? (i := 23) rfl)) (hw _ (List.mem_of_getElem? (i := 25) rfl)) (hw _ (List.mem_of_getElem? (i := 24) rfl)) (hw _ (List.mem_of_getElem? (i := 5) rfl)) (hw _ (List.mem_of_getElem? (i := 26) rfl)) (by decide) (st := []) 0 (Nat.le_of_eq rfl) (by decide) (by decide) (by decide) (by decide) rfl [] rfl (lenOf pd_8 rfl) rfl d9_1 rfl ?_
  intro v1 T1 L1 X1 hQ1
  obtain ⟨rfl, NNa, exa⟩ := hQ1
  have NXa := Fr.app N0 NNa
  refine ow_at (g := (mkF m 4 #[.val (.ref a), .val (.int x), .val (.int (0 : Int32))] [.int 1])) ?_
  refine ow_ifN K X1 (pc' := 7) d9_4 rfl (XT.i0_eq_f (by decide)) ?_
  refine ow_aloadN K X1 (pc' := 8) a d9_7 rfl rfl ?_
  refine ow_getF K X1 (pc' := 11) exa (hw _ (List.mem_of_getElem? (i := 29) rfl)) FV d9_8 rfl ?_
  intro T2 X2 e2
  refine ow_iloadN K X2 (pc' := 12) x d9_11 rfl rfl ?_
  refine ow_iloadN K X2 (pc' := 13) (0 : Int32) d9_12 rfl rfl ?_
  refine ow_aloadN K X2 (pc' := 14) a d9_13 rfl rfl ?_
  refine ow_callV K X2 (pc' := 17) e2 (y := (⟨"java/lang/String", "length", "()I"⟩ : MethodName)) (rm7 l Z a0 hw [] a b k cs h0 n0 Z0 E FC FV F FS hcs) E (hw _ (List.mem_of_getElem? (i := 30) rfl)) (hw _ (List.mem_of_getElem? (i := 31) rfl)) (hw _ (List.mem_of_getElem? (i := 33) rfl)) (hw _ (List.mem_of_getElem? (i := 32) rfl)) (hw _ (List.mem_of_getElem? (i := 5) rfl)) (hw _ (List.mem_of_getElem? (i := 34) rfl)) (by decide) (st := [.int (0 : Int32), .int x, .ref b]) 3 (Nat.le_of_eq rfl) (by decide) (by decide) (by decide) (by decide) rfl [] rfl (lenOf pd_7 rfl) rfl d9_14 rfl ?_
  intro v3 T3 L3 X3 hQ3
  obtain ⟨rfl, NNb, exb⟩ := hQ3
  have NXb := Fr.app NXa NNb
  refine ow_at (g := (mkF m 17 #[.val (.ref a), .val (.int x), .val (.int (0 : Int32))] [.int 15, .int (0 : Int32), .int x, .ref b])) ?_
  refine ow_callS K X3 (pc' := 20) exb (y := (⟨"java/lang/StringLatin1", "indexOf", "([BIII)I"⟩ : MethodName)) (rm5 l Z a0 hw [] b x (0 : Int32) (15 : Int32) k h0 n0 Z0 F rfl rfl) (hw _ (List.mem_of_getElem? (i := 40) rfl)) (hw _ (List.mem_of_getElem? (i := 41) rfl)) (hw _ (List.mem_of_getElem? (i := 42) rfl)) (hw _ (List.mem_of_getElem? (i := 43) rfl)) (by decide) (st := []) 0 (Nat.le_of_eq rfl) (by decide) (by decide) (by decide) (by decide) rfl [.ref b, .int x, .int (0 : Int32), .int (15 : Int32)] rfl (lenOf pd_5 rfl) rfl d9_17 rfl ?_
  intro v4 T4 L4 X4 hQ4
  obtain ⟨r, rfl, hr, NNd, exd⟩ := hQ4
  have NXd := Fr.app NXb NNd
  refine ow_at (g := (mkF m 20 #[.val (.ref a), .val (.int x), .val (.int (0 : Int32))] [.int r])) ?_
  refine ow_goto K X4 (pc' := 36) d9_20 (by decide) (by decide) ?_
  exact ow_retI K X4 .int rfl rfl (Or.inl rfl) d9_36 ⟨r, rfl, hr, NXd, exd⟩ (by decide) (by decide)
theorem d10_0 : decode jdk_42_method_79_code 0 = .ok (.aload_n 0, 1) := by decide +kernel
theorem d10_1 : decode jdk_42_method_79_code 1 = .ok (.iload_n 1, 1) := by decide +kernel
theorem d10_2 : decode jdk_42_method_79_code 2 = .ok (.iconst 0, 1) := by decide +kernel
theorem d10_3 : decode jdk_42_method_79_code 3 = .ok (.invokevirtual 633, 3) := by decide +kernel
theorem d10_6 : decode jdk_42_method_79_code 6 = .ok (.ireturn, 1) := by decide +kernel
theorem pn_10 : plainFor (⟨"java/lang/String", "indexOf", "(I)I"⟩ : MethodName) = true := by first | exact plainFor_of_name (by first | (simp [plainName, overriddenIn]; done) | decide +kernel) | decide +kernel
theorem pd_10 : parseMethodDescriptor "(I)I" = some ⟨[.int], some .int⟩ := by decide +kernel
theorem ef_10 (m : MethodId) (a : Addr) (x : Int32) : entryFrame m #[(.ref a), (.int x)] 2 = mkF m 0 #[.val (.ref a), .val (.int x)] [] := by first | (simp [entryFrame, mkF, argsToLocals, Value.category]; done) | rfl
def Q10 (Z : State) (a : Addr) (x : Int32) (b : Addr) (k : ClassId) (cs : Int32) (h0 : Heap) (n0 : Nat) (v : Option Value) (h : Heap) (L : List Loc) : Prop := ∃ r : Int32, v = some (.int r) ∧ (¬ r < 0 ↔ own_tk x) ∧ Fr n0 L ∧ h = h0
set_option maxRecDepth 65536 in
set_option maxHeartbeats 40000000 in
theorem rm10 (l : Launch) (Z : State) (a0 : Array Value) (hw : ∀ d ∈ tables_1, d.before a0 Z = true) (ws : List Jvm.Cond) (a : Addr) (x : Int32) (b : Addr) (k : ClassId) (cs : Int32) (h0 : Heap) (n0 : Nat) (Z0 : n0 ≤ h0.size) (E : Exa Z h0 a "java/lang/String") (FC : Fld Z h0 a "java/lang/String" "coder" "B" (.int 0)) (FV : Fld Z h0 a "java/lang/String" "value" "[B" (.ref b)) (F : Arv Z h0 b k .byte (15 : Int32) [.int (33 : Int32), .int (35 : Int32), .int (36 : Int32), .int (37 : Int32), .int (38 : Int32), .int (39 : Int32), .int (42 : Int32), .int (43 : Int32), .int (45 : Int32), .int (46 : Int32), .int (94 : Int32), .int (95 : Int32), .int (96 : Int32), .int (124 : Int32), .int (126 : Int32)] (.int 0)) (FS : Sta Z h0 "java/lang/String" "COMPACT_STRINGS" "Z" (.int cs)) (hcs : ¬ cs = 0) :
    MetFree l (⟨"java/lang/String", "indexOf", "(I)I"⟩ : MethodName) (head1 (Jvm.Cond.code (⟨"java/lang/String", "indexOf", "(I)I"⟩ : MethodName) jdk_42_method_79_code 2 (some .int) :: ws) ({ frames := 3, cells := 0, slots := 0, locals := 54 } : Room)) (fun as_ U => as_ = #[(.ref a), (.int x)] ∧ Z.Warmed39 U.vm ∧ U.heap = h0) (fun _ _ _ _ _ => True) (fun _ U oc U' => ∃ v L, oc = .returned v ∧ Q10 Z a x b k cs h0 n0 v U'.heap L ∧ FrameEnd U oc U' L ({ frames := 3, cells := 0, slots := 0, locals := 54 } : Room).cells ({ frames := 3, cells := 0, slots := 0, locals := 54 } : Room).slots) := by
  refine MetFree.of_bodySF pn_10 hisR ?_
  intro p e s m args below meth c s₁ Bd hml0 hP hK
  obtain ⟨rfl, hZ, hh⟩ := hP
  have K : ow_K p e below s m meth c Z "java/lang/String" jdk_42_method_79_code 2 (some .int) "indexOf" (ow_Gl p e below s (Q10 Z a x b k cs h0 n0) 0 0) := ⟨ow_Gl_bc, Bd.exec, Bd.bytes, hml0, findClass_of_methodNamed Bd.named, hZ, Bd.returns, Bd.notSynchronized, (name_of_methodNamed Bd.named Bd.method).1⟩
  have X0 : Stand p l e ({ frames := 3, cells := 0, slots := 0, locals := 54 } : Room) s m #[(.ref a), (.int x)] below meth c s₁ [] 0 0 := Stand.of_body Bd
  have e0 : s₁.heap = h0 := by rw [← hh, Bd.state]; rfl
  have N0 := Fr.nil n0
  refine ow_entry (Q := (Q10 Z a x b k cs h0 n0)) (ce := 0) (sl := 0) (ef_10 m a x) ?_
  refine ow_aloadN K X0 (pc' := 1) a d10_0 rfl rfl ?_
  refine ow_iloadN K X0 (pc' := 2) x d10_1 rfl rfl ?_
  refine ow_iconst K X0 (pc' := 3) (0 : Int32) d10_2 rfl (by decide) ?_
  refine ow_callV K X0 (pc' := 6) e0 (y := (⟨"java/lang/String", "indexOf", "(II)I"⟩ : MethodName)) (rm9 l Z a0 hw [] a x (0 : Int32) b k cs h0 n0 Z0 E FC FV F FS hcs rfl) E (hw _ (List.mem_of_getElem? (i := 17) rfl)) (hw _ (List.mem_of_getElem? (i := 18) rfl)) (hw _ (List.mem_of_getElem? (i := 20) rfl)) (hw _ (List.mem_of_getElem? (i := 19) rfl)) (hw _ (List.mem_of_getElem? (i := 5) rfl)) (hw _ (List.mem_of_getElem? (i := 21) rfl)) (by decide) (st := []) 0 (Nat.le_of_eq rfl) (by decide) (by decide) (by decide) (by decide) rfl [.int x, .int (0 : Int32)] rfl (lenOf pd_9 rfl) rfl d10_3 rfl ?_
  intro v1 T1 L1 X1 hQ1
  obtain ⟨r, rfl, hr, NNd, exd⟩ := hQ1
  have NXd := Fr.app N0 NNd
  refine ow_at (g := (mkF m 6 #[.val (.ref a), .val (.int x)] [.int r])) ?_
  exact ow_retI K X1 .int rfl rfl (Or.inl rfl) d10_6 ⟨r, rfl, hr, NXd, exd⟩ (by decide) (by decide)
theorem d11_0 : decode method_2_code 0 = .ok (.iload_n 0, 1) := by decide +kernel
theorem d11_1 : decode method_2_code 1 = .ok (.bipush 34, 2) := by decide +kernel
theorem d11_3 : decode method_2_code 3 = .ok (.if_icmp .eq 99, 3) := by decide +kernel
theorem d11_6 : decode method_2_code 6 = .ok (.iload_n 0, 1) := by decide +kernel
theorem d11_7 : decode method_2_code 7 = .ok (.bipush 40, 2) := by decide +kernel
theorem d11_9 : decode method_2_code 9 = .ok (.if_icmp .eq 93, 3) := by decide +kernel
theorem d11_12 : decode method_2_code 12 = .ok (.iload_n 0, 1) := by decide +kernel
theorem d11_13 : decode method_2_code 13 = .ok (.bipush 41, 2) := by decide +kernel
theorem d11_15 : decode method_2_code 15 = .ok (.if_icmp .eq 87, 3) := by decide +kernel
theorem d11_18 : decode method_2_code 18 = .ok (.iload_n 0, 1) := by decide +kernel
theorem d11_19 : decode method_2_code 19 = .ok (.bipush 44, 2) := by decide +kernel
theorem d11_21 : decode method_2_code 21 = .ok (.if_icmp .eq 81, 3) := by decide +kernel
theorem d11_24 : decode method_2_code 24 = .ok (.iload_n 0, 1) := by decide +kernel
theorem d11_25 : decode method_2_code 25 = .ok (.bipush 47, 2) := by decide +kernel
theorem d11_27 : decode method_2_code 27 = .ok (.if_icmp .eq 75, 3) := by decide +kernel
theorem d11_30 : decode method_2_code 30 = .ok (.iload_n 0, 1) := by decide +kernel
theorem d11_31 : decode method_2_code 31 = .ok (.bipush 58, 2) := by decide +kernel
theorem d11_33 : decode method_2_code 33 = .ok (.if_icmp .eq 69, 3) := by decide +kernel
theorem d11_36 : decode method_2_code 36 = .ok (.iload_n 0, 1) := by decide +kernel
theorem d11_37 : decode method_2_code 37 = .ok (.bipush 59, 2) := by decide +kernel
theorem d11_39 : decode method_2_code 39 = .ok (.if_icmp .eq 63, 3) := by decide +kernel
theorem d11_42 : decode method_2_code 42 = .ok (.iload_n 0, 1) := by decide +kernel
theorem d11_43 : decode method_2_code 43 = .ok (.bipush 60, 2) := by decide +kernel
theorem d11_45 : decode method_2_code 45 = .ok (.if_icmp .eq 57, 3) := by decide +kernel
theorem d11_48 : decode method_2_code 48 = .ok (.iload_n 0, 1) := by decide +kernel
theorem d11_49 : decode method_2_code 49 = .ok (.bipush 61, 2) := by decide +kernel
theorem d11_51 : decode method_2_code 51 = .ok (.if_icmp .eq 51, 3) := by decide +kernel
theorem d11_54 : decode method_2_code 54 = .ok (.iload_n 0, 1) := by decide +kernel
theorem d11_55 : decode method_2_code 55 = .ok (.bipush 62, 2) := by decide +kernel
theorem d11_57 : decode method_2_code 57 = .ok (.if_icmp .eq 45, 3) := by decide +kernel
theorem d11_60 : decode method_2_code 60 = .ok (.iload_n 0, 1) := by decide +kernel
theorem d11_61 : decode method_2_code 61 = .ok (.bipush 63, 2) := by decide +kernel
theorem d11_63 : decode method_2_code 63 = .ok (.if_icmp .eq 39, 3) := by decide +kernel
theorem d11_66 : decode method_2_code 66 = .ok (.iload_n 0, 1) := by decide +kernel
theorem d11_67 : decode method_2_code 67 = .ok (.bipush 64, 2) := by decide +kernel
theorem d11_69 : decode method_2_code 69 = .ok (.if_icmp .eq 33, 3) := by decide +kernel
theorem d11_72 : decode method_2_code 72 = .ok (.iload_n 0, 1) := by decide +kernel
theorem d11_73 : decode method_2_code 73 = .ok (.bipush 91, 2) := by decide +kernel
theorem d11_75 : decode method_2_code 75 = .ok (.if_icmp .eq 27, 3) := by decide +kernel
theorem d11_78 : decode method_2_code 78 = .ok (.iload_n 0, 1) := by decide +kernel
theorem d11_79 : decode method_2_code 79 = .ok (.bipush 92, 2) := by decide +kernel
theorem d11_81 : decode method_2_code 81 = .ok (.if_icmp .eq 21, 3) := by decide +kernel
theorem d11_84 : decode method_2_code 84 = .ok (.iload_n 0, 1) := by decide +kernel
theorem d11_85 : decode method_2_code 85 = .ok (.bipush 93, 2) := by decide +kernel
theorem d11_87 : decode method_2_code 87 = .ok (.if_icmp .eq 15, 3) := by decide +kernel
theorem d11_90 : decode method_2_code 90 = .ok (.iload_n 0, 1) := by decide +kernel
theorem d11_91 : decode method_2_code 91 = .ok (.bipush 123, 2) := by decide +kernel
theorem d11_93 : decode method_2_code 93 = .ok (.if_icmp .eq 9, 3) := by decide +kernel
theorem d11_96 : decode method_2_code 96 = .ok (.iload_n 0, 1) := by decide +kernel
theorem d11_97 : decode method_2_code 97 = .ok (.bipush 125, 2) := by decide +kernel
theorem d11_99 : decode method_2_code 99 = .ok (.if_icmp .ne 7, 3) := by decide +kernel
theorem d11_102 : decode method_2_code 102 = .ok (.iconst 1, 1) := by decide +kernel
theorem d11_103 : decode method_2_code 103 = .ok (.goto 4, 3) := by decide +kernel
theorem d11_106 : decode method_2_code 106 = .ok (.iconst 0, 1) := by decide +kernel
theorem d11_107 : decode method_2_code 107 = .ok (.ireturn, 1) := by decide +kernel
theorem pn_11 : plainFor (⟨"com/example/federant/federant/http/HeadReaderIsTokenCharPinLaw", "isDelimiter", "(I)Z"⟩ : MethodName) = true := by first | exact plainFor_of_name (by first | (simp [plainName, overriddenIn]; done) | decide +kernel) | decide +kernel
theorem pd_11 : parseMethodDescriptor "(I)Z" = some ⟨[.int], some .boolean⟩ := by decide +kernel
theorem ef_11 (m : MethodId) (x : Int32) : entryFrame m #[(.int x)] 1 = mkF m 0 #[.val (.int x)] [] := by first | (simp [entryFrame, mkF, argsToLocals, Value.category]; done) | rfl
def Q11 (Z : State) (x : Int32)  (h0 : Heap) (n0 : Nat) (v : Option Value) (h : Heap) (L : List Loc) : Prop := v = some (.int (if x ∈ own_DL then 1 else 0)) ∧ Fr n0 L ∧ h = h0
set_option maxRecDepth 65536 in
set_option maxHeartbeats 40000000 in
theorem rm11 (l : Launch) (Z : State) (a0 : Array Value) (hw : ∀ d ∈ tables_1, d.before a0 Z = true) (ws : List Jvm.Cond) (x : Int32)  (h0 : Heap) (n0 : Nat) (Z0 : n0 ≤ h0.size)  :
    MetFree l (⟨"com/example/federant/federant/http/HeadReaderIsTokenCharPinLaw", "isDelimiter", "(I)Z"⟩ : MethodName) (head1 (Jvm.Cond.code (⟨"com/example/federant/federant/http/HeadReaderIsTokenCharPinLaw", "isDelimiter", "(I)Z"⟩ : MethodName) method_2_code 1 (some .boolean) :: ws) ({ frames := 0, cells := 0, slots := 0, locals := 0 } : Room)) (fun as_ U => as_ = #[(.int x)] ∧ Z.Warmed39 U.vm ∧ U.heap = h0) (fun _ _ _ _ _ => True) (fun _ U oc U' => ∃ v L, oc = .returned v ∧ Q11 Z x h0 n0 v U'.heap L ∧ FrameEnd U oc U' L ({ frames := 0, cells := 0, slots := 0, locals := 0 } : Room).cells ({ frames := 0, cells := 0, slots := 0, locals := 0 } : Room).slots) := by
  refine MetFree.of_bodySF pn_11 hisR ?_
  intro p e s m args below meth c s₁ Bd hml0 hP hK
  obtain ⟨rfl, hZ, hh⟩ := hP
  have K : ow_K p e below s m meth c Z "com/example/federant/federant/http/HeadReaderIsTokenCharPinLaw" method_2_code 1 (some .boolean) "isDelimiter" (ow_Gl p e below s (Q11 Z x h0 n0) 0 0) := ⟨ow_Gl_bc, Bd.exec, Bd.bytes, hml0, findClass_of_methodNamed Bd.named, hZ, Bd.returns, Bd.notSynchronized, (name_of_methodNamed Bd.named Bd.method).1⟩
  have X0 : Stand p l e ({ frames := 0, cells := 0, slots := 0, locals := 0 } : Room) s m #[(.int x)] below meth c s₁ [] 0 0 := Stand.of_body Bd
  have e0 : s₁.heap = h0 := by rw [← hh, Bd.state]; rfl
  have N0 := Fr.nil n0
  refine ow_entry (Q := (Q11 Z x h0 n0)) (ce := 0) (sl := 0) (ef_11 m x) ?_
  refine ow_iloadN K X0 (pc' := 1) x d11_0 rfl rfl ?_
  refine ow_bipush K X0 (pc' := 3) (34 : Int32) d11_1 rfl (by decide) ?_
  by_cases c0 : x = (34 : Int32)
  · refine ow_icmpY K X0 (pc' := 102) d11_3 (XT.ii_eq_t c0) (by decide) (by decide) ?_
    refine ow_iconst K X0 (pc' := 103) (1 : Int32) d11_102 rfl (by decide) ?_
    refine ow_goto K X0 (pc' := 107) d11_103 (by decide) (by decide) ?_
    exact ow_retI K X0 .boolean rfl (by decide) (Or.inr (Or.inl rfl)) d11_107 ⟨by rw [if_pos (by rw [c0]; decide)], N0, e0⟩ (by decide) (by decide)
  · refine ow_icmpN K X0 (pc' := 6) d11_3 rfl (XT.ii_eq_f c0) ?_
    refine ow_iloadN K X0 (pc' := 7) x d11_6 rfl rfl ?_
    refine ow_bipush K X0 (pc' := 9) (40 : Int32) d11_7 rfl (by decide) ?_
    by_cases c1 : x = (40 : Int32)
    · refine ow_icmpY K X0 (pc' := 102) d11_9 (XT.ii_eq_t c1) (by decide) (by decide) ?_
      refine ow_iconst K X0 (pc' := 103) (1 : Int32) d11_102 rfl (by decide) ?_
      refine ow_goto K X0 (pc' := 107) d11_103 (by decide) (by decide) ?_
      exact ow_retI K X0 .boolean rfl (by decide) (Or.inr (Or.inl rfl)) d11_107 ⟨by rw [if_pos (by rw [c1]; decide)], N0, e0⟩ (by decide) (by decide)
    · refine ow_icmpN K X0 (pc' := 12) d11_9 rfl (XT.ii_eq_f c1) ?_
      refine ow_iloadN K X0 (pc' := 13) x d11_12 rfl rfl ?_
      refine ow_bipush K X0 (pc' := 15) (41 : Int32) d11_13 rfl (by decide) ?_
      by_cases c2 : x = (41 : Int32)
      · refine ow_icmpY K X0 (pc' := 102) d11_15 (XT.ii_eq_t c2) (by decide) (by decide) ?_
        refine ow_iconst K X0 (pc' := 103) (1 : Int32) d11_102 rfl (by decide) ?_
        refine ow_goto K X0 (pc' := 107) d11_103 (by decide) (by decide) ?_
        exact ow_retI K X0 .boolean rfl (by decide) (Or.inr (Or.inl rfl)) d11_107 ⟨by rw [if_pos (by rw [c2]; decide)], N0, e0⟩ (by decide) (by decide)
      · refine ow_icmpN K X0 (pc' := 18) d11_15 rfl (XT.ii_eq_f c2) ?_
        refine ow_iloadN K X0 (pc' := 19) x d11_18 rfl rfl ?_
        refine ow_bipush K X0 (pc' := 21) (44 : Int32) d11_19 rfl (by decide) ?_
        by_cases c3 : x = (44 : Int32)
        · refine ow_icmpY K X0 (pc' := 102) d11_21 (XT.ii_eq_t c3) (by decide) (by decide) ?_
          refine ow_iconst K X0 (pc' := 103) (1 : Int32) d11_102 rfl (by decide) ?_
          refine ow_goto K X0 (pc' := 107) d11_103 (by decide) (by decide) ?_
          exact ow_retI K X0 .boolean rfl (by decide) (Or.inr (Or.inl rfl)) d11_107 ⟨by rw [if_pos (by rw [c3]; decide)], N0, e0⟩ (by decide) (by decide)
        · refine ow_icmpN K X0 (pc' := 24) d11_21 rfl (XT.ii_eq_f c3) ?_
          refine ow_iloadN K X0 (pc' := 25) x d11_24 rfl rfl ?_
          refine ow_bipush K X0 (pc' := 27) (47 : Int32) d11_25 rfl (by decide) ?_
          by_cases c4 : x = (47 : Int32)
          · refine ow_icmpY K X0 (pc' := 102) d11_27 (XT.ii_eq_t c4) (by decide) (by decide) ?_
            refine ow_iconst K X0 (pc' := 103) (1 : Int32) d11_102 rfl (by decide) ?_
            refine ow_goto K X0 (pc' := 107) d11_103 (by decide) (by decide) ?_
            exact ow_retI K X0 .boolean rfl (by decide) (Or.inr (Or.inl rfl)) d11_107 ⟨by rw [if_pos (by rw [c4]; decide)], N0, e0⟩ (by decide) (by decide)
          · refine ow_icmpN K X0 (pc' := 30) d11_27 rfl (XT.ii_eq_f c4) ?_
            refine ow_iloadN K X0 (pc' := 31) x d11_30 rfl rfl ?_
            refine ow_bipush K X0 (pc' := 33) (58 : Int32) d11_31 rfl (by decide) ?_
            by_cases c5 : x = (58 : Int32)
            · refine ow_icmpY K X0 (pc' := 102) d11_33 (XT.ii_eq_t c5) (by decide) (by decide) ?_
              refine ow_iconst K X0 (pc' := 103) (1 : Int32) d11_102 rfl (by decide) ?_
              refine ow_goto K X0 (pc' := 107) d11_103 (by decide) (by decide) ?_
              exact ow_retI K X0 .boolean rfl (by decide) (Or.inr (Or.inl rfl)) d11_107 ⟨by rw [if_pos (by rw [c5]; decide)], N0, e0⟩ (by decide) (by decide)
            · refine ow_icmpN K X0 (pc' := 36) d11_33 rfl (XT.ii_eq_f c5) ?_
              refine ow_iloadN K X0 (pc' := 37) x d11_36 rfl rfl ?_
              refine ow_bipush K X0 (pc' := 39) (59 : Int32) d11_37 rfl (by decide) ?_
              by_cases c6 : x = (59 : Int32)
              · refine ow_icmpY K X0 (pc' := 102) d11_39 (XT.ii_eq_t c6) (by decide) (by decide) ?_
                refine ow_iconst K X0 (pc' := 103) (1 : Int32) d11_102 rfl (by decide) ?_
                refine ow_goto K X0 (pc' := 107) d11_103 (by decide) (by decide) ?_
                exact ow_retI K X0 .boolean rfl (by decide) (Or.inr (Or.inl rfl)) d11_107 ⟨by rw [if_pos (by rw [c6]; decide)], N0, e0⟩ (by decide) (by decide)
              · refine ow_icmpN K X0 (pc' := 42) d11_39 rfl (XT.ii_eq_f c6) ?_
                refine ow_iloadN K X0 (pc' := 43) x d11_42 rfl rfl ?_
                refine ow_bipush K X0 (pc' := 45) (60 : Int32) d11_43 rfl (by decide) ?_
                by_cases c7 : x = (60 : Int32)
                · refine ow_icmpY K X0 (pc' := 102) d11_45 (XT.ii_eq_t c7) (by decide) (by decide) ?_
                  refine ow_iconst K X0 (pc' := 103) (1 : Int32) d11_102 rfl (by decide) ?_
                  refine ow_goto K X0 (pc' := 107) d11_103 (by decide) (by decide) ?_
                  exact ow_retI K X0 .boolean rfl (by decide) (Or.inr (Or.inl rfl)) d11_107 ⟨by rw [if_pos (by rw [c7]; decide)], N0, e0⟩ (by decide) (by decide)
                · refine ow_icmpN K X0 (pc' := 48) d11_45 rfl (XT.ii_eq_f c7) ?_
                  refine ow_iloadN K X0 (pc' := 49) x d11_48 rfl rfl ?_
                  refine ow_bipush K X0 (pc' := 51) (61 : Int32) d11_49 rfl (by decide) ?_
                  by_cases c8 : x = (61 : Int32)
                  · refine ow_icmpY K X0 (pc' := 102) d11_51 (XT.ii_eq_t c8) (by decide) (by decide) ?_
                    refine ow_iconst K X0 (pc' := 103) (1 : Int32) d11_102 rfl (by decide) ?_
                    refine ow_goto K X0 (pc' := 107) d11_103 (by decide) (by decide) ?_
                    exact ow_retI K X0 .boolean rfl (by decide) (Or.inr (Or.inl rfl)) d11_107 ⟨by rw [if_pos (by rw [c8]; decide)], N0, e0⟩ (by decide) (by decide)
                  · refine ow_icmpN K X0 (pc' := 54) d11_51 rfl (XT.ii_eq_f c8) ?_
                    refine ow_iloadN K X0 (pc' := 55) x d11_54 rfl rfl ?_
                    refine ow_bipush K X0 (pc' := 57) (62 : Int32) d11_55 rfl (by decide) ?_
                    by_cases c9 : x = (62 : Int32)
                    · refine ow_icmpY K X0 (pc' := 102) d11_57 (XT.ii_eq_t c9) (by decide) (by decide) ?_
                      refine ow_iconst K X0 (pc' := 103) (1 : Int32) d11_102 rfl (by decide) ?_
                      refine ow_goto K X0 (pc' := 107) d11_103 (by decide) (by decide) ?_
                      exact ow_retI K X0 .boolean rfl (by decide) (Or.inr (Or.inl rfl)) d11_107 ⟨by rw [if_pos (by rw [c9]; decide)], N0, e0⟩ (by decide) (by decide)
                    · refine ow_icmpN K X0 (pc' := 60) d11_57 rfl (XT.ii_eq_f c9) ?_
                      refine ow_iloadN K X0 (pc' := 61) x d11_60 rfl rfl ?_
                      refine ow_bipush K X0 (pc' := 63) (63 : Int32) d11_61 rfl (by decide) ?_
                      by_cases c10 : x = (63 : Int32)
                      · refine ow_icmpY K X0 (pc' := 102) d11_63 (XT.ii_eq_t c10) (by decide) (by decide) ?_
                        refine ow_iconst K X0 (pc' := 103) (1 : Int32) d11_102 rfl (by decide) ?_
                        refine ow_goto K X0 (pc' := 107) d11_103 (by decide) (by decide) ?_
                        exact ow_retI K X0 .boolean rfl (by decide) (Or.inr (Or.inl rfl)) d11_107 ⟨by rw [if_pos (by rw [c10]; decide)], N0, e0⟩ (by decide) (by decide)
                      · refine ow_icmpN K X0 (pc' := 66) d11_63 rfl (XT.ii_eq_f c10) ?_
                        refine ow_iloadN K X0 (pc' := 67) x d11_66 rfl rfl ?_
                        refine ow_bipush K X0 (pc' := 69) (64 : Int32) d11_67 rfl (by decide) ?_
                        by_cases c11 : x = (64 : Int32)
                        · refine ow_icmpY K X0 (pc' := 102) d11_69 (XT.ii_eq_t c11) (by decide) (by decide) ?_
                          refine ow_iconst K X0 (pc' := 103) (1 : Int32) d11_102 rfl (by decide) ?_
                          refine ow_goto K X0 (pc' := 107) d11_103 (by decide) (by decide) ?_
                          exact ow_retI K X0 .boolean rfl (by decide) (Or.inr (Or.inl rfl)) d11_107 ⟨by rw [if_pos (by rw [c11]; decide)], N0, e0⟩ (by decide) (by decide)
                        · refine ow_icmpN K X0 (pc' := 72) d11_69 rfl (XT.ii_eq_f c11) ?_
                          refine ow_iloadN K X0 (pc' := 73) x d11_72 rfl rfl ?_
                          refine ow_bipush K X0 (pc' := 75) (91 : Int32) d11_73 rfl (by decide) ?_
                          by_cases c12 : x = (91 : Int32)
                          · refine ow_icmpY K X0 (pc' := 102) d11_75 (XT.ii_eq_t c12) (by decide) (by decide) ?_
                            refine ow_iconst K X0 (pc' := 103) (1 : Int32) d11_102 rfl (by decide) ?_
                            refine ow_goto K X0 (pc' := 107) d11_103 (by decide) (by decide) ?_
                            exact ow_retI K X0 .boolean rfl (by decide) (Or.inr (Or.inl rfl)) d11_107 ⟨by rw [if_pos (by rw [c12]; decide)], N0, e0⟩ (by decide) (by decide)
                          · refine ow_icmpN K X0 (pc' := 78) d11_75 rfl (XT.ii_eq_f c12) ?_
                            refine ow_iloadN K X0 (pc' := 79) x d11_78 rfl rfl ?_
                            refine ow_bipush K X0 (pc' := 81) (92 : Int32) d11_79 rfl (by decide) ?_
                            by_cases c13 : x = (92 : Int32)
                            · refine ow_icmpY K X0 (pc' := 102) d11_81 (XT.ii_eq_t c13) (by decide) (by decide) ?_
                              refine ow_iconst K X0 (pc' := 103) (1 : Int32) d11_102 rfl (by decide) ?_
                              refine ow_goto K X0 (pc' := 107) d11_103 (by decide) (by decide) ?_
                              exact ow_retI K X0 .boolean rfl (by decide) (Or.inr (Or.inl rfl)) d11_107 ⟨by rw [if_pos (by rw [c13]; decide)], N0, e0⟩ (by decide) (by decide)
                            · refine ow_icmpN K X0 (pc' := 84) d11_81 rfl (XT.ii_eq_f c13) ?_
                              refine ow_iloadN K X0 (pc' := 85) x d11_84 rfl rfl ?_
                              refine ow_bipush K X0 (pc' := 87) (93 : Int32) d11_85 rfl (by decide) ?_
                              by_cases c14 : x = (93 : Int32)
                              · refine ow_icmpY K X0 (pc' := 102) d11_87 (XT.ii_eq_t c14) (by decide) (by decide) ?_
                                refine ow_iconst K X0 (pc' := 103) (1 : Int32) d11_102 rfl (by decide) ?_
                                refine ow_goto K X0 (pc' := 107) d11_103 (by decide) (by decide) ?_
                                exact ow_retI K X0 .boolean rfl (by decide) (Or.inr (Or.inl rfl)) d11_107 ⟨by rw [if_pos (by rw [c14]; decide)], N0, e0⟩ (by decide) (by decide)
                              · refine ow_icmpN K X0 (pc' := 90) d11_87 rfl (XT.ii_eq_f c14) ?_
                                refine ow_iloadN K X0 (pc' := 91) x d11_90 rfl rfl ?_
                                refine ow_bipush K X0 (pc' := 93) (123 : Int32) d11_91 rfl (by decide) ?_
                                by_cases c15 : x = (123 : Int32)
                                · refine ow_icmpY K X0 (pc' := 102) d11_93 (XT.ii_eq_t c15) (by decide) (by decide) ?_
                                  refine ow_iconst K X0 (pc' := 103) (1 : Int32) d11_102 rfl (by decide) ?_
                                  refine ow_goto K X0 (pc' := 107) d11_103 (by decide) (by decide) ?_
                                  exact ow_retI K X0 .boolean rfl (by decide) (Or.inr (Or.inl rfl)) d11_107 ⟨by rw [if_pos (by rw [c15]; decide)], N0, e0⟩ (by decide) (by decide)
                                · refine ow_icmpN K X0 (pc' := 96) d11_93 rfl (XT.ii_eq_f c15) ?_
                                  refine ow_iloadN K X0 (pc' := 97) x d11_96 rfl rfl ?_
                                  refine ow_bipush K X0 (pc' := 99) (125 : Int32) d11_97 rfl (by decide) ?_
                                  by_cases c16 : x = (125 : Int32)
                                  · refine ow_icmpN K X0 (pc' := 102) d11_99 rfl (XT.ii_ne_f c16) ?_
                                    refine ow_iconst K X0 (pc' := 103) (1 : Int32) d11_102 rfl (by decide) ?_
                                    refine ow_goto K X0 (pc' := 107) d11_103 (by decide) (by decide) ?_
                                    exact ow_retI K X0 .boolean rfl (by decide) (Or.inr (Or.inl rfl)) d11_107 ⟨by rw [if_pos (by rw [c16]; decide)], N0, e0⟩ (by decide) (by decide)
                                  · refine ow_icmpY K X0 (pc' := 106) d11_99 (XT.ii_ne_t c16) (by decide) (by decide) ?_
                                    refine ow_iconst K X0 (pc' := 107) (0 : Int32) d11_106 rfl (by decide) ?_
                                    have hn : ¬ x ∈ own_DL := fun q => by
                                      simp only [own_DL, List.mem_cons, List.not_mem_nil, or_false] at q
                                      rcases q with q | q | q | q | q | q | q | q | q | q | q | q | q | q | q | q | q
                                      · exact c0 q
                                      · exact c1 q
                                      · exact c2 q
                                      · exact c3 q
                                      · exact c4 q
                                      · exact c5 q
                                      · exact c6 q
                                      · exact c7 q
                                      · exact c8 q
                                      · exact c9 q
                                      · exact c10 q
                                      · exact c11 q
                                      · exact c12 q
                                      · exact c13 q
                                      · exact c14 q
                                      · exact c15 q
                                      · exact c16 q
                                    exact ow_retI K X0 .boolean rfl (by decide) (Or.inr (Or.inl rfl)) d11_107 ⟨by rw [if_neg hn], N0, e0⟩ (by decide) (by decide)
theorem d12_0 : decode method_3_code 0 = .ok (.iload_n 0, 1) := by decide +kernel
theorem d12_1 : decode method_3_code 1 = .ok (.bipush 33, 2) := by decide +kernel
theorem d12_3 : decode method_3_code 3 = .ok (.if_icmp .lt 13, 3) := by decide +kernel
theorem d12_6 : decode method_3_code 6 = .ok (.iload_n 0, 1) := by decide +kernel
theorem d12_7 : decode method_3_code 7 = .ok (.bipush 126, 2) := by decide +kernel
theorem d12_9 : decode method_3_code 9 = .ok (.if_icmp .gt 7, 3) := by decide +kernel
theorem d12_12 : decode method_3_code 12 = .ok (.iconst 1, 1) := by decide +kernel
theorem d12_13 : decode method_3_code 13 = .ok (.goto 4, 3) := by decide +kernel
theorem d12_16 : decode method_3_code 16 = .ok (.iconst 0, 1) := by decide +kernel
theorem d12_17 : decode method_3_code 17 = .ok (.istore_n 1, 1) := by decide +kernel
theorem d12_18 : decode method_3_code 18 = .ok (.iload_n 1, 1) := by decide +kernel
theorem d12_19 : decode method_3_code 19 = .ok (.ifCond .eq 14, 3) := by decide +kernel
theorem d12_22 : decode method_3_code 22 = .ok (.iload_n 0, 1) := by decide +kernel
theorem d12_23 : decode method_3_code 23 = .ok (.invokestatic 7, 3) := by decide +kernel
theorem d12_26 : decode method_3_code 26 = .ok (.ifCond .ne 7, 3) := by decide +kernel
theorem d12_29 : decode method_3_code 29 = .ok (.iconst 1, 1) := by decide +kernel
theorem d12_30 : decode method_3_code 30 = .ok (.goto 4, 3) := by decide +kernel
theorem d12_33 : decode method_3_code 33 = .ok (.iconst 0, 1) := by decide +kernel
theorem d12_34 : decode method_3_code 34 = .ok (.ireturn, 1) := by decide +kernel
theorem pn_12 : plainFor (⟨"com/example/federant/federant/http/HeadReaderIsTokenCharPinLaw", "expected", "(I)Z"⟩ : MethodName) = true := by first | exact plainFor_of_name (by first | (simp [plainName, overriddenIn]; done) | decide +kernel) | decide +kernel
theorem pd_12 : parseMethodDescriptor "(I)Z" = some ⟨[.int], some .boolean⟩ := by decide +kernel
theorem ef_12 (m : MethodId) (x : Int32) : entryFrame m #[(.int x)] 2 = mkF m 0 #[.val (.int x), .unset] [] := by first | (simp [entryFrame, mkF, argsToLocals, Value.category]; done) | rfl
def Q12 (Z : State) (x : Int32)  (h0 : Heap) (n0 : Nat) (v : Option Value) (h : Heap) (L : List Loc) : Prop := v = some (.int (own_exv x)) ∧ Fr n0 L ∧ h = h0
set_option maxRecDepth 65536 in
set_option maxHeartbeats 40000000 in
theorem rm12 (l : Launch) (Z : State) (a0 : Array Value) (hw : ∀ d ∈ tables_1, d.before a0 Z = true) (ws : List Jvm.Cond) (x : Int32)  (h0 : Heap) (n0 : Nat) (Z0 : n0 ≤ h0.size)  :
    MetFree l (⟨"com/example/federant/federant/http/HeadReaderIsTokenCharPinLaw", "expected", "(I)Z"⟩ : MethodName) (head1 (Jvm.Cond.code (⟨"com/example/federant/federant/http/HeadReaderIsTokenCharPinLaw", "expected", "(I)Z"⟩ : MethodName) method_3_code 2 (some .boolean) :: ws) ({ frames := 1, cells := 0, slots := 0, locals := 12 } : Room)) (fun as_ U => as_ = #[(.int x)] ∧ Z.Warmed39 U.vm ∧ U.heap = h0) (fun _ _ _ _ _ => True) (fun _ U oc U' => ∃ v L, oc = .returned v ∧ Q12 Z x h0 n0 v U'.heap L ∧ FrameEnd U oc U' L ({ frames := 1, cells := 0, slots := 0, locals := 12 } : Room).cells ({ frames := 1, cells := 0, slots := 0, locals := 12 } : Room).slots) := by
  refine MetFree.of_bodySF pn_12 hisR ?_
  intro p e s m args below meth c s₁ Bd hml0 hP hK
  obtain ⟨rfl, hZ, hh⟩ := hP
  have K : ow_K p e below s m meth c Z "com/example/federant/federant/http/HeadReaderIsTokenCharPinLaw" method_3_code 2 (some .boolean) "expected" (ow_Gl p e below s (Q12 Z x h0 n0) 0 0) := ⟨ow_Gl_bc, Bd.exec, Bd.bytes, hml0, findClass_of_methodNamed Bd.named, hZ, Bd.returns, Bd.notSynchronized, (name_of_methodNamed Bd.named Bd.method).1⟩
  have X0 : Stand p l e ({ frames := 1, cells := 0, slots := 0, locals := 12 } : Room) s m #[(.int x)] below meth c s₁ [] 0 0 := Stand.of_body Bd
  have e0 : s₁.heap = h0 := by rw [← hh, Bd.state]; rfl
  have N0 := Fr.nil n0
  refine ow_entry (Q := (Q12 Z x h0 n0)) (ce := 0) (sl := 0) (ef_12 m x) ?_
  refine ow_iloadN K X0 (pc' := 1) x d12_0 rfl rfl ?_
  refine ow_bipush K X0 (pc' := 3) (33 : Int32) d12_1 rfl (by decide) ?_
  by_cases h1 : x < (33 : Int32)
  · refine ow_icmpY K X0 (pc' := 16) d12_3 (XT.ii_lt_t h1) (by decide) (by decide) ?_
    refine ow_iconst K X0 (pc' := 17) (0 : Int32) d12_16 rfl (by decide) ?_
    refine ow_istoreN K X0 (pc' := 18) (Ls' := #[.val (.int x), .val (.int (0 : Int32))]) d12_17 rfl rfl ?_
    refine ow_iloadN K X0 (pc' := 19) (0 : Int32) d12_18 rfl rfl ?_
    refine ow_ifY K X0 (pc' := 33) d12_19 (XT.i0_eq_t rfl) (by decide) (by decide) ?_
    refine ow_iconst K X0 (pc' := 34) (0 : Int32) d12_33 rfl (by decide) ?_
    exact ow_retI K X0 .boolean rfl (by decide) (Or.inr (Or.inl rfl)) d12_34 ⟨by rw [own_exv, if_neg (fun q => q.1.1 h1)], N0, e0⟩ (by decide) (by decide)
  · refine ow_icmpN K X0 (pc' := 6) d12_3 rfl (XT.ii_lt_f h1) ?_
    refine ow_iloadN K X0 (pc' := 7) x d12_6 rfl rfl ?_
    refine ow_bipush K X0 (pc' := 9) (126 : Int32) d12_7 rfl (by decide) ?_
    by_cases h2 : (126 : Int32) < x
    · refine ow_icmpY K X0 (pc' := 16) d12_9 (XT.ii_gt_t h2) (by decide) (by decide) ?_
      refine ow_iconst K X0 (pc' := 17) (0 : Int32) d12_16 rfl (by decide) ?_
      refine ow_istoreN K X0 (pc' := 18) (Ls' := #[.val (.int x), .val (.int (0 : Int32))]) d12_17 rfl rfl ?_
      refine ow_iloadN K X0 (pc' := 19) (0 : Int32) d12_18 rfl rfl ?_
      refine ow_ifY K X0 (pc' := 33) d12_19 (XT.i0_eq_t rfl) (by decide) (by decide) ?_
      refine ow_iconst K X0 (pc' := 34) (0 : Int32) d12_33 rfl (by decide) ?_
      exact ow_retI K X0 .boolean rfl (by decide) (Or.inr (Or.inl rfl)) d12_34 ⟨by rw [own_exv, if_neg (fun q => q.1.2 h2)], N0, e0⟩ (by decide) (by decide)
    · refine ow_icmpN K X0 (pc' := 12) d12_9 rfl (XT.ii_gt_f h2) ?_
      refine ow_iconst K X0 (pc' := 13) (1 : Int32) d12_12 rfl (by decide) ?_
      refine ow_goto K X0 (pc' := 17) d12_13 (by decide) (by decide) ?_
      refine ow_istoreN K X0 (pc' := 18) (Ls' := #[.val (.int x), .val (.int (1 : Int32))]) d12_17 rfl rfl ?_
      refine ow_iloadN K X0 (pc' := 19) (1 : Int32) d12_18 rfl rfl ?_
      refine ow_ifN K X0 (pc' := 22) d12_19 rfl (XT.i0_eq_f (by decide)) ?_
      refine ow_iloadN K X0 (pc' := 23) x d12_22 rfl rfl ?_
      refine ow_callS K X0 (pc' := 26) e0 (y := (⟨"com/example/federant/federant/http/HeadReaderIsTokenCharPinLaw", "isDelimiter", "(I)Z"⟩ : MethodName)) (rm11 l Z a0 hw [] x h0 n0 Z0) (hw _ (List.mem_of_getElem? (i := 61) rfl)) (hw _ (List.mem_of_getElem? (i := 62) rfl)) (hw _ (List.mem_of_getElem? (i := 59) rfl)) (hw _ (List.mem_of_getElem? (i := 63) rfl)) (by decide) (st := []) 0 (Nat.le_of_eq rfl) (by decide) (by decide) (by decide) (by decide) rfl [.int x] rfl (lenOf pd_11 rfl) rfl d12_23 rfl ?_
      intro v1 T1 L1 X1 hQ1
      obtain ⟨rfl, NNa, exa⟩ := hQ1
      have NXa := Fr.app N0 NNa
      refine ow_at (g := (mkF m 26 #[.val (.int x), .val (.int (1 : Int32))] [.int (if x ∈ own_DL then 1 else 0)])) ?_
      by_cases hd : x ∈ own_DL
      · rw [if_pos hd]
        refine ow_ifY K X1 (pc' := 33) d12_26 (XT.i0_ne_t (by decide)) (by decide) (by decide) ?_
        refine ow_iconst K X1 (pc' := 34) (0 : Int32) d12_33 rfl (by decide) ?_
        exact ow_retI K X1 .boolean rfl (by decide) (Or.inr (Or.inl rfl)) d12_34 ⟨by rw [own_exv, if_neg (fun q => q.2 hd)], NXa, exa⟩ (by decide) (by decide)
      · rw [if_neg hd]
        refine ow_ifN K X1 (pc' := 29) d12_26 rfl (XT.i0_ne_f rfl) ?_
        refine ow_iconst K X1 (pc' := 30) (1 : Int32) d12_29 rfl (by decide) ?_
        refine ow_goto K X1 (pc' := 34) d12_30 (by decide) (by decide) ?_
        exact ow_retI K X1 .boolean rfl (by decide) (Or.inr (Or.inl rfl)) d12_34 ⟨by rw [own_exv, if_pos ⟨⟨h1, h2⟩, hd⟩], NXa, exa⟩ (by decide) (by decide)
theorem d13_0 : decode prog_27_method_8_code 0 = .ok (.iload_n 0, 1) := by decide +kernel
theorem d13_1 : decode prog_27_method_8_code 1 = .ok (.bipush 48, 2) := by decide +kernel
theorem d13_3 : decode prog_27_method_8_code 3 = .ok (.if_icmp .lt 9, 3) := by decide +kernel
theorem d13_6 : decode prog_27_method_8_code 6 = .ok (.iload_n 0, 1) := by decide +kernel
theorem d13_7 : decode prog_27_method_8_code 7 = .ok (.bipush 57, 2) := by decide +kernel
theorem d13_9 : decode prog_27_method_8_code 9 = .ok (.if_icmp .le 36, 3) := by decide +kernel
theorem d13_12 : decode prog_27_method_8_code 12 = .ok (.iload_n 0, 1) := by decide +kernel
theorem d13_13 : decode prog_27_method_8_code 13 = .ok (.bipush 97, 2) := by decide +kernel
theorem d13_15 : decode prog_27_method_8_code 15 = .ok (.if_icmp .lt 9, 3) := by decide +kernel
theorem d13_18 : decode prog_27_method_8_code 18 = .ok (.iload_n 0, 1) := by decide +kernel
theorem d13_19 : decode prog_27_method_8_code 19 = .ok (.bipush 122, 2) := by decide +kernel
theorem d13_21 : decode prog_27_method_8_code 21 = .ok (.if_icmp .le 24, 3) := by decide +kernel
theorem d13_24 : decode prog_27_method_8_code 24 = .ok (.iload_n 0, 1) := by decide +kernel
theorem d13_25 : decode prog_27_method_8_code 25 = .ok (.bipush 65, 2) := by decide +kernel
theorem d13_27 : decode prog_27_method_8_code 27 = .ok (.if_icmp .lt 9, 3) := by decide +kernel
theorem d13_30 : decode prog_27_method_8_code 30 = .ok (.iload_n 0, 1) := by decide +kernel
theorem d13_31 : decode prog_27_method_8_code 31 = .ok (.bipush 90, 2) := by decide +kernel
theorem d13_33 : decode prog_27_method_8_code 33 = .ok (.if_icmp .le 12, 3) := by decide +kernel
theorem d13_36 : decode prog_27_method_8_code 36 = .ok (.ldc 206, 2) := by decide +kernel
theorem d13_38 : decode prog_27_method_8_code 38 = .ok (.iload_n 0, 1) := by decide +kernel
theorem d13_39 : decode prog_27_method_8_code 39 = .ok (.invokevirtual 68, 3) := by decide +kernel
theorem d13_42 : decode prog_27_method_8_code 42 = .ok (.ifCond .lt 7, 3) := by decide +kernel
theorem d13_45 : decode prog_27_method_8_code 45 = .ok (.iconst 1, 1) := by decide +kernel
theorem d13_46 : decode prog_27_method_8_code 46 = .ok (.goto 4, 3) := by decide +kernel
theorem d13_49 : decode prog_27_method_8_code 49 = .ok (.iconst 0, 1) := by decide +kernel
theorem d13_50 : decode prog_27_method_8_code 50 = .ok (.ireturn, 1) := by decide +kernel
theorem pn_13 : plainName "com/example/federant/federant/http/HeadReader" = true := by first | (simp [plainName, overriddenIn]; done) | decide +kernel
theorem pd_13 : parseMethodDescriptor "(I)Z" = some ⟨[.int], some .boolean⟩ := by decide +kernel
theorem ef_13 (m : MethodId) (x : Int32) : entryFrame m #[(.int x)] 1 = mkF m 0 #[.val (.int x)] [] := by first | (simp [entryFrame, mkF, argsToLocals, Value.category]; done) | rfl
def own_EL : List (String × Nat) := [("com/example/federant/federant/http/HeadReader", 206)]
/-- the constant's text, off the sheet's own word -/
def own_tx : String := match tables_1[4]? with | some (Jvm.Cond.stringLink _ _ t) => t | _ => ""
theorem own_text : (∀ c ∈ own_tx.toList, c.toNat < 256) ∧ own_tx.toList.map (fun c => Value.int (Jvm.Lit.byteI c.toNat.toUInt16)) = [.int (33 : Int32), .int (35 : Int32), .int (36 : Int32), .int (37 : Int32), .int (38 : Int32), .int (39 : Int32), .int (42 : Int32), .int (43 : Int32), .int (45 : Int32), .int (46 : Int32), .int (94 : Int32), .int (95 : Int32), .int (96 : Int32), .int (124 : Int32), .int (126 : Int32)] := by decide +kernel
theorem own_link {Z : State} {a0 : Array Value} (hw : ∀ d ∈ tables_1, d.before a0 Z = true) : (Jvm.Cond.stringLink "com/example/federant/federant/http/HeadReader" 206 own_tx).before a0 Z = true := hw _ (List.mem_of_getElem? (i := 4) rfl)
theorem own_EW {Z : State} {a0 : Array Value} (hw : ∀ d ∈ tables_1, d.before a0 Z = true) : EW Z a0 own_EL := EW.cons (own_link hw) own_text.1 EW.nil
theorem own_wS {Z : State} {a0 : Array Value} (hw : ∀ d ∈ tables_1, d.before a0 Z = true) : ∀ a ∈ Bundle.stringAtoms, a.before a0 Z = true := fun a ha => by
  simp only [Bundle.stringAtoms, List.mem_cons, List.not_mem_nil, or_false] at ha
  rcases ha with rfl | rfl | rfl | rfl | rfl | rfl | rfl
  · exact (hw _ (List.mem_of_getElem? (i := 5) rfl))
  · exact (hw _ (List.mem_of_getElem? (i := 6) rfl))
  · exact (hw _ (List.mem_of_getElem? (i := 7) rfl))
  · exact (hw _ (List.mem_of_getElem? (i := 8) rfl))
  · exact (hw _ (List.mem_of_getElem? (i := 9) rfl))
  · exact (hw _ (List.mem_of_getElem? (i := 10) rfl))
  · exact (hw _ (List.mem_of_getElem? (i := 11) rfl))
def Q13 (x : Int32) (n0 : Nat) (v : Option Value) (h : Heap) (L : List Loc) : Prop := v = some (.int (own_tok x)) ∧ Fr n0 L ∧ n0 ≤ h.size
set_option maxRecDepth 65536 in
set_option maxHeartbeats 40000000 in
theorem rm13 (l : Launch) (Z : State) (a0 : Array Value) (hw : ∀ d ∈ tables_1, d.before a0 Z = true) (ws : List Jvm.Cond) (x : Int32) (cs : Int32) (h0 : Heap) (n0 : Nat) (Z0 : n0 ≤ h0.size) (FS : Sta Z h0 "java/lang/String" "COMPACT_STRINGS" "Z" (.int cs)) (hcs : ¬ cs = 0) :
    MetFree l (⟨"com/example/federant/federant/http/HeadReader", "isTokenChar", "(I)Z"⟩ : MethodName) (head1 (Jvm.Cond.code (⟨"com/example/federant/federant/http/HeadReader", "isTokenChar", "(I)Z"⟩ : MethodName) prog_27_method_8_code 1 (some .boolean) :: ws) ({ frames := 4, cells := 2, slots := 64, locals := 70 } : Room)) (fun as_ U => as_ = #[(.int x)] ∧ Z.Warmed39 U.vm ∧ U.heap = h0 ∧ CHv Z own_EL U.vm h0) (fun _ _ _ _ _ => True) (fun _ U o U' => ∃ v L, o = .returned v ∧ Q13 x n0 v U'.heap L ∧ CHr Z own_EL U.vm U.heap U'.vm U'.heap ∧ ReturnedEndW U o U' L ({ frames := 4, cells := 2, slots := 64, locals := 70 } : Room).cells ({ frames := 4, cells := 2, slots := 64, locals := 70 } : Room).slots) := by
  refine MetFree.of_bodySF (plainFor_of_name pn_13) hisR ?_
  intro p e s m args below meth c s₁ Bd hml0 hP hK
  obtain ⟨rfl, hZ, hh, hCH⟩ := hP
  have K : ow_K p e below (s.setVm s.vm) m meth c Z "com/example/federant/federant/http/HeadReader" prog_27_method_8_code 1 (some .boolean) "isTokenChar" (ow_GlW p e below s (Q13 x n0) (fun U' => CHr Z own_EL s.vm s.heap U'.vm U'.heap) 2 64) := ⟨ow_GlW_bc, Bd.exec, Bd.bytes, hml0, findClass_of_methodNamed Bd.named, hZ, Bd.returns, Bd.notSynchronized, (name_of_methodNamed Bd.named Bd.method).1⟩
  have X0 : Stand p l e ({ frames := 4, cells := 2, slots := 64, locals := 70 } : Room) (s.setVm s.vm) m #[(.int x)] below meth c s₁ [] 0 0 := Stand.of_body Bd
  have e0 : s₁.heap = h0 := by rw [← hh, Bd.state]; rfl
  have N0 := Fr.nil n0
  have hS0 : s.Since s.vm 0 := (State.WarmedH.refl s).since 0
  have hEL := own_EW hw
  refine ow_entryW (Q := Q13 x n0) (H := (fun U' => CHr Z own_EL s.vm s.heap U'.vm U'.heap)) (ce := 2) (sl := 64) (ef_13 m x) ?_
  have k45 : ((¬ x < 48 ∧ ¬ 57 < x) ∨ (¬ x < 97 ∧ ¬ 122 < x) ∨ (¬ x < 65 ∧ ¬ 90 < x) ∨ own_tk x) → ow_GlW p e below s (Q13 x n0) (fun U' => CHr Z own_EL s.vm s.heap U'.vm U'.heap) 2 64 (s₁.setTop (mkF m 45 #[.val (.int x)] [])) := by
    intro hc
    refine ow_iconst K X0 (pc' := 46) (1 : Int32) d13_45 rfl (by decide) ?_
    refine ow_goto K X0 (pc' := 50) d13_46 (by decide) (by decide) ?_
    exact ow_retIW K X0 hS0 (Nat.zero_le _) .boolean rfl (by decide) (Or.inr (Or.inl rfl)) d13_50 ⟨by rw [own_tok, if_pos hc], N0, by rw [e0]; exact Z0⟩ (fun fs => by have q := CHv.at X0 hZ hEL hCH; rw [hh]; show CHr Z own_EL s.vm h0 s₁.vm s₁.heap; rw [e0]; exact q) (by decide) (by decide)
  refine ow_cut (P := ¬ (¬ x < 48 ∧ ¬ 57 < x) → ow_GlW p e below s (Q13 x n0) (fun U' => CHr Z own_EL s.vm s.heap U'.vm U'.heap) 2 64 (s₁.setTop (mkF m 12 #[.val (.int x)] []))) (fun jn => ?_) (fun nd => ?_)
  · refine ow_iloadN K X0 (pc' := 1) x d13_0 rfl rfl ?_
    refine ow_bipush K X0 (pc' := 3) (48 : Int32) d13_1 rfl (by decide) ?_
    by_cases h1 : x < (48 : Int32)
    · refine ow_icmpY K X0 (pc' := 12) d13_3 (XT.ii_lt_t h1) (by decide) (by decide) ?_
      exact jn (fun q => q.1 h1)
    · refine ow_icmpN K X0 (pc' := 6) d13_3 rfl (XT.ii_lt_f h1) ?_
      refine ow_iloadN K X0 (pc' := 7) x d13_6 rfl rfl ?_
      refine ow_bipush K X0 (pc' := 9) (57 : Int32) d13_7 rfl (by decide) ?_
      by_cases h2 : (57 : Int32) < x
      · refine ow_icmpN K X0 (pc' := 12) d13_9 rfl (XT.ii_le_f h2) ?_
        exact jn (fun q => q.2 h2)
      · refine ow_icmpY K X0 (pc' := 45) d13_9 (XT.ii_le_t h2) (by decide) (by decide) ?_
        exact k45 (Or.inl ⟨h1, h2⟩)
  refine ow_cut (P := ¬ (¬ x < 97 ∧ ¬ 122 < x) → ow_GlW p e below s (Q13 x n0) (fun U' => CHr Z own_EL s.vm s.heap U'.vm U'.heap) 2 64 (s₁.setTop (mkF m 24 #[.val (.int x)] []))) (fun jn => ?_) (fun nl => ?_)
  · refine ow_iloadN K X0 (pc' := 13) x d13_12 rfl rfl ?_
    refine ow_bipush K X0 (pc' := 15) (97 : Int32) d13_13 rfl (by decide) ?_
    by_cases h1 : x < (97 : Int32)
    · refine ow_icmpY K X0 (pc' := 24) d13_15 (XT.ii_lt_t h1) (by decide) (by decide) ?_
      exact jn (fun q => q.1 h1)
    · refine ow_icmpN K X0 (pc' := 18) d13_15 rfl (XT.ii_lt_f h1) ?_
      refine ow_iloadN K X0 (pc' := 19) x d13_18 rfl rfl ?_
      refine ow_bipush K X0 (pc' := 21) (122 : Int32) d13_19 rfl (by decide) ?_
      by_cases h2 : (122 : Int32) < x
      · refine ow_icmpN K X0 (pc' := 24) d13_21 rfl (XT.ii_le_f h2) ?_
        exact jn (fun q => q.2 h2)
      · refine ow_icmpY K X0 (pc' := 45) d13_21 (XT.ii_le_t h2) (by decide) (by decide) ?_
        exact k45 (Or.inr (Or.inl ⟨h1, h2⟩))
  refine ow_cut (P := ¬ (¬ x < 65 ∧ ¬ 90 < x) → ow_GlW p e below s (Q13 x n0) (fun U' => CHr Z own_EL s.vm s.heap U'.vm U'.heap) 2 64 (s₁.setTop (mkF m 36 #[.val (.int x)] []))) (fun jn => ?_) (fun nu => ?_)
  · refine ow_iloadN K X0 (pc' := 25) x d13_24 rfl rfl ?_
    refine ow_bipush K X0 (pc' := 27) (65 : Int32) d13_25 rfl (by decide) ?_
    by_cases h1 : x < (65 : Int32)
    · refine ow_icmpY K X0 (pc' := 36) d13_27 (XT.ii_lt_t h1) (by decide) (by decide) ?_
      exact jn (fun q => q.1 h1)
    · refine ow_icmpN K X0 (pc' := 30) d13_27 rfl (XT.ii_lt_f h1) ?_
      refine ow_iloadN K X0 (pc' := 31) x d13_30 rfl rfl ?_
      refine ow_bipush K X0 (pc' := 33) (90 : Int32) d13_31 rfl (by decide) ?_
      by_cases h2 : (90 : Int32) < x
      · refine ow_icmpN K X0 (pc' := 36) d13_33 rfl (XT.ii_le_f h2) ?_
        exact jn (fun q => q.2 h2)
      · refine ow_icmpY K X0 (pc' := 45) d13_33 (XT.ii_le_t h2) (by decide) (by decide) ?_
        exact k45 (Or.inr (Or.inr (Or.inl ⟨h1, h2⟩)))
  refine ow_ldcS (text := own_tx) (EL := own_EL) K X0 (pc' := 38) e0 (own_link hw) (own_wS hw) hS0 (Nat.zero_le _) hEL (List.mem_of_getElem? (i := 0) rfl) hCH own_text (z := 15) (by decide) (by decide) 60 (by decide +kernel) (by decide) (by decide) (by decide) d13_36 rfl ?_
  intro a T1 h1 k1 b k X1 e1 E1 S1 hk1 K1 A1 FC1 FV1 V1 C1
  have FS1 := FS.ext E1
  have Z1 : n0 ≤ h1.size := Nat.le_trans Z0 E1.1
  clear K
  have K := K1
  refine ow_iloadN K X1 (pc' := 39) x d13_38 rfl rfl ?_
  refine ow_callV K X1 (pc' := 42) e1 (y := (⟨"java/lang/String", "indexOf", "(I)I"⟩ : MethodName)) (rm10 l Z a0 hw [] a x b k cs h1 n0 Z1 A1 FC1 FV1 V1 FS1 hcs) A1 (hw _ (List.mem_of_getElem? (i := 12) rfl)) (hw _ (List.mem_of_getElem? (i := 13) rfl)) (hw _ (List.mem_of_getElem? (i := 15) rfl)) (hw _ (List.mem_of_getElem? (i := 14) rfl)) (hw _ (List.mem_of_getElem? (i := 5) rfl)) (hw _ (List.mem_of_getElem? (i := 16) rfl)) (by decide) (st := []) 0 (Nat.le_of_eq rfl) (by decide) (by decide) (by decide) (by decide) rfl [.int x] rfl (lenOf pd_10 rfl) rfl d13_39 rfl ?_
  intro v1 T1 L1 X1 hQ1
  obtain ⟨r, rfl, hr, NNd, exd⟩ := hQ1
  have NXd := Fr.app N0 NNd
  refine ow_at (g := (mkF m 42 #[.val (.int x)] [.int r])) ?_
  have hCH2 : ∀ fs, CHr Z own_EL s.vm s.heap (T1.setFrames fs).vm (T1.setFrames fs).heap := fun fs => by
    have q := CHv.at X1 K.2.2.2.2.2.1 hEL C1.1
    rw [hh]; show CHr Z own_EL s.vm h0 T1.vm T1.heap; rw [exd]; exact C1.trans q
  by_cases h3 : r < 0
  · refine ow_ifY K X1 (pc' := 49) d13_42 (XT.i0_lt_t h3) (by decide) (by decide) ?_
    refine ow_iconst K X1 (pc' := 50) (0 : Int32) d13_49 rfl (by decide) ?_
    exact ow_retIW K X1 S1 (by rw [exd]; exact hk1) .boolean rfl (by decide) (Or.inr (Or.inl rfl)) d13_50 ⟨by rw [own_tok, if_neg (fun q => by rcases q with q | q | q | q; exact nd q; exact nl q; exact nu q; exact (hr.mpr q) h3)], NXd, by rw [exd]; exact Z1⟩ hCH2 (by decide) (by decide)
  · refine ow_ifN K X1 (pc' := 45) d13_42 rfl (XT.i0_lt_f h3) ?_
    refine ow_iconst K X1 (pc' := 46) (1 : Int32) d13_45 rfl (by decide) ?_
    refine ow_goto K X1 (pc' := 50) d13_46 (by decide) (by decide) ?_
    exact ow_retIW K X1 S1 (by rw [exd]; exact hk1) .boolean rfl (by decide) (Or.inr (Or.inl rfl)) d13_50 ⟨by rw [own_tok, if_pos (Or.inr (Or.inr (Or.inr (hr.mp h3))))], NXd, by rw [exd]; exact Z1⟩ hCH2 (by decide) (by decide)
def Q0 (n0 : Nat) (v : Option Value) (h : Heap) (L : List Loc) : Prop := v = some (.int 1) ∧ Fr n0 L
theorem pn_0 : plainName "com/example/federant/federant/http/HeadReaderIsTokenCharPinLaw" = true := by first | (simp [plainName, overriddenIn]; done) | decide +kernel
theorem ef_0 (m : MethodId) (q0 q1 : Int32) : entryFrame m #[(.int q0), (.int q1)] maxLocals = mkF m 0 #[.val (.int q0), .val (.int q1), .unset] [] := by first | (simp [entryFrame, mkF, argsToLocals, Value.category, maxLocals]; done) | rfl
set_option maxRecDepth 65536 in
set_option maxHeartbeats 40000000 in
theorem rm0 (l : Launch) (Z : State) (a0 : Array Value) (hw : ∀ d ∈ tables_1, d.before a0 Z = true) (ws : List Jvm.Cond) (q0 q1 cs : Int32) (h0 : Heap) (n0 : Nat) (Z0 : n0 ≤ h0.size) (FS : Sta Z h0 "java/lang/String" "COMPACT_STRINGS" "Z" (.int cs)) (hcs : ¬ cs = 0) :
    MetFree l x (head1 (Jvm.Cond.code x code maxLocals ret :: ws) room_1) (fun as_ U => as_ = #[(.int q0), (.int q1)] ∧ Z.Warmed39 U.vm ∧ U.heap = h0 ∧ CHv Z own_EL U.vm h0) (fun _ _ _ _ _ => True) (fun _ U o U' => ∃ v L, o = .returned v ∧ Q0 n0 v U'.heap L ∧ True ∧ ReturnedEndW U o U' L 2 64) := by
  refine MetFree.of_bodySF (plainFor_of_name pn_0) hisR ?_
  intro p e s m args below meth c s₁ Bd hml0 hP hK
  obtain ⟨rfl, hZ, hh, hCH⟩ := hP
  have K : ow_K p e below (s.setVm s.vm) m meth c Z "com/example/federant/federant/http/HeadReaderIsTokenCharPinLaw" code 3 (some .boolean) "law" (ow_GlW p e below s (Q0 n0) (fun _ => True) 2 64) := ⟨ow_GlW_bc, Bd.exec, Bd.bytes, hml0, findClass_of_methodNamed Bd.named, hZ, Bd.returns, Bd.notSynchronized, (name_of_methodNamed Bd.named Bd.method).1⟩
  have X0 : Stand p l e room_1 (s.setVm s.vm) m #[(.int q0), (.int q1)] below meth c s₁ [] 0 0 := Stand.of_body Bd
  have e0 : s₁.heap = h0 := by rw [← hh, Bd.state]; rfl
  have N0 := Fr.nil n0
  have hS0 : s.Since s.vm 0 := (State.WarmedH.refl s).since 0
  have hEL := own_EW hw
  refine ow_entryW (Q := Q0 n0) (H := fun _ => True) (ce := 2) (sl := 64) (ef_0 m q0 q1) ?_
  have k14 : ∀ x : Int32, ow_GlW p e below s (Q0 n0) (fun _ => True) 2 64 (s₁.setTop (mkF m 14 #[.val (.int q0), .val (.int q1), .unset] [.int x])) := by
    intro x
    refine ow_istoreN K X0 (pc' := 15) (Ls' := #[.val (.int q0), .val (.int q1), .val (.int x)]) at_14 rfl rfl ?_
    refine ow_iloadN K X0 (pc' := 16) x at_15 rfl rfl ?_
    refine ow_callSS K X0 (pc' := 19) e0 (y := (⟨"com/example/federant/federant/http/HeadReader", "isTokenChar", "(I)Z"⟩ : MethodName)) (rm13 l Z a0 hw [] x cs h0 n0 Z0 FS hcs) hEL hCH hS0 (Nat.zero_le _) (hw _ (List.mem_of_getElem? (i := 0) rfl)) (hw _ (List.mem_of_getElem? (i := 1) rfl)) (hw _ (List.mem_of_getElem? (i := 2) rfl)) (hw _ (List.mem_of_getElem? (i := 3) rfl)) (by decide) (st := []) 0 (by decide) (by decide) (by decide) (by decide) (by decide) rfl [.int x] rfl (lenOf pd_13 rfl) rfl at_16 rfl ?_
    intro v1 T1 L1 X1 S1 K1 hQ1
    obtain ⟨rfl, NN1, Z1⟩ := hQ1
    have N1 := Fr.app N0 NN1
    clear K
    have K := K1
    refine ow_at (g := (mkF m 19 #[.val (.int q0), .val (.int q1), .val (.int x)] [.int (own_tok x)])) ?_
    refine ow_iloadN K X1 (pc' := 20) x at_19 rfl rfl ?_
    refine ow_callS K X1 (pc' := 23) (rfl : T1.heap = T1.heap) (y := (⟨"com/example/federant/federant/http/HeadReaderIsTokenCharPinLaw", "expected", "(I)Z"⟩ : MethodName)) (rm12 l Z a0 hw [] x T1.heap n0 Z1) (hw _ (List.mem_of_getElem? (i := 57) rfl)) (hw _ (List.mem_of_getElem? (i := 58) rfl)) (hw _ (List.mem_of_getElem? (i := 59) rfl)) (hw _ (List.mem_of_getElem? (i := 60) rfl)) (by decide) (st := [.int (own_tok x)]) 1 (Nat.le_of_eq rfl) (by decide) (by decide) (by decide) (by decide) rfl [.int x] rfl (lenOf pd_12 rfl) rfl at_20 rfl ?_
    intro v1 T1 L1 X1 hQ1
    obtain ⟨rfl, NNz, exz⟩ := hQ1
    have NXz := Fr.app N1 NNz
    refine ow_at (g := (mkF m 23 #[.val (.int q0), .val (.int q1), .val (.int x)] [.int (own_exv x), .int (own_tok x)])) ?_
    refine ow_icmpN K X1 (pc' := 26) at_23 rfl (XT.ii_ne_f (own_law x)) ?_
    refine ow_iconst K X1 (pc' := 27) (1 : Int32) at_26 rfl (by decide) ?_
    refine ow_goto K X1 (pc' := 31) at_27 (by decide) (by decide) ?_
    exact ow_retIW K X1 S1 (by rw [exz]; exact Nat.le_refl _) .boolean rfl (by decide) (Or.inr (Or.inl rfl)) at_31 ⟨rfl, NXz⟩ (fun _ => trivial) (by decide) (by decide)
  refine ow_iloadN K X0 (pc' := 1) q1 at_0 rfl rfl ?_
  refine ow_iconst K X0 (pc' := 2) (1 : Int32) at_1 rfl (by decide) ?_
  refine ow_iand K X0 (pc' := 3) (q1 &&& (1 : Int32)) at_2 rfl rfl ?_
  by_cases hp : (q1 &&& (1 : Int32)) = 0
  · refine ow_ifY K X0 (pc' := 13) at_3 (XT.i0_eq_t hp) (by decide) (by decide) ?_
    refine ow_iloadN K X0 (pc' := 14) q0 at_13 rfl rfl ?_
    exact k14 _
  · refine ow_ifN K X0 (pc' := 6) at_3 rfl (XT.i0_eq_f hp) ?_
    refine ow_iloadN K X0 (pc' := 7) q0 at_6 rfl rfl ?_
    refine ow_bipush K X0 (pc' := 9) (127 : Int32) at_7 rfl (by decide) ?_
    refine ow_iand K X0 (pc' := 10) (q0 &&& (127 : Int32)) at_9 rfl rfl ?_
    refine ow_goto K X0 (pc' := 14) at_10 (by decide) (by decide) ?_
    exact k14 _
set_option maxRecDepth 65536 in
set_option maxHeartbeats 40000000 in
theorem comes_1 {Post : Tables → Env → Array Value → State → Outcome → State → Prop} (hpost : ∀ tb e args s v u, (limb_1_1.after args s (.returned v) u = true ∧ limb_1_2.after args s (.returned v) u = true ∧ True) → ReturnedEndW s (.returned v) u (Jvm.fieldLocs frame_1_writes args s ++ Jvm.arrayLocs frame_1_arrays args s ++ Jvm.staticLocs frame_1_statics s) 8 1088 → Post tb e args s (.returned v) u) :
    ArmFor flags0 classFile x code maxLocals ret World_1 tables_1 room_1 Calls_1 rest_1 Pre_1 Post := by
  intro l hfl _ _ p e ha hc hk s m args below hf hA hF happ hP
  obtain ⟨hcalls, hrest, hpre⟩ := hP
  obtain ⟨-, -, -, hnamed, -, -, -, hat⟩ := (Spec.applies_iff hf).mp happ
  obtain ⟨hg, hn⟩ := and_e (Cond.before_iff.mp (show (Jvm.Cond.and given_1 narrow_1).before args s = true from hpre))
  obtain ⟨hcount, b0⟩ := and_e hg
  obtain ⟨a1, b1⟩ := and_e b0
  obtain ⟨w0, w1, rfl⟩ : ∃ w0 w1 : Value, args = #[w0, w1] := by
    have hs : args.size = 2 := by simpa [Cond.value, given_1] using hcount
    obtain ⟨L⟩ := args
    match L, hs with
    | [w0, w1], _ => exact ⟨w0, w1, rfl⟩
  have hw := fun d (hd : d ∈ tables_1) => atoms_spec (ws := Jvm.Cond.code x code maxLocals ret :: tables_1) hat d (List.mem_cons_of_mem _ hd)
  obtain ⟨hsets, hown0⟩ := atoms_of _ (rest_1_c_eq ▸ (show rest_1_c.before _ s = true from hrest))
  obtain ⟨i0, f0⟩ := is_v a1
  obtain rfl : w0 = (.int i0) := Option.some.inj f0
  obtain ⟨i1, f1⟩ := is_v b1
  obtain rfl : w1 = (.int i1) := Option.some.inj f1
  have n5 := not_v (Cond.before_iff.mp (hsets _ (List.mem_of_getElem? (i := 2) rfl)))
  obtain ⟨cs, e10⟩ := is_v (Cond.before_iff.mp (hsets _ (List.mem_of_getElem? (i := 1) rfl)))
  have FS : Sta s s.heap "java/lang/String" "COMPACT_STRINGS" "Z" (.int cs) := Sta.start e10 (Or.inl (hsets _ (List.mem_of_getElem? (i := 0) rfl)))
  have hcs : ¬ (cs = (0 : Int32)) := gotF (Cond.eq_ints e10 (Term.int_eval (0))) n5
  have hCH : CHv s own_EL s.vm s.heap := CHv.start (own_EW hw) (fun q hq => hcalls.1 q hq) (hsets _ (List.mem_of_getElem? (i := 2) rfl)) (hw _ (List.mem_of_getElem? (i := 7) rfl)) (hw _ (List.mem_of_getElem? (i := 6) rfl))
  obtain ⟨n, o, h1, h2, h3, _, L, rfl, ⟨rfl, N⟩, -, hq⟩ := rm0 l s _ hw tables_1 i0 i1 cs s.heap s.heap.size (Nat.le_refl _) FS hcs p e ha hc hk s m _ below hf ((Spec.applies_iff_loose hf).mp happ).1 ⟨rfl, State.Warmed39.refl s, rfl, hCH⟩ trivial
  refine ⟨n, _, h1, h2, h3, hpost _ _ _ _ _ _ ⟨Cond.after_iff.mpr rfl, Cond.after_iff.mpr (eq_i res_at (Term.int_eval (1)) rfl), trivial⟩ ⟨hq.1, hq.2.1, hq.2.2.1, (hq.2.2.2.sift fun y hy => Or.inr (N y hy)).mono (by decide) (by decide)⟩⟩
theorem main_1_1 : Claimed_1_1 := comes_1 fun _ _ _ _ _ _ h hF => ⟨h.1, hF⟩
theorem main_1_2 : Claimed_1_2 := comes_1 fun _ _ _ _ _ _ h hF => ⟨h.2.1, hF⟩
end Jvm.Pilot.@@N@@
namespace Jvm.Pilot.@@N@@
open Jvm Jvm.ClassFile Sem Op Lib Jvm.Free Jvm.Stand Jvm.Pilot.@@N@@.Jvm.D
/-! MADE BY PROGRAM (witnessworld.py) out of the Statement's table words and the real class files: 18 classes; the members and pool entries that the words name. The judged class is class 1, her method 3. -/
namespace start1
open Jvm.ClassFile
def u (s : String) : CpInfo := .utf8 (stringToUtf16 s)
/-- a pool by its gaps: so many unusable entries, then the entry; so many at the end -/
def gap : Nat → List CpInfo → List CpInfo
  | 0, r => r
  | n + 1, r => .unusable :: gap n r
def poolList (es : List (Nat × CpInfo)) (last : Nat) : List CpInfo := es.foldr (fun e r => gap e.1 (e.2 :: r)) (gap last [])
def pool (es : List (Nat × CpInfo)) (last : Nat) : Array CpInfo := ⟨poolList es last⟩
def fileOf (pool : Array CpInfo) (this : Nat) (attrs : Array Attribute := #[]) (ms : Array MethodInfo := #[]) (fl : Nat := 33) (sup : Nat := 0) (ifs : Array Nat := #[]) (fds : Array FieldInfo := #[]) : ClassFile where
  minorVersion := 0
  majorVersion := 65
  constantPool := pool
  accessFlags := fl
  thisClass := this
  superClass := sup
  interfaces := ifs
  fields := fds
  methods := ms
  attributes := attrs
def plain (name : String) (sup : Option ClassId) : Class where
  name := name
  kind := .ordinary
  loader := none
  accessFlags := 33
  super := sup
  interfaces := #[]
  cf := none
  fields := #[]
  methods := #[]
  instanceTypes := #[]
  staticTypes := #[]
  resolved := #[]
  callSites := []
  init := .initialized
  statics := none
  mirror := none

def pool0 : Array CpInfo := pool [(5, u "<init>"), (0, u "()V"), (1, .class_ 10), (1, u "java/lang/Object")] 113

def k0m0 : Method := { name := "<init>", desc := "()V", sig := { parameters := [], returnType := none }, accessFlags := 1, code := none }
/-- java/lang/Object -/
def k0 : Class := { plain "java/lang/Object" none with
  accessFlags := 33
  interfaces := #[]
  cf := some (fileOf pool0 8 #[] #[{ accessFlags := 1, nameIndex := 5, descriptorIndex := 6, attributes := #[] }] 33 0 #[] #[])
  fields := #[]
  methods := #[k0m0]
  instanceTypes := #[]
  staticTypes := #[]
  resolved := Array.replicate 124 none
  statics := none }

def pool1 : Array CpInfo := pool [(2, .class_ 4), (1, u "java/lang/Object"), (0, u "<init>"), (0, u "()V"), (0, .methodref 8 9), (0, .class_ 10), (0, .nameAndType 11 12), (0, u "com/example/federant/federant/http/HeadReaderIsTokenCharPinLaw"), (0, u "isDelimiter"), (0, u "(I)Z"), (0, .methodref 14 15), (0, .class_ 16), (0, .nameAndType 17 12), (0, u "com/example/federant/federant/http/HeadReader"), (0, u "isTokenChar"), (0, .methodref 8 19), (0, .nameAndType 20 12), (0, u "expected"), (3, u "law"), (0, u "(II)Z")] 2

def k1m0 : Method := { name := "<init>", desc := "()V", sig := { parameters := [], returnType := none }, accessFlags := 2, code := none }
def k1c1 : Code := { maxStack := 2, maxLocals := 1, code := method_2_code, exceptionTable := #[], attributes := #[] }
def k1m1 : Method := { name := "isDelimiter", desc := "(I)Z", sig := { parameters := [.int], returnType := some .boolean }, accessFlags := 10, code := some k1c1 }
def k1c2 : Code := { maxStack := 2, maxLocals := 2, code := method_3_code, exceptionTable := #[], attributes := #[] }
def k1m2 : Method := { name := "expected", desc := "(I)Z", sig := { parameters := [.int], returnType := some .boolean }, accessFlags := 10, code := some k1c2 }
def k1c3 : Code := { maxStack := 2, maxLocals := 3, code := code, exceptionTable := #[], attributes := #[] }
def k1m3 : Method := { name := "law", desc := "(II)Z", sig := { parameters := [.int, .int], returnType := some .boolean }, accessFlags := 9, code := some k1c3 }
/-- com/example/federant/federant/http/HeadReaderIsTokenCharPinLaw -/
def k1 : Class := { plain "com/example/federant/federant/http/HeadReaderIsTokenCharPinLaw" (some 0) with
  accessFlags := 49
  interfaces := #[]
  cf := some (fileOf pool1 8 #[] #[{ accessFlags := 2, nameIndex := 5, descriptorIndex := 6, attributes := #[] }, { accessFlags := 10, nameIndex := 11, descriptorIndex := 12, attributes := #[] }, { accessFlags := 10, nameIndex := 20, descriptorIndex := 12, attributes := #[] }, { accessFlags := 9, nameIndex := 24, descriptorIndex := 25, attributes := #[] }] 49 2 #[] #[])
  fields := #[]
  methods := #[k1m0, k1m1, k1m2, k1m3]
  instanceTypes := #[]
  staticTypes := #[]
  resolved := Array.replicate 28 none
  statics := none }

def pool2 : Array CpInfo := pool [(2, .class_ 4), (1, u "java/lang/Object"), (3, .class_ 10), (1, u "com/example/federant/federant/http/HeadReader"), (0, u "in"), (0, u "Ljava/io/InputStream;"), (2, u "kind"), (0, u "Ljava/lang/String;"), (2, u "maxBytes"), (0, u "I"), (2, u "bytes"), (12, u "(I)I"), (26, .class_ 65), (1, u "java/lang/String"), (2, .methodref 63 69), (0, .nameAndType 70 36), (0, u "indexOf"), (135, .string 207), (0, u "!#$%&'*+-.^_`|~"), (14, u "TOKEN_SYMBOLS"), (16, u "isTokenChar"), (0, u "(I)Z")] 56

def k2c0 : Code := { maxStack := 2, maxLocals := 1, code := prog_27_method_8_code, exceptionTable := #[], attributes := #[] }
def k2m0 : Method := { name := "isTokenChar", desc := "(I)Z", sig := { parameters := [.int], returnType := some .boolean }, accessFlags := 8, code := some k2c0 }
/-- com/example/federant/federant/http/HeadReader -/
def k2 : Class := { plain "com/example/federant/federant/http/HeadReader" (some 0) with
  accessFlags := 48
  interfaces := #[]
  cf := some (fileOf pool2 8 #[] #[{ accessFlags := 8, nameIndex := 239, descriptorIndex := 240, attributes := #[] }] 48 2 #[] #[{ accessFlags := 26, nameIndex := 222, descriptorIndex := 16, attributes := #[] }, { accessFlags := 18, nameIndex := 11, descriptorIndex := 12, attributes := #[] }, { accessFlags := 18, nameIndex := 15, descriptorIndex := 16, attributes := #[] }, { accessFlags := 18, nameIndex := 19, descriptorIndex := 20, attributes := #[] }, { accessFlags := 2, nameIndex := 23, descriptorIndex := 20, attributes := #[] }])
  fields := #[{ name := "TOKEN_SYMBOLS", type := (.object "java/lang/String"), accessFlags := 26, slot := 0, constantValue := 0 }, { name := "in", type := (.object "java/io/InputStream"), accessFlags := 18, slot := 0, constantValue := 0 }, { name := "kind", type := (.object "java/lang/String"), accessFlags := 18, slot := 1, constantValue := 0 }, { name := "maxBytes", type := .int, accessFlags := 18, slot := 2, constantValue := 0 }, { name := "bytes", type := .int, accessFlags := 2, slot := 3, constantValue := 0 }]
  methods := #[k2m0]
  instanceTypes := #[(.object "java/io/InputStream"), (.object "java/lang/String"), .int, .int]
  staticTypes := #[(.object "java/lang/String")]
  resolved := Array.replicate 297 none
  statics := none }

def pool3 : Array CpInfo := pool [(1, .class_ 2), (0, u "java/io/Serializable"), (0, .class_ 4), (0, u "java/lang/Object")] 2

/-- java/io/Serializable -/
def k3 : Class := { plain "java/io/Serializable" (some 0) with
  accessFlags := 1537
  interfaces := #[]
  cf := some (fileOf pool3 1 #[] #[] 1537 3 #[] #[])
  fields := #[]
  methods := #[]
  instanceTypes := #[]
  staticTypes := #[]
  resolved := Array.replicate 7 none
  statics := none }

def pool4 : Array CpInfo := pool [(1, .class_ 2), (0, u "java/lang/Comparable"), (0, .class_ 4), (0, u "java/lang/Object")] 7

/-- java/lang/Comparable -/
def k4 : Class := { plain "java/lang/Comparable" (some 0) with
  accessFlags := 1537
  interfaces := #[]
  cf := some (fileOf pool4 1 #[] #[] 1537 3 #[] #[])
  fields := #[]
  methods := #[]
  instanceTypes := #[]
  staticTypes := #[]
  resolved := Array.replicate 12 none
  statics := none }

def pool5 : Array CpInfo := pool [(2, .class_ 4), (1, u "java/lang/CharSequence"), (42, .class_ 48), (0, u "java/lang/CharSequence$1CodePointIterator"), (10, .class_ 60), (0, u "java/lang/CharSequence$1CharIterator"), (5, .class_ 67), (0, u "java/lang/Object")] 63

/-- java/lang/CharSequence -/
def k5 : Class := { plain "java/lang/CharSequence" (some 0) with
  accessFlags := 1537
  interfaces := #[]
  cf := some (fileOf pool5 2 #[.nestMembers #[47, 59]] #[] 1537 66 #[] #[])
  fields := #[]
  methods := #[]
  instanceTypes := #[]
  staticTypes := #[]
  resolved := Array.replicate 131 none
  statics := none }

def pool6 : Array CpInfo := pool [(1, .class_ 2), (0, u "java/lang/constant/Constable"), (0, .class_ 4), (0, u "java/lang/Object")] 6

/-- java/lang/constant/Constable -/
def k6 : Class := { plain "java/lang/constant/Constable" (some 0) with
  accessFlags := 1537
  interfaces := #[]
  cf := some (fileOf pool6 1 #[] #[] 1537 3 #[] #[])
  fields := #[]
  methods := #[]
  instanceTypes := #[]
  staticTypes := #[]
  resolved := Array.replicate 11 none
  statics := none }

def pool7 : Array CpInfo := pool [(1, .class_ 2), (0, u "java/lang/constant/ConstantDesc"), (0, .class_ 4), (0, u "java/lang/Object")] 32

/-- java/lang/constant/ConstantDesc -/
def k7 : Class := { plain "java/lang/constant/ConstantDesc" (some 0) with
  accessFlags := 1537
  interfaces := #[]
  cf := some (fileOf pool7 1 #[] #[] 1537 3 #[] #[])
  fields := #[]
  methods := #[]
  instanceTypes := #[]
  staticTypes := #[]
  resolved := Array.replicate 37 none
  statics := none }

def pool8 : Array CpInfo := pool [(2, .class_ 4), (1, u "java/lang/Object"), (0, u "<init>"), (0, u "()V"), (2, .fieldref 10 11), (0, .class_ 12), (0, .nameAndType 13 14), (0, u "java/lang/String"), (0, u "value"), (0, u "[B"), (0, .fieldref 10 16), (0, .nameAndType 17 18), (0, u "coder"), (0, u "B"), (2, u "hash"), (0, u "I"), (2, u "hashIsZero"), (0, u "Z"), (11, .fieldref 10 39), (0, .nameAndType 40 26), (0, u "COMPACT_STRINGS"), (66, .class_ 109), (1, u "java/lang/StringLatin1"), (32, u "()Z"), (191, u "()I"), (0, .methodref 10 336), (0, .nameAndType 17 337), (0, u "()B"), (154, .methodref 10 493), (0, .nameAndType 494 142), (0, u "isLatin1"), (10, .methodref 10 506), (0, .nameAndType 507 334), (0, u "length"), (67, .class_ 576), (0, u "java/lang/CharSequence"), (22, u "CASE_INSENSITIVE_ORDER"), (0, u "Ljava/util/Comparator;"), (32, .methodref 10 634), (0, .nameAndType 635 636), (0, u "indexOf"), (0, u "(II)I"), (0, .methodref 107 638), (0, .nameAndType 635 639), (0, u "([BIII)I"), (125, u "(I)I"), (335, u "serialPersistentFields"), (0, u "[Ljava/io/ObjectStreamField;"), (0, .class_ 1104), (0, u "java/lang/String$CaseInsensitiveComparator"), (1, .class_ 1107), (0, u "java/io/Serializable"), (0, .class_ 1109), (0, u "java/lang/Comparable"), (0, .class_ 1111), (0, u "java/lang/constant/Constable"), (0, .class_ 1113), (0, u "java/lang/constant/ConstantDesc"), (2, u "serialVersionUID"), (0, u "J"), (3, u "REPL"), (0, u "C"), (2, u "LATIN1"), (1, u "UTF16")] 323

def k8m0 : Method := { name := "<init>", desc := "()V", sig := { parameters := [], returnType := none }, accessFlags := 1, code := none }
def k8c1 : Code := { maxStack := 2, maxLocals := 1, code := jdk_42_method_54_code, exceptionTable := #[], attributes := #[] }
def k8m1 : Method := { name := "length", desc := "()I", sig := { parameters := [], returnType := some .int }, accessFlags := 1, code := some k8c1 }
def k8c2 : Code := { maxStack := 3, maxLocals := 2, code := jdk_42_method_79_code, exceptionTable := #[], attributes := #[] }
def k8m2 : Method := { name := "indexOf", desc := "(I)I", sig := { parameters := [.int], returnType := some .int }, accessFlags := 1, code := some k8c2 }
def k8c3 : Code := { maxStack := 4, maxLocals := 3, code := jdk_42_method_80_code, exceptionTable := #[], attributes := #[] }
def k8m3 : Method := { name := "indexOf", desc := "(II)I", sig := { parameters := [.int, .int], returnType := some .int }, accessFlags := 1, code := some k8c3 }
def k8c4 : Code := { maxStack := 1, maxLocals := 1, code := jdk_42_method_152_code, exceptionTable := #[], attributes := #[] }
def k8m4 : Method := { name := "coder", desc := "()B", sig := { parameters := [], returnType := some .byte }, accessFlags := 0, code := some k8c4 }
def k8c5 : Code := { maxStack := 1, maxLocals := 1, code := jdk_42_method_154_code, exceptionTable := #[], attributes := #[] }
def k8m5 : Method := { name := "isLatin1", desc := "()Z", sig := { parameters := [], returnType := some .boolean }, accessFlags := 0, code := some k8c5 }
/-- java/lang/String -/
def k8 : Class := { plain "java/lang/String" (some 0) with
  accessFlags := 49
  interfaces := #[3, 4, 5, 6, 7]
  cf := some (fileOf pool8 10 #[.nestMembers #[1103]] #[{ accessFlags := 1, nameIndex := 5, descriptorIndex := 6, attributes := #[] }, { accessFlags := 1, nameIndex := 507, descriptorIndex := 334, attributes := #[] }, { accessFlags := 1, nameIndex := 635, descriptorIndex := 765, attributes := #[] }, { accessFlags := 1, nameIndex := 635, descriptorIndex := 636, attributes := #[] }, { accessFlags := 0, nameIndex := 17, descriptorIndex := 337, attributes := #[] }, { accessFlags := 0, nameIndex := 494, descriptorIndex := 142, attributes := #[] }] 49 2 #[1106, 1108, 575, 1110, 1112] #[{ accessFlags := 18, nameIndex := 13, descriptorIndex := 14, attributes := #[] }, { accessFlags := 18, nameIndex := 17, descriptorIndex := 18, attributes := #[] }, { accessFlags := 2, nameIndex := 21, descriptorIndex := 22, attributes := #[] }, { accessFlags := 2, nameIndex := 25, descriptorIndex := 26, attributes := #[] }, { accessFlags := 26, nameIndex := 1116, descriptorIndex := 1117, attributes := #[] }, { accessFlags := 24, nameIndex := 40, descriptorIndex := 26, attributes := #[] }, { accessFlags := 26, nameIndex := 1101, descriptorIndex := 1102, attributes := #[] }, { accessFlags := 26, nameIndex := 1121, descriptorIndex := 1122, attributes := #[] }, { accessFlags := 25, nameIndex := 599, descriptorIndex := 600, attributes := #[] }, { accessFlags := 24, nameIndex := 1125, descriptorIndex := 18, attributes := #[] }, { accessFlags := 24, nameIndex := 1127, descriptorIndex := 18, attributes := #[] }])
  fields := #[{ name := "value", type := (.array .byte), accessFlags := 18, slot := 0, constantValue := 0 }, { name := "coder", type := .byte, accessFlags := 18, slot := 1, constantValue := 0 }, { name := "hash", type := .int, accessFlags := 2, slot := 2, constantValue := 0 }, { name := "hashIsZero", type := .boolean, accessFlags := 2, slot := 3, constantValue := 0 }, { name := "serialVersionUID", type := .long, accessFlags := 26, slot := 0, constantValue := 0 }, { name := "COMPACT_STRINGS", type := .boolean, accessFlags := 24, slot := 1, constantValue := 0 }, { name := "serialPersistentFields", type := (.array (.object "java/io/ObjectStreamField")), accessFlags := 26, slot := 2, constantValue := 0 }, { name := "REPL", type := .char, accessFlags := 26, slot := 3, constantValue := 0 }, { name := "CASE_INSENSITIVE_ORDER", type := (.object "java/util/Comparator"), accessFlags := 25, slot := 4, constantValue := 0 }, { name := "LATIN1", type := .byte, accessFlags := 24, slot := 5, constantValue := 0 }, { name := "UTF16", type := .byte, accessFlags := 24, slot := 6, constantValue := 0 }]
  methods := #[k8m0, k8m1, k8m2, k8m3, k8m4, k8m5]
  instanceTypes := #[(.array .byte), .byte, .int, .boolean]
  staticTypes := #[.long, .boolean, (.array (.object "java/io/ObjectStreamField")), .char, (.object "java/util/Comparator"), .byte, .byte]
  resolved := Array.replicate 1451 none
  statics := some 0 }

def pool9 : Array CpInfo := pool [(4, .class_ 6), (1, u "java/lang/Object"), (0, u "<init>"), (0, u "()V"), (5, .class_ 16), (1, u "java/lang/StringLatin1"), (21, .methodref 39 40), (0, .class_ 41), (0, .nameAndType 42 43), (0, u "java/lang/Math"), (0, u "min"), (0, u "(II)I"), (44, .methodref 14 89), (0, .nameAndType 90 91), (0, u "canEncode"), (0, u "(I)Z"), (0, .methodref 39 93), (0, .nameAndType 94 43), (0, u "max"), (0, .methodref 14 96), (0, .nameAndType 97 98), (0, u "indexOfChar"), (0, u "([BIII)I"), (2, u "indexOf"), (19, u "$assertionsDisabled"), (0, u "Z"), (98, .class_ 223), (1, u "java/lang/StringLatin1$LinesSpliterator"), (166, .class_ 391), (0, u "java/lang/StringLatin1$CharsSpliterator")] 3

def k9m0 : Method := { name := "<init>", desc := "()V", sig := { parameters := [], returnType := none }, accessFlags := 0, code := none }
def k9c1 : Code := { maxStack := 2, maxLocals := 1, code := jdk_43_method_4_code, exceptionTable := #[], attributes := #[] }
def k9m1 : Method := { name := "canEncode", desc := "(I)Z", sig := { parameters := [.int], returnType := some .boolean }, accessFlags := 9, code := some k9c1 }
def k9c2 : Code := { maxStack := 4, maxLocals := 4, code := jdk_43_method_22_code, exceptionTable := #[], attributes := #[] }
def k9m2 : Method := { name := "indexOf", desc := "([BIII)I", sig := { parameters := [(.array .byte), .int, .int, .int], returnType := some .int }, accessFlags := 9, code := some k9c2 }
def k9c3 : Code := { maxStack := 2, maxLocals := 6, code := jdk_43_method_23_code, exceptionTable := #[], attributes := #[] }
def k9m3 : Method := { name := "indexOfChar", desc := "([BIII)I", sig := { parameters := [(.array .byte), .int, .int, .int], returnType := some .int }, accessFlags := 10, code := some k9c3 }
/-- java/lang/StringLatin1 -/
def k9 : Class := { plain "java/lang/StringLatin1" (some 0) with
  accessFlags := 48
  interfaces := #[]
  cf := some (fileOf pool9 14 #[.nestMembers #[390, 221]] #[{ accessFlags := 0, nameIndex := 7, descriptorIndex := 8, attributes := #[] }, { accessFlags := 9, nameIndex := 90, descriptorIndex := 91, attributes := #[] }, { accessFlags := 9, nameIndex := 101, descriptorIndex := 98, attributes := #[] }, { accessFlags := 10, nameIndex := 97, descriptorIndex := 98, attributes := #[] }] 48 4 #[] #[{ accessFlags := 4120, nameIndex := 121, descriptorIndex := 122, attributes := #[] }])
  fields := #[{ name := "$assertionsDisabled", type := .boolean, accessFlags := 4120, slot := 0, constantValue := 0 }]
  methods := #[k9m0, k9m1, k9m2, k9m3]
  instanceTypes := #[]
  staticTypes := #[.boolean]
  resolved := Array.replicate 395 none
  statics := none }

def pool10 : Array CpInfo := pool [(1, .class_ 2), (0, u "java/lang/Math"), (1, .class_ 6), (1, u "java/lang/Object"), (0, u "<init>"), (0, u "()V"), (89, .class_ 100), (1, u "java/lang/Math$RandomNumberGeneratorHolder"), (71, u "negativeZeroFloatBits"), (0, u "J"), (2, u "negativeZeroDoubleBits"), (21, u "max"), (2, u "min"), (43, u "$assertionsDisabled"), (0, u "Z"), (88, u "(II)I"), (2, u "twoToTheDoubleScaleDown"), (0, u "D"), (4, u "twoToTheDoubleScaleUp"), (9, u "E"), (3, u "PI"), (2, u "TAU"), (2, u "DEGREES_TO_RADIANS"), (0, u "RADIANS_TO_DEGREES")] 94

def k10m0 : Method := { name := "<init>", desc := "()V", sig := { parameters := [], returnType := none }, accessFlags := 2, code := none }
def k10c1 : Code := { maxStack := 2, maxLocals := 2, code := jdk_29_method_65_code, exceptionTable := #[], attributes := #[] }
def k10m1 : Method := { name := "max", desc := "(II)I", sig := { parameters := [.int, .int], returnType := some .int }, accessFlags := 9, code := some k10c1 }
def k10c2 : Code := { maxStack := 2, maxLocals := 2, code := jdk_29_method_69_code, exceptionTable := #[], attributes := #[] }
def k10m2 : Method := { name := "min", desc := "(II)I", sig := { parameters := [.int, .int], returnType := some .int }, accessFlags := 9, code := some k10c2 }
/-- java/lang/Math -/
def k10 : Class := { plain "java/lang/Math" (some 0) with
  accessFlags := 49
  interfaces := #[]
  cf := some (fileOf pool10 1 #[.nestMembers #[98]] #[{ accessFlags := 2, nameIndex := 7, descriptorIndex := 8, attributes := #[] }, { accessFlags := 9, nameIndex := 198, descriptorIndex := 335, attributes := #[] }, { accessFlags := 9, nameIndex := 201, descriptorIndex := 335, attributes := #[] }] 49 4 #[] #[{ accessFlags := 25, nameIndex := 354, descriptorIndex := 339, attributes := #[] }, { accessFlags := 25, nameIndex := 358, descriptorIndex := 339, attributes := #[] }, { accessFlags := 25, nameIndex := 361, descriptorIndex := 339, attributes := #[] }, { accessFlags := 26, nameIndex := 364, descriptorIndex := 339, attributes := #[] }, { accessFlags := 26, nameIndex := 365, descriptorIndex := 339, attributes := #[] }, { accessFlags := 26, nameIndex := 172, descriptorIndex := 173, attributes := #[] }, { accessFlags := 26, nameIndex := 176, descriptorIndex := 173, attributes := #[] }, { accessFlags := 8, nameIndex := 344, descriptorIndex := 339, attributes := #[] }, { accessFlags := 8, nameIndex := 338, descriptorIndex := 339, attributes := #[] }, { accessFlags := 4120, nameIndex := 245, descriptorIndex := 246, attributes := #[] }])
  fields := #[{ name := "E", type := .double, accessFlags := 25, slot := 0, constantValue := 0 }, { name := "PI", type := .double, accessFlags := 25, slot := 1, constantValue := 0 }, { name := "TAU", type := .double, accessFlags := 25, slot := 2, constantValue := 0 }, { name := "DEGREES_TO_RADIANS", type := .double, accessFlags := 26, slot := 3, constantValue := 0 }, { name := "RADIANS_TO_DEGREES", type := .double, accessFlags := 26, slot := 4, constantValue := 0 }, { name := "negativeZeroFloatBits", type := .long, accessFlags := 26, slot := 5, constantValue := 0 }, { name := "negativeZeroDoubleBits", type := .long, accessFlags := 26, slot := 6, constantValue := 0 }, { name := "twoToTheDoubleScaleUp", type := .double, accessFlags := 8, slot := 7, constantValue := 0 }, { name := "twoToTheDoubleScaleDown", type := .double, accessFlags := 8, slot := 8, constantValue := 0 }, { name := "$assertionsDisabled", type := .boolean, accessFlags := 4120, slot := 9, constantValue := 0 }]
  methods := #[k10m0, k10m1, k10m2]
  instanceTypes := #[]
  staticTypes := #[.double, .double, .double, .double, .double, .long, .long, .double, .double, .boolean]
  resolved := Array.replicate 460 none
  statics := none }

def pool11 : Array CpInfo := pool [(2, .class_ 4), (1, u "java/lang/Object"), (0, u "<init>"), (0, u "()V"), (17, .class_ 26), (1, u "jdk/internal/util/Preconditions"), (28, .class_ 56), (0, u "jdk/internal/util/Preconditions$4"), (57, .class_ 115), (0, u "jdk/internal/util/Preconditions$1"), (7, u "SIOOBE_FORMATTER"), (0, u "Ljava/util/function/BiFunction;"), (0, .class_ 126), (0, u "jdk/internal/util/Preconditions$2"), (3, u "AIOOBE_FORMATTER"), (0, .class_ 132), (0, u "jdk/internal/util/Preconditions$3"), (3, u "IOOBE_FORMATTER")] 57

def k11m0 : Method := { name := "<init>", desc := "()V", sig := { parameters := [], returnType := none }, accessFlags := 1, code := none }
/-- jdk/internal/util/Preconditions -/
def k11 : Class := { plain "jdk/internal/util/Preconditions" (some 0) with
  accessFlags := 33
  interfaces := #[]
  cf := some (fileOf pool11 24 #[.nestMembers #[55, 131, 125, 114]] #[{ accessFlags := 1, nameIndex := 5, descriptorIndex := 6, attributes := #[] }] 33 2 #[] #[{ accessFlags := 25, nameIndex := 123, descriptorIndex := 124, attributes := #[] }, { accessFlags := 25, nameIndex := 130, descriptorIndex := 124, attributes := #[] }, { accessFlags := 25, nameIndex := 136, descriptorIndex := 124, attributes := #[] }])
  fields := #[{ name := "SIOOBE_FORMATTER", type := (.object "java/util/function/BiFunction"), accessFlags := 25, slot := 0, constantValue := 0 }, { name := "AIOOBE_FORMATTER", type := (.object "java/util/function/BiFunction"), accessFlags := 25, slot := 1, constantValue := 0 }, { name := "IOOBE_FORMATTER", type := (.object "java/util/function/BiFunction"), accessFlags := 25, slot := 2, constantValue := 0 }]
  methods := #[k11m0]
  instanceTypes := #[]
  staticTypes := #[(.object "java/util/function/BiFunction"), (.object "java/util/function/BiFunction"), (.object "java/util/function/BiFunction")]
  resolved := Array.replicate 194 none
  statics := some 1 }

def pool12 : Array CpInfo := pool [(9, u "<init>"), (6, .class_ 18), (1, u "java/lang/Object"), (0, u "()V"), (1, .class_ 23), (1, u "jdk/internal/util/ArraysSupport"), (0, u "LOG2_ARRAY_LONG_INDEX_SCALE"), (0, u "I"), (2, u "U"), (0, u "Ljdk/internal/misc/Unsafe;"), (8, u "BIG_ENDIAN"), (0, u "Z"), (8, u "LOG2_BYTE_BIT_SIZE"), (4, u "LOG2_ARRAY_INT_INDEX_SCALE"), (54, u "JLA"), (0, u "Ljdk/internal/access/JavaLangAccess;"), (11, u "LOG2_ARRAY_BOOLEAN_INDEX_SCALE"), (9, u "LOG2_ARRAY_BYTE_INDEX_SCALE"), (5, u "LOG2_ARRAY_CHAR_INDEX_SCALE"), (5, u "LOG2_ARRAY_SHORT_INDEX_SCALE"), (18, u "LOG2_ARRAY_FLOAT_INDEX_SCALE"), (24, u "LOG2_ARRAY_DOUBLE_INDEX_SCALE"), (89, u "T_BOOLEAN"), (2, u "T_CHAR"), (1, u "T_FLOAT"), (1, u "T_DOUBLE"), (1, u "T_BYTE"), (1, u "T_SHORT"), (1, u "T_INT"), (1, u "T_LONG"), (1, u "SOFT_MAX_ARRAY_LENGTH")] 83

def k12m0 : Method := { name := "<init>", desc := "()V", sig := { parameters := [], returnType := none }, accessFlags := 2, code := none }
/-- jdk/internal/util/ArraysSupport -/
def k12 : Class := { plain "jdk/internal/util/ArraysSupport" (some 0) with
  accessFlags := 33
  interfaces := #[]
  cf := some (fileOf pool12 21 #[] #[{ accessFlags := 2, nameIndex := 9, descriptorIndex := 19, attributes := #[] }] 33 16 #[] #[{ accessFlags := 24, nameIndex := 28, descriptorIndex := 29, attributes := #[] }, { accessFlags := 26, nameIndex := 38, descriptorIndex := 39, attributes := #[] }, { accessFlags := 25, nameIndex := 121, descriptorIndex := 25, attributes := #[] }, { accessFlags := 25, nameIndex := 131, descriptorIndex := 25, attributes := #[] }, { accessFlags := 25, nameIndex := 137, descriptorIndex := 25, attributes := #[] }, { accessFlags := 25, nameIndex := 143, descriptorIndex := 25, attributes := #[] }, { accessFlags := 25, nameIndex := 53, descriptorIndex := 25, attributes := #[] }, { accessFlags := 25, nameIndex := 24, descriptorIndex := 25, attributes := #[] }, { accessFlags := 25, nameIndex := 162, descriptorIndex := 25, attributes := #[] }, { accessFlags := 25, nameIndex := 187, descriptorIndex := 25, attributes := #[] }, { accessFlags := 26, nameIndex := 48, descriptorIndex := 25, attributes := #[] }, { accessFlags := 25, nameIndex := 277, descriptorIndex := 25, attributes := #[] }, { accessFlags := 25, nameIndex := 280, descriptorIndex := 25, attributes := #[] }, { accessFlags := 25, nameIndex := 282, descriptorIndex := 25, attributes := #[] }, { accessFlags := 25, nameIndex := 284, descriptorIndex := 25, attributes := #[] }, { accessFlags := 25, nameIndex := 286, descriptorIndex := 25, attributes := #[] }, { accessFlags := 25, nameIndex := 288, descriptorIndex := 25, attributes := #[] }, { accessFlags := 25, nameIndex := 290, descriptorIndex := 25, attributes := #[] }, { accessFlags := 25, nameIndex := 292, descriptorIndex := 25, attributes := #[] }, { accessFlags := 26, nameIndex := 108, descriptorIndex := 109, attributes := #[] }, { accessFlags := 25, nameIndex := 294, descriptorIndex := 25, attributes := #[] }])
  fields := #[{ name := "U", type := (.object "jdk/internal/misc/Unsafe"), accessFlags := 24, slot := 0, constantValue := 0 }, { name := "BIG_ENDIAN", type := .boolean, accessFlags := 26, slot := 1, constantValue := 0 }, { name := "LOG2_ARRAY_BOOLEAN_INDEX_SCALE", type := .int, accessFlags := 25, slot := 2, constantValue := 0 }, { name := "LOG2_ARRAY_BYTE_INDEX_SCALE", type := .int, accessFlags := 25, slot := 3, constantValue := 0 }, { name := "LOG2_ARRAY_CHAR_INDEX_SCALE", type := .int, accessFlags := 25, slot := 4, constantValue := 0 }, { name := "LOG2_ARRAY_SHORT_INDEX_SCALE", type := .int, accessFlags := 25, slot := 5, constantValue := 0 }, { name := "LOG2_ARRAY_INT_INDEX_SCALE", type := .int, accessFlags := 25, slot := 6, constantValue := 0 }, { name := "LOG2_ARRAY_LONG_INDEX_SCALE", type := .int, accessFlags := 25, slot := 7, constantValue := 0 }, { name := "LOG2_ARRAY_FLOAT_INDEX_SCALE", type := .int, accessFlags := 25, slot := 8, constantValue := 0 }, { name := "LOG2_ARRAY_DOUBLE_INDEX_SCALE", type := .int, accessFlags := 25, slot := 9, constantValue := 0 }, { name := "LOG2_BYTE_BIT_SIZE", type := .int, accessFlags := 26, slot := 10, constantValue := 0 }, { name := "T_BOOLEAN", type := .int, accessFlags := 25, slot := 11, constantValue := 0 }, { name := "T_CHAR", type := .int, accessFlags := 25, slot := 12, constantValue := 0 }, { name := "T_FLOAT", type := .int, accessFlags := 25, slot := 13, constantValue := 0 }, { name := "T_DOUBLE", type := .int, accessFlags := 25, slot := 14, constantValue := 0 }, { name := "T_BYTE", type := .int, accessFlags := 25, slot := 15, constantValue := 0 }, { name := "T_SHORT", type := .int, accessFlags := 25, slot := 16, constantValue := 0 }, { name := "T_INT", type := .int, accessFlags := 25, slot := 17, constantValue := 0 }, { name := "T_LONG", type := .int, accessFlags := 25, slot := 18, constantValue := 0 }, { name := "JLA", type := (.object "jdk/internal/access/JavaLangAccess"), accessFlags := 26, slot := 19, constantValue := 0 }, { name := "SOFT_MAX_ARRAY_LENGTH", type := .int, accessFlags := 25, slot := 20, constantValue := 0 }]
  methods := #[k12m0]
  instanceTypes := #[]
  staticTypes := #[(.object "jdk/internal/misc/Unsafe"), .boolean, .int, .int, .int, .int, .int, .int, .int, .int, .int, .int, .int, .int, .int, .int, .int, .int, .int, (.object "jdk/internal/access/JavaLangAccess"), .int]
  resolved := Array.replicate 378 none
  statics := none }

def pool13 : Array CpInfo := pool [(1, u "java/lang/Cloneable"), (0, .class_ 1), (0, u "java/lang/Object"), (0, .class_ 3)] 3

/-- java/lang/Cloneable -/
def k13 : Class := { plain "java/lang/Cloneable" (some 0) with
  accessFlags := 1537
  interfaces := #[]
  cf := some (fileOf pool13 2 #[] #[] 1537 4 #[] #[])
  fields := #[]
  methods := #[]
  instanceTypes := #[]
  staticTypes := #[]
  resolved := Array.replicate 8 none
  statics := none }

/-- the primitive byte -/
def k14 : Class := { plain "byte" none with kind := .primitive 'B', accessFlags := 0x411 }
/-- [B -/
def k15 : Class := { plain "[B" (some 0) with kind := .array 14 .byte, interfaces := #[13, 3], accessFlags := 1041 }

/-- the primitive int -/
def k16 : Class := { plain "int" none with kind := .primitive 'I', accessFlags := 0x411 }
/-- [I -/
def k17 : Class := { plain "[I" (some 0) with kind := .array 16 .int, interfaces := #[13, 3], accessFlags := 1041 }

def heap : Heap := #[{ cls := 8, slots := #[.long 0, .int 1, .null, .int 0, .null, .int 0, .int 0], vm := .statics 8 },
  { cls := 11, slots := #[.null, .null, .null], vm := .statics 11 }]
def classes : Array Class := #[k0, k1, k2, k3, k4, k5, k6, k7, k8, k9, k10, k11, k12, k13, k14, k15, k16, k17]
def interned : List (Array UInt16 × Addr) := []
def slotsUsed : Nat := 10
def theMethod : MethodId := ⟨1, 3⟩
def args0 : Array Value := #[.int 5, .int 2]
def aboutOver (below : List Frame) : State where
  vm := { classes := classes, interned := interned.toArray }
  heap := heap
  slotsUsed := slotsUsed
  threads := #[{ frames := .invoking theMethod args0 :: below }]
def below0 : List Frame := [.native { method := ⟨0, 0⟩, args := #[] }]
def about1 : State := aboutOver below0
def p0 : Program := .bare "" "" ""
def e0 : Env := launch0.env 0 0 0
theorem w_frames : about1.frames = Frame.invoking theMethod args0 :: below0 := rfl
set_option maxRecDepth 65536 in
theorem w_args : argsFit about1.vm theMethod args0 = true := by decide +kernel
set_option maxRecDepth 65536 in
theorem w_heap : heapFits about1 = true := by decide +kernel
set_option maxRecDepth 65536 in
theorem w_runnable : about1.curStatus? = some .runnable := by decide +kernel
set_option maxRecDepth 65536 in
theorem w_alone : about1.alone = true := by decide +kernel
set_option maxRecDepth 65536 in
theorem w_named : about1.methodNamed? x = some theMethod := by decide +kernel
set_option maxRecDepth 65536 in
theorem w_hears : about1.hears theMethod below0 = true := by decide +kernel
set_option maxRecDepth 65536 in
theorem w_ripe : about1.ripe theMethod args0 below0 = true := by decide +kernel
theorem w_running : about1.status = .running := rfl
set_option maxRecDepth 65536 in
theorem w_room : about1.hasRoom e0.platform room_1 = true :=
  launch0.hasRoom_least _ room_1 (by decide +kernel) (by decide +kernel) (by decide +kernel) (by decide +kernel) (by decide +kernel) (by decide +kernel)
theorem allAtoms_all (ts : List Jvm.Cond) (a : Array Jvm.Value) (st : Jvm.State) : (allAtoms ts).before a st = ts.all (fun c => c.before a st) := by
  induction ts with
  | nil => rfl
  | cons c t ih =>
    show (Jvm.Cond.and c (allAtoms t)).before a st = _
    rw [Jvm.Cond.before_and, ih, List.all_cons]
def words1 : List Jvm.Cond := Jvm.Cond.code x code maxLocals ret :: tables_1
/-- a 'code' word, met by the world's own term for the bytes: nothing is compared byte by byte -/
theorem code_word {y : MethodName} {bytes : ByteArray} {mx : Nat} {rt : Option FieldType} {a : Array Value} {s : State} {m : MethodId} {meth : Method} {c : Code} (h1 : s.methodNamed? y = some m) (h2 : s.vm.method? m = some meth) (h3 : meth.code = some c) (h4 : c.code = bytes)
    (h5 : (c.maxLocals == mx && c.exceptionTable.isEmpty && decide (c.maxStack ≤ mostOperands) && decide (meth.sig.returnType = rt) && !meth.locks && decide (parseMethodDescriptor y.desc = some meth.sig)) = true) : (Jvm.Cond.code y bytes mx rt).before a s = true := by
  simp only [Bool.and_eq_true, beq_iff_eq, Bool.not_eq_true', decide_eq_true_eq] at h5
  obtain ⟨⟨⟨⟨⟨g1, g2⟩, g3⟩, g4⟩, g5⟩, g6⟩ := h5
  simp [Cond.before, Cond.holds, Cond.value, h1, h2, h3, h4, g1, g2, g3, g4, g5, g6]
def isCode : Jvm.Cond → Bool
  | .code _ _ _ _ => true
  | _ => false
theorem all_split {L : List Jvm.Cond} {P : Jvm.Cond → Bool} (h1 : L.all (fun c => isCode c || P c) = true) (h2 : ∀ c ∈ L.filter isCode, P c = true) : L.all P = true := by
  refine List.all_eq_true.mpr fun c hc => ?_
  have h := List.all_eq_true.mp h1 c hc
  rcases Bool.eq_false_or_eq_true (isCode c) with hi | hi
  · exact h2 c (List.mem_filter.mpr ⟨hc, hi⟩)
  · simpa [hi] using h
set_option maxRecDepth 65536 in
theorem w_c0 : (Jvm.Cond.code x code maxLocals ret).before args0 about1 = true := code_word (m := ⟨1, 3⟩) (meth := k1m3) (c := k1c3) (by decide +kernel) rfl rfl rfl (by decide +kernel)
set_option maxRecDepth 65536 in
theorem w_c1 : (Jvm.Cond.code ({ cls := "com/example/federant/federant/http/HeadReader", name := "isTokenChar", desc := "(I)Z" } : Jvm.MethodName) prog_27_method_8_code (1 : Nat) (Option.some Jvm.ClassFile.FieldType.boolean)).before args0 about1 = true := code_word (m := ⟨2, 0⟩) (meth := k2m0) (c := k2c0) (by decide +kernel) rfl rfl rfl (by decide +kernel)
set_option maxRecDepth 65536 in
theorem w_c2 : (Jvm.Cond.code ({ cls := "java/lang/String", name := "indexOf", desc := "(I)I" } : Jvm.MethodName) jdk_42_method_79_code (2 : Nat) (Option.some Jvm.ClassFile.FieldType.int)).before args0 about1 = true := code_word (m := ⟨8, 2⟩) (meth := k8m2) (c := k8c2) (by decide +kernel) rfl rfl rfl (by decide +kernel)
set_option maxRecDepth 65536 in
theorem w_c3 : (Jvm.Cond.code ({ cls := "java/lang/String", name := "indexOf", desc := "(II)I" } : Jvm.MethodName) jdk_42_method_80_code (3 : Nat) (Option.some Jvm.ClassFile.FieldType.int)).before args0 about1 = true := code_word (m := ⟨8, 3⟩) (meth := k8m3) (c := k8c3) (by decide +kernel) rfl rfl rfl (by decide +kernel)
set_option maxRecDepth 65536 in
theorem w_c4 : (Jvm.Cond.code ({ cls := "java/lang/String", name := "isLatin1", desc := "()Z" } : Jvm.MethodName) jdk_42_method_154_code (1 : Nat) (Option.some Jvm.ClassFile.FieldType.boolean)).before args0 about1 = true := code_word (m := ⟨8, 5⟩) (meth := k8m5) (c := k8c5) (by decide +kernel) rfl rfl rfl (by decide +kernel)
set_option maxRecDepth 65536 in
theorem w_c5 : (Jvm.Cond.code ({ cls := "java/lang/String", name := "length", desc := "()I" } : Jvm.MethodName) jdk_42_method_54_code (1 : Nat) (Option.some Jvm.ClassFile.FieldType.int)).before args0 about1 = true := code_word (m := ⟨8, 1⟩) (meth := k8m1) (c := k8c1) (by decide +kernel) rfl rfl rfl (by decide +kernel)
set_option maxRecDepth 65536 in
theorem w_c6 : (Jvm.Cond.code ({ cls := "java/lang/String", name := "coder", desc := "()B" } : Jvm.MethodName) jdk_42_method_152_code (1 : Nat) (Option.some Jvm.ClassFile.FieldType.byte)).before args0 about1 = true := code_word (m := ⟨8, 4⟩) (meth := k8m4) (c := k8c4) (by decide +kernel) rfl rfl rfl (by decide +kernel)
set_option maxRecDepth 65536 in
theorem w_c7 : (Jvm.Cond.code ({ cls := "java/lang/StringLatin1", name := "indexOf", desc := "([BIII)I" } : Jvm.MethodName) jdk_43_method_22_code (4 : Nat) (Option.some Jvm.ClassFile.FieldType.int)).before args0 about1 = true := code_word (m := ⟨9, 2⟩) (meth := k9m2) (c := k9c2) (by decide +kernel) rfl rfl rfl (by decide +kernel)
set_option maxRecDepth 65536 in
theorem w_c8 : (Jvm.Cond.code ({ cls := "java/lang/StringLatin1", name := "canEncode", desc := "(I)Z" } : Jvm.MethodName) jdk_43_method_4_code (1 : Nat) (Option.some Jvm.ClassFile.FieldType.boolean)).before args0 about1 = true := code_word (m := ⟨9, 1⟩) (meth := k9m1) (c := k9c1) (by decide +kernel) rfl rfl rfl (by decide +kernel)
set_option maxRecDepth 65536 in
theorem w_c9 : (Jvm.Cond.code ({ cls := "java/lang/Math", name := "max", desc := "(II)I" } : Jvm.MethodName) jdk_29_method_65_code (2 : Nat) (Option.some Jvm.ClassFile.FieldType.int)).before args0 about1 = true := code_word (m := ⟨10, 1⟩) (meth := k10m1) (c := k10c1) (by decide +kernel) rfl rfl rfl (by decide +kernel)
set_option maxRecDepth 65536 in
theorem w_c10 : (Jvm.Cond.code ({ cls := "java/lang/Math", name := "min", desc := "(II)I" } : Jvm.MethodName) jdk_29_method_69_code (2 : Nat) (Option.some Jvm.ClassFile.FieldType.int)).before args0 about1 = true := code_word (m := ⟨10, 2⟩) (meth := k10m2) (c := k10c2) (by decide +kernel) rfl rfl rfl (by decide +kernel)
set_option maxRecDepth 65536 in
theorem w_c11 : (Jvm.Cond.code ({ cls := "java/lang/StringLatin1", name := "indexOfChar", desc := "([BIII)I" } : Jvm.MethodName) jdk_43_method_23_code (6 : Nat) (Option.some Jvm.ClassFile.FieldType.int)).before args0 about1 = true := code_word (m := ⟨9, 3⟩) (meth := k9m3) (c := k9c3) (by decide +kernel) rfl rfl rfl (by decide +kernel)
set_option maxRecDepth 65536 in
theorem w_c12 : (Jvm.Cond.code ({ cls := "com/example/federant/federant/http/HeadReaderIsTokenCharPinLaw", name := "expected", desc := "(I)Z" } : Jvm.MethodName) method_3_code (2 : Nat) (Option.some Jvm.ClassFile.FieldType.boolean)).before args0 about1 = true := code_word (m := ⟨1, 2⟩) (meth := k1m2) (c := k1c2) (by decide +kernel) rfl rfl rfl (by decide +kernel)
set_option maxRecDepth 65536 in
theorem w_c13 : (Jvm.Cond.code ({ cls := "com/example/federant/federant/http/HeadReaderIsTokenCharPinLaw", name := "isDelimiter", desc := "(I)Z" } : Jvm.MethodName) method_2_code (1 : Nat) (Option.some Jvm.ClassFile.FieldType.boolean)).before args0 about1 = true := code_word (m := ⟨1, 1⟩) (meth := k1m1) (c := k1c1) (by decide +kernel) rfl rfl rfl (by decide +kernel)
def codes1 : List Jvm.Cond := [Jvm.Cond.code x code maxLocals ret, Jvm.Cond.code ({ cls := "com/example/federant/federant/http/HeadReader", name := "isTokenChar", desc := "(I)Z" } : Jvm.MethodName) prog_27_method_8_code (1 : Nat) (Option.some Jvm.ClassFile.FieldType.boolean), Jvm.Cond.code ({ cls := "java/lang/String", name := "indexOf", desc := "(I)I" } : Jvm.MethodName) jdk_42_method_79_code (2 : Nat) (Option.some Jvm.ClassFile.FieldType.int), Jvm.Cond.code ({ cls := "java/lang/String", name := "indexOf", desc := "(II)I" } : Jvm.MethodName) jdk_42_method_80_code (3 : Nat) (Option.some Jvm.ClassFile.FieldType.int), Jvm.Cond.code ({ cls := "java/lang/String", name := "isLatin1", desc := "()Z" } : Jvm.MethodName) jdk_42_method_154_code (1 : Nat) (Option.some Jvm.ClassFile.FieldType.boolean), Jvm.Cond.code ({ cls := "java/lang/String", name := "length", desc := "()I" } : Jvm.MethodName) jdk_42_method_54_code (1 : Nat) (Option.some Jvm.ClassFile.FieldType.int), Jvm.Cond.code ({ cls := "java/lang/String", name := "coder", desc := "()B" } : Jvm.MethodName) jdk_42_method_152_code (1 : Nat) (Option.some Jvm.ClassFile.FieldType.byte), Jvm.Cond.code ({ cls := "java/lang/StringLatin1", name := "indexOf", desc := "([BIII)I" } : Jvm.MethodName) jdk_43_method_22_code (4 : Nat) (Option.some Jvm.ClassFile.FieldType.int), Jvm.Cond.code ({ cls := "java/lang/StringLatin1", name := "canEncode", desc := "(I)Z" } : Jvm.MethodName) jdk_43_method_4_code (1 : Nat) (Option.some Jvm.ClassFile.FieldType.boolean), Jvm.Cond.code ({ cls := "java/lang/Math", name := "max", desc := "(II)I" } : Jvm.MethodName) jdk_29_method_65_code (2 : Nat) (Option.some Jvm.ClassFile.FieldType.int), Jvm.Cond.code ({ cls := "java/lang/Math", name := "min", desc := "(II)I" } : Jvm.MethodName) jdk_29_method_69_code (2 : Nat) (Option.some Jvm.ClassFile.FieldType.int), Jvm.Cond.code ({ cls := "java/lang/StringLatin1", name := "indexOfChar", desc := "([BIII)I" } : Jvm.MethodName) jdk_43_method_23_code (6 : Nat) (Option.some Jvm.ClassFile.FieldType.int), Jvm.Cond.code ({ cls := "com/example/federant/federant/http/HeadReaderIsTokenCharPinLaw", name := "expected", desc := "(I)Z" } : Jvm.MethodName) method_3_code (2 : Nat) (Option.some Jvm.ClassFile.FieldType.boolean), Jvm.Cond.code ({ cls := "com/example/federant/federant/http/HeadReaderIsTokenCharPinLaw", name := "isDelimiter", desc := "(I)Z" } : Jvm.MethodName) method_2_code (1 : Nat) (Option.some Jvm.ClassFile.FieldType.boolean)]
set_option maxRecDepth 65536 in
theorem codes_eq : words1.filter isCode = codes1 := rfl
theorem w_codes : ∀ c ∈ words1.filter isCode, c.before args0 about1 = true := by
  rw [codes_eq]
  intro c hc
  simp only [codes1, List.mem_cons, List.not_mem_nil, or_false] at hc
  rcases hc with rfl | rfl | rfl | rfl | rfl | rfl | rfl | rfl | rfl | rfl | rfl | rfl | rfl | rfl
  · exact w_c0
  · exact w_c1
  · exact w_c2
  · exact w_c3
  · exact w_c4
  · exact w_c5
  · exact w_c6
  · exact w_c7
  · exact w_c8
  · exact w_c9
  · exact w_c10
  · exact w_c11
  · exact w_c12
  · exact w_c13
set_option maxRecDepth 65536 in
theorem w_t1 : (words1.take 24).all (fun c => isCode c || c.before args0 about1) = true := by decide +kernel
set_option maxRecDepth 65536 in
theorem w_t2 : ((words1.drop 24).take 24).all (fun c => isCode c || c.before args0 about1) = true := by decide +kernel
set_option maxRecDepth 65536 in
theorem w_t3 : ((words1.drop 24).drop 24).all (fun c => isCode c || c.before args0 about1) = true := by decide +kernel
theorem w_tables : (allAtoms (Jvm.Cond.code x code maxLocals ret :: tables_1)).before args0 about1 = true := by
  rw [allAtoms_all]
  show words1.all (fun c => c.before args0 about1) = true
  refine all_split ?_ w_codes
  rw [← List.take_append_drop 24 words1, List.all_append, w_t1, ← List.take_append_drop 24 (words1.drop 24), List.all_append, w_t2, w_t3]
  rfl
set_option maxRecDepth 65536 in
theorem w_rest : rest_1_c.before args0 about1 = true := by decide +kernel
set_option maxRecDepth 65536 in
theorem w_case : (Jvm.Cond.and given_1 narrow_1).before args0 about1 = true := by decide +kernel
set_option maxRecDepth 65536 in
theorem w_consts : constsHeld consts_1 about1 := Jvm.Lit.constsHeldB_iff.mp (by decide +kernel)
theorem w_applies : (headSpec (Jvm.Cond.code x code maxLocals ret :: tables_1) room_1).applies x e0.platform about1 = true :=
  (Spec.applies_iff w_frames).mpr ⟨w_running, w_runnable, w_alone, w_named, w_hears, w_ripe, w_room, w_tables⟩
theorem atStart : AtStart classFile x code maxLocals ret World_1 tables_1 room_1 Calls_1 rest_1 Pre_1 launch0 p0 e0 about1 theMethod args0 below0 :=
  ⟨lists_1, trivial, launch0.admits_env _ _ _, launch0.least_env, fairChoices_fair.cas, fairChoices_fair.clock, w_frames, w_args, w_heap, w_applies, ⟨w_consts, trivial⟩, w_rest, w_case⟩
end start1
theorem witness_1 : WitnessClaimed_1 := ⟨start1.p0, start1.e0, start1.about1, start1.theMethod, start1.args0, start1.below0, start1.atStart⟩
end Jvm.Pilot.@@N@@
