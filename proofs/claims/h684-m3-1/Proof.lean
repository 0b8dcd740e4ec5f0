import JvmDerived
import JvmDerived.Pilot.@@N@@Statement
import JvmDerived.Pilot.@@N@@Code
set_option linter.unusedVariables false
set_option linter.unusedSimpArgs false
namespace Jvm.Pilot.@@N@@
open Jvm Jvm.ClassFile Sem Op Lib Jvm.Free Jvm.Stand Jvm.LawKit Jvm.RoadKit Bundle Jvm.Pilot.@@N@@.Jvm.D

section Own
variable {p : Program} {l : Launch} {e : Env} {R : Room} {s : State} {m : MethodId} {args : Array Value} {below : List Frame} {meth : Method} {c : Code} {T : State} {locs : List Loc} {cells slots : Nat} {Z : State} {a0 : Array Value} {h : Heap} {own nm : String} {cd : ByteArray} {mx : Nat} {rt : Option FieldType} {G : State → Prop} {pc pc' : Nat} {Ls Ls' : Array Slot} {st : List Value}
/-- what a walk carries: the goal is closed under steps taken backwards; the body's own facts -/
def ow_K (p : Program) (e : Env) (below : List Frame) (s : State) (m : MethodId) (meth : Method) (c : Code) (Z : State) (own : String) (cd : ByteArray) (mx : Nat) (rt : Option FieldType) (nm : String) (G : State → Prop) : Prop :=
  (∀ A B, (∀ t, Steps p.tables e below B t → Steps p.tables e below A t) → G B → G A) ∧ p.tables.exec = Jvm.exec ∧ c.code = cd ∧ c.maxLocals = mx ∧ s.vm.findClass own = some m.cls ∧ Z.Warmed39 s.vm ∧ meth.sig.returnType = rt ∧ meth.locks = false ∧ meth.name = nm
/-- the goal of a body: it returns, and Q holds of what it returns, of the heap and of the places written -/
def ow_Gl (p : Program) (e : Env) (below : List Frame) (s : State) (Q : Option Value → Heap → List Loc → Prop) (ce sl : Nat) (S : State) : Prop :=
  ∃ s₂ o, Steps p.tables e below S s₂ ∧ s₂.status = .running ∧ Ended s₂ below o ∧ ∃ v L, o = .returned v ∧ Q v s₂.heap L ∧ FrameEnd s o s₂ L ce sl
theorem ow_Gl_bc {Q : Option Value → Heap → List Loc → Prop} {ce sl : Nat} : ∀ A B, (∀ t, Steps p.tables e below B t → Steps p.tables e below A t) → ow_Gl p e below s Q ce sl B → ow_Gl p e below s Q ce sl A := fun A B hs hG => by
  obtain ⟨s₂, o, h1, h2⟩ := hG
  exact ⟨s₂, o, hs _ h1, h2⟩
theorem ow_entry {Q : Option Value → Heap → List Loc → Prop} {ce sl : Nat} {n : Nat} {g : JFrame} (q : entryFrame m args n = g) (hG : ow_Gl p e below s Q ce sl (T.setTop g)) : ow_Gl p e below s Q ce sl (T.setTop (entryFrame m args n)) := q ▸ hG
theorem ow_ne {a b n : Nat} (h : b < n) (g : a = n) : b ≠ a := fun q => by omega
theorem ow_at {g : JFrame} (hG : G (T.setTop g)) : G (T.setTop g) := hG

theorem ow_iload (K : ow_K p e below s m meth c Z own cd mx rt nm G) (X : Stand p l e R s m args below meth c T locs cells slots) {k : Nat} (v : Int32) (hd : decode cd pc = .ok (.iload k, 2)) (hp : pc' = pc + 2) (hl : Ls[k]? = some (.val (.int v))) (hr : G (T.setTop (mkF m pc' Ls (.int v :: st)))) : G (T.setTop (mkF m pc Ls (st))) := by
  subst hp
  exact K.1 _ _ (fun t q => XS.iload X.here K.2.1 rfl (hb K.2.2.1 hd) hl q) hr
theorem ow_iloadN (K : ow_K p e below s m meth c Z own cd mx rt nm G) (X : Stand p l e R s m args below meth c T locs cells slots) {k : Fin 4} (v : Int32) (hd : decode cd pc = .ok (.iload_n k, 1)) (hp : pc' = pc + 1) (hl : Ls[k.val]? = some (.val (.int v))) (hr : G (T.setTop (mkF m pc' Ls (.int v :: st)))) : G (T.setTop (mkF m pc Ls (st))) := by
  subst hp
  exact K.1 _ _ (fun t q => XS.iloadN X.here K.2.1 rfl (hb K.2.2.1 hd) hl q) hr
theorem ow_lload (K : ow_K p e below s m meth c Z own cd mx rt nm G) (X : Stand p l e R s m args below meth c T locs cells slots) {k : Nat} (v : Int64) (hd : decode cd pc = .ok (.lload k, 2)) (hp : pc' = pc + 2) (hl : Ls[k]? = some (.val (.long v))) (hr : G (T.setTop (mkF m pc' Ls (.long v :: st)))) : G (T.setTop (mkF m pc Ls (st))) := by
  subst hp
  exact K.1 _ _ (fun t q => XT.lload X.here K.2.1 rfl (hb K.2.2.1 hd) hl q) hr
theorem ow_lloadN (K : ow_K p e below s m meth c Z own cd mx rt nm G) (X : Stand p l e R s m args below meth c T locs cells slots) {k : Fin 4} (v : Int64) (hd : decode cd pc = .ok (.lload_n k, 1)) (hp : pc' = pc + 1) (hl : Ls[k.val]? = some (.val (.long v))) (hr : G (T.setTop (mkF m pc' Ls (.long v :: st)))) : G (T.setTop (mkF m pc Ls (st))) := by
  subst hp
  exact K.1 _ _ (fun t q => XT.lloadN X.here K.2.1 rfl (hb K.2.2.1 hd) hl q) hr
theorem ow_aload (K : ow_K p e below s m meth c Z own cd mx rt nm G) (X : Stand p l e R s m args below meth c T locs cells slots) {k : Nat} (v : Addr) (hd : decode cd pc = .ok (.aload k, 2)) (hp : pc' = pc + 2) (hl : Ls[k]? = some (.val (.ref v))) (hr : G (T.setTop (mkF m pc' Ls (.ref v :: st)))) : G (T.setTop (mkF m pc Ls (st))) := by
  subst hp
  exact K.1 _ _ (fun t q => XS.aload X.here K.2.1 rfl (hb K.2.2.1 hd) hl rfl q) hr
theorem ow_aloadN (K : ow_K p e below s m meth c Z own cd mx rt nm G) (X : Stand p l e R s m args below meth c T locs cells slots) {k : Fin 4} (v : Addr) (hd : decode cd pc = .ok (.aload_n k, 1)) (hp : pc' = pc + 1) (hl : Ls[k.val]? = some (.val (.ref v))) (hr : G (T.setTop (mkF m pc' Ls (.ref v :: st)))) : G (T.setTop (mkF m pc Ls (st))) := by
  subst hp
  exact K.1 _ _ (fun t q => XS.aloadN X.here K.2.1 rfl (hb K.2.2.1 hd) hl rfl q) hr
theorem ow_istore (K : ow_K p e below s m meth c Z own cd mx rt nm G) (X : Stand p l e R s m args below meth c T locs cells slots) {k : Nat} {v : Int32} (hd : decode cd pc = .ok (.istore k, 2)) (hp : pc' = pc + 2) (hl : storeLocals Ls k (.int v) = some Ls') (hr : G (T.setTop (mkF m pc' Ls' (st)))) : G (T.setTop (mkF m pc Ls (.int v :: st))) := by
  subst hp
  exact K.1 _ _ (fun t q => XS.istore X.here K.2.1 rfl (hb K.2.2.1 hd) rfl hl q) hr
theorem ow_istoreN (K : ow_K p e below s m meth c Z own cd mx rt nm G) (X : Stand p l e R s m args below meth c T locs cells slots) {k : Fin 4} {v : Int32} (hd : decode cd pc = .ok (.istore_n k, 1)) (hp : pc' = pc + 1) (hl : storeLocals Ls k.val (.int v) = some Ls') (hr : G (T.setTop (mkF m pc' Ls' (st)))) : G (T.setTop (mkF m pc Ls (.int v :: st))) := by
  subst hp
  exact K.1 _ _ (fun t q => XS.istoreN X.here K.2.1 rfl (hb K.2.2.1 hd) rfl hl q) hr
theorem ow_lstore (K : ow_K p e below s m meth c Z own cd mx rt nm G) (X : Stand p l e R s m args below meth c T locs cells slots) {k : Nat} {v : Int64} (hd : decode cd pc = .ok (.lstore k, 2)) (hp : pc' = pc + 2) (hl : storeLocals Ls k (.long v) = some Ls') (hr : G (T.setTop (mkF m pc' Ls' (st)))) : G (T.setTop (mkF m pc Ls (.long v :: st))) := by
  subst hp
  exact K.1 _ _ (fun t q => XT.lstore X.here K.2.1 rfl (hb K.2.2.1 hd) rfl hl q) hr
theorem ow_lstoreN (K : ow_K p e below s m meth c Z own cd mx rt nm G) (X : Stand p l e R s m args below meth c T locs cells slots) {k : Fin 4} {v : Int64} (hd : decode cd pc = .ok (.lstore_n k, 1)) (hp : pc' = pc + 1) (hl : storeLocals Ls k.val (.long v) = some Ls') (hr : G (T.setTop (mkF m pc' Ls' (st)))) : G (T.setTop (mkF m pc Ls (.long v :: st))) := by
  subst hp
  exact K.1 _ _ (fun t q => XT.lstoreN X.here K.2.1 rfl (hb K.2.2.1 hd) rfl hl q) hr
theorem ow_astore (K : ow_K p e below s m meth c Z own cd mx rt nm G) (X : Stand p l e R s m args below meth c T locs cells slots) {k : Nat} {v : Addr} (hd : decode cd pc = .ok (.astore k, 2)) (hp : pc' = pc + 2) (hl : storeLocals Ls k (.ref v) = some Ls') (hr : G (T.setTop (mkF m pc' Ls' (st)))) : G (T.setTop (mkF m pc Ls (.ref v :: st))) := by
  subst hp
  exact K.1 _ _ (fun t q => XS.astore X.here K.2.1 rfl (hb K.2.2.1 hd) rfl rfl hl q) hr
theorem ow_astoreN (K : ow_K p e below s m meth c Z own cd mx rt nm G) (X : Stand p l e R s m args below meth c T locs cells slots) {k : Fin 4} {v : Addr} (hd : decode cd pc = .ok (.astore_n k, 1)) (hp : pc' = pc + 1) (hl : storeLocals Ls k.val (.ref v) = some Ls') (hr : G (T.setTop (mkF m pc' Ls' (st)))) : G (T.setTop (mkF m pc Ls (.ref v :: st))) := by
  subst hp
  exact K.1 _ _ (fun t q => XS.astoreN X.here K.2.1 rfl (hb K.2.2.1 hd) rfl rfl hl q) hr
theorem ow_iinc (K : ow_K p e below s m meth c Z own cd mx rt nm G) (X : Stand p l e R s m args below meth c T locs cells slots) {k : Nat} {i : Int} {x : Int32} (y v : Int32) (hd : decode cd pc = .ok (.iinc k i, 3)) (hp : pc' = pc + 3) (hy : Int32.ofInt i = y) (hx : Ls[k]? = some (.val (.int x))) (hv : x + y = v) (hl : storeLocals Ls k (.int v) = some Ls') (hr : G (T.setTop (mkF m pc' Ls' (st)))) : G (T.setTop (mkF m pc Ls (st))) := by
  subst hp
  exact K.1 _ _ (fun t q => XT.iincV X.here K.2.1 rfl y (hb K.2.2.1 hd) hy hx (hv ▸ hl) q) hr
theorem ow_iconst (K : ow_K p e below s m meth c Z own cd mx rt nm G) (X : Stand p l e R s m args below meth c T locs cells slots) {i : Int} (v : Int32) (hd : decode cd pc = .ok (.iconst i, 1)) (hp : pc' = pc + 1) (hv : Int32.ofInt i = v) (hr : G (T.setTop (mkF m pc' Ls (.int v :: st)))) : G (T.setTop (mkF m pc Ls (st))) := by
  subst hp
  exact K.1 _ _ (fun t q => XT.iconstV X.here K.2.1 rfl v (hb K.2.2.1 hd) hv q) hr
theorem ow_bipush (K : ow_K p e below s m meth c Z own cd mx rt nm G) (X : Stand p l e R s m args below meth c T locs cells slots) {i : Int} (v : Int32) (hd : decode cd pc = .ok (.bipush i, 2)) (hp : pc' = pc + 2) (hv : (Int8.ofInt i).toInt32 = v) (hr : G (T.setTop (mkF m pc' Ls (.int v :: st)))) : G (T.setTop (mkF m pc Ls (st))) := by
  subst hp
  exact K.1 _ _ (fun t q => XT.bipushV X.here K.2.1 rfl v (hb K.2.2.1 hd) hv q) hr
theorem ow_sipush (K : ow_K p e below s m meth c Z own cd mx rt nm G) (X : Stand p l e R s m args below meth c T locs cells slots) {i : Int} (v : Int32) (hd : decode cd pc = .ok (.sipush i, 3)) (hp : pc' = pc + 3) (hv : (Int16.ofInt i).toInt32 = v) (hr : G (T.setTop (mkF m pc' Ls (.int v :: st)))) : G (T.setTop (mkF m pc Ls (st))) := by
  subst hp
  exact K.1 _ _ (fun t q => XT.sipushV X.here K.2.1 rfl v (hb K.2.2.1 hd) hv q) hr
theorem ow_lconst (K : ow_K p e below s m meth c Z own cd mx rt nm G) (X : Stand p l e R s m args below meth c T locs cells slots) {k : Fin 2} (v : Int64) (hd : decode cd pc = .ok (.lconst k, 1)) (hp : pc' = pc + 1) (hv : Int64.ofNat k = v) (hr : G (T.setTop (mkF m pc' Ls (.long v :: st)))) : G (T.setTop (mkF m pc Ls (st))) := by
  subst hp
  exact K.1 _ _ (fun t q => XT.lconstV X.here K.2.1 rfl v (hb K.2.2.1 hd) hv q) hr
theorem ow_ldcI (K : ow_K p e below s m meth c Z own cd mx rt nm G) (X : Stand p l e R s m args below meth c T locs cells slots) {i : Nat} (v : Int32) (hd : decode cd pc = .ok (.ldc i, 2)) (hp : pc' = pc + 2) (w : (Jvm.Cond.constant own i v).before a0 Z = true) (hr : G (T.setTop (mkF m pc' Ls (.int v :: st)))) : G (T.setTop (mkF m pc Ls (st))) := by
  subst hp
  exact K.1 _ _ (fun t q => X.ldcI K.2.1 K.2.2.2.2.1 (mvT K.2.2.2.2.2.1 w) rfl (hb K.2.2.1 hd) q) hr
theorem ow_ldcWI (K : ow_K p e below s m meth c Z own cd mx rt nm G) (X : Stand p l e R s m args below meth c T locs cells slots) {i : Nat} (v : Int32) (hd : decode cd pc = .ok (.ldc_w i, 3)) (hp : pc' = pc + 3) (w : (Jvm.Cond.constant own i v).before a0 Z = true) (hr : G (T.setTop (mkF m pc' Ls (.int v :: st)))) : G (T.setTop (mkF m pc Ls (st))) := by
  subst hp
  exact K.1 _ _ (fun t q => X.ldcWI K.2.1 K.2.2.2.2.1 (mvT K.2.2.2.2.2.1 w) rfl (hb K.2.2.1 hd) q) hr
theorem ow_ldc2 (K : ow_K p e below s m meth c Z own cd mx rt nm G) (X : Stand p l e R s m args below meth c T locs cells slots) {i : Nat} (v : Int64) (hd : decode cd pc = .ok (.ldc2_w i, 3)) (hp : pc' = pc + 3) (w : (Jvm.Cond.constantLong own i v).before a0 Z = true) (hr : G (T.setTop (mkF m pc' Ls (.long v :: st)))) : G (T.setTop (mkF m pc Ls (st))) := by
  subst hp
  exact K.1 _ _ (fun t q => X.ldc2J K.2.1 K.2.2.2.2.1 (mvT K.2.2.2.2.2.1 w) rfl (hb K.2.2.1 hd) q) hr
theorem ow_iadd (K : ow_K p e below s m meth c Z own cd mx rt nm G) (X : Stand p l e R s m args below meth c T locs cells slots) {x y : Int32} (v : Int32) (hd : decode cd pc = .ok (.iadd, 1)) (hp : pc' = pc + 1) (hv : x + y = v) (hr : G (T.setTop (mkF m pc' Ls (.int v :: st)))) : G (T.setTop (mkF m pc Ls (.int y :: .int x :: st))) := by
  subst hp
  exact K.1 _ _ (fun t q => XS.iadd X.here K.2.1 rfl (hb K.2.2.1 hd) rfl (hv ▸ q)) hr
theorem ow_isub (K : ow_K p e below s m meth c Z own cd mx rt nm G) (X : Stand p l e R s m args below meth c T locs cells slots) {x y : Int32} (v : Int32) (hd : decode cd pc = .ok (.isub, 1)) (hp : pc' = pc + 1) (hv : x - y = v) (hr : G (T.setTop (mkF m pc' Ls (.int v :: st)))) : G (T.setTop (mkF m pc Ls (.int y :: .int x :: st))) := by
  subst hp
  exact K.1 _ _ (fun t q => XS.isub X.here K.2.1 rfl (hb K.2.2.1 hd) rfl (hv ▸ q)) hr
theorem ow_imul (K : ow_K p e below s m meth c Z own cd mx rt nm G) (X : Stand p l e R s m args below meth c T locs cells slots) {x y : Int32} (v : Int32) (hd : decode cd pc = .ok (.imul, 1)) (hp : pc' = pc + 1) (hv : x * y = v) (hr : G (T.setTop (mkF m pc' Ls (.int v :: st)))) : G (T.setTop (mkF m pc Ls (.int y :: .int x :: st))) := by
  subst hp
  exact K.1 _ _ (fun t q => XS.imul X.here K.2.1 rfl (hb K.2.2.1 hd) rfl (hv ▸ q)) hr
theorem ow_iand (K : ow_K p e below s m meth c Z own cd mx rt nm G) (X : Stand p l e R s m args below meth c T locs cells slots) {x y : Int32} (v : Int32) (hd : decode cd pc = .ok (.iand, 1)) (hp : pc' = pc + 1) (hv : x &&& y = v) (hr : G (T.setTop (mkF m pc' Ls (.int v :: st)))) : G (T.setTop (mkF m pc Ls (.int y :: .int x :: st))) := by
  subst hp
  exact K.1 _ _ (fun t q => XS.iand X.here K.2.1 rfl (hb K.2.2.1 hd) rfl (hv ▸ q)) hr
theorem ow_ixor (K : ow_K p e below s m meth c Z own cd mx rt nm G) (X : Stand p l e R s m args below meth c T locs cells slots) {x y : Int32} (v : Int32) (hd : decode cd pc = .ok (.ixor, 1)) (hp : pc' = pc + 1) (hv : x ^^^ y = v) (hr : G (T.setTop (mkF m pc' Ls (.int v :: st)))) : G (T.setTop (mkF m pc Ls (.int y :: .int x :: st))) := by
  subst hp
  exact K.1 _ _ (fun t q => XT.ixor X.here K.2.1 rfl (hb K.2.2.1 hd) rfl (hv ▸ q)) hr
theorem ow_ior (K : ow_K p e below s m meth c Z own cd mx rt nm G) (X : Stand p l e R s m args below meth c T locs cells slots) {x y : Int32} (v : Int32) (hd : decode cd pc = .ok (.ior, 1)) (hp : pc' = pc + 1) (hv : x ||| y = v) (hr : G (T.setTop (mkF m pc' Ls (.int v :: st)))) : G (T.setTop (mkF m pc Ls (.int y :: .int x :: st))) := by
  subst hp
  exact K.1 _ _ (fun t q => XT.ior X.here K.2.1 rfl (hb K.2.2.1 hd) rfl (hv ▸ q)) hr
theorem ow_ishl (K : ow_K p e below s m meth c Z own cd mx rt nm G) (X : Stand p l e R s m args below meth c T locs cells slots) {x y : Int32} (v : Int32) (hd : decode cd pc = .ok (.ishl, 1)) (hp : pc' = pc + 1) (hv : x <<< (y &&& 31) = v) (hr : G (T.setTop (mkF m pc' Ls (.int v :: st)))) : G (T.setTop (mkF m pc Ls (.int y :: .int x :: st))) := by
  subst hp
  exact K.1 _ _ (fun t q => XT.ishl X.here K.2.1 rfl (hb K.2.2.1 hd) rfl (hv ▸ q)) hr
theorem ow_ishr (K : ow_K p e below s m meth c Z own cd mx rt nm G) (X : Stand p l e R s m args below meth c T locs cells slots) {x y : Int32} (v : Int32) (hd : decode cd pc = .ok (.ishr, 1)) (hp : pc' = pc + 1) (hv : x >>> (y &&& 31) = v) (hr : G (T.setTop (mkF m pc' Ls (.int v :: st)))) : G (T.setTop (mkF m pc Ls (.int y :: .int x :: st))) := by
  subst hp
  exact K.1 _ _ (fun t q => XT.ishr X.here K.2.1 rfl (hb K.2.2.1 hd) rfl (hv ▸ q)) hr
theorem ow_iushr (K : ow_K p e below s m meth c Z own cd mx rt nm G) (X : Stand p l e R s m args below meth c T locs cells slots) {x y : Int32} (v : Int32) (hd : decode cd pc = .ok (.iushr, 1)) (hp : pc' = pc + 1) (hv : XT.ushr x y = v) (hr : G (T.setTop (mkF m pc' Ls (.int v :: st)))) : G (T.setTop (mkF m pc Ls (.int y :: .int x :: st))) := by
  subst hp
  exact K.1 _ _ (fun t q => XT.iushr X.here K.2.1 rfl (hb K.2.2.1 hd) rfl (hv ▸ q)) hr
theorem ow_irem (K : ow_K p e below s m meth c Z own cd mx rt nm G) (X : Stand p l e R s m args below meth c T locs cells slots) {x y : Int32} (v : Int32) (hd : decode cd pc = .ok (.irem, 1)) (hp : pc' = pc + 1) (hy : y ≠ 0) (hv : x - (x / y) * y = v) (hr : G (T.setTop (mkF m pc' Ls (.int v :: st)))) : G (T.setTop (mkF m pc Ls (.int y :: .int x :: st))) := by
  subst hp
  exact K.1 _ _ (fun t q => XS.irem X.here K.2.1 rfl (hb K.2.2.1 hd) rfl hy (hv ▸ q)) hr
theorem ow_ladd (K : ow_K p e below s m meth c Z own cd mx rt nm G) (X : Stand p l e R s m args below meth c T locs cells slots) {x y : Int64} (v : Int64) (hd : decode cd pc = .ok (.ladd, 1)) (hp : pc' = pc + 1) (hv : x + y = v) (hr : G (T.setTop (mkF m pc' Ls (.long v :: st)))) : G (T.setTop (mkF m pc Ls (.long y :: .long x :: st))) := by
  subst hp
  exact K.1 _ _ (fun t q => XT.ladd X.here K.2.1 rfl (hb K.2.2.1 hd) rfl (hv ▸ q)) hr
theorem ow_lsub (K : ow_K p e below s m meth c Z own cd mx rt nm G) (X : Stand p l e R s m args below meth c T locs cells slots) {x y : Int64} (v : Int64) (hd : decode cd pc = .ok (.lsub, 1)) (hp : pc' = pc + 1) (hv : x - y = v) (hr : G (T.setTop (mkF m pc' Ls (.long v :: st)))) : G (T.setTop (mkF m pc Ls (.long y :: .long x :: st))) := by
  subst hp
  exact K.1 _ _ (fun t q => XT.lsub X.here K.2.1 rfl (hb K.2.2.1 hd) rfl (hv ▸ q)) hr
theorem ow_lmul (K : ow_K p e below s m meth c Z own cd mx rt nm G) (X : Stand p l e R s m args below meth c T locs cells slots) {x y : Int64} (v : Int64) (hd : decode cd pc = .ok (.lmul, 1)) (hp : pc' = pc + 1) (hv : x * y = v) (hr : G (T.setTop (mkF m pc' Ls (.long v :: st)))) : G (T.setTop (mkF m pc Ls (.long y :: .long x :: st))) := by
  subst hp
  exact K.1 _ _ (fun t q => XT.lmul X.here K.2.1 rfl (hb K.2.2.1 hd) rfl (hv ▸ q)) hr
theorem ow_land (K : ow_K p e below s m meth c Z own cd mx rt nm G) (X : Stand p l e R s m args below meth c T locs cells slots) {x y : Int64} (v : Int64) (hd : decode cd pc = .ok (.land, 1)) (hp : pc' = pc + 1) (hv : x &&& y = v) (hr : G (T.setTop (mkF m pc' Ls (.long v :: st)))) : G (T.setTop (mkF m pc Ls (.long y :: .long x :: st))) := by
  subst hp
  exact K.1 _ _ (fun t q => XT.land X.here K.2.1 rfl (hb K.2.2.1 hd) rfl (hv ▸ q)) hr
theorem ow_lor (K : ow_K p e below s m meth c Z own cd mx rt nm G) (X : Stand p l e R s m args below meth c T locs cells slots) {x y : Int64} (v : Int64) (hd : decode cd pc = .ok (.lor, 1)) (hp : pc' = pc + 1) (hv : x ||| y = v) (hr : G (T.setTop (mkF m pc' Ls (.long v :: st)))) : G (T.setTop (mkF m pc Ls (.long y :: .long x :: st))) := by
  subst hp
  exact K.1 _ _ (fun t q => XT.lor X.here K.2.1 rfl (hb K.2.2.1 hd) rfl (hv ▸ q)) hr
theorem ow_lxor (K : ow_K p e below s m meth c Z own cd mx rt nm G) (X : Stand p l e R s m args below meth c T locs cells slots) {x y : Int64} (v : Int64) (hd : decode cd pc = .ok (.lxor, 1)) (hp : pc' = pc + 1) (hv : x ^^^ y = v) (hr : G (T.setTop (mkF m pc' Ls (.long v :: st)))) : G (T.setTop (mkF m pc Ls (.long y :: .long x :: st))) := by
  subst hp
  exact K.1 _ _ (fun t q => XT.lxor X.here K.2.1 rfl (hb K.2.2.1 hd) rfl (hv ▸ q)) hr
theorem ow_lrem (K : ow_K p e below s m meth c Z own cd mx rt nm G) (X : Stand p l e R s m args below meth c T locs cells slots) {x y : Int64} (v : Int64) (hd : decode cd pc = .ok (.lrem, 1)) (hp : pc' = pc + 1) (hy : y ≠ 0) (hv : x - (x / y) * y = v) (hr : G (T.setTop (mkF m pc' Ls (.long v :: st)))) : G (T.setTop (mkF m pc Ls (.long y :: .long x :: st))) := by
  subst hp
  exact K.1 _ _ (fun t q => XT.lrem X.here K.2.1 rfl (hb K.2.2.1 hd) rfl hy (hv ▸ q)) hr
theorem ow_lshl (K : ow_K p e below s m meth c Z own cd mx rt nm G) (X : Stand p l e R s m args below meth c T locs cells slots) {x : Int64} {y : Int32} (v : Int64) (hd : decode cd pc = .ok (.lshl, 1)) (hp : pc' = pc + 1) (hv : x <<< (y.toInt64 &&& 63) = v) (hr : G (T.setTop (mkF m pc' Ls (.long v :: st)))) : G (T.setTop (mkF m pc Ls (.int y :: .long x :: st))) := by
  subst hp
  exact K.1 _ _ (fun t q => XT.lshl X.here K.2.1 rfl (hb K.2.2.1 hd) rfl (hv ▸ q)) hr
theorem ow_lshr (K : ow_K p e below s m meth c Z own cd mx rt nm G) (X : Stand p l e R s m args below meth c T locs cells slots) {x : Int64} {y : Int32} (v : Int64) (hd : decode cd pc = .ok (.lshr, 1)) (hp : pc' = pc + 1) (hv : x >>> (y.toInt64 &&& 63) = v) (hr : G (T.setTop (mkF m pc' Ls (.long v :: st)))) : G (T.setTop (mkF m pc Ls (.int y :: .long x :: st))) := by
  subst hp
  exact K.1 _ _ (fun t q => XT.lshr X.here K.2.1 rfl (hb K.2.2.1 hd) rfl (hv ▸ q)) hr
theorem ow_lushr (K : ow_K p e below s m meth c Z own cd mx rt nm G) (X : Stand p l e R s m args below meth c T locs cells slots) {x : Int64} {y : Int32} (v : Int64) (hd : decode cd pc = .ok (.lushr, 1)) (hp : pc' = pc + 1) (hv : XT.ushrL x y = v) (hr : G (T.setTop (mkF m pc' Ls (.long v :: st)))) : G (T.setTop (mkF m pc Ls (.int y :: .long x :: st))) := by
  subst hp
  exact K.1 _ _ (fun t q => XT.lushr X.here K.2.1 rfl (hb K.2.2.1 hd) rfl (hv ▸ q)) hr
theorem ow_lcmp (K : ow_K p e below s m meth c Z own cd mx rt nm G) (X : Stand p l e R s m args below meth c T locs cells slots) {x y : Int64} (v : Int32) (hd : decode cd pc = .ok (.lcmp, 1)) (hp : pc' = pc + 1) (hv : XT.cmpL x y = v) (hr : G (T.setTop (mkF m pc' Ls (.int v :: st)))) : G (T.setTop (mkF m pc Ls (.long y :: .long x :: st))) := by
  subst hp
  exact K.1 _ _ (fun t q => XT.lcmp X.here K.2.1 rfl (hb K.2.2.1 hd) rfl (hv ▸ q)) hr
theorem ow_ineg (K : ow_K p e below s m meth c Z own cd mx rt nm G) (X : Stand p l e R s m args below meth c T locs cells slots) {x : Int32} (v : Int32) (hd : decode cd pc = .ok (.ineg, 1)) (hp : pc' = pc + 1) (hv : -x = v) (hr : G (T.setTop (mkF m pc' Ls (.int v :: st)))) : G (T.setTop (mkF m pc Ls (.int x :: st))) := by
  subst hp
  exact K.1 _ _ (fun t q => XS.ineg X.here K.2.1 rfl (hb K.2.2.1 hd) rfl (hv ▸ q)) hr
theorem ow_i2b (K : ow_K p e below s m meth c Z own cd mx rt nm G) (X : Stand p l e R s m args below meth c T locs cells slots) {x : Int32} (v : Int32) (hd : decode cd pc = .ok (.i2b, 1)) (hp : pc' = pc + 1) (hv : x.toInt8.toInt32 = v) (hr : G (T.setTop (mkF m pc' Ls (.int v :: st)))) : G (T.setTop (mkF m pc Ls (.int x :: st))) := by
  subst hp
  exact K.1 _ _ (fun t q => XT.i2b X.here K.2.1 rfl (hb K.2.2.1 hd) rfl (hv ▸ q)) hr
theorem ow_i2l (K : ow_K p e below s m meth c Z own cd mx rt nm G) (X : Stand p l e R s m args below meth c T locs cells slots) {x : Int32} (v : Int64) (hd : decode cd pc = .ok (.i2l, 1)) (hp : pc' = pc + 1) (hv : x.toInt64 = v) (hr : G (T.setTop (mkF m pc' Ls (.long v :: st)))) : G (T.setTop (mkF m pc Ls (.int x :: st))) := by
  subst hp
  exact K.1 _ _ (fun t q => XT.i2l X.here K.2.1 rfl (hb K.2.2.1 hd) rfl (hv ▸ q)) hr
theorem ow_l2i (K : ow_K p e below s m meth c Z own cd mx rt nm G) (X : Stand p l e R s m args below meth c T locs cells slots) {x : Int64} (v : Int32) (hd : decode cd pc = .ok (.l2i, 1)) (hp : pc' = pc + 1) (hv : x.toInt32 = v) (hr : G (T.setTop (mkF m pc' Ls (.int v :: st)))) : G (T.setTop (mkF m pc Ls (.long x :: st))) := by
  subst hp
  exact K.1 _ _ (fun t q => XT.l2i X.here K.2.1 rfl (hb K.2.2.1 hd) rfl (hv ▸ q)) hr
theorem ow_dup (K : ow_K p e below s m meth c Z own cd mx rt nm G) (X : Stand p l e R s m args below meth c T locs cells slots) {v : Value} (hd : decode cd pc = .ok (.dup, 1)) (hp : pc' = pc + 1) (hc : v.category = 1) (hr : G (T.setTop (mkF m pc' Ls (v :: v :: st)))) : G (T.setTop (mkF m pc Ls (v :: st))) := by
  subst hp
  exact K.1 _ _ (fun t q => XS.dup X.here K.2.1 rfl (hb K.2.2.1 hd) rfl hc q) hr
theorem ow_pop (K : ow_K p e below s m meth c Z own cd mx rt nm G) (X : Stand p l e R s m args below meth c T locs cells slots) {v : Value} (hd : decode cd pc = .ok (.pop, 1)) (hp : pc' = pc + 1) (hc : v.category = 1) (hr : G (T.setTop (mkF m pc' Ls (st)))) : G (T.setTop (mkF m pc Ls (v :: st))) := by
  subst hp
  exact K.1 _ _ (fun t q => XT.pop X.here K.2.1 rfl (hb K.2.2.1 hd) rfl hc q) hr
theorem ow_dupX1 (K : ow_K p e below s m meth c Z own cd mx rt nm G) (X : Stand p l e R s m args below meth c T locs cells slots) {v w : Value} (hd : decode cd pc = .ok (.dup_x1, 1)) (hp : pc' = pc + 1) (hc : v.category = 1) (hc' : w.category = 1) (hr : G (T.setTop (mkF m pc' Ls (v :: w :: v :: st)))) : G (T.setTop (mkF m pc Ls (v :: w :: st))) := by
  subst hp
  exact K.1 _ _ (fun t q => XT.dupX1 X.here K.2.1 rfl (hb K.2.2.1 hd) rfl hc hc' q) hr
theorem ow_dup2 (K : ow_K p e below s m meth c Z own cd mx rt nm G) (X : Stand p l e R s m args below meth c T locs cells slots) {v w : Value} (hd : decode cd pc = .ok (.dup2, 1)) (hp : pc' = pc + 1) (hc : v.category = 1) (hc' : w.category = 1) (hr : G (T.setTop (mkF m pc' Ls (v :: w :: v :: w :: st)))) : G (T.setTop (mkF m pc Ls (v :: w :: st))) := by
  subst hp
  exact K.1 _ _ (fun t q => XT.dup2 X.here K.2.1 rfl (hb K.2.2.1 hd) rfl hc hc' q) hr
theorem ow_goto (K : ow_K p e below s m meth c Z own cd mx rt nm G) (X : Stand p l e R s m args below meth c T locs cells slots)  {o : Int} (hd : decode cd pc = .ok (.goto o, 3))  (ho : 0 ≤ (pc : Int) + o) (hp : ((pc : Int) + o).toNat = pc') (hr : G (T.setTop (mkF m pc' Ls (st)))) : G (T.setTop (mkF m pc Ls (st))) := K.1 _ _ (fun t q => XS.goto X.here K.2.1 rfl (pc0 := pc) rfl (hb K.2.2.1 hd) ho hp q) hr
theorem ow_ifY (K : ow_K p e below s m meth c Z own cd mx rt nm G) (X : Stand p l e R s m args below meth c T locs cells slots) {cc : ClassFile.Cond} {x : Int32} {o : Int} (hd : decode cd pc = .ok (.ifCond cc o, 3)) (hc : ifCond.holds cc x = true) (ho : 0 ≤ (pc : Int) + o) (hp : ((pc : Int) + o).toNat = pc') (hr : G (T.setTop (mkF m pc' Ls (st)))) : G (T.setTop (mkF m pc Ls (.int x :: st))) := K.1 _ _ (fun t q => XS.ifYes X.here K.2.1 rfl (pc0 := pc) rfl (hb K.2.2.1 hd) rfl hc ho hp q) hr
theorem ow_icmpY (K : ow_K p e below s m meth c Z own cd mx rt nm G) (X : Stand p l e R s m args below meth c T locs cells slots) {cc : ClassFile.Cond} {x y : Int32} {o : Int} (hd : decode cd pc = .ok (.if_icmp cc o, 3)) (hc : if_icmp.holds cc x y = true) (ho : 0 ≤ (pc : Int) + o) (hp : ((pc : Int) + o).toNat = pc') (hr : G (T.setTop (mkF m pc' Ls (st)))) : G (T.setTop (mkF m pc Ls (.int y :: .int x :: st))) := K.1 _ _ (fun t q => XS.icmpYes X.here K.2.1 rfl (pc0 := pc) rfl (hb K.2.2.1 hd) rfl hc ho hp q) hr
theorem ow_ifN (K : ow_K p e below s m meth c Z own cd mx rt nm G) (X : Stand p l e R s m args below meth c T locs cells slots) {cc : ClassFile.Cond} {x : Int32} {o : Int} (hd : decode cd pc = .ok (.ifCond cc o, 3)) (hp : pc' = pc + 3) (hc : ifCond.holds cc x = false) (hr : G (T.setTop (mkF m pc' Ls (st)))) : G (T.setTop (mkF m pc Ls (.int x :: st))) := by
  subst hp
  exact K.1 _ _ (fun t q => XS.ifNo X.here K.2.1 rfl (hb K.2.2.1 hd) rfl hc q) hr
theorem ow_icmpN (K : ow_K p e below s m meth c Z own cd mx rt nm G) (X : Stand p l e R s m args below meth c T locs cells slots) {cc : ClassFile.Cond} {x y : Int32} {o : Int} (hd : decode cd pc = .ok (.if_icmp cc o, 3)) (hp : pc' = pc + 3) (hc : if_icmp.holds cc x y = false) (hr : G (T.setTop (mkF m pc' Ls (st)))) : G (T.setTop (mkF m pc Ls (.int y :: .int x :: st))) := by
  subst hp
  exact K.1 _ _ (fun t q => XS.icmpNo X.here K.2.1 rfl (hb K.2.2.1 hd) rfl hc q) hr
/-- an index as an int and as a natural -/
def ow_Ix (j : Int32) (i : Nat) : Prop := ¬ j < 0 ∧ j.toNatClampNeg = i
theorem ow_ix_nat {i : Nat} (hi : i < 2 ^ 31) : ow_Ix (Int32.ofNat i) i := by
  have q : (Int32.ofNat i).toInt = i := Int32.toInt_ofNat_of_lt hi
  refine ⟨?_, ?_⟩
  · rw [Int32.lt_iff_toInt_lt, q]; show ¬ (i : Int) < 0; omega
  · simp only [Int32.toNatClampNeg, q]; rfl
theorem ow_in {cl : Cell} {z j : Int32} {i : Nat} (S : cl.slots.size = z.toNatClampNeg) (J : ow_Ix j i) (hi : i < z.toNatClampNeg) : ¬ (j < 0 ∨ cl.slots.size ≤ j.toNatClampNeg) := fun q => q.elim J.1 fun q => by rw [S, J.2] at q; omega
theorem ow_iaload (K : ow_K p e below s m meth c Z own cd mx rt nm G) (X : Stand p l e R s m args below meth c T locs cells slots) (eT : T.heap = h) {a : Addr} {k : ClassId} {z j : Int32} {vs : List Value} {dv : Value} (F : Arv Z h a k .int z vs dv) (i : Nat) (v : Value) (J : ow_Ix j i) (hi : i < z.toNatClampNeg) (hv : vs.getD i dv = v) (hd : decode cd pc = .ok (.iaload, 1)) (hp : pc' = pc + 1) (hr : G (T.setTop (mkF m pc' Ls (v :: st)))) : G (T.setTop (mkF m pc Ls (.int j :: .ref a :: st))) := by
  subst hp
  obtain ⟨cl, A, -, S, -, H, -⟩ := F
  exact K.1 _ _ (fun t q => X.iaload K.2.1 (j := j) (v := v) (by rw [eT]; exact A.1) (State.isArrayOf_alike K.2.2.2.2.2.1.alike A.2.1) A.2.2 (ow_in S J hi) (Has.at H (ow_in S J hi) (by rw [J.2]; exact hv)) (g := mkF m pc Ls (.int j :: .ref a :: st)) rfl rfl (hb K.2.2.1 hd) t q) hr
theorem ow_baload (K : ow_K p e below s m meth c Z own cd mx rt nm G) (X : Stand p l e R s m args below meth c T locs cells slots) (eT : T.heap = h) {a : Addr} {k : ClassId} {z j : Int32} {vs : List Value} {dv : Value} (F : Arv Z h a k .byte z vs dv) (i : Nat) (v : Value) (J : ow_Ix j i) (hi : i < z.toNatClampNeg) (hv : vs.getD i dv = v) (hd : decode cd pc = .ok (.baload, 1)) (hp : pc' = pc + 1) (hr : G (T.setTop (mkF m pc' Ls (v :: st)))) : G (T.setTop (mkF m pc Ls (.int j :: .ref a :: st))) := by
  subst hp
  obtain ⟨cl, A, -, S, -, H, -⟩ := F
  exact K.1 _ _ (fun t q => X.baloadBytes K.2.1 (j := j) (v := v) (by rw [eT]; exact A.1) (State.isArrayOf_alike K.2.2.2.2.2.1.alike A.2.1) A.2.2 (ow_in S J hi) (Has.at H (ow_in S J hi) (by rw [J.2]; exact hv)) (g := mkF m pc Ls (.int j :: .ref a :: st)) rfl rfl (hb K.2.2.1 hd) t q) hr
theorem ow_laload (K : ow_K p e below s m meth c Z own cd mx rt nm G) (X : Stand p l e R s m args below meth c T locs cells slots) (eT : T.heap = h) {a : Addr} {k : ClassId} {z j : Int32} {vs : List Value} {dv : Value} (F : Arv Z h a k .long z vs dv) (i : Nat) (v : Value) (J : ow_Ix j i) (hi : i < z.toNatClampNeg) (hv : vs.getD i dv = v) (hd : decode cd pc = .ok (.laload, 1)) (hp : pc' = pc + 1) (hr : G (T.setTop (mkF m pc' Ls (v :: st)))) : G (T.setTop (mkF m pc Ls (.int j :: .ref a :: st))) := by
  subst hp
  obtain ⟨cl, A, -, S, -, H, -⟩ := F
  exact K.1 _ _ (fun t q => X.laload K.2.1 (j := j) (v := v) (by rw [eT]; exact A.1) (State.isArrayOf_alike K.2.2.2.2.2.1.alike A.2.1) A.2.2 (ow_in S J hi) (Has.at H (ow_in S J hi) (by rw [J.2]; exact hv)) (g := mkF m pc Ls (.int j :: .ref a :: st)) rfl rfl (hb K.2.2.1 hd) t q) hr
theorem ow_len (K : ow_K p e below s m meth c Z own cd mx rt nm G) (X : Stand p l e R s m args below meth c T locs cells slots) (eT : T.heap = h) {a : Addr} {k : ClassId} {ty : FieldType} {z : Int32} {vs : List Value} {dv : Value} (F : Arv Z h a k ty z vs dv) (hd : decode cd pc = .ok (.arraylength, 1)) (hp : pc' = pc + 1) (hr : G (T.setTop (mkF m pc' Ls (.int z :: st)))) : G (T.setTop (mkF m pc Ls (.ref a :: st))) := by
  subst hp
  obtain ⟨cl, A, -, S, M, -, -⟩ := F
  exact K.1 _ _ (fun t q => X.arraylength K.2.1 (cell := cl) (by rw [eT]; exact A.1) (State.isArrayOf_alike K.2.2.2.2.2.1.alike A.2.1) (g := mkF m pc Ls (.ref a :: st)) rfl (rest := st) rfl (hb K.2.2.1 hd) t (by rw [len_of S M]; exact q)) hr
theorem ow_iastore (K : ow_K p e below s m meth c Z own cd mx rt nm G) (X : Stand p l e R s m args below meth c T locs cells slots) (eT : T.heap = h) {a : Addr} {k : ClassId} {z j : Int32} {vs : List Value} {dv : Value} {x : Int32} (F : Arv Z h a k .int z vs dv) (i : Nat) (vs' : List Value) (J : ow_Ix j i) (hi : i < z.toNatClampNeg) (hi' : i < vs.length) (hs : vs.set i (.int x) = vs') (hd : decode cd pc = .ok (.iastore, 1)) (hp : pc' = pc + 1)
    (hr : ∀ T' h', Stand p l e R s m args below meth c T' (locs ++ [⟨a, i⟩]) cells slots → T'.heap = h' → Wr h h' a i (.int x) → Arv Z h' a k .int z vs' dv → G (T'.setTop (mkF m pc' Ls st))) : G (T.setTop (mkF m pc Ls (.int x :: .int j :: .ref a :: st))) := by
  subst hp hs
  obtain ⟨cl, A, q1, S, q3, H, F⟩ := F
  obtain ⟨T', h', X', e', W', st'⟩ := stI X K.2.1 K.2.2.2.2.2.1 eT A (j := j) (x := x) (ow_in S J hi) (g := mkF m pc Ls (.int x :: .int j :: .ref a :: st)) rfl rfl (hb K.2.2.1 hd)
  have V := Arv.set A q1 S q3 H F (rfl) W' i J.2 hi'
  rw [J.2] at X' W'
  exact K.1 _ _ st' (hr T' h' X' e' W' V)
theorem ow_bastore (K : ow_K p e below s m meth c Z own cd mx rt nm G) (X : Stand p l e R s m args below meth c T locs cells slots) (eT : T.heap = h) {a : Addr} {k : ClassId} {z j : Int32} {vs : List Value} {dv : Value} {x : Int32} (F : Arv Z h a k .byte z vs dv) (i : Nat) (vs' : List Value) (J : ow_Ix j i) (hi : i < z.toNatClampNeg) (hi' : i < vs.length) (hs : vs.set i (.int (nar .byte x)) = vs') (hd : decode cd pc = .ok (.bastore, 1)) (hp : pc' = pc + 1)
    (hr : ∀ T' h', Stand p l e R s m args below meth c T' (locs ++ [⟨a, i⟩]) cells slots → T'.heap = h' → Wr h h' a i (.int (nar .byte x)) → Arv Z h' a k .byte z vs' dv → G (T'.setTop (mkF m pc' Ls st))) : G (T.setTop (mkF m pc Ls (.int x :: .int j :: .ref a :: st))) := by
  subst hp hs
  obtain ⟨cl, A, q1, S, q3, H, F⟩ := F
  obtain ⟨T', h', X', e', W', st'⟩ := stB X K.2.1 K.2.2.2.2.2.1 eT A (j := j) (x := x) (ow_in S J hi) (g := mkF m pc Ls (.int x :: .int j :: .ref a :: st)) rfl rfl (hb K.2.2.1 hd)
  have V := Arv.set A q1 S q3 H F (fits_nar_byte x) W' i J.2 hi'
  rw [J.2] at X' W'
  exact K.1 _ _ st' (hr T' h' X' e' W' V)
theorem ow_lastore (K : ow_K p e below s m meth c Z own cd mx rt nm G) (X : Stand p l e R s m args below meth c T locs cells slots) (eT : T.heap = h) {a : Addr} {k : ClassId} {z j : Int32} {vs : List Value} {dv : Value} {x : Int64} (F : Arv Z h a k .long z vs dv) (i : Nat) (vs' : List Value) (J : ow_Ix j i) (hi : i < z.toNatClampNeg) (hi' : i < vs.length) (hs : vs.set i (.long x) = vs') (hd : decode cd pc = .ok (.lastore, 1)) (hp : pc' = pc + 1)
    (hr : ∀ T' h', Stand p l e R s m args below meth c T' (locs ++ [⟨a, i⟩]) cells slots → T'.heap = h' → Wr h h' a i (.long x) → Arv Z h' a k .long z vs' dv → G (T'.setTop (mkF m pc' Ls st))) : G (T.setTop (mkF m pc Ls (.long x :: .int j :: .ref a :: st))) := by
  subst hp hs
  obtain ⟨cl, A, q1, S, q3, H, F⟩ := F
  obtain ⟨T', h', X', e', W', st'⟩ := stJ X K.2.1 K.2.2.2.2.2.1 eT A (j := j) (x := x) (ow_in S J hi) (g := mkF m pc Ls (.long x :: .int j :: .ref a :: st)) rfl rfl (hb K.2.2.1 hd)
  have V := Arv.set A q1 S q3 H F (rfl) W' i J.2 hi'
  rw [J.2] at X' W'
  exact K.1 _ _ st' (hr T' h' X' e' W' V)
theorem ow_newP (K : ow_K p e below s m meth c Z own cd mx rt nm G) (X : Stand p l e R s m args below meth c T locs cells slots) (eT : T.heap = h) {aty : ArrayType} {n : Int32} (w : (Jvm.Cond.arrayClass (newarray.typeOf aty)).before a0 Z = true) (hn : ¬ n < 0) (cap : Nat) (hcap : n.toNatClampNeg ≤ cap) (hbb : cap * 8 ≤ 536870912) (hc : cells + 1 ≤ R.cells) (hl : slots + cap ≤ R.slots) (hd : decode cd pc = .ok (.newarray aty, 2)) (hp : pc' = pc + 2)
    (hr : ∀ T' h' k a, Stand p l e R s m args below meth c T' locs (cells + 1) (slots + cap) → T'.heap = h' → Ext h h' → a = h.size → Arv Z h' a k (newarray.typeOf aty) n [] (defaultValue (newarray.typeOf aty)) → G (T'.setTop (mkF m pc' Ls (.ref a :: st)))) : G (T.setTop (mkF m pc Ls (.int n :: st))) := by
  subst hp
  obtain ⟨T', h', k, X', e', E, A, st'⟩ := newP X K.2.1 K.2.2.2.2.2.1 w eT (g := mkF m pc Ls (.int n :: st)) rfl (hb K.2.2.1 hd) rfl hn hcap hbb hc hl
  exact K.1 _ _ st' (hr T' h' k _ X' e' E rfl (Arv.new A hn))
theorem ow_newO (K : ow_K p e below s m meth c Z own cd mx rt nm G) (X : Stand p l e R s m args below meth c T locs cells slots) (eT : T.heap = h) {C : String} {i n : Nat} (w : (Jvm.Cond.classLink own i C).before a0 Z = true) (wi : (Jvm.Cond.instantiable C n).before a0 Z = true) (wz : (Jvm.Cond.initialized C).before a0 Z = true) (hc : cells + 1 ≤ R.cells) (hl : slots + n ≤ R.slots) (hd : decode cd pc = .ok (.new i, 3)) (hp : pc' = pc + 3)
    (hr : ∀ T' h' a, Stand p l e R s m args below meth c T' locs (cells + 1) (slots + n) → T'.heap = h' → Ext h h' → a = h.size → Exa Z h' a C → (∀ {O nm d : String} {ty : FieldType}, Laid Z a0 C O nm d → parseFieldDescriptor d = some ty → Fld Z h' a O nm d (defaultValue ty)) → G (T'.setTop (mkF m pc' Ls (.ref a :: st)))) : G (T.setTop (mkF m pc Ls st)) := by
  subst hp
  obtain ⟨T', h', X', e', E, A, D, -, st'⟩ := newO X K.2.1 K.2.2.2.2.2.1 K.2.2.2.2.1 w wi wz eT (g := mkF m pc Ls st) rfl (hb K.2.2.1 hd) hc hl
  exact K.1 _ _ st' (hr T' h' _ X' e' E rfl A D)
theorem ow_getF (K : ow_K p e below s m meth c Z own cd mx rt nm G) (X : Stand p l e R s m args below meth c T locs cells slots) (eT : T.heap = h) {C n d : String} {i : Nat} {a : Addr} {v : Value} (w : (Jvm.Cond.fieldLink own i C n d).before a0 Z = true) (F : Fld Z h a C n d v) (hd : decode cd pc = .ok (.getfield i, 3)) (hp : pc' = pc + 3)
    (hr : ∀ T', Stand p l e R s m args below meth c T' locs cells slots → T'.heap = h → G (T'.setTop (mkF m pc' Ls (v :: st)))) : G (T.setTop (mkF m pc Ls (.ref a :: st))) := by
  subst hp
  obtain ⟨T', X', e', st'⟩ := getF X K.2.1 K.2.2.2.2.2.1 K.2.2.2.2.1 (host := "") (Or.inl w) Via.refl eT F (g := mkF m pc Ls (.ref a :: st)) rfl rfl (hb K.2.2.1 hd)
  exact K.1 _ _ st' (hr T' X' e')
theorem ow_putF (K : ow_K p e below s m meth c Z own cd mx rt nm G) (X : Stand p l e R s m args below meth c T locs cells slots) (eT : T.heap = h) {C n d : String} {i kk : Nat} {a : Addr} {v old : Value} (ty : FieldType) (w : (Jvm.Cond.fieldLink own i C n d).before a0 Z = true) (F : Fld Z h a C n d old) (E : Exa Z h a C) (L : (Jvm.Cond.lays C C n d).before a0 Z = true ∨ ((Jvm.Cond.laysFinal C C n d).before a0 Z = true ∧ own = C ∧ nm = "<init>")) (wi : (Jvm.Cond.instantiable C kk).before a0 Z = true) (hty : parseFieldDescriptor d = some ty) (hn : narrow ty v = v) (hf : fits ty v = true) (hd : decode cd pc = .ok (.putfield i, 3)) (hp : pc' = pc + 3)
    (hr : ∀ T' h', Stand p l e R s m args below meth c T' (locs ++ [⟨a, Jvm.RoadKit.slotOf Z C n d⟩]) cells slots → T'.heap = h' → Wr h h' a (Jvm.RoadKit.slotOf Z C n d) v → Fld Z h' a C n d v → Exa Z h' a C → G (T'.setTop (mkF m pc' Ls st))) : G (T.setTop (mkF m pc Ls (v :: .ref a :: st))) := by
  subst hp
  obtain ⟨T', h', X', e', W, st'⟩ := putF X K.2.1 K.2.2.2.2.2.1 K.2.2.2.2.1 (host := "") (Or.inl w) Via.refl eT F E (L.imp id fun q => ⟨q.1, q.2.1, K.2.2.2.2.2.2.2.2.trans q.2.2⟩) wi hty hn hf (g := mkF m pc Ls (v :: .ref a :: st)) rfl rfl (hb K.2.2.1 hd)
  exact K.1 _ _ st' (hr T' h' X' e' W (F.same W) (E.wr W))
theorem ow_initO (K : ow_K p e below s m meth c Z own cd mx rt nm G) (X : Stand p l e R s m args below meth c T locs cells slots) (eT : T.heap = h) {i : Nat} {a : Addr} (w1 : (Jvm.Cond.methodLink own i Lib.objectInit).before a0 Z = true) (w2 : (Jvm.Cond.instanceMethod Lib.objectInit).before a0 Z = true) (w3 : (Jvm.Cond.code Lib.objectInit ⟨#[0xb1]⟩ 1 none).before a0 Z = true) (hz : Ls.size = mx) (W : Nat) (hW : (st.map fun v => v.category).sum ≤ W) (hf : 1 ≤ R.frames) (hl : W + 12 ≤ R.locals) (hd : decode cd pc = .ok (.invokespecial i, 3)) (hp : pc' = pc + 3)
    (hr : ∀ T', Stand p l e R s m args below meth c T' locs cells slots → T'.heap = h → G (T'.setTop (mkF m pc' Ls st))) : G (T.setTop (mkF m pc Ls (.ref a :: st))) := by
  subst hp
  obtain ⟨T', X', e', st'⟩ := initO X K.2.1 K.2.2.2.2.2.1 K.2.2.2.2.1 w1 w2 w3 eT (g := mkF m pc Ls (.ref a :: st)) rfl (hz.trans K.2.2.2.1.symm) rfl (hb K.2.2.1 hd) hf (W := W) (by show 2 * 0 + _ ≤ _; omega) hl
  exact K.1 _ _ st' (hr T' X' e')
theorem ow_callS (K : ow_K p e below s m meth c Z own cd mx rt nm G) (X : Stand p l e R s m args below meth c T locs cells slots) (eT : T.heap = h) {y : MethodName} {i : Nat} {bytes : ByteArray} {maxL : Nat} {rt' : Option FieldType} {rm : Room} {as : Array Value} {Q : Option Value → Heap → List Loc → Prop} (hM : MetFree l y (head1 [Jvm.Cond.code y bytes maxL rt'] rm) (fun a U => a = as ∧ Z.Warmed39 U.vm ∧ U.heap = h) (fun _ _ _ _ _ => True) (fun _ U o U' => ∃ v L, o = .returned v ∧ Q v U'.heap L ∧ FrameEnd U o U' L rm.cells rm.slots)) (wl : (Jvm.Cond.methodLink own i y).before a0 Z = true) (ws : (Jvm.Cond.static y).before a0 Z = true) (wi : (Jvm.Cond.initialized y.cls).before a0 Z = true) (wc : (Jvm.Cond.code y bytes maxL rt').before a0 Z = true) (hy : y.cls ≠ "java/lang/invoke/MethodHandle" ∧ y.cls ≠ "java/lang/invoke/VarHandle") (W : Nat) (hW : (st.map fun v => v.category).sum ≤ W) (hf : rm.frames + 1 ≤ R.frames) (hl : W + (maxL + 11) + rm.locals ≤ R.locals) (hc : cells + rm.cells ≤ R.cells) (hs : slots + rm.slots ≤ R.slots) (hz : Ls.size = mx) {full : List Value} (argsL : List Value) (has : argsL.toArray = as) (hlen : ∀ sig, parseMethodDescriptor y.desc = some sig → argsL.length = sig.parameters.length) (hst : full = argsL.reverse ++ st) (hd : decode cd pc = .ok (.invokestatic i, 3)) (hp : pc' = pc + 3)
    (hr : ∀ v T' L, Stand p l e R s m args below meth c T' (locs ++ L) (cells + rm.cells) (slots + rm.slots) → Q v T'.heap L → G (T'.setTop (mkF m pc' Ls (v.toList ++ st)))) : G (T.setTop (mkF m pc Ls full)) := by
  subst hp has
  obtain ⟨v, vm₁, ⟨T', L', c', s'⟩, -, X', ⟨L, hQ, l1, l2, l3⟩, st'⟩ := Jvm.LawKit.callS X K.2.1 (y := y) K.2.2.2.2.1 (mvT K.2.2.2.2.2.1 wl) (mvT K.2.2.2.2.2.1 ws) (mvT K.2.2.2.2.2.1 wi) (mvT K.2.2.2.2.2.1 wc) hy (backOf (W := W) hM K.2.2.2.2.2.1 wc wi hf hl) (g := mkF m pc Ls full) rfl (hz.trans K.2.2.2.1.symm) (argsL := argsL) (rest := st) hlen hst (by show 2 * 0 + _ ≤ _; omega) (hb K.2.2.1 hd) (fun _ _ => ⟨rfl, eT, hc, hs⟩)
  dsimp only [Pt.U, Pt.locs, Pt.cells, Pt.slots] at X' l1 l2 l3 st' hQ
  subst l1 l2 l3
  exact K.1 _ _ st' (hr v T' L X' hQ)
theorem ow_callP (K : ow_K p e below s m meth c Z own cd mx rt nm G) (X : Stand p l e R s m args below meth c T locs cells slots) (eT : T.heap = h) {y : MethodName} {i : Nat} {bytes : ByteArray} {maxL : Nat}  {rm : Room} {as : Array Value} {Q : Option Value → Heap → List Loc → Prop} {a : Addr} (hM : MetFree l y (head1 [Jvm.Cond.code y bytes maxL none] rm) (fun a U => a = as ∧ Z.Warmed39 U.vm ∧ U.heap = h) (fun _ _ _ _ _ => True) (fun _ U o U' => ∃ v L, o = .returned v ∧ Q v U'.heap L ∧ FrameEnd U o U' L rm.cells rm.slots)) (hn : y.name = "<init>") (wl : (Jvm.Cond.methodLink own i y).before a0 Z = true) (ws : (Jvm.Cond.instanceMethod y).before a0 Z = true) (wi : (Jvm.Cond.initialized y.cls).before a0 Z = true) (wc : (Jvm.Cond.code y bytes maxL none).before a0 Z = true) (hy : y.cls ≠ "java/lang/invoke/MethodHandle" ∧ y.cls ≠ "java/lang/invoke/VarHandle") (W : Nat) (hW : (st.map fun v => v.category).sum ≤ W) (hf : rm.frames + 1 ≤ R.frames) (hl : W + (maxL + 11) + rm.locals ≤ R.locals) (hc : cells + rm.cells ≤ R.cells) (hs : slots + rm.slots ≤ R.slots) (hz : Ls.size = mx) {full : List Value} (argsL : List Value) (has : (.ref a :: argsL).toArray = as) (hlen : ∀ sig, parseMethodDescriptor y.desc = some sig → argsL.length = sig.parameters.length) (hst : full = argsL.reverse ++ .ref a :: st) (hd : decode cd pc = .ok (.invokespecial i, 3)) (hp : pc' = pc + 3)
    (hr : ∀ v T' L, Stand p l e R s m args below meth c T' (locs ++ L) (cells + rm.cells) (slots + rm.slots) → Q v T'.heap L → G (T'.setTop (mkF m pc' Ls (v.toList ++ st)))) : G (T.setTop (mkF m pc Ls full)) := by
  subst hp has
  obtain ⟨v, vm₁, ⟨T', L', c', s'⟩, -, X', ⟨L, hQ, l1, l2, l3⟩, st'⟩ := X.specialBack K.2.1 (y := y) hn K.2.2.2.2.1 (mvT K.2.2.2.2.2.1 wl) (mvT K.2.2.2.2.2.1 ws) (mvT K.2.2.2.2.2.1 wc) hy (backOf (W := W) hM K.2.2.2.2.2.1 wc wi hf hl) (g := mkF m pc Ls full) rfl (hz.trans K.2.2.2.1.symm) (Steps.refl _) (a := a) (argsL := argsL) (rest := st) hlen hst (by show 2 * 0 + _ ≤ _; omega) (hb K.2.2.1 hd) (fun _ _ => ⟨rfl, eT, hc, hs⟩)
  dsimp only [Pt.U, Pt.locs, Pt.cells, Pt.slots] at X' l1 l2 l3 st' hQ
  subst l1 l2 l3
  exact K.1 _ _ (fun t q => st'.trans q) (hr v T' L X' hQ)
theorem ow_callV (K : ow_K p e below s m meth c Z own cd mx rt nm G) (X : Stand p l e R s m args below meth c T locs cells slots) (eT : T.heap = h) {y : MethodName} {i : Nat} {bytes : ByteArray} {maxL : Nat} {rt' : Option FieldType} {rm : Room} {as : Array Value} {Q : Option Value → Heap → List Loc → Prop} {a : Addr} (hM : MetFree l y (head1 [Jvm.Cond.code y bytes maxL rt'] rm) (fun a U => a = as ∧ Z.Warmed39 U.vm ∧ U.heap = h) (fun _ _ _ _ _ => True) (fun _ U o U' => ∃ v L, o = .returned v ∧ Q v U'.heap L ∧ FrameEnd U o U' L rm.cells rm.slots)) (E : Exa Z h a y.cls) (wl : (Jvm.Cond.methodLink own i y).before a0 Z = true) (wd : (Jvm.Cond.declares y).before a0 Z = true) (wsel : (Jvm.Cond.selects y.cls y y).before a0 Z = true) (ws : (Jvm.Cond.instanceMethod y).before a0 Z = true) (wi : (Jvm.Cond.initialized y.cls).before a0 Z = true) (wc : (Jvm.Cond.code y bytes maxL rt').before a0 Z = true) (hy : y.cls ≠ "java/lang/invoke/MethodHandle" ∧ y.cls ≠ "java/lang/invoke/VarHandle") (W : Nat) (hW : (st.map fun v => v.category).sum ≤ W) (hf : rm.frames + 1 ≤ R.frames) (hl : W + (maxL + 11) + rm.locals ≤ R.locals) (hc : cells + rm.cells ≤ R.cells) (hs : slots + rm.slots ≤ R.slots) (hz : Ls.size = mx) {full : List Value} (argsL : List Value) (has : (.ref a :: argsL).toArray = as) (hlen : ∀ sig, parseMethodDescriptor y.desc = some sig → argsL.length = sig.parameters.length) (hst : full = argsL.reverse ++ .ref a :: st) (hd : decode cd pc = .ok (.invokevirtual i, 3)) (hp : pc' = pc + 3)
    (hr : ∀ v T' L, Stand p l e R s m args below meth c T' (locs ++ L) (cells + rm.cells) (slots + rm.slots) → Q v T'.heap L → G (T'.setTop (mkF m pc' Ls (v.toList ++ st)))) : G (T.setTop (mkF m pc Ls full)) := by
  subst hp has
  obtain ⟨cq, kq, qa, qb, qc⟩ := isOf K.2.2.2.2.2.1 eT E
  obtain ⟨v, vm₁, ⟨T', L', c', s'⟩, -, X', ⟨L, hQ, l1, l2, l3⟩, st'⟩ := X.virtualBack K.2.1 (y := y) (z := y) K.2.2.2.2.1 (mvT K.2.2.2.2.2.1 wl) (mvT K.2.2.2.2.2.1 wd) (notFace_of_selects (args := #[]) (mvT K.2.2.2.2.2.1 wsel)) (mvT K.2.2.2.2.2.1 wsel) (mvT K.2.2.2.2.2.1 ws) hy (backOf (W := W) hM K.2.2.2.2.2.1 wc wi hf hl) qa qc (g := mkF m pc Ls full) rfl (hz.trans K.2.2.2.1.symm) (Steps.refl _) (argsL := argsL) (rest := st) hlen hst (by show 2 * 0 + _ ≤ _; omega) (hb K.2.2.1 hd) (fun _ _ => ⟨rfl, eT, hc, hs⟩)
  dsimp only [Pt.U, Pt.locs, Pt.cells, Pt.slots] at X' l1 l2 l3 st' hQ
  subst l1 l2 l3
  exact K.1 _ _ (fun t q => st'.trans q) (hr v T' L X' hQ)
theorem ow_retI {Q : Option Value → Heap → List Loc → Prop} {ce sl : Nat} (K : ow_K p e below s m meth c Z own cd mx rt nm (ow_Gl p e below s Q ce sl)) (X : Stand p l e R s m args below meth c T locs cells slots) (t : FieldType) {v : Int32} (hrt : rt = some t) (hn : narrow t (.int v) = .int v) (hti : t = .int ∨ t = .boolean ∨ t = .byte ∨ t = .char ∨ t = .short) (hd : decode cd pc = .ok (.ireturn, 1)) (hQ : Q (some (.int v)) T.heap locs) (hc : cells ≤ ce) (hs : slots ≤ sl) : ow_Gl p e below s Q ce sl (T.setTop (mkF m pc Ls [.int v])) := by
  obtain ⟨fs, hr, hrun, hended, hW, hsame⟩ := X.leave (v := some (.int v)) (fun h => by rw [K.2.2.2.2.2.2.1, hrt] at h; cases h) K.2.2.2.2.2.2.2.1
  exact ⟨_, _, X.ireturnOut K.2.1 (K.2.2.2.2.2.2.1.trans hrt) hn hti (hb K.2.2.1 hd) hr, hrun, hended, _, _, rfl, hQ, ⟨_, rfl⟩, hW, hsame.mono hc hs⟩
theorem ow_retJ {Q : Option Value → Heap → List Loc → Prop} {ce sl : Nat} (K : ow_K p e below s m meth c Z own cd mx rt nm (ow_Gl p e below s Q ce sl)) (X : Stand p l e R s m args below meth c T locs cells slots) {v : Int64} (hrt : rt = some .long) (hd : decode cd pc = .ok (.lreturn, 1)) (hQ : Q (some (.long v)) T.heap locs) (hc : cells ≤ ce) (hs : slots ≤ sl) : ow_Gl p e below s Q ce sl (T.setTop (mkF m pc Ls [.long v])) := by
  obtain ⟨fs, hr, hrun, hended, hW, hsame⟩ := X.leave (v := some (.long v)) (fun h => by rw [K.2.2.2.2.2.2.1, hrt] at h; cases h) K.2.2.2.2.2.2.2.1
  exact ⟨_, _, X.lreturnOut K.2.1 (K.2.2.2.2.2.2.1.trans hrt) (hb K.2.2.1 hd) hr, hrun, hended, _, _, rfl, hQ, ⟨_, rfl⟩, hW, hsame.mono hc hs⟩
theorem ow_retA {Q : Option Value → Heap → List Loc → Prop} {ce sl : Nat} (K : ow_K p e below s m meth c Z own cd mx rt nm (ow_Gl p e below s Q ce sl)) (X : Stand p l e R s m args below meth c T locs cells slots) (t : FieldType) {v : Addr} (hrt : rt = some t) (ht : t.isReference = true) (hd : decode cd pc = .ok (.areturn, 1)) (hQ : Q (some (.ref v)) T.heap locs) (hc : cells ≤ ce) (hs : slots ≤ sl) : ow_Gl p e below s Q ce sl (T.setTop (mkF m pc Ls [.ref v])) := by
  obtain ⟨fs, hr, hrun, hended, hW, hsame⟩ := X.leave (v := some (.ref v)) (fun h => by rw [K.2.2.2.2.2.2.1, hrt] at h; cases h) K.2.2.2.2.2.2.2.1
  exact ⟨_, _, X.areturnOut K.2.1 rfl (K.2.2.2.2.2.2.1.trans hrt) ht (hb K.2.2.1 hd) hr, hrun, hended, _, _, rfl, hQ, ⟨_, rfl⟩, hW, hsame.mono hc hs⟩
theorem ow_ret {Q : Option Value → Heap → List Loc → Prop} {ce sl : Nat} (K : ow_K p e below s m meth c Z own cd mx rt nm (ow_Gl p e below s Q ce sl)) (X : Stand p l e R s m args below meth c T locs cells slots) (hrt : rt = none) (hd : decode cd pc = .ok (.return_, 1)) (hQ : Q none T.heap locs) (hc : cells ≤ ce) (hs : slots ≤ sl) : ow_Gl p e below s Q ce sl (T.setTop (mkF m pc Ls [])) := by
  obtain ⟨fs, hr, hrun, hended, hW, hsame⟩ := X.leave (v := none) (fun _ => rfl) K.2.2.2.2.2.2.2.1
  exact ⟨_, _, X.returnOut K.2.1 (K.2.2.2.2.2.2.1.trans hrt) (hb K.2.2.1 hd) hr, hrun, hended, _, _, rfl, hQ, ⟨_, rfl⟩, hW, hsame.mono hc hs⟩
theorem ow_selPriv {s : State} {args : Array Value} {y y' : MethodName} (hc : y'.cls = y.cls) (wsel : (Jvm.Cond.selects y'.cls y' y').before args s = true) (hpriv : (Jvm.Cond.privateMethod y).before args s = true) (hinst : (Jvm.Cond.instanceMethod y).before args s = true) (hy : y.cls ≠ "java/lang/invoke/MethodHandle" ∧ y.cls ≠ "java/lang/invoke/VarHandle") : (Jvm.Cond.selects y.cls y y).before args s = true := by
  obtain ⟨_, _, m, -, -, h3, -, k, h5, h6⟩ := Cond.selects_spec wsel
  exact selects_self_of_private (c := m.cls) (k := k) (hc ▸ findClass_of_methodNamed h3) h5 h6 (Cond.privateMethod_at hpriv) hinst hy
theorem ow_callR (K : ow_K p e below s m meth c Z own cd mx rt nm G) (X : Stand p l e R s m args below meth c T locs cells slots) (eT : T.heap = h) {y : MethodName} {i : Nat} {bytes : ByteArray} {maxL : Nat} {rt' : Option FieldType} {rm : Room} {as : Array Value} {Q : Option Value → Heap → List Loc → Prop} {y' : MethodName} {a : Addr} (hM : MetFree l y (head1 [Jvm.Cond.code y bytes maxL rt'] rm) (fun a U => a = as ∧ Z.Warmed39 U.vm ∧ U.heap = h) (fun _ _ _ _ _ => True) (fun _ U o U' => ∃ v L, o = .returned v ∧ Q v U'.heap L ∧ FrameEnd U o U' L rm.cells rm.slots)) (E : Exa Z h a y.cls) (hcl : y'.cls = y.cls) (wsel : (Jvm.Cond.selects y'.cls y' y').before a0 Z = true) (wp : (Jvm.Cond.privateMethod y).before a0 Z = true) (wl : (Jvm.Cond.methodLink own i y).before a0 Z = true) (ws : (Jvm.Cond.instanceMethod y).before a0 Z = true) (wi : (Jvm.Cond.initialized y.cls).before a0 Z = true) (wc : (Jvm.Cond.code y bytes maxL rt').before a0 Z = true) (hy : y.cls ≠ "java/lang/invoke/MethodHandle" ∧ y.cls ≠ "java/lang/invoke/VarHandle") (W : Nat) (hW : (st.map fun v => v.category).sum ≤ W) (hf : rm.frames + 1 ≤ R.frames) (hl : W + (maxL + 11) + rm.locals ≤ R.locals) (hc : cells + rm.cells ≤ R.cells) (hs : slots + rm.slots ≤ R.slots) (hz : Ls.size = mx) {full : List Value} (argsL : List Value) (has : (.ref a :: argsL).toArray = as) (hlen : ∀ sig, parseMethodDescriptor y.desc = some sig → argsL.length = sig.parameters.length) (hst : full = argsL.reverse ++ .ref a :: st) (hd : decode cd pc = .ok (.invokevirtual i, 3)) (hp : pc' = pc + 3)
    (hr : ∀ v T' L, Stand p l e R s m args below meth c T' (locs ++ L) (cells + rm.cells) (slots + rm.slots) → Q v T'.heap L → G (T'.setTop (mkF m pc' Ls (v.toList ++ st)))) : G (T.setTop (mkF m pc Ls full)) := by
  subst hp has
  obtain ⟨cq, q1, q2⟩ := E.cell
  have hpv : (Jvm.Cond.privateMethod y).before args s = true := mvP K.2.2.2.2.2.1 wp
  have hin : (Jvm.Cond.instanceMethod y).before args s = true := mvT K.2.2.2.2.2.1 ws
  obtain ⟨v, vm₁, ⟨T', L', c', s'⟩, -, X', ⟨L, hQ, l1, l2, l3⟩, st'⟩ := X.privateBack K.2.1 (y := y) K.2.2.2.2.1 (mvT K.2.2.2.2.2.1 wl) hin (ow_selPriv hcl (mvT K.2.2.2.2.2.1 wsel) hpv hin hy) (Cond.privateMethod_at hpv) (mvT K.2.2.2.2.2.1 wc) hy (backOf (W := W) hM K.2.2.2.2.2.1 wc wi hf hl) (g := mkF m pc Ls full) rfl (hz.trans K.2.2.2.1.symm) (Steps.refl _) (a := a) (by rw [eT]; exact q1) q2 (argsL := argsL) (rest := st) hlen hst (by show 2 * 0 + _ ≤ _; omega) (hb K.2.2.1 hd) (fun _ _ => ⟨rfl, eT, hc, hs⟩)
  dsimp only [Pt.U, Pt.locs, Pt.cells, Pt.slots] at X' l1 l2 l3 st' hQ
  subst l1 l2 l3
  exact K.1 _ _ (fun t q => st'.trans q) (hr v T' L X' hQ)
theorem ow_newPE (K : ow_K p e below s m meth c Z own cd mx rt nm G) (X : Stand p l e R s m args below meth c T locs cells slots) (eT : T.heap = h) {aty : ArrayType} {n : Int32} {C : String} (hC : "[" ++ (newarray.typeOf aty).toString = C) (w : (Jvm.Cond.arrayClass (newarray.typeOf aty)).before a0 Z = true) (hn : ¬ n < 0) (cap : Nat) (hcap : n.toNatClampNeg ≤ cap) (hbb : cap * 8 ≤ 536870912) (hc : cells + 1 ≤ R.cells) (hl : slots + cap ≤ R.slots) (hd : decode cd pc = .ok (.newarray aty, 2)) (hp : pc' = pc + 2)
    (hr : ∀ T' h' k a, Stand p l e R s m args below meth c T' locs (cells + 1) (slots + cap) → T'.heap = h' → Ext h h' → a = h.size → Arv Z h' a k (newarray.typeOf aty) n [] (defaultValue (newarray.typeOf aty)) → Exa Z h' a C → G (T'.setTop (mkF m pc' Ls (.ref a :: st)))) : G (T.setTop (mkF m pc Ls (.int n :: st))) := by
  have hcb : componentBytes (newarray.typeOf aty) ≤ 8 := by cases aty <;> decide
  obtain ⟨cA, kA, comp, h1, h2, h3, X', st'⟩ := X.newarrayPrim K.2.1 (mvA K.2.2.2.2.2.1 w) (g := mkF m pc Ls (.int n :: st)) rfl (hb K.2.2.1 hd) rfl hn (Nat.le_trans (Nat.mul_le_mul hcap hcb) hbb) hc (by omega)
  subst hp eT hC
  rw [K.2.2.2.2.2.1.alike.findClass] at h1
  obtain ⟨kZ, z1, -⟩ := Vm.findClass_spec h1
  obtain ⟨k', z2, z3⟩ := K.2.2.2.2.2.1.alike.2.2 _ _ z1
  cases h2.symm.trans z2
  have hk : kZ.kind = .array comp (newarray.typeOf aty) := by rw [← h3, z3]
  have hN : (T.heap.push (newA cA (newarray.typeOf aty) n))[T.heap.size]? = some (newA cA (newarray.typeOf aty) n) := by simp
  have A : Arr Z (T.heap.push (newA cA (newarray.typeOf aty) n)) T.heap.size (newA cA (newarray.typeOf aty) n) (newarray.typeOf aty) := ⟨hN, ⟨by simp [newA], kZ, z1, comp, hk⟩, by simp [newA]⟩
  refine K.1 _ _ st' (hr _ _ cA _ (X'.more (Nat.le_refl _) (by omega)) rfl ⟨by show T.heap.size ≤ (T.heap.push _).size; simp, fun a c h => ?_⟩ rfl (Arv.new A hn) ⟨_, kZ, hN, h1, z1, rfl, fun q => by rw [hk] at q; cases q⟩)
  show (T.heap.push _)[a]? = _
  rw [Array.getElem?_push_lt (Array.getElem?_eq_some_iff.mp h).1]; exact (Array.getElem?_eq_getElem _).symm.trans h
theorem ow_copy (K : ow_K p e below s m meth c Z own cd mx rt nm G) (X : Stand p l e R s m args below meth c T locs cells slots) (eT : T.heap = h) {i : Nat} (w1 : (Jvm.Cond.methodLink own i Jvm.Stand.acN).before a0 Z = true) (w2 : (Jvm.Cond.native Jvm.Stand.acN).before a0 Z = true) (w3 : (Jvm.Cond.static Jvm.Stand.acN).before a0 Z = true) (w4 : (Jvm.Cond.initialized "java/lang/System").before a0 Z = true) {a b : Addr} {k k' : ClassId} {ty : FieldType} {z z' sp dp nn : Int32} {vs vd us : List Value} {dv dd : Value} (A : Arv Z h a k ty z vs dv) (B : Arv Z h b k' ty z' vd dd) (hty : refKind ty = false) (h1 : ¬ sp < 0) (h2 : ¬ dp < 0) (h3 : ¬ nn < 0) (h4 : sp.toNatClampNeg + nn.toNatClampNeg ≤ z.toNatClampNeg) (h5 : dp.toNatClampNeg + nn.toNatClampNeg ≤ z'.toNatClampNeg) (hus : us = (List.range nn.toNatClampNeg).map fun i => vs.getD (sp.toNatClampNeg + i) dv) (hll : dp.toNatClampNeg + nn.toNatClampNeg ≤ vd.length) {n0 : Nat} (N : Fr n0 locs) (ge : n0 ≤ b) (hz : Ls.size = mx) (W : Nat) (hW : (st.map fun v => v.category).sum ≤ W) (hf : 1 ≤ R.frames) (hl : W + (nativeFrameWords "java/lang/System" "arraycopy" 5 + 11) ≤ R.locals) (hd : decode cd pc = .ok (.invokestatic i, 3)) (hp : pc' = pc + 3)
    (hr : ∀ T' h' L, Stand p l e R s m args below meth c T' L cells slots → T'.heap = h' → Fr n0 L → Keep h h' [b] → Arv Z h' b k' ty z' (vd.take dp.toNatClampNeg ++ us ++ vd.drop (dp.toNatClampNeg + nn.toNatClampNeg)) dd → G (T'.setTop (mkF m pc' Ls st))) : G (T.setTop (mkF m pc Ls (.int nn :: .int dp :: .ref b :: .int sp :: .ref a :: st))) := by
  subst hp
  obtain ⟨T', h', L, X', e', N', K', V', st'⟩ := cpA X K.2.1 K.2.2.2.2.2.1 K.2.2.2.2.1 w1 w2 w3 w4 eT A B (Or.inl ⟨rfl, hty⟩) h1 h2 h3 h4 h5 hus hll N ge (g := mkF m pc Ls (.int nn :: .int dp :: .ref b :: .int sp :: .ref a :: st)) rfl (hz.trans K.2.2.2.1.symm) rfl (hb K.2.2.1 hd) hf (W := W) (by show 2 * 0 + _ ≤ _; omega) hl
  exact K.1 _ _ st' (hr T' h' L X' e' N' K' V')
theorem ow_clone (K : ow_K p e below s m meth c Z own cd mx rt nm G) (X : Stand p l e R s m args below meth c T locs cells slots) (eT : T.heap = h) {i : Nat} {ad : String} (w1 : (Jvm.Cond.methodLink own i ⟨ad, "clone", "()Ljava/lang/Object;"⟩).before a0 Z = true) (w2 : (Jvm.Cond.sameMethod ad "java/lang/Object" "clone" "()Ljava/lang/Object;").before a0 Z = true) (w3 : (Jvm.Cond.native ⟨"java/lang/Object", "clone", "()Ljava/lang/Object;"⟩).before a0 Z = true) (w4 : (Jvm.Cond.instanceMethod ⟨"java/lang/Object", "clone", "()Ljava/lang/Object;"⟩).before a0 Z = true) (w5 : (Jvm.Cond.selects ad ⟨ad, "clone", "()Ljava/lang/Object;"⟩ ⟨"java/lang/Object", "clone", "()Ljava/lang/Object;"⟩).before a0 Z = true) (w6 : (Jvm.Cond.castable ad "java/lang/Cloneable").before a0 Z = true) {a : Addr} {k : ClassId} {ty : FieldType} {z : Int32} {vs : List Value} {dv : Value} (F : Arv Z h a k ty z vs dv) (E : Exa Z h a ad) (hz : Ls.size = mx) (W cap : Nat) (hW : (st.map fun v => v.category).sum ≤ W) (hf : 1 ≤ R.frames) (hl : W + 14 ≤ R.locals) (hcap : z.toNatClampNeg ≤ cap) (hc : cells + 1 ≤ R.cells) (hs : slots + cap ≤ R.slots) (hd : decode cd pc = .ok (.invokevirtual i, 3)) (hp : pc' = pc + 3)
    (hr : ∀ T' h' b, Stand p l e R s m args below meth c T' locs (cells + 1) (slots + cap) → T'.heap = h' → Ext h h' → b = h.size → Arv Z h' b k ty z vs dv → Exa Z h' b ad → G (T'.setTop (mkF m pc' Ls (.ref b :: st)))) : G (T.setTop (mkF m pc Ls (.ref a :: st))) := by
  subst hp
  obtain ⟨T', h', X', e', E', F', A', st'⟩ := cloneH X K.2.1 K.2.2.2.2.2.1 K.2.2.2.2.1 w1 w2 w3 w4 w5 w6 eT F.arh E (g := mkF m pc Ls (.ref a :: st)) rfl (hz.trans K.2.2.2.1.symm) rfl (hb K.2.2.1 hd) hf (W := W) (by show 2 * 0 + _ ≤ _; omega) hl hcap hc hs
  exact K.1 _ _ st' (hr T' h' _ X' e' E' rfl F' A')
theorem ow_cast (K : ow_K p e below s m meth c Z own cd mx rt nm G) (X : Stand p l e R s m args below meth c T locs cells slots) (eT : T.heap = h) {i : Nat} {C : String} {a : Addr} (w : (Jvm.Cond.classLink own i C).before a0 Z = true) (E : Exa Z h a C) (hd : decode cd pc = .ok (.checkcast i, 3)) (hp : pc' = pc + 3)
    (hr : ∀ T', Stand p l e R s m args below meth c T' locs cells slots → T'.heap = h → G (T'.setTop (mkF m pc' Ls (.ref a :: st)))) : G (T.setTop (mkF m pc Ls (.ref a :: st))) := by
  subst hp
  obtain ⟨T', X', e', st'⟩ := castY X K.2.1 K.2.2.2.2.2.1 K.2.2.2.2.1 w eT (Ins.self E) (g := mkF m pc Ls (.ref a :: st)) rfl rfl (hb K.2.2.1 hd)
  exact K.1 _ _ st' (hr T' X' e')
end Own

theorem own_natI {i : Nat} (hi : i < 2 ^ 31) : (Int32.ofNat i).toInt = i := Int32.toInt_ofNat_of_lt hi
theorem own_ltn {i n : Nat} (h : i < n) (hn : n < 2 ^ 31) : Int32.ofNat i < Int32.ofNat n := by
  rw [Int32.lt_iff_toInt_lt, own_natI hn, own_natI (Nat.lt_trans h hn)]; omega
theorem own_gen {i n : Nat} (h : n ≤ i) (hi : i < 2 ^ 31) : ¬ Int32.ofNat i < Int32.ofNat n := by
  rw [Int32.lt_iff_toInt_lt, own_natI hi, own_natI (Nat.lt_of_le_of_lt h hi)]; omega
theorem own_succ {i : Nat} (hi : i + 1 < 2 ^ 31) : Int32.ofNat i + 1 = Int32.ofNat (i + 1) := by
  apply Int32.toInt_inj.mp
  rw [Int32.toInt_add, own_natI hi, own_natI (Nat.lt_of_succ_lt hi)]
  have e : (1 : Int32).toInt = 1 := rfl
  rw [e]
  apply Int.bmod_eq_of_le <;> omega
theorem own_addn {i j : Nat} (hi : i + j < 2 ^ 31) : Int32.ofNat i + Int32.ofNat j = Int32.ofNat (i + j) := by
  apply Int32.toInt_inj.mp
  rw [Int32.toInt_add, own_natI hi, own_natI (by omega), own_natI (by omega)]
  apply Int.bmod_eq_of_le <;> omega
theorem own_nat_of {x : Int32} (h : ¬ x < 0) : x = Int32.ofNat x.toNatClampNeg ∧ (x.toNatClampNeg : Int) = x.toInt := by
  have e : (0 : Int32).toInt = 0 := rfl
  have a2 := x.toInt_lt
  rw [Int32.lt_iff_toInt_lt, e] at h
  have q : (x.toNatClampNeg : Int) = x.toInt := by simp only [Int32.toNatClampNeg]; omega
  refine ⟨Int32.toInt_inj.mp ?_, q⟩
  rw [own_natI (by omega)]; exact q.symm
def own_min (x y : Int32) : Int32 := if y < x then y else x
def own_max (x y : Int32) : Int32 := if x < y then y else x
theorem own_cp (vs : List Value) (m n : Nat) (hv : vs.length ≤ m) : ∀ i, vs.getD i (.int 0) = ((List.replicate n (Value.int 0)).take (0 : Int32).toNatClampNeg ++ (List.range m).map (fun i => vs.getD ((0 : Int32).toNatClampNeg + i) (.int 0)) ++ (List.replicate n (Value.int 0)).drop ((0 : Int32).toNatClampNeg + m)).getD i (.int 0) := fun i => by
  have e : (0 : Int32).toNatClampNeg = 0 := by decide
  rw [e]
  simp only [List.take_zero, List.nil_append, Nat.zero_add, List.getD_eq_getElem?_getD]
  by_cases h : i < m
  · rw [List.getElem?_append_left (by simpa using h)]; simp [h]
  · rw [List.getElem?_append_right (by simpa using h), List.getElem?_eq_none (show vs.length ≤ i by omega)]
    simp only [List.length_map, List.length_range, List.getElem?_drop, List.getElem?_replicate]
    split <;> rfl
theorem own_clamp {x : Int32} (h : 0 ≤ x.toInt) : (x.toNatClampNeg : Int) = x.toInt := by simp only [Int32.toNatClampNeg]; omega
theorem own_nneg {x : Int32} (h : 0 ≤ x.toInt) : ¬ x < 0 := by
  have e : (0 : Int32).toInt = 0 := rfl
  rw [Int32.lt_iff_toInt_lt, e]; omega
theorem own_minI (x y : Int32) : (own_min x y).toInt = if y.toInt < x.toInt then y.toInt else x.toInt := by
  unfold own_min; simp only [Int32.lt_iff_toInt_lt]; split <;> rfl
theorem own_maxI (x y : Int32) : (own_max x y).toInt = if x.toInt < y.toInt then y.toInt else x.toInt := by
  unfold own_max; simp only [Int32.lt_iff_toInt_lt]; split <;> rfl
theorem own_and31 (x : Int32) : 0 ≤ (x &&& 31).toInt ∧ (x &&& 31).toInt ≤ 31 := by
  have h1 : (x &&& 31).toBitVec = x.toBitVec &&& 31#32 := rfl
  have h2 : (x.toBitVec &&& 31#32).toNat ≤ 31 := by
    rw [BitVec.toNat_and]; exact Nat.le_trans Nat.and_le_right (by decide)
  have h3 : (x &&& 31).toInt = ((x.toBitVec &&& 31#32).toNat : Int) := by
    show ((x &&& 31).toBitVec).toInt = _
    rw [h1, BitVec.toInt_eq_toNat_of_lt]; omega
  omega
theorem own_subI {N a : Int32} (h : 0 ≤ N.toInt) (h' : N.toInt ≤ 100) (ha : 0 ≤ a.toInt) (ha' : a.toInt ≤ 100) : (N - a).toInt = N.toInt - a.toInt := by
  rw [Int32.toInt_sub]; apply Int.bmod_eq_of_le <;> omega
theorem own_ng {N a b : Int32} (h : 0 ≤ N.toInt) (h' : N.toInt ≤ 100) (ha : 0 ≤ a.toInt) (ha' : a.toInt ≤ 100) (hb : b.toInt ≤ N.toInt - a.toInt) : ¬ (N - a) < b := by
  rw [Int32.lt_iff_toInt_lt, own_subI h h' ha ha']; omega
theorem own_gr {N a b : Int32} (h : 0 ≤ N.toInt) (h' : N.toInt ≤ 100) (ha : 0 ≤ a.toInt) (ha' : a.toInt ≤ 100) (hb : (N - a) < b) : N.toInt - a.toInt < b.toInt := by
  rw [Int32.lt_iff_toInt_lt, own_subI h h' ha ha'] at hb; exact hb
theorem own_mul2 {N : Int32} (h : 0 ≤ N.toInt) (h' : N.toInt ≤ 100) : ((2 : Int32) * N).toInt = 2 * N.toInt := by
  have e : (2 : Int32).toInt = 2 := by decide
  rw [Int32.toInt_mul, e]; apply Int.bmod_eq_of_le <;> omega
theorem own_sh (x : BitVec 32) (n : Nat) (h : n + 8 ≤ 32) : (x.sshiftRight n).signExtend 8 = (x >>> n).signExtend 8 := by
  apply BitVec.eq_of_getLsbD_eq
  intro i hi
  simp only [BitVec.getLsbD_signExtend, BitVec.getLsbD_sshiftRight, BitVec.getLsbD_ushiftRight]
  have : ¬ 32 ≤ i := by omega
  simp [hi, show n + i < 32 by omega, this, show i < 32 by omega]
theorem own_shL (x : BitVec 64) (n : Nat) (h : n + 8 ≤ 64) : ((x.sshiftRight n).signExtend 32).signExtend 8 = ((x >>> n).signExtend 32).signExtend 8 := by
  apply BitVec.eq_of_getLsbD_eq
  intro i hi
  simp only [BitVec.getLsbD_signExtend, BitVec.getLsbD_sshiftRight, BitVec.getLsbD_ushiftRight]
  have : ¬ 64 ≤ i := by omega
  simp [hi, show n + i < 64 by omega, this, show i < 64 by omega, show i < 32 by omega]
theorem own_i24 (v : Int32) : (v >>> (((24 : Int32)) &&& 31)).toInt8 = (XT.ushr v 24).toInt8 := Int8.toBitVec_inj.mp (own_sh v.toBitVec 24 (by decide))
theorem own_i16 (v : Int32) : (v >>> (((16 : Int32)) &&& 31)).toInt8 = (XT.ushr v 16).toInt8 := Int8.toBitVec_inj.mp (own_sh v.toBitVec 16 (by decide))
theorem own_i8 (v : Int32) : (v >>> (((8 : Int32)) &&& 31)).toInt8 = (XT.ushr v 8).toInt8 := Int8.toBitVec_inj.mp (own_sh v.toBitVec 8 (by decide))
theorem own_l1 (v : Int64) : (v >>> (((8 : Int32)).toInt64 &&& 63)).toInt32.toInt8 = ((XT.ushrL v (8 : Int32))).toInt32.toInt8 := by
  apply Int8.toBitVec_inj.mp
  have q : ((XT.ushrL v (8 : Int32))).toBitVec = v.toBitVec >>> 8 := by
    show v.toBitVec >>> 8 = _
    rfl
  show ((v.toBitVec.sshiftRight 8).signExtend 32).signExtend 8 = ((((XT.ushrL v (8 : Int32))).toBitVec).signExtend 32).signExtend 8
  rw [q]; exact own_shL v.toBitVec 8 (by decide)
theorem own_l2 (v : Int64) : (v >>> (((16 : Int32)).toInt64 &&& 63)).toInt32.toInt8 = ((XT.ushrL (XT.ushrL v (8 : Int32)) (8 : Int32))).toInt32.toInt8 := by
  apply Int8.toBitVec_inj.mp
  have q : ((XT.ushrL (XT.ushrL v (8 : Int32)) (8 : Int32))).toBitVec = v.toBitVec >>> 16 := by
    show v.toBitVec >>> 8 >>> 8 = _
    simp only [← BitVec.shiftRight_add]
  show ((v.toBitVec.sshiftRight 16).signExtend 32).signExtend 8 = ((((XT.ushrL (XT.ushrL v (8 : Int32)) (8 : Int32))).toBitVec).signExtend 32).signExtend 8
  rw [q]; exact own_shL v.toBitVec 16 (by decide)
theorem own_l3 (v : Int64) : (v >>> (((24 : Int32)).toInt64 &&& 63)).toInt32.toInt8 = ((XT.ushrL (XT.ushrL (XT.ushrL v (8 : Int32)) (8 : Int32)) (8 : Int32))).toInt32.toInt8 := by
  apply Int8.toBitVec_inj.mp
  have q : ((XT.ushrL (XT.ushrL (XT.ushrL v (8 : Int32)) (8 : Int32)) (8 : Int32))).toBitVec = v.toBitVec >>> 24 := by
    show v.toBitVec >>> 8 >>> 8 >>> 8 = _
    simp only [← BitVec.shiftRight_add]
  show ((v.toBitVec.sshiftRight 24).signExtend 32).signExtend 8 = ((((XT.ushrL (XT.ushrL (XT.ushrL v (8 : Int32)) (8 : Int32)) (8 : Int32))).toBitVec).signExtend 32).signExtend 8
  rw [q]; exact own_shL v.toBitVec 24 (by decide)
theorem own_l4 (v : Int64) : (v >>> (((32 : Int32)).toInt64 &&& 63)).toInt32.toInt8 = ((XT.ushrL (XT.ushrL (XT.ushrL (XT.ushrL v (8 : Int32)) (8 : Int32)) (8 : Int32)) (8 : Int32))).toInt32.toInt8 := by
  apply Int8.toBitVec_inj.mp
  have q : ((XT.ushrL (XT.ushrL (XT.ushrL (XT.ushrL v (8 : Int32)) (8 : Int32)) (8 : Int32)) (8 : Int32))).toBitVec = v.toBitVec >>> 32 := by
    show v.toBitVec >>> 8 >>> 8 >>> 8 >>> 8 = _
    simp only [← BitVec.shiftRight_add]
  show ((v.toBitVec.sshiftRight 32).signExtend 32).signExtend 8 = ((((XT.ushrL (XT.ushrL (XT.ushrL (XT.ushrL v (8 : Int32)) (8 : Int32)) (8 : Int32)) (8 : Int32))).toBitVec).signExtend 32).signExtend 8
  rw [q]; exact own_shL v.toBitVec 32 (by decide)
theorem own_l5 (v : Int64) : (v >>> (((40 : Int32)).toInt64 &&& 63)).toInt32.toInt8 = ((XT.ushrL (XT.ushrL (XT.ushrL (XT.ushrL (XT.ushrL v (8 : Int32)) (8 : Int32)) (8 : Int32)) (8 : Int32)) (8 : Int32))).toInt32.toInt8 := by
  apply Int8.toBitVec_inj.mp
  have q : ((XT.ushrL (XT.ushrL (XT.ushrL (XT.ushrL (XT.ushrL v (8 : Int32)) (8 : Int32)) (8 : Int32)) (8 : Int32)) (8 : Int32))).toBitVec = v.toBitVec >>> 40 := by
    show v.toBitVec >>> 8 >>> 8 >>> 8 >>> 8 >>> 8 = _
    simp only [← BitVec.shiftRight_add]
  show ((v.toBitVec.sshiftRight 40).signExtend 32).signExtend 8 = ((((XT.ushrL (XT.ushrL (XT.ushrL (XT.ushrL (XT.ushrL v (8 : Int32)) (8 : Int32)) (8 : Int32)) (8 : Int32)) (8 : Int32))).toBitVec).signExtend 32).signExtend 8
  rw [q]; exact own_shL v.toBitVec 40 (by decide)
theorem own_l6 (v : Int64) : (v >>> (((48 : Int32)).toInt64 &&& 63)).toInt32.toInt8 = ((XT.ushrL (XT.ushrL (XT.ushrL (XT.ushrL (XT.ushrL (XT.ushrL v (8 : Int32)) (8 : Int32)) (8 : Int32)) (8 : Int32)) (8 : Int32)) (8 : Int32))).toInt32.toInt8 := by
  apply Int8.toBitVec_inj.mp
  have q : ((XT.ushrL (XT.ushrL (XT.ushrL (XT.ushrL (XT.ushrL (XT.ushrL v (8 : Int32)) (8 : Int32)) (8 : Int32)) (8 : Int32)) (8 : Int32)) (8 : Int32))).toBitVec = v.toBitVec >>> 48 := by
    show v.toBitVec >>> 8 >>> 8 >>> 8 >>> 8 >>> 8 >>> 8 = _
    simp only [← BitVec.shiftRight_add]
  show ((v.toBitVec.sshiftRight 48).signExtend 32).signExtend 8 = ((((XT.ushrL (XT.ushrL (XT.ushrL (XT.ushrL (XT.ushrL (XT.ushrL v (8 : Int32)) (8 : Int32)) (8 : Int32)) (8 : Int32)) (8 : Int32)) (8 : Int32))).toBitVec).signExtend 32).signExtend 8
  rw [q]; exact own_shL v.toBitVec 48 (by decide)
theorem own_l7 (v : Int64) : (v >>> (((56 : Int32)).toInt64 &&& 63)).toInt32.toInt8 = ((XT.ushrL (XT.ushrL (XT.ushrL (XT.ushrL (XT.ushrL (XT.ushrL (XT.ushrL v (8 : Int32)) (8 : Int32)) (8 : Int32)) (8 : Int32)) (8 : Int32)) (8 : Int32)) (8 : Int32))).toInt32.toInt8 := by
  apply Int8.toBitVec_inj.mp
  have q : ((XT.ushrL (XT.ushrL (XT.ushrL (XT.ushrL (XT.ushrL (XT.ushrL (XT.ushrL v (8 : Int32)) (8 : Int32)) (8 : Int32)) (8 : Int32)) (8 : Int32)) (8 : Int32)) (8 : Int32))).toBitVec = v.toBitVec >>> 56 := by
    show v.toBitVec >>> 8 >>> 8 >>> 8 >>> 8 >>> 8 >>> 8 >>> 8 = _
    simp only [← BitVec.shiftRight_add]
  show ((v.toBitVec.sshiftRight 56).signExtend 32).signExtend 8 = ((((XT.ushrL (XT.ushrL (XT.ushrL (XT.ushrL (XT.ushrL (XT.ushrL (XT.ushrL v (8 : Int32)) (8 : Int32)) (8 : Int32)) (8 : Int32)) (8 : Int32)) (8 : Int32)) (8 : Int32))).toBitVec).signExtend 32).signExtend 8
  rw [q]; exact own_shL v.toBitVec 56 (by decide)

theorem d1_0 : decode jdk_29_method_65_code 0 = .ok (.iload_n 0, 1) := by decide +kernel
theorem d1_1 : decode jdk_29_method_65_code 1 = .ok (.iload_n 1, 1) := by decide +kernel
theorem d1_2 : decode jdk_29_method_65_code 2 = .ok (.if_icmp .lt 7, 3) := by decide +kernel
theorem d1_5 : decode jdk_29_method_65_code 5 = .ok (.iload_n 0, 1) := by decide +kernel
theorem d1_6 : decode jdk_29_method_65_code 6 = .ok (.goto 4, 3) := by decide +kernel
theorem d1_9 : decode jdk_29_method_65_code 9 = .ok (.iload_n 1, 1) := by decide +kernel
theorem d1_10 : decode jdk_29_method_65_code 10 = .ok (.ireturn, 1) := by decide +kernel
theorem pn_1 : plainFor (⟨"java/lang/Math", "max", "(II)I"⟩ : MethodName) = true := by first | exact plainFor_of_name (by first | (simp [plainName, overriddenIn]; done) | decide +kernel) | decide +kernel
theorem pd_1 : parseMethodDescriptor "(II)I" = some ⟨[.int, .int], some .int⟩ := by decide +kernel
theorem ef_1 (m : MethodId) (x : Int32) (y : Int32) : entryFrame m #[(.int x), (.int y)] 2 = mkF m 0 #[.val (.int x), .val (.int y)] [] := by first | (simp [entryFrame, mkF, argsToLocals, Value.category]; done) | rfl
def Q1 (Z : State) (x : Int32) (y : Int32)  (h0 : Heap) (n0 : Nat) (v : Option Value) (h : Heap) (L : List Loc) : Prop := v = some (.int (own_max x y)) ∧ Fr n0 L ∧ h = h0
set_option maxRecDepth 65536 in
set_option maxHeartbeats 40000000 in
theorem rm1 (l : Launch) (Z : State) (a0 : Array Value) (hw : ∀ d ∈ tables_1, d.before a0 Z = true) (ws : List Jvm.Cond) (x : Int32) (y : Int32)  (h0 : Heap) (n0 : Nat) (Z0 : n0 ≤ h0.size)  :
    MetFree l (⟨"java/lang/Math", "max", "(II)I"⟩ : MethodName) (head1 (Jvm.Cond.code (⟨"java/lang/Math", "max", "(II)I"⟩ : MethodName) jdk_29_method_65_code 2 (some .int) :: ws) ({ frames := 0, cells := 0, slots := 0, locals := 0 } : Room)) (fun as_ U => as_ = #[(.int x), (.int y)] ∧ Z.Warmed39 U.vm ∧ U.heap = h0) (fun _ _ _ _ _ => True) (fun _ U oc U' => ∃ v L, oc = .returned v ∧ Q1 Z x y h0 n0 v U'.heap L ∧ FrameEnd U oc U' L ({ frames := 0, cells := 0, slots := 0, locals := 0 } : Room).cells ({ frames := 0, cells := 0, slots := 0, locals := 0 } : Room).slots) := by
  refine MetFree.of_bodySF pn_1 hisR ?_
  intro p e s m args below meth c s₁ Bd hml0 hP hK
  obtain ⟨rfl, hZ, hh⟩ := hP
  have K : ow_K p e below s m meth c Z "java/lang/Math" jdk_29_method_65_code 2 (some .int) "max" (ow_Gl p e below s (Q1 Z x y h0 n0) 0 0) := ⟨ow_Gl_bc, Bd.exec, Bd.bytes, hml0, findClass_of_methodNamed Bd.named, hZ, Bd.returns, Bd.notSynchronized, (name_of_methodNamed Bd.named Bd.method).1⟩
  have X0 : Stand p l e ({ frames := 0, cells := 0, slots := 0, locals := 0 } : Room) s m #[(.int x), (.int y)] below meth c s₁ [] 0 0 := Stand.of_body Bd
  have e0 : s₁.heap = h0 := by rw [← hh, Bd.state]; rfl
  have N0 := Fr.nil n0
  refine ow_entry (Q := (Q1 Z x y h0 n0)) (ce := 0) (sl := 0) (ef_1 m x y) ?_
  refine ow_iloadN K X0 (pc' := 1) x d1_0 rfl rfl ?_
  refine ow_iloadN K X0 (pc' := 2) y d1_1 rfl rfl ?_
  by_cases hc : x < y
  · refine ow_icmpY K X0 (pc' := 9) d1_2 (XT.ii_lt_t hc) (by decide) (by decide) ?_
    refine ow_iloadN K X0 (pc' := 10) y d1_9 rfl rfl ?_
    exact ow_retI K X0 .int rfl rfl (Or.inl rfl) d1_10 ⟨by rw [own_max, if_pos hc], N0, e0⟩ (by decide) (by decide)
  · refine ow_icmpN K X0 (pc' := 5) d1_2 rfl (XT.ii_lt_f hc) ?_
    refine ow_iloadN K X0 (pc' := 6) x d1_5 rfl rfl ?_
    refine ow_goto K X0 (pc' := 10) d1_6 (by decide) (by decide) ?_
    exact ow_retI K X0 .int rfl rfl (Or.inl rfl) d1_10 ⟨by rw [own_max, if_neg hc], N0, e0⟩ (by decide) (by decide)
theorem d2_0 : decode jdk_29_method_69_code 0 = .ok (.iload_n 0, 1) := by decide +kernel
theorem d2_1 : decode jdk_29_method_69_code 1 = .ok (.iload_n 1, 1) := by decide +kernel
theorem d2_2 : decode jdk_29_method_69_code 2 = .ok (.if_icmp .gt 7, 3) := by decide +kernel
theorem d2_5 : decode jdk_29_method_69_code 5 = .ok (.iload_n 0, 1) := by decide +kernel
theorem d2_6 : decode jdk_29_method_69_code 6 = .ok (.goto 4, 3) := by decide +kernel
theorem d2_9 : decode jdk_29_method_69_code 9 = .ok (.iload_n 1, 1) := by decide +kernel
theorem d2_10 : decode jdk_29_method_69_code 10 = .ok (.ireturn, 1) := by decide +kernel
theorem pn_2 : plainFor (⟨"java/lang/Math", "min", "(II)I"⟩ : MethodName) = true := by first | exact plainFor_of_name (by first | (simp [plainName, overriddenIn]; done) | decide +kernel) | decide +kernel
theorem pd_2 : parseMethodDescriptor "(II)I" = some ⟨[.int, .int], some .int⟩ := by decide +kernel
theorem ef_2 (m : MethodId) (x : Int32) (y : Int32) : entryFrame m #[(.int x), (.int y)] 2 = mkF m 0 #[.val (.int x), .val (.int y)] [] := by first | (simp [entryFrame, mkF, argsToLocals, Value.category]; done) | rfl
def Q2 (Z : State) (x : Int32) (y : Int32)  (h0 : Heap) (n0 : Nat) (v : Option Value) (h : Heap) (L : List Loc) : Prop := v = some (.int (own_min x y)) ∧ Fr n0 L ∧ h = h0
set_option maxRecDepth 65536 in
set_option maxHeartbeats 40000000 in
theorem rm2 (l : Launch) (Z : State) (a0 : Array Value) (hw : ∀ d ∈ tables_1, d.before a0 Z = true) (ws : List Jvm.Cond) (x : Int32) (y : Int32)  (h0 : Heap) (n0 : Nat) (Z0 : n0 ≤ h0.size)  :
    MetFree l (⟨"java/lang/Math", "min", "(II)I"⟩ : MethodName) (head1 (Jvm.Cond.code (⟨"java/lang/Math", "min", "(II)I"⟩ : MethodName) jdk_29_method_69_code 2 (some .int) :: ws) ({ frames := 0, cells := 0, slots := 0, locals := 0 } : Room)) (fun as_ U => as_ = #[(.int x), (.int y)] ∧ Z.Warmed39 U.vm ∧ U.heap = h0) (fun _ _ _ _ _ => True) (fun _ U oc U' => ∃ v L, oc = .returned v ∧ Q2 Z x y h0 n0 v U'.heap L ∧ FrameEnd U oc U' L ({ frames := 0, cells := 0, slots := 0, locals := 0 } : Room).cells ({ frames := 0, cells := 0, slots := 0, locals := 0 } : Room).slots) := by
  refine MetFree.of_bodySF pn_2 hisR ?_
  intro p e s m args below meth c s₁ Bd hml0 hP hK
  obtain ⟨rfl, hZ, hh⟩ := hP
  have K : ow_K p e below s m meth c Z "java/lang/Math" jdk_29_method_69_code 2 (some .int) "min" (ow_Gl p e below s (Q2 Z x y h0 n0) 0 0) := ⟨ow_Gl_bc, Bd.exec, Bd.bytes, hml0, findClass_of_methodNamed Bd.named, hZ, Bd.returns, Bd.notSynchronized, (name_of_methodNamed Bd.named Bd.method).1⟩
  have X0 : Stand p l e ({ frames := 0, cells := 0, slots := 0, locals := 0 } : Room) s m #[(.int x), (.int y)] below meth c s₁ [] 0 0 := Stand.of_body Bd
  have e0 : s₁.heap = h0 := by rw [← hh, Bd.state]; rfl
  have N0 := Fr.nil n0
  refine ow_entry (Q := (Q2 Z x y h0 n0)) (ce := 0) (sl := 0) (ef_2 m x y) ?_
  refine ow_iloadN K X0 (pc' := 1) x d2_0 rfl rfl ?_
  refine ow_iloadN K X0 (pc' := 2) y d2_1 rfl rfl ?_
  by_cases hc : y < x
  · refine ow_icmpY K X0 (pc' := 9) d2_2 (XT.ii_gt_t hc) (by decide) (by decide) ?_
    refine ow_iloadN K X0 (pc' := 10) y d2_9 rfl rfl ?_
    exact ow_retI K X0 .int rfl rfl (Or.inl rfl) d2_10 ⟨by rw [own_min, if_pos hc], N0, e0⟩ (by decide) (by decide)
  · refine ow_icmpN K X0 (pc' := 5) d2_2 rfl (XT.ii_gt_f hc) ?_
    refine ow_iloadN K X0 (pc' := 6) x d2_5 rfl rfl ?_
    refine ow_goto K X0 (pc' := 10) d2_6 (by decide) (by decide) ?_
    exact ow_retI K X0 .int rfl rfl (Or.inl rfl) d2_10 ⟨by rw [own_min, if_neg hc], N0, e0⟩ (by decide) (by decide)
theorem d3_0 : decode jdk_65_method_121_code 0 = .ok (.iload_n 1, 1) := by decide +kernel
theorem d3_1 : decode jdk_65_method_121_code 1 = .ok (.aload_n 0, 1) := by decide +kernel
theorem d3_2 : decode jdk_65_method_121_code 2 = .ok (.arraylength, 1) := by decide +kernel
theorem d3_3 : decode jdk_65_method_121_code 3 = .ok (.if_icmp .ne 11, 3) := by decide +kernel
theorem d3_6 : decode jdk_65_method_121_code 6 = .ok (.aload_n 0, 1) := by decide +kernel
theorem d3_7 : decode jdk_65_method_121_code 7 = .ok (.invokevirtual 310, 3) := by decide +kernel
theorem d3_10 : decode jdk_65_method_121_code 10 = .ok (.checkcast 311, 3) := by decide +kernel
theorem d3_13 : decode jdk_65_method_121_code 13 = .ok (.areturn, 1) := by decide +kernel
theorem d3_14 : decode jdk_65_method_121_code 14 = .ok (.iload_n 1, 1) := by decide +kernel
theorem d3_15 : decode jdk_65_method_121_code 15 = .ok (.newarray .byte, 2) := by decide +kernel
theorem d3_17 : decode jdk_65_method_121_code 17 = .ok (.astore_n 2, 1) := by decide +kernel
theorem d3_18 : decode jdk_65_method_121_code 18 = .ok (.aload_n 0, 1) := by decide +kernel
theorem d3_19 : decode jdk_65_method_121_code 19 = .ok (.iconst 0, 1) := by decide +kernel
theorem d3_20 : decode jdk_65_method_121_code 20 = .ok (.aload_n 2, 1) := by decide +kernel
theorem d3_21 : decode jdk_65_method_121_code 21 = .ok (.iconst 0, 1) := by decide +kernel
theorem d3_22 : decode jdk_65_method_121_code 22 = .ok (.aload_n 0, 1) := by decide +kernel
theorem d3_23 : decode jdk_65_method_121_code 23 = .ok (.arraylength, 1) := by decide +kernel
theorem d3_24 : decode jdk_65_method_121_code 24 = .ok (.iload_n 1, 1) := by decide +kernel
theorem d3_25 : decode jdk_65_method_121_code 25 = .ok (.invokestatic 304, 3) := by decide +kernel
theorem d3_28 : decode jdk_65_method_121_code 28 = .ok (.invokestatic 150, 3) := by decide +kernel
theorem d3_31 : decode jdk_65_method_121_code 31 = .ok (.aload_n 2, 1) := by decide +kernel
theorem d3_32 : decode jdk_65_method_121_code 32 = .ok (.areturn, 1) := by decide +kernel
theorem pn_3 : plainFor (⟨"java/util/Arrays", "copyOf", "([BI)[B"⟩ : MethodName) = true := by first | exact plainFor_of_name (by first | (simp [plainName, overriddenIn]; done) | decide +kernel) | decide +kernel
theorem pd_3 : parseMethodDescriptor "([BI)[B" = some ⟨[(.array .byte), .int], some (.array .byte)⟩ := by decide +kernel
theorem ef_3 (m : MethodId) (a : Addr) (n : Int32) : entryFrame m #[(.ref a), (.int n)] 3 = mkF m 0 #[.val (.ref a), .val (.int n), .unset] [] := by first | (simp [entryFrame, mkF, argsToLocals, Value.category]; done) | rfl
def Q3 (Z : State) (a : Addr) (n : Int32) (k : ClassId) (z : Int32) (vs : List Value) (h0 : Heap) (n0 : Nat) (v : Option Value) (h : Heap) (L : List Loc) : Prop := ∃ (b : Addr) (k' : ClassId), v = some (.ref b) ∧ Fr n0 L ∧ n0 ≤ h.size ∧ n0 ≤ b ∧ b = h0.size ∧ Keep h0 h [] ∧ Arv Z h b k' .byte n vs (.int 0) ∧ Exa Z h b "[B"
set_option maxRecDepth 65536 in
set_option maxHeartbeats 40000000 in
theorem rm3 (l : Launch) (Z : State) (a0 : Array Value) (hw : ∀ d ∈ tables_1, d.before a0 Z = true) (ws : List Jvm.Cond) (a : Addr) (n : Int32) (k : ClassId) (z : Int32) (vs : List Value) (h0 : Heap) (n0 : Nat) (Z0 : n0 ≤ h0.size) (F : Arv Z h0 a k .byte z vs (.int 0)) (E : Exa Z h0 a "[B") (hn : ¬ n < 0) (hcap : n.toNatClampNeg ≤ 31) (hm : ¬ own_min z n < 0) (hm1 : (own_min z n).toNatClampNeg ≤ z.toNatClampNeg) (hm2 : (own_min z n).toNatClampNeg ≤ n.toNatClampNeg) (hv : vs.length ≤ (own_min z n).toNatClampNeg) :
    MetFree l (⟨"java/util/Arrays", "copyOf", "([BI)[B"⟩ : MethodName) (head1 (Jvm.Cond.code (⟨"java/util/Arrays", "copyOf", "([BI)[B"⟩ : MethodName) jdk_65_method_121_code 3 (some (.array .byte)) :: ws) ({ frames := 1, cells := 1, slots := 31, locals := 18 } : Room)) (fun as_ U => as_ = #[(.ref a), (.int n)] ∧ Z.Warmed39 U.vm ∧ U.heap = h0) (fun _ _ _ _ _ => True) (fun _ U oc U' => ∃ v L, oc = .returned v ∧ Q3 Z a n k z vs h0 n0 v U'.heap L ∧ FrameEnd U oc U' L ({ frames := 1, cells := 1, slots := 31, locals := 18 } : Room).cells ({ frames := 1, cells := 1, slots := 31, locals := 18 } : Room).slots) := by
  refine MetFree.of_bodySF pn_3 hisR ?_
  intro p e s m args below meth c s₁ Bd hml0 hP hK
  obtain ⟨rfl, hZ, hh⟩ := hP
  have K : ow_K p e below s m meth c Z "java/util/Arrays" jdk_65_method_121_code 3 (some (.array .byte)) "copyOf" (ow_Gl p e below s (Q3 Z a n k z vs h0 n0) 1 31) := ⟨ow_Gl_bc, Bd.exec, Bd.bytes, hml0, findClass_of_methodNamed Bd.named, hZ, Bd.returns, Bd.notSynchronized, (name_of_methodNamed Bd.named Bd.method).1⟩
  have X0 : Stand p l e ({ frames := 1, cells := 1, slots := 31, locals := 18 } : Room) s m #[(.ref a), (.int n)] below meth c s₁ [] 0 0 := Stand.of_body Bd
  have e0 : s₁.heap = h0 := by rw [← hh, Bd.state]; rfl
  have N0 := Fr.nil n0
  refine ow_entry (Q := (Q3 Z a n k z vs h0 n0)) (ce := 1) (sl := 31) (ef_3 m a n) ?_
  refine ow_iloadN K X0 (pc' := 1) n d3_0 rfl rfl ?_
  refine ow_aloadN K X0 (pc' := 2) a d3_1 rfl rfl ?_
  refine ow_len K X0 (pc' := 3) e0 F d3_2 rfl ?_
  by_cases hc : n = z
  · refine ow_icmpN K X0 (pc' := 6) d3_3 rfl (XT.ii_ne_f hc) ?_
    refine ow_aloadN K X0 (pc' := 7) a d3_6 rfl rfl ?_
    refine ow_clone K X0 (pc' := 10) e0 (ad := "[B") (hw _ (List.mem_of_getElem? (i := 71) rfl)) (hw _ (List.mem_of_getElem? (i := 72) rfl)) (hw _ (List.mem_of_getElem? (i := 76) rfl)) (hw _ (List.mem_of_getElem? (i := 74) rfl)) (hw _ (List.mem_of_getElem? (i := 75) rfl)) (hw _ (List.mem_of_getElem? (i := 77) rfl)) F E rfl 0 31 (Nat.le_of_eq rfl) (by decide) (by decide) (by rw [← hc]; exact hcap) (by decide) (by decide) d3_7 rfl ?_
    intro T1 h1 b1 X1 e1 E1 g1 A1 B1
    have ne2 : a ≠ b1 := ow_ne F.lt g1
    have ge3 : n0 ≤ b1 := Nat.le_trans Z0 (Nat.le_of_eq g1.symm)
    have F4 : Arv Z h1 a k .byte z vs (.int 0) := F.ext E1
    have F5 : Exa Z h1 a "[B" := E.ext E1
    have Z6 : n0 ≤ h1.size := Nat.le_trans Z0 E1.1
    have P7 := (Keep.refl h0 []).ext E1
    refine ow_cast K X1 (pc' := 13) e1 (hw _ (List.mem_of_getElem? (i := 78) rfl)) B1 d3_10 rfl ?_
    intro T8 X8 e8
    refine ow_retA K X8 (.array .byte) rfl rfl d3_13 ?_ (by decide) (by decide)
    rw [e8]
    exact ⟨b1, _, rfl, N0, Z6, ge3, g1, P7, (by rw [hc]; exact A1), B1⟩
  · refine ow_icmpY K X0 (pc' := 14) d3_3 (XT.ii_ne_t hc) (by decide) (by decide) ?_
    refine ow_iloadN K X0 (pc' := 15) n d3_14 rfl rfl ?_
    refine ow_newPE K X0 (pc' := 17) e0 (C := "[B") (by decide) (hw _ (List.mem_of_getElem? (i := 13) rfl)) hn 31 hcap (by decide) (by decide) (by decide) d3_15 rfl ?_
    intro T9 h9 k9 b1 X9 e9 E9 g9 A9 B9
    have ne10 : a ≠ b1 := ow_ne F.lt g9
    have ge11 : n0 ≤ b1 := Nat.le_trans Z0 (Nat.le_of_eq g9.symm)
    have F12 : Arv Z h9 a k .byte z vs (.int 0) := F.ext E9
    have F13 : Exa Z h9 a "[B" := E.ext E9
    have Z14 : n0 ≤ h9.size := Nat.le_trans Z0 E9.1
    have P15 := (Keep.refl h0 []).ext E9
    have F16 : Arv Z h9 b1 k9 .byte n (List.replicate n.toNatClampNeg (.int 0)) (.int 0) := Arv.pad A9 (pad_rep [] (.int 0) n.toNatClampNeg)
    refine ow_astoreN K X9 (pc' := 18) (Ls' := #[.val (.ref a), .val (.int n), .val (.ref b1)]) d3_17 rfl rfl ?_
    refine ow_aloadN K X9 (pc' := 19) a d3_18 rfl rfl ?_
    refine ow_iconst K X9 (pc' := 20) (0 : Int32) d3_19 rfl (by decide) ?_
    refine ow_aloadN K X9 (pc' := 21) b1 d3_20 rfl rfl ?_
    refine ow_iconst K X9 (pc' := 22) (0 : Int32) d3_21 rfl (by decide) ?_
    refine ow_aloadN K X9 (pc' := 23) a d3_22 rfl rfl ?_
    refine ow_len K X9 (pc' := 24) e9 F12 d3_23 rfl ?_
    refine ow_iloadN K X9 (pc' := 25) n d3_24 rfl rfl ?_
    refine ow_callS K X9 (pc' := 28) e9 (y := (⟨"java/lang/Math", "min", "(II)I"⟩ : MethodName)) (rm2 l Z a0 hw [] z n h9 n0 Z14) (hw _ (List.mem_of_getElem? (i := 50) rfl)) (hw _ (List.mem_of_getElem? (i := 51) rfl)) (hw _ (List.mem_of_getElem? (i := 11) rfl)) (hw _ (List.mem_of_getElem? (i := 52) rfl)) (by decide) (st := [.int (0 : Int32), .ref b1, .int (0 : Int32), .ref a]) 4 (Nat.le_of_eq rfl) (by decide) (by decide) (by decide) (by decide) rfl [.int z, .int n] rfl (lenOf pd_2 rfl) rfl d3_25 rfl ?_
    intro v17 T17 L17 X17 hQ17
    obtain ⟨rfl, NNm, exm⟩ := hQ17
    have NXm := Fr.app N0 NNm
    refine ow_at (g := (mkF m 28 #[.val (.ref a), .val (.int n), .val (.ref b1)] [.int (own_min z n), .int (0 : Int32), .ref b1, .int (0 : Int32), .ref a])) ?_
    refine ow_copy K X17 (pc' := 31) exm (hw _ (List.mem_of_getElem? (i := 53) rfl)) (hw _ (List.mem_of_getElem? (i := 56) rfl)) (hw _ (List.mem_of_getElem? (i := 54) rfl)) (hw _ (List.mem_of_getElem? (i := 55) rfl)) F12 F16 rfl (by decide) (by decide) hm (by show 0 + _ ≤ _; omega) (by show 0 + _ ≤ _; omega) rfl (by rw [List.length_replicate]; show 0 + _ ≤ _; omega) NXm ge11 rfl 0 (Nat.le_of_eq rfl) (by decide) (by decide) d3_28 rfl ?_
    intro T18 h18 L18 X18 e18 N18 Kp18 V18
    have F19 : Arv Z h18 a k .byte z vs (.int 0) := F12.keep Kp18 (ninS ne10 nin0)
    have F20 : Exa Z h18 a "[B" := F13.keep Kp18
    have F21 : Exa Z h18 b1 "[B" := B9.keep Kp18
    have Z22 : n0 ≤ h18.size := Nat.le_trans Z14 Kp18.1
    have F23 : Arv Z h18 b1 k9 .byte n vs (.int 0) := Arv.pad V18 (own_cp vs _ _ hv)
    have PP := P15.trans Kp18 (allS (Or.inr (Nat.le_of_eq g9.symm)) all0)
    refine ow_aloadN K X18 (pc' := 32) b1 d3_31 rfl rfl ?_
    refine ow_retA K X18 (.array .byte) rfl rfl d3_32 ?_ (by decide) (by decide)
    rw [e18]
    exact ⟨b1, _, rfl, N18, Z22, ge11, g9, PP, F23, F21⟩
theorem d4_0 : decode prog_22_method_1_code 0 = .ok (.aload_n 0, 1) := by decide +kernel
theorem d4_1 : decode prog_22_method_1_code 1 = .ok (.invokespecial 1, 3) := by decide +kernel
theorem d4_4 : decode prog_22_method_1_code 4 = .ok (.aload_n 0, 1) := by decide +kernel
theorem d4_5 : decode prog_22_method_1_code 5 = .ok (.iload_n 1, 1) := by decide +kernel
theorem d4_6 : decode prog_22_method_1_code 6 = .ok (.bipush 8, 2) := by decide +kernel
theorem d4_8 : decode prog_22_method_1_code 8 = .ok (.invokestatic 9, 3) := by decide +kernel
theorem d4_11 : decode prog_22_method_1_code 11 = .ok (.newarray .byte, 2) := by decide +kernel
theorem d4_13 : decode prog_22_method_1_code 13 = .ok (.putfield 15, 3) := by decide +kernel
theorem d4_16 : decode prog_22_method_1_code 16 = .ok (.return_, 1) := by decide +kernel
theorem pn_4 : plainFor (⟨"com/example/cardinality/cardinality/value/ByteWriter", "<init>", "(I)V"⟩ : MethodName) = true := by first | exact plainFor_of_name (by first | (simp [plainName, overriddenIn]; done) | decide +kernel) | decide +kernel
theorem pd_4 : parseMethodDescriptor "(I)V" = some ⟨[.int], none⟩ := by decide +kernel
theorem ef_4 (m : MethodId) (o : Addr) (x : Int32) : entryFrame m #[(.ref o), (.int x)] 2 = mkF m 0 #[.val (.ref o), .val (.int x)] [] := by first | (simp [entryFrame, mkF, argsToLocals, Value.category]; done) | rfl
def Q4 (Z : State) (o : Addr) (x : Int32) (N : Int32) (h0 : Heap) (n0 : Nat) (v : Option Value) (h : Heap) (L : List Loc) : Prop := v = none ∧ Fr n0 L ∧ n0 ≤ h.size ∧ ∃ (r : Addr) (k : ClassId), n0 ≤ r ∧ o ≠ r ∧ Exa Z h o "com/example/cardinality/cardinality/value/ByteWriter" ∧ Fld Z h o "com/example/cardinality/cardinality/value/ByteWriter" "bytes" "[B" (.ref r) ∧ Fld Z h o "com/example/cardinality/cardinality/value/ByteWriter" "length" "I" (.int 0) ∧ Arv Z h r k .byte N [] (.int 0) ∧ Exa Z h r "[B"
set_option maxRecDepth 65536 in
set_option maxHeartbeats 40000000 in
theorem rm4 (l : Launch) (Z : State) (a0 : Array Value) (hw : ∀ d ∈ tables_1, d.before a0 Z = true) (ws : List Jvm.Cond) (o : Addr) (x : Int32) (N : Int32) (h0 : Heap) (n0 : Nat) (Z0 : n0 ≤ h0.size) (E : Exa Z h0 o "com/example/cardinality/cardinality/value/ByteWriter") (FB : Fld Z h0 o "com/example/cardinality/cardinality/value/ByteWriter" "bytes" "[B" (.null)) (FL : Fld Z h0 o "com/example/cardinality/cardinality/value/ByteWriter" "length" "I" (.int 0)) (go : n0 ≤ o) (hN : own_max x 8 = N) (h8 : 8 ≤ N.toInt) (h31 : N.toInt ≤ 31) :
    MetFree l (⟨"com/example/cardinality/cardinality/value/ByteWriter", "<init>", "(I)V"⟩ : MethodName) (head1 (Jvm.Cond.code (⟨"com/example/cardinality/cardinality/value/ByteWriter", "<init>", "(I)V"⟩ : MethodName) prog_22_method_1_code 2 none :: ws) ({ frames := 1, cells := 1, slots := 31, locals := 14 } : Room)) (fun as_ U => as_ = #[(.ref o), (.int x)] ∧ Z.Warmed39 U.vm ∧ U.heap = h0) (fun _ _ _ _ _ => True) (fun _ U oc U' => ∃ v L, oc = .returned v ∧ Q4 Z o x N h0 n0 v U'.heap L ∧ FrameEnd U oc U' L ({ frames := 1, cells := 1, slots := 31, locals := 14 } : Room).cells ({ frames := 1, cells := 1, slots := 31, locals := 14 } : Room).slots) := by
  refine MetFree.of_bodySF pn_4 hisR ?_
  intro p e s m args below meth c s₁ Bd hml0 hP hK
  obtain ⟨rfl, hZ, hh⟩ := hP
  have K : ow_K p e below s m meth c Z "com/example/cardinality/cardinality/value/ByteWriter" prog_22_method_1_code 2 none "<init>" (ow_Gl p e below s (Q4 Z o x N h0 n0) 1 31) := ⟨ow_Gl_bc, Bd.exec, Bd.bytes, hml0, findClass_of_methodNamed Bd.named, hZ, Bd.returns, Bd.notSynchronized, (name_of_methodNamed Bd.named Bd.method).1⟩
  have X0 : Stand p l e ({ frames := 1, cells := 1, slots := 31, locals := 14 } : Room) s m #[(.ref o), (.int x)] below meth c s₁ [] 0 0 := Stand.of_body Bd
  have e0 : s₁.heap = h0 := by rw [← hh, Bd.state]; rfl
  have N0 := Fr.nil n0
  refine ow_entry (Q := (Q4 Z o x N h0 n0)) (ce := 1) (sl := 31) (ef_4 m o x) ?_
  refine ow_aloadN K X0 (pc' := 1) o d4_0 rfl rfl ?_
  refine ow_initO K X0 (pc' := 4) e0 (hw _ (List.mem_of_getElem? (i := 6) rfl)) (hw _ (List.mem_of_getElem? (i := 7) rfl)) (hw _ (List.mem_of_getElem? (i := 8) rfl)) rfl 0 (Nat.le_of_eq rfl) (by decide) (by decide) d4_1 rfl ?_
  intro T1 X1 e1
  refine ow_aloadN K X1 (pc' := 5) o d4_4 rfl rfl ?_
  refine ow_iloadN K X1 (pc' := 6) x d4_5 rfl rfl ?_
  refine ow_bipush K X1 (pc' := 8) (8 : Int32) d4_6 rfl (by decide) ?_
  refine ow_callS K X1 (pc' := 11) e1 (y := (⟨"java/lang/Math", "max", "(II)I"⟩ : MethodName)) (rm1 l Z a0 hw [] x (8 : Int32) h0 n0 Z0) (hw _ (List.mem_of_getElem? (i := 9) rfl)) (hw _ (List.mem_of_getElem? (i := 10) rfl)) (hw _ (List.mem_of_getElem? (i := 11) rfl)) (hw _ (List.mem_of_getElem? (i := 12) rfl)) (by decide) (st := [.ref o]) 1 (Nat.le_of_eq rfl) (by decide) (by decide) (by decide) (by decide) rfl [.int x, .int (8 : Int32)] rfl (lenOf pd_1 rfl) rfl d4_8 rfl ?_
  intro v2 T2 L2 X2 hQ2
  obtain ⟨rfl, NNm, exm⟩ := hQ2
  have NXm := Fr.app N0 NNm
  refine ow_at (g := (mkF m 11 #[.val (.ref o), .val (.int x)] [.int (own_max x (8 : Int32)), .ref o])) ?_
  rw [hN]
  refine ow_newPE K X2 (pc' := 13) exm (C := "[B") (by decide) (hw _ (List.mem_of_getElem? (i := 13) rfl)) (own_nneg (by omega)) 31 (by have := own_clamp (x := N) (by omega); omega) (by decide) (by decide) (by decide) d4_11 rfl ?_
  intro T3 h3 k3 r1 X3 e3 E3 g3 A3 B3
  have ne4 : o ≠ r1 := ow_ne E.lt g3
  have ge5 : n0 ≤ r1 := Nat.le_trans Z0 (Nat.le_of_eq g3.symm)
  have F6 : Exa Z h3 o "com/example/cardinality/cardinality/value/ByteWriter" := E.ext E3
  have F7 : Fld Z h3 o "com/example/cardinality/cardinality/value/ByteWriter" "bytes" "[B" (.null) := FB.ext E3
  have F8 : Fld Z h3 o "com/example/cardinality/cardinality/value/ByteWriter" "length" "I" (.int 0) := FL.ext E3
  have Z9 : n0 ≤ h3.size := Nat.le_trans Z0 E3.1
  have F10 : Arv Z h3 r1 k3 .byte N [] (.int 0) := Arv.pad A3 (pad_rep [] (.int 0) 0)
  refine ow_putF K X3 (pc' := 16) e3 (.array .byte) (hw _ (List.mem_of_getElem? (i := 14) rfl)) F7 F6 (Or.inl (hw _ (List.mem_of_getElem? (i := 15) rfl))) (hw _ (List.mem_of_getElem? (i := 1) rfl)) (by decide) rfl rfl d4_13 rfl ?_
  intro T11 h11 X11 e11 W11 F11 A11
  have F12 : Fld Z h11 o "com/example/cardinality/cardinality/value/ByteWriter" "length" "I" (.int 0) := Fld.other W11 F8 (Or.inr (slot_ne (show Laid Z a0 "com/example/cardinality/cardinality/value/ByteWriter" "com/example/cardinality/cardinality/value/ByteWriter" "length" "I" from Or.inl (hw _ (List.mem_of_getElem? (i := 26) rfl))) (show Laid Z a0 "com/example/cardinality/cardinality/value/ByteWriter" "com/example/cardinality/cardinality/value/ByteWriter" "bytes" "[B" from Or.inl (hw _ (List.mem_of_getElem? (i := 15) rfl))) (by decide) (t := .int) (t' := (.array .byte)) (by decide) (by decide)))
  have F13 : Arv Z h11 r1 k3 .byte N [] (.int 0) := F10.other W11 (Ne.symm ne4)
  have F14 : Exa Z h11 r1 "[B" := Exa.wr W11 B3
  have Z15 : n0 ≤ h11.size := Nat.le_trans Z9 (Nat.le_of_eq W11.size.symm)
  have N16 := Fr.snoc X11 NXm go
  refine ow_ret K X11 rfl d4_16 ?_ (by decide) (by decide)
  rw [e11]
  exact ⟨rfl, N16, Z15, r1, _, ge5, ne4, A11, F11, F12, F13, F14⟩
theorem d5_0 : decode prog_22_method_12_code 0 = .ok (.iload_n 1, 1) := by decide +kernel
theorem d5_1 : decode prog_22_method_12_code 1 = .ok (.aload_n 0, 1) := by decide +kernel
theorem d5_2 : decode prog_22_method_12_code 2 = .ok (.getfield 15, 3) := by decide +kernel
theorem d5_5 : decode prog_22_method_12_code 5 = .ok (.arraylength, 1) := by decide +kernel
theorem d5_6 : decode prog_22_method_12_code 6 = .ok (.aload_n 0, 1) := by decide +kernel
theorem d5_7 : decode prog_22_method_12_code 7 = .ok (.getfield 21, 3) := by decide +kernel
theorem d5_10 : decode prog_22_method_12_code 10 = .ok (.isub, 1) := by decide +kernel
theorem d5_11 : decode prog_22_method_12_code 11 = .ok (.if_icmp .le 30, 3) := by decide +kernel
theorem d5_14 : decode prog_22_method_12_code 14 = .ok (.aload_n 0, 1) := by decide +kernel
theorem d5_15 : decode prog_22_method_12_code 15 = .ok (.aload_n 0, 1) := by decide +kernel
theorem d5_16 : decode prog_22_method_12_code 16 = .ok (.getfield 15, 3) := by decide +kernel
theorem d5_19 : decode prog_22_method_12_code 19 = .ok (.iconst 2, 1) := by decide +kernel
theorem d5_20 : decode prog_22_method_12_code 20 = .ok (.aload_n 0, 1) := by decide +kernel
theorem d5_21 : decode prog_22_method_12_code 21 = .ok (.getfield 15, 3) := by decide +kernel
theorem d5_24 : decode prog_22_method_12_code 24 = .ok (.arraylength, 1) := by decide +kernel
theorem d5_25 : decode prog_22_method_12_code 25 = .ok (.imul, 1) := by decide +kernel
theorem d5_26 : decode prog_22_method_12_code 26 = .ok (.aload_n 0, 1) := by decide +kernel
theorem d5_27 : decode prog_22_method_12_code 27 = .ok (.getfield 21, 3) := by decide +kernel
theorem d5_30 : decode prog_22_method_12_code 30 = .ok (.iload_n 1, 1) := by decide +kernel
theorem d5_31 : decode prog_22_method_12_code 31 = .ok (.iadd, 1) := by decide +kernel
theorem d5_32 : decode prog_22_method_12_code 32 = .ok (.invokestatic 9, 3) := by decide +kernel
theorem d5_35 : decode prog_22_method_12_code 35 = .ok (.invokestatic 64, 3) := by decide +kernel
theorem d5_38 : decode prog_22_method_12_code 38 = .ok (.putfield 15, 3) := by decide +kernel
theorem d5_41 : decode prog_22_method_12_code 41 = .ok (.aload_n 0, 1) := by decide +kernel
theorem d5_42 : decode prog_22_method_12_code 42 = .ok (.getfield 21, 3) := by decide +kernel
theorem d5_45 : decode prog_22_method_12_code 45 = .ok (.istore_n 2, 1) := by decide +kernel
theorem d5_46 : decode prog_22_method_12_code 46 = .ok (.aload_n 0, 1) := by decide +kernel
theorem d5_47 : decode prog_22_method_12_code 47 = .ok (.dup, 1) := by decide +kernel
theorem d5_48 : decode prog_22_method_12_code 48 = .ok (.getfield 21, 3) := by decide +kernel
theorem d5_51 : decode prog_22_method_12_code 51 = .ok (.iload_n 1, 1) := by decide +kernel
theorem d5_52 : decode prog_22_method_12_code 52 = .ok (.iadd, 1) := by decide +kernel
theorem d5_53 : decode prog_22_method_12_code 53 = .ok (.putfield 21, 3) := by decide +kernel
theorem d5_56 : decode prog_22_method_12_code 56 = .ok (.iload_n 2, 1) := by decide +kernel
theorem d5_57 : decode prog_22_method_12_code 57 = .ok (.ireturn, 1) := by decide +kernel
theorem pn_5 : plainFor (⟨"com/example/cardinality/cardinality/value/ByteWriter", "next", "(I)I"⟩ : MethodName) = true := by first | exact plainFor_of_name (by first | (simp [plainName, overriddenIn]; done) | decide +kernel) | decide +kernel
theorem pd_5 : parseMethodDescriptor "(I)I" = some ⟨[.int], some .int⟩ := by decide +kernel
theorem ef_5 (m : MethodId) (o : Addr) (n : Int32) : entryFrame m #[(.ref o), (.int n)] 3 = mkF m 0 #[.val (.ref o), .val (.int n), .unset] [] := by first | (simp [entryFrame, mkF, argsToLocals, Value.category]; done) | rfl
def Q5 (Z : State) (o : Addr) (n : Int32) (r : Addr) (k : ClassId) (N : Int32) (ln : Int32) (ln' : Int32) (vs : List Value) (h0 : Heap) (n0 : Nat) (v : Option Value) (h : Heap) (L : List Loc) : Prop := v = some (.int ln) ∧ Fr n0 L ∧ n0 ≤ h.size ∧ Exa Z h o "com/example/cardinality/cardinality/value/ByteWriter" ∧ Fld Z h o "com/example/cardinality/cardinality/value/ByteWriter" "bytes" "[B" (.ref r) ∧ Fld Z h o "com/example/cardinality/cardinality/value/ByteWriter" "length" "I" (.int ln') ∧ Arv Z h r k .byte N vs (.int 0) ∧ Exa Z h r "[B"
set_option maxRecDepth 65536 in
set_option maxHeartbeats 40000000 in
theorem rm5 (l : Launch) (Z : State) (a0 : Array Value) (hw : ∀ d ∈ tables_1, d.before a0 Z = true) (ws : List Jvm.Cond) (o : Addr) (n : Int32) (r : Addr) (k : ClassId) (N : Int32) (ln : Int32) (ln' : Int32) (vs : List Value) (h0 : Heap) (n0 : Nat) (Z0 : n0 ≤ h0.size) (E : Exa Z h0 o "com/example/cardinality/cardinality/value/ByteWriter") (FB : Fld Z h0 o "com/example/cardinality/cardinality/value/ByteWriter" "bytes" "[B" (.ref r)) (FL : Fld Z h0 o "com/example/cardinality/cardinality/value/ByteWriter" "length" "I" (.int ln)) (AV : Arv Z h0 r k .byte N vs (.int 0)) (AE : Exa Z h0 r "[B") (go : n0 ≤ o) (gr : n0 ≤ r) (ne : o ≠ r) (hng : ¬ (N - ln) < n) (hln : ln + n = ln') :
    MetFree l (⟨"com/example/cardinality/cardinality/value/ByteWriter", "next", "(I)I"⟩ : MethodName) (head1 (Jvm.Cond.code (⟨"com/example/cardinality/cardinality/value/ByteWriter", "next", "(I)I"⟩ : MethodName) prog_22_method_12_code 3 (some .int) :: ws) ({ frames := 0, cells := 0, slots := 0, locals := 0 } : Room)) (fun as_ U => as_ = #[(.ref o), (.int n)] ∧ Z.Warmed39 U.vm ∧ U.heap = h0) (fun _ _ _ _ _ => True) (fun _ U oc U' => ∃ v L, oc = .returned v ∧ Q5 Z o n r k N ln ln' vs h0 n0 v U'.heap L ∧ FrameEnd U oc U' L ({ frames := 0, cells := 0, slots := 0, locals := 0 } : Room).cells ({ frames := 0, cells := 0, slots := 0, locals := 0 } : Room).slots) := by
  refine MetFree.of_bodySF pn_5 hisR ?_
  intro p e s m args below meth c s₁ Bd hml0 hP hK
  obtain ⟨rfl, hZ, hh⟩ := hP
  have K : ow_K p e below s m meth c Z "com/example/cardinality/cardinality/value/ByteWriter" prog_22_method_12_code 3 (some .int) "next" (ow_Gl p e below s (Q5 Z o n r k N ln ln' vs h0 n0) 0 0) := ⟨ow_Gl_bc, Bd.exec, Bd.bytes, hml0, findClass_of_methodNamed Bd.named, hZ, Bd.returns, Bd.notSynchronized, (name_of_methodNamed Bd.named Bd.method).1⟩
  have X0 : Stand p l e ({ frames := 0, cells := 0, slots := 0, locals := 0 } : Room) s m #[(.ref o), (.int n)] below meth c s₁ [] 0 0 := Stand.of_body Bd
  have e0 : s₁.heap = h0 := by rw [← hh, Bd.state]; rfl
  have N0 := Fr.nil n0
  refine ow_entry (Q := (Q5 Z o n r k N ln ln' vs h0 n0)) (ce := 0) (sl := 0) (ef_5 m o n) ?_
  refine ow_iloadN K X0 (pc' := 1) n d5_0 rfl rfl ?_
  refine ow_aloadN K X0 (pc' := 2) o d5_1 rfl rfl ?_
  refine ow_getF K X0 (pc' := 5) e0 (hw _ (List.mem_of_getElem? (i := 14) rfl)) FB d5_2 rfl ?_
  intro T1 X1 e1
  refine ow_len K X1 (pc' := 6) e1 AV d5_5 rfl ?_
  refine ow_aloadN K X1 (pc' := 7) o d5_6 rfl rfl ?_
  refine ow_getF K X1 (pc' := 10) e1 (hw _ (List.mem_of_getElem? (i := 25) rfl)) FL d5_7 rfl ?_
  intro T2 X2 e2
  refine ow_isub K X2 (pc' := 11) (N - ln) d5_10 rfl rfl ?_
  refine ow_icmpY K X2 (pc' := 41) d5_11 (XT.ii_le_t hng) (by decide) (by decide) ?_
  refine ow_aloadN K X2 (pc' := 42) o d5_41 rfl rfl ?_
  refine ow_getF K X2 (pc' := 45) e2 (hw _ (List.mem_of_getElem? (i := 25) rfl)) FL d5_42 rfl ?_
  intro T3 X3 e3
  refine ow_istoreN K X3 (pc' := 46) (Ls' := #[.val (.ref o), .val (.int n), .val (.int ln)]) d5_45 rfl rfl ?_
  refine ow_aloadN K X3 (pc' := 47) o d5_46 rfl rfl ?_
  refine ow_dup K X3 (pc' := 48) d5_47 rfl rfl ?_
  refine ow_getF K X3 (pc' := 51) e3 (hw _ (List.mem_of_getElem? (i := 25) rfl)) FL d5_48 rfl ?_
  intro T4 X4 e4
  refine ow_iloadN K X4 (pc' := 52) n d5_51 rfl rfl ?_
  refine ow_iadd K X4 (pc' := 53) ln' d5_52 rfl hln ?_
  refine ow_putF K X4 (pc' := 56) e4 .int (hw _ (List.mem_of_getElem? (i := 25) rfl)) FL E (Or.inl (hw _ (List.mem_of_getElem? (i := 26) rfl))) (hw _ (List.mem_of_getElem? (i := 1) rfl)) (by decide) rfl rfl d5_53 rfl ?_
  intro T5 h5 X5 e5 W5 F5 A5
  have F6 : Fld Z h5 o "com/example/cardinality/cardinality/value/ByteWriter" "bytes" "[B" (.ref r) := Fld.other W5 FB (Or.inr (slot_ne (show Laid Z a0 "com/example/cardinality/cardinality/value/ByteWriter" "com/example/cardinality/cardinality/value/ByteWriter" "bytes" "[B" from Or.inl (hw _ (List.mem_of_getElem? (i := 15) rfl))) (show Laid Z a0 "com/example/cardinality/cardinality/value/ByteWriter" "com/example/cardinality/cardinality/value/ByteWriter" "length" "I" from Or.inl (hw _ (List.mem_of_getElem? (i := 26) rfl))) (by decide) (t := (.array .byte)) (t' := .int) (by decide) (by decide)))
  have F7 : Arv Z h5 r k .byte N vs (.int 0) := AV.other W5 (Ne.symm ne)
  have F8 : Exa Z h5 r "[B" := Exa.wr W5 AE
  have Z9 : n0 ≤ h5.size := Nat.le_trans Z0 (Nat.le_of_eq W5.size.symm)
  have N10 := Fr.snoc X5 N0 go
  refine ow_iloadN K X5 (pc' := 57) ln d5_56 rfl rfl ?_
  refine ow_retI K X5 .int rfl rfl (Or.inl rfl) d5_57 ?_ (by decide) (by decide)
  rw [e5]
  exact ⟨rfl, N10, Z9, A5, F6, F5, F7, F8⟩
theorem d6_0 : decode prog_22_method_12_code 0 = .ok (.iload_n 1, 1) := by decide +kernel
theorem d6_1 : decode prog_22_method_12_code 1 = .ok (.aload_n 0, 1) := by decide +kernel
theorem d6_2 : decode prog_22_method_12_code 2 = .ok (.getfield 15, 3) := by decide +kernel
theorem d6_5 : decode prog_22_method_12_code 5 = .ok (.arraylength, 1) := by decide +kernel
theorem d6_6 : decode prog_22_method_12_code 6 = .ok (.aload_n 0, 1) := by decide +kernel
theorem d6_7 : decode prog_22_method_12_code 7 = .ok (.getfield 21, 3) := by decide +kernel
theorem d6_10 : decode prog_22_method_12_code 10 = .ok (.isub, 1) := by decide +kernel
theorem d6_11 : decode prog_22_method_12_code 11 = .ok (.if_icmp .le 30, 3) := by decide +kernel
theorem d6_14 : decode prog_22_method_12_code 14 = .ok (.aload_n 0, 1) := by decide +kernel
theorem d6_15 : decode prog_22_method_12_code 15 = .ok (.aload_n 0, 1) := by decide +kernel
theorem d6_16 : decode prog_22_method_12_code 16 = .ok (.getfield 15, 3) := by decide +kernel
theorem d6_19 : decode prog_22_method_12_code 19 = .ok (.iconst 2, 1) := by decide +kernel
theorem d6_20 : decode prog_22_method_12_code 20 = .ok (.aload_n 0, 1) := by decide +kernel
theorem d6_21 : decode prog_22_method_12_code 21 = .ok (.getfield 15, 3) := by decide +kernel
theorem d6_24 : decode prog_22_method_12_code 24 = .ok (.arraylength, 1) := by decide +kernel
theorem d6_25 : decode prog_22_method_12_code 25 = .ok (.imul, 1) := by decide +kernel
theorem d6_26 : decode prog_22_method_12_code 26 = .ok (.aload_n 0, 1) := by decide +kernel
theorem d6_27 : decode prog_22_method_12_code 27 = .ok (.getfield 21, 3) := by decide +kernel
theorem d6_30 : decode prog_22_method_12_code 30 = .ok (.iload_n 1, 1) := by decide +kernel
theorem d6_31 : decode prog_22_method_12_code 31 = .ok (.iadd, 1) := by decide +kernel
theorem d6_32 : decode prog_22_method_12_code 32 = .ok (.invokestatic 9, 3) := by decide +kernel
theorem d6_35 : decode prog_22_method_12_code 35 = .ok (.invokestatic 64, 3) := by decide +kernel
theorem d6_38 : decode prog_22_method_12_code 38 = .ok (.putfield 15, 3) := by decide +kernel
theorem d6_41 : decode prog_22_method_12_code 41 = .ok (.aload_n 0, 1) := by decide +kernel
theorem d6_42 : decode prog_22_method_12_code 42 = .ok (.getfield 21, 3) := by decide +kernel
theorem d6_45 : decode prog_22_method_12_code 45 = .ok (.istore_n 2, 1) := by decide +kernel
theorem d6_46 : decode prog_22_method_12_code 46 = .ok (.aload_n 0, 1) := by decide +kernel
theorem d6_47 : decode prog_22_method_12_code 47 = .ok (.dup, 1) := by decide +kernel
theorem d6_48 : decode prog_22_method_12_code 48 = .ok (.getfield 21, 3) := by decide +kernel
theorem d6_51 : decode prog_22_method_12_code 51 = .ok (.iload_n 1, 1) := by decide +kernel
theorem d6_52 : decode prog_22_method_12_code 52 = .ok (.iadd, 1) := by decide +kernel
theorem d6_53 : decode prog_22_method_12_code 53 = .ok (.putfield 21, 3) := by decide +kernel
theorem d6_56 : decode prog_22_method_12_code 56 = .ok (.iload_n 2, 1) := by decide +kernel
theorem d6_57 : decode prog_22_method_12_code 57 = .ok (.ireturn, 1) := by decide +kernel
theorem pn_6 : plainFor (⟨"com/example/cardinality/cardinality/value/ByteWriter", "next", "(I)I"⟩ : MethodName) = true := by first | exact plainFor_of_name (by first | (simp [plainName, overriddenIn]; done) | decide +kernel) | decide +kernel
theorem pd_6 : parseMethodDescriptor "(I)I" = some ⟨[.int], some .int⟩ := by decide +kernel
theorem ef_6 (m : MethodId) (o : Addr) (n : Int32) : entryFrame m #[(.ref o), (.int n)] 3 = mkF m 0 #[.val (.ref o), .val (.int n), .unset] [] := by first | (simp [entryFrame, mkF, argsToLocals, Value.category]; done) | rfl
def Q6 (Z : State) (o : Addr) (n : Int32) (r : Addr) (k : ClassId) (N : Int32) (ln : Int32) (ln' : Int32) (vs : List Value) (M : Int32) (h0 : Heap) (n0 : Nat) (v : Option Value) (h : Heap) (L : List Loc) : Prop := v = some (.int ln) ∧ Fr n0 L ∧ n0 ≤ h.size ∧ ∃ (r' : Addr) (k' : ClassId), n0 ≤ r' ∧ o ≠ r' ∧ Exa Z h o "com/example/cardinality/cardinality/value/ByteWriter" ∧ Fld Z h o "com/example/cardinality/cardinality/value/ByteWriter" "bytes" "[B" (.ref r') ∧ Fld Z h o "com/example/cardinality/cardinality/value/ByteWriter" "length" "I" (.int ln') ∧ Arv Z h r' k' .byte M vs (.int 0) ∧ Exa Z h r' "[B"
set_option maxRecDepth 65536 in
set_option maxHeartbeats 40000000 in
theorem rm6 (l : Launch) (Z : State) (a0 : Array Value) (hw : ∀ d ∈ tables_1, d.before a0 Z = true) (ws : List Jvm.Cond) (o : Addr) (n : Int32) (r : Addr) (k : ClassId) (N : Int32) (ln : Int32) (ln' : Int32) (vs : List Value) (M : Int32) (h0 : Heap) (n0 : Nat) (Z0 : n0 ≤ h0.size) (E : Exa Z h0 o "com/example/cardinality/cardinality/value/ByteWriter") (FB : Fld Z h0 o "com/example/cardinality/cardinality/value/ByteWriter" "bytes" "[B" (.ref r)) (FL : Fld Z h0 o "com/example/cardinality/cardinality/value/ByteWriter" "length" "I" (.int ln)) (AV : Arv Z h0 r k .byte N vs (.int 0)) (AE : Exa Z h0 r "[B") (go : n0 ≤ o) (gr : n0 ≤ r) (ne : o ≠ r) (hng : (N - ln) < n) (hln : ln + n = ln') (h2N : (2 : Int32) * N = M) (hmx : own_max M ln' = M) (hM : ¬ M < 0) (hcap : M.toNatClampNeg ≤ 31) (hm : ¬ own_min N M < 0) (hm1 : (own_min N M).toNatClampNeg ≤ N.toNatClampNeg) (hm2 : (own_min N M).toNatClampNeg ≤ M.toNatClampNeg) (hv : vs.length ≤ (own_min N M).toNatClampNeg) :
    MetFree l (⟨"com/example/cardinality/cardinality/value/ByteWriter", "next", "(I)I"⟩ : MethodName) (head1 (Jvm.Cond.code (⟨"com/example/cardinality/cardinality/value/ByteWriter", "next", "(I)I"⟩ : MethodName) prog_22_method_12_code 3 (some .int) :: ws) ({ frames := 2, cells := 1, slots := 31, locals := 33 } : Room)) (fun as_ U => as_ = #[(.ref o), (.int n)] ∧ Z.Warmed39 U.vm ∧ U.heap = h0) (fun _ _ _ _ _ => True) (fun _ U oc U' => ∃ v L, oc = .returned v ∧ Q6 Z o n r k N ln ln' vs M h0 n0 v U'.heap L ∧ FrameEnd U oc U' L ({ frames := 2, cells := 1, slots := 31, locals := 33 } : Room).cells ({ frames := 2, cells := 1, slots := 31, locals := 33 } : Room).slots) := by
  refine MetFree.of_bodySF pn_6 hisR ?_
  intro p e s m args below meth c s₁ Bd hml0 hP hK
  obtain ⟨rfl, hZ, hh⟩ := hP
  have K : ow_K p e below s m meth c Z "com/example/cardinality/cardinality/value/ByteWriter" prog_22_method_12_code 3 (some .int) "next" (ow_Gl p e below s (Q6 Z o n r k N ln ln' vs M h0 n0) 1 31) := ⟨ow_Gl_bc, Bd.exec, Bd.bytes, hml0, findClass_of_methodNamed Bd.named, hZ, Bd.returns, Bd.notSynchronized, (name_of_methodNamed Bd.named Bd.method).1⟩
  have X0 : Stand p l e ({ frames := 2, cells := 1, slots := 31, locals := 33 } : Room) s m #[(.ref o), (.int n)] below meth c s₁ [] 0 0 := Stand.of_body Bd
  have e0 : s₁.heap = h0 := by rw [← hh, Bd.state]; rfl
  have N0 := Fr.nil n0
  refine ow_entry (Q := (Q6 Z o n r k N ln ln' vs M h0 n0)) (ce := 1) (sl := 31) (ef_6 m o n) ?_
  refine ow_iloadN K X0 (pc' := 1) n d6_0 rfl rfl ?_
  refine ow_aloadN K X0 (pc' := 2) o d6_1 rfl rfl ?_
  refine ow_getF K X0 (pc' := 5) e0 (hw _ (List.mem_of_getElem? (i := 14) rfl)) FB d6_2 rfl ?_
  intro T1 X1 e1
  refine ow_len K X1 (pc' := 6) e1 AV d6_5 rfl ?_
  refine ow_aloadN K X1 (pc' := 7) o d6_6 rfl rfl ?_
  refine ow_getF K X1 (pc' := 10) e1 (hw _ (List.mem_of_getElem? (i := 25) rfl)) FL d6_7 rfl ?_
  intro T2 X2 e2
  refine ow_isub K X2 (pc' := 11) (N - ln) d6_10 rfl rfl ?_
  refine ow_icmpN K X2 (pc' := 14) d6_11 rfl (XT.ii_le_f hng) ?_
  refine ow_aloadN K X2 (pc' := 15) o d6_14 rfl rfl ?_
  refine ow_aloadN K X2 (pc' := 16) o d6_15 rfl rfl ?_
  refine ow_getF K X2 (pc' := 19) e2 (hw _ (List.mem_of_getElem? (i := 14) rfl)) FB d6_16 rfl ?_
  intro T3 X3 e3
  refine ow_iconst K X3 (pc' := 20) (2 : Int32) d6_19 rfl (by decide) ?_
  refine ow_aloadN K X3 (pc' := 21) o d6_20 rfl rfl ?_
  refine ow_getF K X3 (pc' := 24) e3 (hw _ (List.mem_of_getElem? (i := 14) rfl)) FB d6_21 rfl ?_
  intro T4 X4 e4
  refine ow_len K X4 (pc' := 25) e4 AV d6_24 rfl ?_
  refine ow_imul K X4 (pc' := 26) M d6_25 rfl h2N ?_
  refine ow_aloadN K X4 (pc' := 27) o d6_26 rfl rfl ?_
  refine ow_getF K X4 (pc' := 30) e4 (hw _ (List.mem_of_getElem? (i := 25) rfl)) FL d6_27 rfl ?_
  intro T5 X5 e5
  refine ow_iloadN K X5 (pc' := 31) n d6_30 rfl rfl ?_
  refine ow_iadd K X5 (pc' := 32) ln' d6_31 rfl hln ?_
  refine ow_callS K X5 (pc' := 35) e5 (y := (⟨"java/lang/Math", "max", "(II)I"⟩ : MethodName)) (rm1 l Z a0 hw [] M ln' h0 n0 Z0) (hw _ (List.mem_of_getElem? (i := 9) rfl)) (hw _ (List.mem_of_getElem? (i := 10) rfl)) (hw _ (List.mem_of_getElem? (i := 11) rfl)) (hw _ (List.mem_of_getElem? (i := 12) rfl)) (by decide) (st := [.ref r, .ref o]) 2 (Nat.le_of_eq rfl) (by decide) (by decide) (by decide) (by decide) rfl [.int M, .int ln'] rfl (lenOf pd_1 rfl) rfl d6_32 rfl ?_
  intro v6 T6 L6 X6 hQ6
  obtain ⟨rfl, NNm, exm⟩ := hQ6
  have NXm := Fr.app N0 NNm
  refine ow_at (g := (mkF m 35 #[.val (.ref o), .val (.int n), .unset] [.int (own_max M ln'), .ref r, .ref o])) ?_
  rw [hmx]
  refine ow_callS K X6 (pc' := 38) exm (y := (⟨"java/util/Arrays", "copyOf", "([BI)[B"⟩ : MethodName)) (rm3 l Z a0 hw [] r M k N vs h0 n0 Z0 AV AE hM hcap hm hm1 hm2 hv) (hw _ (List.mem_of_getElem? (i := 46) rfl)) (hw _ (List.mem_of_getElem? (i := 47) rfl)) (hw _ (List.mem_of_getElem? (i := 48) rfl)) (hw _ (List.mem_of_getElem? (i := 49) rfl)) (by decide) (st := [.ref o]) 1 (Nat.le_of_eq rfl) (by decide) (by decide) (by decide) (by decide) rfl [.ref r, .int M] rfl (lenOf pd_3 rfl) rfl d6_35 rfl ?_
  intro v7 T7 L7 X7 hQ7
  obtain ⟨r2, k2, rfl, NNc, Zc, gc, hcc, Kc, AVc, AEc⟩ := hQ7
  have NXc := Fr.app NXm NNc
  have ne2 : o ≠ r2 := ow_ne E.lt hcc
  have F8 : Exa Z T7.heap o "com/example/cardinality/cardinality/value/ByteWriter" := E.keep Kc
  have F9 : Fld Z T7.heap o "com/example/cardinality/cardinality/value/ByteWriter" "bytes" "[B" (.ref r) := FB.keep Kc nin0
  have F10 : Fld Z T7.heap o "com/example/cardinality/cardinality/value/ByteWriter" "length" "I" (.int ln) := FL.keep Kc nin0
  have F11 : Exa Z T7.heap r "[B" := AE.keep Kc
  have Z12 : n0 ≤ T7.heap.size := Nat.le_trans Z0 Kc.1
  refine ow_at (g := (mkF m 38 #[.val (.ref o), .val (.int n), .unset] [.ref r2, .ref o])) ?_
  refine ow_putF K X7 (pc' := 41) (rfl : T7.heap = T7.heap) (.array .byte) (hw _ (List.mem_of_getElem? (i := 14) rfl)) F9 F8 (Or.inl (hw _ (List.mem_of_getElem? (i := 15) rfl))) (hw _ (List.mem_of_getElem? (i := 1) rfl)) (by decide) rfl rfl d6_38 rfl ?_
  intro T13 h13 X13 e13 W13 F13 A13
  have F14 : Fld Z h13 o "com/example/cardinality/cardinality/value/ByteWriter" "length" "I" (.int ln) := Fld.other W13 F10 (Or.inr (slot_ne (show Laid Z a0 "com/example/cardinality/cardinality/value/ByteWriter" "com/example/cardinality/cardinality/value/ByteWriter" "length" "I" from Or.inl (hw _ (List.mem_of_getElem? (i := 26) rfl))) (show Laid Z a0 "com/example/cardinality/cardinality/value/ByteWriter" "com/example/cardinality/cardinality/value/ByteWriter" "bytes" "[B" from Or.inl (hw _ (List.mem_of_getElem? (i := 15) rfl))) (by decide) (t := .int) (t' := (.array .byte)) (by decide) (by decide)))
  have F15 : Exa Z h13 r "[B" := Exa.wr W13 F11
  have F16 : Arv Z h13 r2 k2 .byte M vs (.int 0) := AVc.other W13 (Ne.symm ne2)
  have F17 : Exa Z h13 r2 "[B" := Exa.wr W13 AEc
  have Z18 : n0 ≤ h13.size := Nat.le_trans Zc (Nat.le_of_eq W13.size.symm)
  have N19 := Fr.snoc X13 NXc go
  refine ow_aloadN K X13 (pc' := 42) o d6_41 rfl rfl ?_
  refine ow_getF K X13 (pc' := 45) e13 (hw _ (List.mem_of_getElem? (i := 25) rfl)) F14 d6_42 rfl ?_
  intro T20 X20 e20
  refine ow_istoreN K X20 (pc' := 46) (Ls' := #[.val (.ref o), .val (.int n), .val (.int ln)]) d6_45 rfl rfl ?_
  refine ow_aloadN K X20 (pc' := 47) o d6_46 rfl rfl ?_
  refine ow_dup K X20 (pc' := 48) d6_47 rfl rfl ?_
  refine ow_getF K X20 (pc' := 51) e20 (hw _ (List.mem_of_getElem? (i := 25) rfl)) F14 d6_48 rfl ?_
  intro T21 X21 e21
  refine ow_iloadN K X21 (pc' := 52) n d6_51 rfl rfl ?_
  refine ow_iadd K X21 (pc' := 53) ln' d6_52 rfl hln ?_
  refine ow_putF K X21 (pc' := 56) e21 .int (hw _ (List.mem_of_getElem? (i := 25) rfl)) F14 A13 (Or.inl (hw _ (List.mem_of_getElem? (i := 26) rfl))) (hw _ (List.mem_of_getElem? (i := 1) rfl)) (by decide) rfl rfl d6_53 rfl ?_
  intro T22 h22 X22 e22 W22 F22 A22
  have F23 : Fld Z h22 o "com/example/cardinality/cardinality/value/ByteWriter" "bytes" "[B" (.ref r2) := Fld.other W22 F13 (Or.inr (slot_ne (show Laid Z a0 "com/example/cardinality/cardinality/value/ByteWriter" "com/example/cardinality/cardinality/value/ByteWriter" "bytes" "[B" from Or.inl (hw _ (List.mem_of_getElem? (i := 15) rfl))) (show Laid Z a0 "com/example/cardinality/cardinality/value/ByteWriter" "com/example/cardinality/cardinality/value/ByteWriter" "length" "I" from Or.inl (hw _ (List.mem_of_getElem? (i := 26) rfl))) (by decide) (t := (.array .byte)) (t' := .int) (by decide) (by decide)))
  have F24 : Exa Z h22 r "[B" := Exa.wr W22 F15
  have F25 : Arv Z h22 r2 k2 .byte M vs (.int 0) := F16.other W22 (Ne.symm ne2)
  have F26 : Exa Z h22 r2 "[B" := Exa.wr W22 F17
  have Z27 : n0 ≤ h22.size := Nat.le_trans Z18 (Nat.le_of_eq W22.size.symm)
  have N28 := Fr.snoc X22 N19 go
  refine ow_iloadN K X22 (pc' := 57) ln d6_56 rfl rfl ?_
  refine ow_retI K X22 .int rfl rfl (Or.inl rfl) d6_57 ?_ (by decide) (by decide)
  rw [e22]
  exact ⟨rfl, N28, Z27, r2, k2, gc, ne2, A22, F23, F22, F25, F26⟩
theorem d7_0 : decode prog_22_method_3_code 0 = .ok (.aload_n 0, 1) := by decide +kernel
theorem d7_1 : decode prog_22_method_3_code 1 = .ok (.iconst 1, 1) := by decide +kernel
theorem d7_2 : decode prog_22_method_3_code 2 = .ok (.invokevirtual 25, 3) := by decide +kernel
theorem d7_5 : decode prog_22_method_3_code 5 = .ok (.istore_n 2, 1) := by decide +kernel
theorem d7_6 : decode prog_22_method_3_code 6 = .ok (.aload_n 0, 1) := by decide +kernel
theorem d7_7 : decode prog_22_method_3_code 7 = .ok (.getfield 15, 3) := by decide +kernel
theorem d7_10 : decode prog_22_method_3_code 10 = .ok (.iload_n 2, 1) := by decide +kernel
theorem d7_11 : decode prog_22_method_3_code 11 = .ok (.iload_n 1, 1) := by decide +kernel
theorem d7_12 : decode prog_22_method_3_code 12 = .ok (.i2b, 1) := by decide +kernel
theorem d7_13 : decode prog_22_method_3_code 13 = .ok (.bastore, 1) := by decide +kernel
theorem d7_14 : decode prog_22_method_3_code 14 = .ok (.return_, 1) := by decide +kernel
theorem pn_7 : plainFor (⟨"com/example/cardinality/cardinality/value/ByteWriter", "writeByte", "(I)V"⟩ : MethodName) = true := by first | exact plainFor_of_name (by first | (simp [plainName, overriddenIn]; done) | decide +kernel) | decide +kernel
theorem pd_7 : parseMethodDescriptor "(I)V" = some ⟨[.int], none⟩ := by decide +kernel
theorem ef_7 (m : MethodId) (o : Addr) (x : Int32) : entryFrame m #[(.ref o), (.int x)] 3 = mkF m 0 #[.val (.ref o), .val (.int x), .unset] [] := by first | (simp [entryFrame, mkF, argsToLocals, Value.category]; done) | rfl
def Q7 (Z : State) (o : Addr) (x : Int32) (r : Addr) (k : ClassId) (N : Int32) (h0 : Heap) (n0 : Nat) (v : Option Value) (h : Heap) (L : List Loc) : Prop := v = none ∧ Fr n0 L ∧ n0 ≤ h.size ∧ Exa Z h o "com/example/cardinality/cardinality/value/ByteWriter" ∧ Fld Z h o "com/example/cardinality/cardinality/value/ByteWriter" "bytes" "[B" (.ref r) ∧ Fld Z h o "com/example/cardinality/cardinality/value/ByteWriter" "length" "I" (.int (1 : Int32)) ∧ Arv Z h r k .byte N [.int (nar .byte (x.toInt8.toInt32))] (.int 0) ∧ Exa Z h r "[B"
set_option maxRecDepth 65536 in
set_option maxHeartbeats 40000000 in
theorem rm7 (l : Launch) (Z : State) (a0 : Array Value) (hw : ∀ d ∈ tables_1, d.before a0 Z = true) (ws : List Jvm.Cond) (o : Addr) (x : Int32) (r : Addr) (k : ClassId) (N : Int32) (h0 : Heap) (n0 : Nat) (Z0 : n0 ≤ h0.size) (E : Exa Z h0 o "com/example/cardinality/cardinality/value/ByteWriter") (FB : Fld Z h0 o "com/example/cardinality/cardinality/value/ByteWriter" "bytes" "[B" (.ref r)) (FL : Fld Z h0 o "com/example/cardinality/cardinality/value/ByteWriter" "length" "I" (.int 0)) (AV : Arv Z h0 r k .byte N [] (.int 0)) (AE : Exa Z h0 r "[B") (go : n0 ≤ o) (gr : n0 ≤ r) (ne : o ≠ r) (hng : ¬ (N - 0) < 1) (hi : 0 < N.toNatClampNeg) :
    MetFree l (⟨"com/example/cardinality/cardinality/value/ByteWriter", "writeByte", "(I)V"⟩ : MethodName) (head1 (Jvm.Cond.code (⟨"com/example/cardinality/cardinality/value/ByteWriter", "writeByte", "(I)V"⟩ : MethodName) prog_22_method_3_code 3 none :: ws) ({ frames := 1, cells := 0, slots := 0, locals := 14 } : Room)) (fun as_ U => as_ = #[(.ref o), (.int x)] ∧ Z.Warmed39 U.vm ∧ U.heap = h0) (fun _ _ _ _ _ => True) (fun _ U oc U' => ∃ v L, oc = .returned v ∧ Q7 Z o x r k N h0 n0 v U'.heap L ∧ FrameEnd U oc U' L ({ frames := 1, cells := 0, slots := 0, locals := 14 } : Room).cells ({ frames := 1, cells := 0, slots := 0, locals := 14 } : Room).slots) := by
  refine MetFree.of_bodySF pn_7 hisR ?_
  intro p e s m args below meth c s₁ Bd hml0 hP hK
  obtain ⟨rfl, hZ, hh⟩ := hP
  have K : ow_K p e below s m meth c Z "com/example/cardinality/cardinality/value/ByteWriter" prog_22_method_3_code 3 none "writeByte" (ow_Gl p e below s (Q7 Z o x r k N h0 n0) 0 0) := ⟨ow_Gl_bc, Bd.exec, Bd.bytes, hml0, findClass_of_methodNamed Bd.named, hZ, Bd.returns, Bd.notSynchronized, (name_of_methodNamed Bd.named Bd.method).1⟩
  have X0 : Stand p l e ({ frames := 1, cells := 0, slots := 0, locals := 14 } : Room) s m #[(.ref o), (.int x)] below meth c s₁ [] 0 0 := Stand.of_body Bd
  have e0 : s₁.heap = h0 := by rw [← hh, Bd.state]; rfl
  have N0 := Fr.nil n0
  refine ow_entry (Q := (Q7 Z o x r k N h0 n0)) (ce := 0) (sl := 0) (ef_7 m o x) ?_
  refine ow_aloadN K X0 (pc' := 1) o d7_0 rfl rfl ?_
  refine ow_iconst K X0 (pc' := 2) (1 : Int32) d7_1 rfl (by decide) ?_
  refine ow_callR K X0 (pc' := 5) e0 (y' := (⟨"com/example/cardinality/cardinality/value/ByteWriter", "writeByte", "(I)V"⟩ : MethodName)) (y := (⟨"com/example/cardinality/cardinality/value/ByteWriter", "next", "(I)I"⟩ : MethodName)) (rm5 l Z a0 hw [] o (1 : Int32) r k N 0 (1 : Int32) [] h0 n0 Z0 E FB FL AV AE go gr ne hng (by decide)) E rfl (hw _ (List.mem_of_getElem? (i := 19) rfl)) (hw _ (List.mem_of_getElem? (i := 23) rfl)) (hw _ (List.mem_of_getElem? (i := 21) rfl)) (hw _ (List.mem_of_getElem? (i := 22) rfl)) (hw _ (List.mem_of_getElem? (i := 2) rfl)) (hw _ (List.mem_of_getElem? (i := 24) rfl)) (by decide) (st := []) 0 (Nat.le_of_eq rfl) (by decide) (by decide) (by decide) (by decide) rfl [.int (1 : Int32)] rfl (lenOf pd_5 rfl) rfl d7_2 rfl ?_
  intro v1 T1 L1 X1 hQ1
  obtain ⟨rfl, NNn, Zn, En, FBn, FLn, AVn, AEn⟩ := hQ1
  have NXn := Fr.app N0 NNn
  refine ow_at (g := (mkF m 5 #[.val (.ref o), .val (.int x), .unset] [.int 0])) ?_
  refine ow_istoreN K X1 (pc' := 6) (Ls' := #[.val (.ref o), .val (.int x), .val (.int 0)]) d7_5 rfl rfl ?_
  refine ow_aloadN K X1 (pc' := 7) o d7_6 rfl rfl ?_
  refine ow_getF K X1 (pc' := 10) (rfl : T1.heap = T1.heap) (hw _ (List.mem_of_getElem? (i := 14) rfl)) FBn d7_7 rfl ?_
  intro T2 X2 e2
  refine ow_iloadN K X2 (pc' := 11) 0 d7_10 rfl rfl ?_
  refine ow_iloadN K X2 (pc' := 12) x d7_11 rfl rfl ?_
  refine ow_i2b K X2 (pc' := 13) ((x).toInt8.toInt32) d7_12 rfl rfl ?_
  have F3 : Arv Z T1.heap r k .byte N [.int 0] (.int 0) := Arv.pad AVn (pad_rep [] (.int 0) 1)
  refine ow_bastore K X2 (pc' := 14) e2 F3 0 [.int (nar .byte (x.toInt8.toInt32))] ⟨by decide, by decide⟩ hi (by decide) rfl d7_13 rfl ?_
  intro T4 h4 X4 e4 W4 F4
  have F5 : Exa Z h4 o "com/example/cardinality/cardinality/value/ByteWriter" := Exa.wr W4 En
  have F6 : Fld Z h4 o "com/example/cardinality/cardinality/value/ByteWriter" "bytes" "[B" (.ref r) := Fld.other W4 FBn (Or.inl ne)
  have F7 : Fld Z h4 o "com/example/cardinality/cardinality/value/ByteWriter" "length" "I" (.int (1 : Int32)) := Fld.other W4 FLn (Or.inl ne)
  have F8 : Exa Z h4 r "[B" := Exa.wr W4 AEn
  have Z9 : n0 ≤ h4.size := Nat.le_trans Zn (Nat.le_of_eq W4.size.symm)
  have N10 := Fr.snoc X4 NXn gr
  refine ow_ret K X4 rfl d7_14 ?_ (by decide) (by decide)
  rw [e4]
  exact ⟨rfl, N10, Z9, F5, F6, F7, F4, F8⟩
theorem d8_0 : decode prog_22_method_11_code 0 = .ok (.aload_n 0, 1) := by decide +kernel
theorem d8_1 : decode prog_22_method_11_code 1 = .ok (.getfield 15, 3) := by decide +kernel
theorem d8_4 : decode prog_22_method_11_code 4 = .ok (.iload_n 1, 1) := by decide +kernel
theorem d8_5 : decode prog_22_method_11_code 5 = .ok (.iload_n 2, 1) := by decide +kernel
theorem d8_6 : decode prog_22_method_11_code 6 = .ok (.bipush 24, 2) := by decide +kernel
theorem d8_8 : decode prog_22_method_11_code 8 = .ok (.iushr, 1) := by decide +kernel
theorem d8_9 : decode prog_22_method_11_code 9 = .ok (.i2b, 1) := by decide +kernel
theorem d8_10 : decode prog_22_method_11_code 10 = .ok (.bastore, 1) := by decide +kernel
theorem d8_11 : decode prog_22_method_11_code 11 = .ok (.aload_n 0, 1) := by decide +kernel
theorem d8_12 : decode prog_22_method_11_code 12 = .ok (.getfield 15, 3) := by decide +kernel
theorem d8_15 : decode prog_22_method_11_code 15 = .ok (.iload_n 1, 1) := by decide +kernel
theorem d8_16 : decode prog_22_method_11_code 16 = .ok (.iconst 1, 1) := by decide +kernel
theorem d8_17 : decode prog_22_method_11_code 17 = .ok (.iadd, 1) := by decide +kernel
theorem d8_18 : decode prog_22_method_11_code 18 = .ok (.iload_n 2, 1) := by decide +kernel
theorem d8_19 : decode prog_22_method_11_code 19 = .ok (.bipush 16, 2) := by decide +kernel
theorem d8_21 : decode prog_22_method_11_code 21 = .ok (.iushr, 1) := by decide +kernel
theorem d8_22 : decode prog_22_method_11_code 22 = .ok (.i2b, 1) := by decide +kernel
theorem d8_23 : decode prog_22_method_11_code 23 = .ok (.bastore, 1) := by decide +kernel
theorem d8_24 : decode prog_22_method_11_code 24 = .ok (.aload_n 0, 1) := by decide +kernel
theorem d8_25 : decode prog_22_method_11_code 25 = .ok (.getfield 15, 3) := by decide +kernel
theorem d8_28 : decode prog_22_method_11_code 28 = .ok (.iload_n 1, 1) := by decide +kernel
theorem d8_29 : decode prog_22_method_11_code 29 = .ok (.iconst 2, 1) := by decide +kernel
theorem d8_30 : decode prog_22_method_11_code 30 = .ok (.iadd, 1) := by decide +kernel
theorem d8_31 : decode prog_22_method_11_code 31 = .ok (.iload_n 2, 1) := by decide +kernel
theorem d8_32 : decode prog_22_method_11_code 32 = .ok (.bipush 8, 2) := by decide +kernel
theorem d8_34 : decode prog_22_method_11_code 34 = .ok (.iushr, 1) := by decide +kernel
theorem d8_35 : decode prog_22_method_11_code 35 = .ok (.i2b, 1) := by decide +kernel
theorem d8_36 : decode prog_22_method_11_code 36 = .ok (.bastore, 1) := by decide +kernel
theorem d8_37 : decode prog_22_method_11_code 37 = .ok (.aload_n 0, 1) := by decide +kernel
theorem d8_38 : decode prog_22_method_11_code 38 = .ok (.getfield 15, 3) := by decide +kernel
theorem d8_41 : decode prog_22_method_11_code 41 = .ok (.iload_n 1, 1) := by decide +kernel
theorem d8_42 : decode prog_22_method_11_code 42 = .ok (.iconst 3, 1) := by decide +kernel
theorem d8_43 : decode prog_22_method_11_code 43 = .ok (.iadd, 1) := by decide +kernel
theorem d8_44 : decode prog_22_method_11_code 44 = .ok (.iload_n 2, 1) := by decide +kernel
theorem d8_45 : decode prog_22_method_11_code 45 = .ok (.i2b, 1) := by decide +kernel
theorem d8_46 : decode prog_22_method_11_code 46 = .ok (.bastore, 1) := by decide +kernel
theorem d8_47 : decode prog_22_method_11_code 47 = .ok (.return_, 1) := by decide +kernel
theorem pn_8 : plainFor (⟨"com/example/cardinality/cardinality/value/ByteWriter", "putInt", "(II)V"⟩ : MethodName) = true := by first | exact plainFor_of_name (by first | (simp [plainName, overriddenIn]; done) | decide +kernel) | decide +kernel
theorem pd_8 : parseMethodDescriptor "(II)V" = some ⟨[.int, .int], none⟩ := by decide +kernel
theorem ef_8 (m : MethodId) (o : Addr) (t : Int32) (x : Int32) : entryFrame m #[(.ref o), (.int t), (.int x)] 3 = mkF m 0 #[.val (.ref o), .val (.int t), .val (.int x)] [] := by first | (simp [entryFrame, mkF, argsToLocals, Value.category]; done) | rfl
def Q8 (Z : State) (o : Addr) (t : Int32) (x : Int32) (r : Addr) (k : ClassId) (N : Int32) (ln : Int32) (vs : List Value) (h0 : Heap) (n0 : Nat) (v : Option Value) (h : Heap) (L : List Loc) : Prop := v = none ∧ Fr n0 L ∧ n0 ≤ h.size ∧ Exa Z h o "com/example/cardinality/cardinality/value/ByteWriter" ∧ Fld Z h o "com/example/cardinality/cardinality/value/ByteWriter" "bytes" "[B" (.ref r) ∧ Fld Z h o "com/example/cardinality/cardinality/value/ByteWriter" "length" "I" (.int ln) ∧ Arv Z h r k .byte N ((((vs.set 1 (.int (nar .byte ((XT.ushr x (24 : Int32)).toInt8.toInt32)))).set 2 (.int (nar .byte ((XT.ushr x (16 : Int32)).toInt8.toInt32)))).set 3 (.int (nar .byte ((XT.ushr x (8 : Int32)).toInt8.toInt32)))).set 4 (.int (nar .byte (x.toInt8.toInt32)))) (.int 0) ∧ Exa Z h r "[B"
set_option maxRecDepth 65536 in
set_option maxHeartbeats 40000000 in
theorem rm8 (l : Launch) (Z : State) (a0 : Array Value) (hw : ∀ d ∈ tables_1, d.before a0 Z = true) (ws : List Jvm.Cond) (o : Addr) (t : Int32) (x : Int32) (r : Addr) (k : ClassId) (N : Int32) (ln : Int32) (vs : List Value) (h0 : Heap) (n0 : Nat) (Z0 : n0 ≤ h0.size) (E : Exa Z h0 o "com/example/cardinality/cardinality/value/ByteWriter") (FB : Fld Z h0 o "com/example/cardinality/cardinality/value/ByteWriter" "bytes" "[B" (.ref r)) (FL : Fld Z h0 o "com/example/cardinality/cardinality/value/ByteWriter" "length" "I" (.int ln)) (AV : Arv Z h0 r k .byte N vs (.int 0)) (AE : Exa Z h0 r "[B") (go : n0 ≤ o) (gr : n0 ≤ r) (ne : o ≠ r) (ht : t = 1) (hi : 5 ≤ N.toNatClampNeg) (hl : 5 ≤ vs.length) :
    MetFree l (⟨"com/example/cardinality/cardinality/value/ByteWriter", "putInt", "(II)V"⟩ : MethodName) (head1 (Jvm.Cond.code (⟨"com/example/cardinality/cardinality/value/ByteWriter", "putInt", "(II)V"⟩ : MethodName) prog_22_method_11_code 3 none :: ws) ({ frames := 0, cells := 0, slots := 0, locals := 0 } : Room)) (fun as_ U => as_ = #[(.ref o), (.int t), (.int x)] ∧ Z.Warmed39 U.vm ∧ U.heap = h0) (fun _ _ _ _ _ => True) (fun _ U oc U' => ∃ v L, oc = .returned v ∧ Q8 Z o t x r k N ln vs h0 n0 v U'.heap L ∧ FrameEnd U oc U' L ({ frames := 0, cells := 0, slots := 0, locals := 0 } : Room).cells ({ frames := 0, cells := 0, slots := 0, locals := 0 } : Room).slots) := by
  refine MetFree.of_bodySF pn_8 hisR ?_
  intro p e s m args below meth c s₁ Bd hml0 hP hK
  obtain ⟨rfl, hZ, hh⟩ := hP
  have K : ow_K p e below s m meth c Z "com/example/cardinality/cardinality/value/ByteWriter" prog_22_method_11_code 3 none "putInt" (ow_Gl p e below s (Q8 Z o t x r k N ln vs h0 n0) 0 0) := ⟨ow_Gl_bc, Bd.exec, Bd.bytes, hml0, findClass_of_methodNamed Bd.named, hZ, Bd.returns, Bd.notSynchronized, (name_of_methodNamed Bd.named Bd.method).1⟩
  have X0 : Stand p l e ({ frames := 0, cells := 0, slots := 0, locals := 0 } : Room) s m #[(.ref o), (.int t), (.int x)] below meth c s₁ [] 0 0 := Stand.of_body Bd
  have e0 : s₁.heap = h0 := by rw [← hh, Bd.state]; rfl
  have N0 := Fr.nil n0
  refine ow_entry (Q := (Q8 Z o t x r k N ln vs h0 n0)) (ce := 0) (sl := 0) (ef_8 m o t x) ?_
  subst ht
  refine ow_aloadN K X0 (pc' := 1) o d8_0 rfl rfl ?_
  refine ow_getF K X0 (pc' := 4) e0 (hw _ (List.mem_of_getElem? (i := 14) rfl)) FB d8_1 rfl ?_
  intro T1 X1 e1
  refine ow_iloadN K X1 (pc' := 5) (1 : Int32) d8_4 rfl rfl ?_
  refine ow_iloadN K X1 (pc' := 6) x d8_5 rfl rfl ?_
  refine ow_bipush K X1 (pc' := 8) (24 : Int32) d8_6 rfl (by decide) ?_
  refine ow_iushr K X1 (pc' := 9) (XT.ushr x (24 : Int32)) d8_8 rfl rfl ?_
  refine ow_i2b K X1 (pc' := 10) (((XT.ushr x (24 : Int32))).toInt8.toInt32) d8_9 rfl rfl ?_
  refine ow_bastore K X1 (pc' := 11) e1 AV 1 (vs.set 1 (.int (nar .byte ((XT.ushr x (24 : Int32)).toInt8.toInt32)))) ⟨by decide, by decide⟩ (by omega) (by first | omega | (simp only [List.length_set]; omega)) rfl d8_10 rfl ?_
  intro T2 h2 X2 e2 W2 F2
  have F3 : Exa Z h2 o "com/example/cardinality/cardinality/value/ByteWriter" := Exa.wr W2 E
  have F4 : Fld Z h2 o "com/example/cardinality/cardinality/value/ByteWriter" "bytes" "[B" (.ref r) := Fld.other W2 FB (Or.inl ne)
  have F5 : Fld Z h2 o "com/example/cardinality/cardinality/value/ByteWriter" "length" "I" (.int ln) := Fld.other W2 FL (Or.inl ne)
  have F6 : Exa Z h2 r "[B" := Exa.wr W2 AE
  have Z7 : n0 ≤ h2.size := Nat.le_trans Z0 (Nat.le_of_eq W2.size.symm)
  have N8 := Fr.snoc X2 N0 gr
  refine ow_aloadN K X2 (pc' := 12) o d8_11 rfl rfl ?_
  refine ow_getF K X2 (pc' := 15) e2 (hw _ (List.mem_of_getElem? (i := 14) rfl)) F4 d8_12 rfl ?_
  intro T9 X9 e9
  refine ow_iloadN K X9 (pc' := 16) (1 : Int32) d8_15 rfl rfl ?_
  refine ow_iconst K X9 (pc' := 17) (1 : Int32) d8_16 rfl (by decide) ?_
  refine ow_iadd K X9 (pc' := 18) (2 : Int32) d8_17 rfl (by decide) ?_
  refine ow_iloadN K X9 (pc' := 19) x d8_18 rfl rfl ?_
  refine ow_bipush K X9 (pc' := 21) (16 : Int32) d8_19 rfl (by decide) ?_
  refine ow_iushr K X9 (pc' := 22) (XT.ushr x (16 : Int32)) d8_21 rfl rfl ?_
  refine ow_i2b K X9 (pc' := 23) (((XT.ushr x (16 : Int32))).toInt8.toInt32) d8_22 rfl rfl ?_
  refine ow_bastore K X9 (pc' := 24) e9 F2 2 ((vs.set 1 (.int (nar .byte ((XT.ushr x (24 : Int32)).toInt8.toInt32)))).set 2 (.int (nar .byte ((XT.ushr x (16 : Int32)).toInt8.toInt32)))) ⟨by decide, by decide⟩ (by omega) (by first | omega | (simp only [List.length_set]; omega)) rfl d8_23 rfl ?_
  intro T10 h10 X10 e10 W10 F10
  have F11 : Exa Z h10 o "com/example/cardinality/cardinality/value/ByteWriter" := Exa.wr W10 F3
  have F12 : Fld Z h10 o "com/example/cardinality/cardinality/value/ByteWriter" "bytes" "[B" (.ref r) := Fld.other W10 F4 (Or.inl ne)
  have F13 : Fld Z h10 o "com/example/cardinality/cardinality/value/ByteWriter" "length" "I" (.int ln) := Fld.other W10 F5 (Or.inl ne)
  have F14 : Exa Z h10 r "[B" := Exa.wr W10 F6
  have Z15 : n0 ≤ h10.size := Nat.le_trans Z7 (Nat.le_of_eq W10.size.symm)
  have N16 := Fr.snoc X10 N8 gr
  refine ow_aloadN K X10 (pc' := 25) o d8_24 rfl rfl ?_
  refine ow_getF K X10 (pc' := 28) e10 (hw _ (List.mem_of_getElem? (i := 14) rfl)) F12 d8_25 rfl ?_
  intro T17 X17 e17
  refine ow_iloadN K X17 (pc' := 29) (1 : Int32) d8_28 rfl rfl ?_
  refine ow_iconst K X17 (pc' := 30) (2 : Int32) d8_29 rfl (by decide) ?_
  refine ow_iadd K X17 (pc' := 31) (3 : Int32) d8_30 rfl (by decide) ?_
  refine ow_iloadN K X17 (pc' := 32) x d8_31 rfl rfl ?_
  refine ow_bipush K X17 (pc' := 34) (8 : Int32) d8_32 rfl (by decide) ?_
  refine ow_iushr K X17 (pc' := 35) (XT.ushr x (8 : Int32)) d8_34 rfl rfl ?_
  refine ow_i2b K X17 (pc' := 36) (((XT.ushr x (8 : Int32))).toInt8.toInt32) d8_35 rfl rfl ?_
  refine ow_bastore K X17 (pc' := 37) e17 F10 3 (((vs.set 1 (.int (nar .byte ((XT.ushr x (24 : Int32)).toInt8.toInt32)))).set 2 (.int (nar .byte ((XT.ushr x (16 : Int32)).toInt8.toInt32)))).set 3 (.int (nar .byte ((XT.ushr x (8 : Int32)).toInt8.toInt32)))) ⟨by decide, by decide⟩ (by omega) (by first | omega | (simp only [List.length_set]; omega)) rfl d8_36 rfl ?_
  intro T18 h18 X18 e18 W18 F18
  have F19 : Exa Z h18 o "com/example/cardinality/cardinality/value/ByteWriter" := Exa.wr W18 F11
  have F20 : Fld Z h18 o "com/example/cardinality/cardinality/value/ByteWriter" "bytes" "[B" (.ref r) := Fld.other W18 F12 (Or.inl ne)
  have F21 : Fld Z h18 o "com/example/cardinality/cardinality/value/ByteWriter" "length" "I" (.int ln) := Fld.other W18 F13 (Or.inl ne)
  have F22 : Exa Z h18 r "[B" := Exa.wr W18 F14
  have Z23 : n0 ≤ h18.size := Nat.le_trans Z15 (Nat.le_of_eq W18.size.symm)
  have N24 := Fr.snoc X18 N16 gr
  refine ow_aloadN K X18 (pc' := 38) o d8_37 rfl rfl ?_
  refine ow_getF K X18 (pc' := 41) e18 (hw _ (List.mem_of_getElem? (i := 14) rfl)) F20 d8_38 rfl ?_
  intro T25 X25 e25
  refine ow_iloadN K X25 (pc' := 42) (1 : Int32) d8_41 rfl rfl ?_
  refine ow_iconst K X25 (pc' := 43) (3 : Int32) d8_42 rfl (by decide) ?_
  refine ow_iadd K X25 (pc' := 44) (4 : Int32) d8_43 rfl (by decide) ?_
  refine ow_iloadN K X25 (pc' := 45) x d8_44 rfl rfl ?_
  refine ow_i2b K X25 (pc' := 46) ((x).toInt8.toInt32) d8_45 rfl rfl ?_
  refine ow_bastore K X25 (pc' := 47) e25 F18 4 ((((vs.set 1 (.int (nar .byte ((XT.ushr x (24 : Int32)).toInt8.toInt32)))).set 2 (.int (nar .byte ((XT.ushr x (16 : Int32)).toInt8.toInt32)))).set 3 (.int (nar .byte ((XT.ushr x (8 : Int32)).toInt8.toInt32)))).set 4 (.int (nar .byte (x.toInt8.toInt32)))) ⟨by decide, by decide⟩ (by omega) (by first | omega | (simp only [List.length_set]; omega)) rfl d8_46 rfl ?_
  intro T26 h26 X26 e26 W26 F26
  have F27 : Exa Z h26 o "com/example/cardinality/cardinality/value/ByteWriter" := Exa.wr W26 F19
  have F28 : Fld Z h26 o "com/example/cardinality/cardinality/value/ByteWriter" "bytes" "[B" (.ref r) := Fld.other W26 F20 (Or.inl ne)
  have F29 : Fld Z h26 o "com/example/cardinality/cardinality/value/ByteWriter" "length" "I" (.int ln) := Fld.other W26 F21 (Or.inl ne)
  have F30 : Exa Z h26 r "[B" := Exa.wr W26 F22
  have Z31 : n0 ≤ h26.size := Nat.le_trans Z23 (Nat.le_of_eq W26.size.symm)
  have N32 := Fr.snoc X26 N24 gr
  refine ow_ret K X26 rfl d8_47 ?_ (by decide) (by decide)
  rw [e26]
  exact ⟨rfl, N32, Z31, F27, F28, F29, F26, F30⟩
theorem d9_0 : decode prog_22_method_5_code 0 = .ok (.aload_n 0, 1) := by decide +kernel
theorem d9_1 : decode prog_22_method_5_code 1 = .ok (.aload_n 0, 1) := by decide +kernel
theorem d9_2 : decode prog_22_method_5_code 2 = .ok (.iconst 4, 1) := by decide +kernel
theorem d9_3 : decode prog_22_method_5_code 3 = .ok (.invokevirtual 25, 3) := by decide +kernel
theorem d9_6 : decode prog_22_method_5_code 6 = .ok (.iload_n 1, 1) := by decide +kernel
theorem d9_7 : decode prog_22_method_5_code 7 = .ok (.invokevirtual 35, 3) := by decide +kernel
theorem d9_10 : decode prog_22_method_5_code 10 = .ok (.return_, 1) := by decide +kernel
theorem pn_9 : plainFor (⟨"com/example/cardinality/cardinality/value/ByteWriter", "writeInt", "(I)V"⟩ : MethodName) = true := by first | exact plainFor_of_name (by first | (simp [plainName, overriddenIn]; done) | decide +kernel) | decide +kernel
theorem pd_9 : parseMethodDescriptor "(I)V" = some ⟨[.int], none⟩ := by decide +kernel
theorem ef_9 (m : MethodId) (o : Addr) (x : Int32) : entryFrame m #[(.ref o), (.int x)] 2 = mkF m 0 #[.val (.ref o), .val (.int x)] [] := by first | (simp [entryFrame, mkF, argsToLocals, Value.category]; done) | rfl
def Q9 (Z : State) (o : Addr) (x : Int32) (r : Addr) (k : ClassId) (N : Int32) (y0 : Int32) (h0 : Heap) (n0 : Nat) (v : Option Value) (h : Heap) (L : List Loc) : Prop := v = none ∧ Fr n0 L ∧ n0 ≤ h.size ∧ Exa Z h o "com/example/cardinality/cardinality/value/ByteWriter" ∧ Fld Z h o "com/example/cardinality/cardinality/value/ByteWriter" "bytes" "[B" (.ref r) ∧ Fld Z h o "com/example/cardinality/cardinality/value/ByteWriter" "length" "I" (.int (5 : Int32)) ∧ Arv Z h r k .byte N [.int y0, .int (nar .byte ((XT.ushr x (24 : Int32)).toInt8.toInt32)), .int (nar .byte ((XT.ushr x (16 : Int32)).toInt8.toInt32)), .int (nar .byte ((XT.ushr x (8 : Int32)).toInt8.toInt32)), .int (nar .byte (x.toInt8.toInt32))] (.int 0) ∧ Exa Z h r "[B"
set_option maxRecDepth 65536 in
set_option maxHeartbeats 40000000 in
theorem rm9 (l : Launch) (Z : State) (a0 : Array Value) (hw : ∀ d ∈ tables_1, d.before a0 Z = true) (ws : List Jvm.Cond) (o : Addr) (x : Int32) (r : Addr) (k : ClassId) (N : Int32) (y0 : Int32) (h0 : Heap) (n0 : Nat) (Z0 : n0 ≤ h0.size) (E : Exa Z h0 o "com/example/cardinality/cardinality/value/ByteWriter") (FB : Fld Z h0 o "com/example/cardinality/cardinality/value/ByteWriter" "bytes" "[B" (.ref r)) (FL : Fld Z h0 o "com/example/cardinality/cardinality/value/ByteWriter" "length" "I" (.int (1 : Int32))) (AV : Arv Z h0 r k .byte N [.int y0] (.int 0)) (AE : Exa Z h0 r "[B") (go : n0 ≤ o) (gr : n0 ≤ r) (ne : o ≠ r) (hng : ¬ (N - 1) < 4) (hi : 5 ≤ N.toNatClampNeg) :
    MetFree l (⟨"com/example/cardinality/cardinality/value/ByteWriter", "writeInt", "(I)V"⟩ : MethodName) (head1 (Jvm.Cond.code (⟨"com/example/cardinality/cardinality/value/ByteWriter", "writeInt", "(I)V"⟩ : MethodName) prog_22_method_5_code 2 none :: ws) ({ frames := 1, cells := 0, slots := 0, locals := 16 } : Room)) (fun as_ U => as_ = #[(.ref o), (.int x)] ∧ Z.Warmed39 U.vm ∧ U.heap = h0) (fun _ _ _ _ _ => True) (fun _ U oc U' => ∃ v L, oc = .returned v ∧ Q9 Z o x r k N y0 h0 n0 v U'.heap L ∧ FrameEnd U oc U' L ({ frames := 1, cells := 0, slots := 0, locals := 16 } : Room).cells ({ frames := 1, cells := 0, slots := 0, locals := 16 } : Room).slots) := by
  refine MetFree.of_bodySF pn_9 hisR ?_
  intro p e s m args below meth c s₁ Bd hml0 hP hK
  obtain ⟨rfl, hZ, hh⟩ := hP
  have K : ow_K p e below s m meth c Z "com/example/cardinality/cardinality/value/ByteWriter" prog_22_method_5_code 2 none "writeInt" (ow_Gl p e below s (Q9 Z o x r k N y0 h0 n0) 0 0) := ⟨ow_Gl_bc, Bd.exec, Bd.bytes, hml0, findClass_of_methodNamed Bd.named, hZ, Bd.returns, Bd.notSynchronized, (name_of_methodNamed Bd.named Bd.method).1⟩
  have X0 : Stand p l e ({ frames := 1, cells := 0, slots := 0, locals := 16 } : Room) s m #[(.ref o), (.int x)] below meth c s₁ [] 0 0 := Stand.of_body Bd
  have e0 : s₁.heap = h0 := by rw [← hh, Bd.state]; rfl
  have N0 := Fr.nil n0
  refine ow_entry (Q := (Q9 Z o x r k N y0 h0 n0)) (ce := 0) (sl := 0) (ef_9 m o x) ?_
  refine ow_aloadN K X0 (pc' := 1) o d9_0 rfl rfl ?_
  refine ow_aloadN K X0 (pc' := 2) o d9_1 rfl rfl ?_
  refine ow_iconst K X0 (pc' := 3) (4 : Int32) d9_2 rfl (by decide) ?_
  refine ow_callR K X0 (pc' := 6) e0 (y' := (⟨"com/example/cardinality/cardinality/value/ByteWriter", "writeByte", "(I)V"⟩ : MethodName)) (y := (⟨"com/example/cardinality/cardinality/value/ByteWriter", "next", "(I)I"⟩ : MethodName)) (rm5 l Z a0 hw [] o (4 : Int32) r k N (1 : Int32) (5 : Int32) [.int y0] h0 n0 Z0 E FB FL AV AE go gr ne hng (by decide)) E rfl (hw _ (List.mem_of_getElem? (i := 19) rfl)) (hw _ (List.mem_of_getElem? (i := 23) rfl)) (hw _ (List.mem_of_getElem? (i := 21) rfl)) (hw _ (List.mem_of_getElem? (i := 22) rfl)) (hw _ (List.mem_of_getElem? (i := 2) rfl)) (hw _ (List.mem_of_getElem? (i := 24) rfl)) (by decide) (st := [.ref o]) 1 (Nat.le_of_eq rfl) (by decide) (by decide) (by decide) (by decide) rfl [.int (4 : Int32)] rfl (lenOf pd_5 rfl) rfl d9_3 rfl ?_
  intro v1 T1 L1 X1 hQ1
  obtain ⟨rfl, NNn, Zn, En, FBn, FLn, AVn, AEn⟩ := hQ1
  have NXn := Fr.app N0 NNn
  refine ow_at (g := (mkF m 6 #[.val (.ref o), .val (.int x)] [.int (1 : Int32), .ref o])) ?_
  refine ow_iloadN K X1 (pc' := 7) x d9_6 rfl rfl ?_
  have F2 : Arv Z T1.heap r k .byte N [.int y0, .int 0, .int 0, .int 0, .int 0] (.int 0) := Arv.pad AVn (pad_rep [.int y0] (.int 0) 4)
  refine ow_callR K X1 (pc' := 10) (rfl : T1.heap = T1.heap) (y' := (⟨"com/example/cardinality/cardinality/value/ByteWriter", "writeByte", "(I)V"⟩ : MethodName)) (y := (⟨"com/example/cardinality/cardinality/value/ByteWriter", "putInt", "(II)V"⟩ : MethodName)) (rm8 l Z a0 hw [] o (1 : Int32) x r k N (5 : Int32) [.int y0, .int 0, .int 0, .int 0, .int 0] T1.heap n0 Zn En FBn FLn F2 AEn go gr ne rfl hi (by simp)) En rfl (hw _ (List.mem_of_getElem? (i := 19) rfl)) (hw _ (List.mem_of_getElem? (i := 34) rfl)) (hw _ (List.mem_of_getElem? (i := 32) rfl)) (hw _ (List.mem_of_getElem? (i := 33) rfl)) (hw _ (List.mem_of_getElem? (i := 2) rfl)) (hw _ (List.mem_of_getElem? (i := 35) rfl)) (by decide) (st := []) 0 (Nat.le_of_eq rfl) (by decide) (by decide) (by decide) (by decide) rfl [.int (1 : Int32), .int x] rfl (lenOf pd_8 rfl) rfl d9_7 rfl ?_
  intro v3 T3 L3 X3 hQ3
  obtain ⟨rfl, NNp, Zp, Ep, FBp, FLp, AVp', AEp⟩ := hQ3
  have NXp := Fr.app NXn NNp
  have AVp : Arv Z T3.heap r k .byte N [.int y0, .int (nar .byte ((XT.ushr x (24 : Int32)).toInt8.toInt32)), .int (nar .byte ((XT.ushr x (16 : Int32)).toInt8.toInt32)), .int (nar .byte ((XT.ushr x (8 : Int32)).toInt8.toInt32)), .int (nar .byte (x.toInt8.toInt32))] (.int 0) := AVp'
  refine ow_at (g := (mkF m 10 #[.val (.ref o), .val (.int x)] [])) ?_
  exact ow_ret K X3 rfl d9_10 ⟨rfl, NXp, Zp, Ep, FBp, FLp, AVp, AEp⟩ (by decide) (by decide)
theorem d10_0 : decode prog_22_method_9_code 0 = .ok (.iload_n 1, 1) := by decide +kernel
theorem d10_1 : decode prog_22_method_9_code 1 = .ok (.ifCond .lt 13, 3) := by decide +kernel
theorem d10_4 : decode prog_22_method_9_code 4 = .ok (.iload_n 1, 1) := by decide +kernel
theorem d10_5 : decode prog_22_method_9_code 5 = .ok (.aload_n 0, 1) := by decide +kernel
theorem d10_6 : decode prog_22_method_9_code 6 = .ok (.getfield 21, 3) := by decide +kernel
theorem d10_9 : decode prog_22_method_9_code 9 = .ok (.iconst 4, 1) := by decide +kernel
theorem d10_10 : decode prog_22_method_9_code 10 = .ok (.isub, 1) := by decide +kernel
theorem d10_11 : decode prog_22_method_9_code 11 = .ok (.if_icmp .le 21, 3) := by decide +kernel
theorem d10_14 : decode prog_22_method_9_code 14 = .ok (.new 55, 3) := by decide +kernel
theorem d10_17 : decode prog_22_method_9_code 17 = .ok (.dup, 1) := by decide +kernel
theorem d10_18 : decode prog_22_method_9_code 18 = .ok (.iload_n 1, 1) := by decide +kernel
theorem d10_19 : decode prog_22_method_9_code 19 = .ok (.aload_n 0, 1) := by decide +kernel
theorem d10_20 : decode prog_22_method_9_code 20 = .ok (.getfield 21, 3) := by decide +kernel
theorem d10_23 : decode prog_22_method_9_code 23 = .ok (.invokedynamic 57, 5) := by decide +kernel
theorem d10_28 : decode prog_22_method_9_code 28 = .ok (.invokespecial 61, 3) := by decide +kernel
theorem d10_31 : decode prog_22_method_9_code 31 = .ok (.athrow, 1) := by decide +kernel
theorem d10_32 : decode prog_22_method_9_code 32 = .ok (.aload_n 0, 1) := by decide +kernel
theorem d10_33 : decode prog_22_method_9_code 33 = .ok (.iload_n 1, 1) := by decide +kernel
theorem d10_34 : decode prog_22_method_9_code 34 = .ok (.iload_n 2, 1) := by decide +kernel
theorem d10_35 : decode prog_22_method_9_code 35 = .ok (.invokevirtual 35, 3) := by decide +kernel
theorem d10_38 : decode prog_22_method_9_code 38 = .ok (.return_, 1) := by decide +kernel
theorem pn_10 : plainFor (⟨"com/example/cardinality/cardinality/value/ByteWriter", "writeIntAt", "(II)V"⟩ : MethodName) = true := by first | exact plainFor_of_name (by first | (simp [plainName, overriddenIn]; done) | decide +kernel) | decide +kernel
theorem pd_10 : parseMethodDescriptor "(II)V" = some ⟨[.int, .int], none⟩ := by decide +kernel
theorem ef_10 (m : MethodId) (o : Addr) (t : Int32) (x : Int32) : entryFrame m #[(.ref o), (.int t), (.int x)] 3 = mkF m 0 #[.val (.ref o), .val (.int t), .val (.int x)] [] := by first | (simp [entryFrame, mkF, argsToLocals, Value.category]; done) | rfl
def Q10 (Z : State) (o : Addr) (t : Int32) (x : Int32) (r : Addr) (k : ClassId) (N : Int32) (ln : Int32) (vs : List Value) (h0 : Heap) (n0 : Nat) (v : Option Value) (h : Heap) (L : List Loc) : Prop := v = none ∧ Fr n0 L ∧ n0 ≤ h.size ∧ Exa Z h o "com/example/cardinality/cardinality/value/ByteWriter" ∧ Fld Z h o "com/example/cardinality/cardinality/value/ByteWriter" "bytes" "[B" (.ref r) ∧ Fld Z h o "com/example/cardinality/cardinality/value/ByteWriter" "length" "I" (.int ln) ∧ Arv Z h r k .byte N ((((vs.set 1 (.int (nar .byte ((XT.ushr x (24 : Int32)).toInt8.toInt32)))).set 2 (.int (nar .byte ((XT.ushr x (16 : Int32)).toInt8.toInt32)))).set 3 (.int (nar .byte ((XT.ushr x (8 : Int32)).toInt8.toInt32)))).set 4 (.int (nar .byte (x.toInt8.toInt32)))) (.int 0) ∧ Exa Z h r "[B"
set_option maxRecDepth 65536 in
set_option maxHeartbeats 40000000 in
theorem rm10 (l : Launch) (Z : State) (a0 : Array Value) (hw : ∀ d ∈ tables_1, d.before a0 Z = true) (ws : List Jvm.Cond) (o : Addr) (t : Int32) (x : Int32) (r : Addr) (k : ClassId) (N : Int32) (ln : Int32) (vs : List Value) (h0 : Heap) (n0 : Nat) (Z0 : n0 ≤ h0.size) (E : Exa Z h0 o "com/example/cardinality/cardinality/value/ByteWriter") (FB : Fld Z h0 o "com/example/cardinality/cardinality/value/ByteWriter" "bytes" "[B" (.ref r)) (FL : Fld Z h0 o "com/example/cardinality/cardinality/value/ByteWriter" "length" "I" (.int ln)) (AV : Arv Z h0 r k .byte N vs (.int 0)) (AE : Exa Z h0 r "[B") (go : n0 ≤ o) (gr : n0 ≤ r) (ne : o ≠ r) (ht : t = 1) (hle : ¬ (ln - 4) < 1) (hi : 5 ≤ N.toNatClampNeg) (hl : 5 ≤ vs.length) :
    MetFree l (⟨"com/example/cardinality/cardinality/value/ByteWriter", "writeIntAt", "(II)V"⟩ : MethodName) (head1 (Jvm.Cond.code (⟨"com/example/cardinality/cardinality/value/ByteWriter", "writeIntAt", "(II)V"⟩ : MethodName) prog_22_method_9_code 3 none :: ws) ({ frames := 1, cells := 0, slots := 0, locals := 14 } : Room)) (fun as_ U => as_ = #[(.ref o), (.int t), (.int x)] ∧ Z.Warmed39 U.vm ∧ U.heap = h0) (fun _ _ _ _ _ => True) (fun _ U oc U' => ∃ v L, oc = .returned v ∧ Q10 Z o t x r k N ln vs h0 n0 v U'.heap L ∧ FrameEnd U oc U' L ({ frames := 1, cells := 0, slots := 0, locals := 14 } : Room).cells ({ frames := 1, cells := 0, slots := 0, locals := 14 } : Room).slots) := by
  refine MetFree.of_bodySF pn_10 hisR ?_
  intro p e s m args below meth c s₁ Bd hml0 hP hK
  obtain ⟨rfl, hZ, hh⟩ := hP
  have K : ow_K p e below s m meth c Z "com/example/cardinality/cardinality/value/ByteWriter" prog_22_method_9_code 3 none "writeIntAt" (ow_Gl p e below s (Q10 Z o t x r k N ln vs h0 n0) 0 0) := ⟨ow_Gl_bc, Bd.exec, Bd.bytes, hml0, findClass_of_methodNamed Bd.named, hZ, Bd.returns, Bd.notSynchronized, (name_of_methodNamed Bd.named Bd.method).1⟩
  have X0 : Stand p l e ({ frames := 1, cells := 0, slots := 0, locals := 14 } : Room) s m #[(.ref o), (.int t), (.int x)] below meth c s₁ [] 0 0 := Stand.of_body Bd
  have e0 : s₁.heap = h0 := by rw [← hh, Bd.state]; rfl
  have N0 := Fr.nil n0
  refine ow_entry (Q := (Q10 Z o t x r k N ln vs h0 n0)) (ce := 0) (sl := 0) (ef_10 m o t x) ?_
  subst ht
  refine ow_iloadN K X0 (pc' := 1) (1 : Int32) d10_0 rfl rfl ?_
  refine ow_ifN K X0 (pc' := 4) d10_1 rfl (XT.i0_lt_f (by decide)) ?_
  refine ow_iloadN K X0 (pc' := 5) (1 : Int32) d10_4 rfl rfl ?_
  refine ow_aloadN K X0 (pc' := 6) o d10_5 rfl rfl ?_
  refine ow_getF K X0 (pc' := 9) e0 (hw _ (List.mem_of_getElem? (i := 25) rfl)) FL d10_6 rfl ?_
  intro T1 X1 e1
  refine ow_iconst K X1 (pc' := 10) (4 : Int32) d10_9 rfl (by decide) ?_
  refine ow_isub K X1 (pc' := 11) (ln - (4 : Int32)) d10_10 rfl rfl ?_
  refine ow_icmpY K X1 (pc' := 32) d10_11 (XT.ii_le_t hle) (by decide) (by decide) ?_
  refine ow_aloadN K X1 (pc' := 33) o d10_32 rfl rfl ?_
  refine ow_iloadN K X1 (pc' := 34) (1 : Int32) d10_33 rfl rfl ?_
  refine ow_iloadN K X1 (pc' := 35) x d10_34 rfl rfl ?_
  refine ow_callR K X1 (pc' := 38) e1 (y' := (⟨"com/example/cardinality/cardinality/value/ByteWriter", "writeByte", "(I)V"⟩ : MethodName)) (y := (⟨"com/example/cardinality/cardinality/value/ByteWriter", "putInt", "(II)V"⟩ : MethodName)) (rm8 l Z a0 hw [] o (1 : Int32) x r k N ln vs h0 n0 Z0 E FB FL AV AE go gr ne rfl hi hl) E rfl (hw _ (List.mem_of_getElem? (i := 19) rfl)) (hw _ (List.mem_of_getElem? (i := 34) rfl)) (hw _ (List.mem_of_getElem? (i := 32) rfl)) (hw _ (List.mem_of_getElem? (i := 33) rfl)) (hw _ (List.mem_of_getElem? (i := 2) rfl)) (hw _ (List.mem_of_getElem? (i := 35) rfl)) (by decide) (st := []) 0 (Nat.le_of_eq rfl) (by decide) (by decide) (by decide) (by decide) rfl [.int (1 : Int32), .int x] rfl (lenOf pd_8 rfl) rfl d10_35 rfl ?_
  intro v2 T2 L2 X2 hQ2
  obtain ⟨rfl, NNp, Zp, Ep, FBp, FLp, AVp, AEp⟩ := hQ2
  have NXp := Fr.app N0 NNp
  refine ow_at (g := (mkF m 38 #[.val (.ref o), .val (.int (1 : Int32)), .val (.int x)] [])) ?_
  exact ow_ret K X2 rfl d10_38 ⟨rfl, NXp, Zp, Ep, FBp, FLp, AVp, AEp⟩ (by decide) (by decide)
theorem d11_0 : decode prog_22_method_6_code 0 = .ok (.aload_n 0, 1) := by decide +kernel
theorem d11_1 : decode prog_22_method_6_code 1 = .ok (.bipush 8, 2) := by decide +kernel
theorem d11_3 : decode prog_22_method_6_code 3 = .ok (.invokevirtual 25, 3) := by decide +kernel
theorem d11_6 : decode prog_22_method_6_code 6 = .ok (.istore_n 3, 1) := by decide +kernel
theorem d11_7 : decode prog_22_method_6_code 7 = .ok (.bipush 7, 2) := by decide +kernel
theorem d11_9 : decode prog_22_method_6_code 9 = .ok (.istore 4, 2) := by decide +kernel
theorem d11_11 : decode prog_22_method_6_code 11 = .ok (.iload 4, 2) := by decide +kernel
theorem d11_13 : decode prog_22_method_6_code 13 = .ok (.ifCond .lt 26, 3) := by decide +kernel
theorem d11_16 : decode prog_22_method_6_code 16 = .ok (.aload_n 0, 1) := by decide +kernel
theorem d11_17 : decode prog_22_method_6_code 17 = .ok (.getfield 15, 3) := by decide +kernel
theorem d11_20 : decode prog_22_method_6_code 20 = .ok (.iload_n 3, 1) := by decide +kernel
theorem d11_21 : decode prog_22_method_6_code 21 = .ok (.iload 4, 2) := by decide +kernel
theorem d11_23 : decode prog_22_method_6_code 23 = .ok (.iadd, 1) := by decide +kernel
theorem d11_24 : decode prog_22_method_6_code 24 = .ok (.lload_n 1, 1) := by decide +kernel
theorem d11_25 : decode prog_22_method_6_code 25 = .ok (.l2i, 1) := by decide +kernel
theorem d11_26 : decode prog_22_method_6_code 26 = .ok (.i2b, 1) := by decide +kernel
theorem d11_27 : decode prog_22_method_6_code 27 = .ok (.bastore, 1) := by decide +kernel
theorem d11_28 : decode prog_22_method_6_code 28 = .ok (.lload_n 1, 1) := by decide +kernel
theorem d11_29 : decode prog_22_method_6_code 29 = .ok (.bipush 8, 2) := by decide +kernel
theorem d11_31 : decode prog_22_method_6_code 31 = .ok (.lushr, 1) := by decide +kernel
theorem d11_32 : decode prog_22_method_6_code 32 = .ok (.lstore_n 1, 1) := by decide +kernel
theorem d11_33 : decode prog_22_method_6_code 33 = .ok (.iinc 4 (-1), 3) := by decide +kernel
theorem d11_36 : decode prog_22_method_6_code 36 = .ok (.goto (-25), 3) := by decide +kernel
theorem d11_39 : decode prog_22_method_6_code 39 = .ok (.return_, 1) := by decide +kernel
def QL (Z : State) (o : Addr) (x : Int64) (y0 y1 y2 y3 y4 : Int32) (n0 : Nat) (v : Option Value) (h : Heap) (L : List Loc) : Prop := ∃ (r' : Addr) (k' : ClassId) (N' : Int32), v = none ∧ Fr n0 L ∧ n0 ≤ h.size ∧ n0 ≤ r' ∧ o ≠ r' ∧ 13 ≤ N'.toInt ∧ N'.toInt ≤ 31 ∧ Exa Z h o "com/example/cardinality/cardinality/value/ByteWriter" ∧ Fld Z h o "com/example/cardinality/cardinality/value/ByteWriter" "bytes" "[B" (.ref r') ∧ Fld Z h o "com/example/cardinality/cardinality/value/ByteWriter" "length" "I" (.int (13 : Int32)) ∧ Arv Z h r' k' .byte N' [.int y0, .int y1, .int y2, .int y3, .int y4, .int (nar .byte (((XT.ushrL (XT.ushrL (XT.ushrL (XT.ushrL (XT.ushrL (XT.ushrL (XT.ushrL x (8 : Int32)) (8 : Int32)) (8 : Int32)) (8 : Int32)) (8 : Int32)) (8 : Int32)) (8 : Int32))).toInt32.toInt8.toInt32)), .int (nar .byte (((XT.ushrL (XT.ushrL (XT.ushrL (XT.ushrL (XT.ushrL (XT.ushrL x (8 : Int32)) (8 : Int32)) (8 : Int32)) (8 : Int32)) (8 : Int32)) (8 : Int32))).toInt32.toInt8.toInt32)), .int (nar .byte (((XT.ushrL (XT.ushrL (XT.ushrL (XT.ushrL (XT.ushrL x (8 : Int32)) (8 : Int32)) (8 : Int32)) (8 : Int32)) (8 : Int32))).toInt32.toInt8.toInt32)), .int (nar .byte (((XT.ushrL (XT.ushrL (XT.ushrL (XT.ushrL x (8 : Int32)) (8 : Int32)) (8 : Int32)) (8 : Int32))).toInt32.toInt8.toInt32)), .int (nar .byte (((XT.ushrL (XT.ushrL (XT.ushrL x (8 : Int32)) (8 : Int32)) (8 : Int32))).toInt32.toInt8.toInt32)), .int (nar .byte (((XT.ushrL (XT.ushrL x (8 : Int32)) (8 : Int32))).toInt32.toInt8.toInt32)), .int (nar .byte (((XT.ushrL x (8 : Int32))).toInt32.toInt8.toInt32)), .int (nar .byte ((x).toInt32.toInt8.toInt32))] (.int 0) ∧ Exa Z h r' "[B"
set_option maxRecDepth 65536 in
set_option maxHeartbeats 40000000 in
theorem t6L {p : Program} {l : Launch} {e : Env} {s : State} {m : MethodId} {args : Array Value} {below : List Frame} {meth : Method} {c : Code} {T : State} {locs : List Loc} {Z : State} {h : Heap} {a0 : Array Value} (hw : ∀ d ∈ tables_1, d.before a0 Z = true) {R : Room} {cells slots : Nat} {n0 : Nat} {o r : Addr} {x : Int64} {k : ClassId} {N y0 y1 y2 y3 y4 : Int32} (K : ow_K p e below s m meth c Z "com/example/cardinality/cardinality/value/ByteWriter" prog_22_method_6_code 5 none "writeLong" (ow_Gl p e below s (QL Z o x y0 y1 y2 y3 y4 n0) 1 31)) (X0 : Stand p l e R s m args below meth c T locs cells slots) (e0 : T.heap = h) (N0 : Fr n0 locs) (Z0 : n0 ≤ h.size) (E : Exa Z h o "com/example/cardinality/cardinality/value/ByteWriter") (FB : Fld Z h o "com/example/cardinality/cardinality/value/ByteWriter" "bytes" "[B" (.ref r)) (FL : Fld Z h o "com/example/cardinality/cardinality/value/ByteWriter" "length" "I" (.int (13 : Int32))) (AV : Arv Z h r k .byte N [.int y0, .int y1, .int y2, .int y3, .int y4] (.int 0)) (AE : Exa Z h r "[B") (go : n0 ≤ o) (gr : n0 ≤ r) (ne : o ≠ r) (h13 : 13 ≤ N.toInt) (h31 : N.toInt ≤ 31) (hce : cells ≤ 1) (hse : slots ≤ 31) :
    ow_Gl p e below s (QL Z o x y0 y1 y2 y3 y4 n0) 1 31 (T.setTop (mkF m 6 #[.val (.ref o), .val (.long x), .second, .unset, .unset] [.int (5 : Int32)])) := by
  have nc := own_clamp (x := N) (by omega)
  refine ow_istoreN K X0 (pc' := 7) (Ls' := #[.val (.ref o), .val (.long x), .second, .val (.int (5 : Int32)), .unset]) d11_6 rfl rfl ?_
  refine ow_bipush K X0 (pc' := 9) (7 : Int32) d11_7 rfl (by decide) ?_
  refine ow_istore K X0 (pc' := 11) (Ls' := #[.val (.ref o), .val (.long x), .second, .val (.int (5 : Int32)), .val (.int (7 : Int32))]) d11_9 rfl rfl ?_
  have F1 : Arv Z h r k .byte N [.int y0, .int y1, .int y2, .int y3, .int y4, .int 0, .int 0, .int 0, .int 0, .int 0, .int 0, .int 0, .int 0] (.int 0) := Arv.pad AV (pad_rep [.int y0, .int y1, .int y2, .int y3, .int y4] (.int 0) 8)
  refine ow_iload K X0 (pc' := 13) (7 : Int32) d11_11 rfl rfl ?_
  refine ow_ifN K X0 (pc' := 16) d11_13 rfl (XT.i0_lt_f (by decide)) ?_
  refine ow_aloadN K X0 (pc' := 17) o d11_16 rfl rfl ?_
  refine ow_getF K X0 (pc' := 20) e0 (hw _ (List.mem_of_getElem? (i := 14) rfl)) FB d11_17 rfl ?_
  intro T2 X2 e2
  refine ow_iloadN K X2 (pc' := 21) (5 : Int32) d11_20 rfl rfl ?_
  refine ow_iload K X2 (pc' := 23) (7 : Int32) d11_21 rfl rfl ?_
  refine ow_iadd K X2 (pc' := 24) (12 : Int32) d11_23 rfl (by decide) ?_
  refine ow_lloadN K X2 (pc' := 25) x d11_24 rfl rfl ?_
  refine ow_l2i K X2 (pc' := 26) ((x).toInt32) d11_25 rfl rfl ?_
  refine ow_i2b K X2 (pc' := 27) ((((x).toInt32)).toInt8.toInt32) d11_26 rfl rfl ?_
  refine ow_bastore K X2 (pc' := 28) e2 F1 12 [.int y0, .int y1, .int y2, .int y3, .int y4, .int 0, .int 0, .int 0, .int 0, .int 0, .int 0, .int 0, .int (nar .byte ((x).toInt32.toInt8.toInt32))] ⟨by decide, by decide⟩ (by omega) (by simp) rfl d11_27 rfl ?_
  intro T3 h3 X3 e3 W3 F3
  have F4 : Exa Z h3 o "com/example/cardinality/cardinality/value/ByteWriter" := Exa.wr W3 E
  have F5 : Fld Z h3 o "com/example/cardinality/cardinality/value/ByteWriter" "bytes" "[B" (.ref r) := Fld.other W3 FB (Or.inl ne)
  have F6 : Fld Z h3 o "com/example/cardinality/cardinality/value/ByteWriter" "length" "I" (.int (13 : Int32)) := Fld.other W3 FL (Or.inl ne)
  have F7 : Exa Z h3 r "[B" := Exa.wr W3 AE
  have Z8 : n0 ≤ h3.size := Nat.le_trans Z0 (Nat.le_of_eq W3.size.symm)
  have N9 := Fr.snoc X3 N0 gr
  refine ow_lloadN K X3 (pc' := 29) x d11_28 rfl rfl ?_
  refine ow_bipush K X3 (pc' := 31) (8 : Int32) d11_29 rfl (by decide) ?_
  refine ow_lushr K X3 (pc' := 32) (XT.ushrL x (8 : Int32)) d11_31 rfl rfl ?_
  refine ow_lstoreN K X3 (pc' := 33) (Ls' := #[.val (.ref o), .val (.long (XT.ushrL x (8 : Int32))), .second, .val (.int (5 : Int32)), .val (.int (7 : Int32))]) d11_32 rfl rfl ?_
  refine ow_iinc K X3 (pc' := 36) (Ls' := #[.val (.ref o), .val (.long (XT.ushrL x (8 : Int32))), .second, .val (.int (5 : Int32)), .val (.int (6 : Int32))]) (-1 : Int32) (6 : Int32) d11_33 rfl (by decide) rfl (by decide) rfl ?_
  refine ow_goto K X3 (pc' := 11) d11_36 (by decide) (by decide) ?_
  refine ow_iload K X3 (pc' := 13) (6 : Int32) d11_11 rfl rfl ?_
  refine ow_ifN K X3 (pc' := 16) d11_13 rfl (XT.i0_lt_f (by decide)) ?_
  refine ow_aloadN K X3 (pc' := 17) o d11_16 rfl rfl ?_
  refine ow_getF K X3 (pc' := 20) e3 (hw _ (List.mem_of_getElem? (i := 14) rfl)) F5 d11_17 rfl ?_
  intro T10 X10 e10
  refine ow_iloadN K X10 (pc' := 21) (5 : Int32) d11_20 rfl rfl ?_
  refine ow_iload K X10 (pc' := 23) (6 : Int32) d11_21 rfl rfl ?_
  refine ow_iadd K X10 (pc' := 24) (11 : Int32) d11_23 rfl (by decide) ?_
  refine ow_lloadN K X10 (pc' := 25) (XT.ushrL x (8 : Int32)) d11_24 rfl rfl ?_
  refine ow_l2i K X10 (pc' := 26) (((XT.ushrL x (8 : Int32))).toInt32) d11_25 rfl rfl ?_
  refine ow_i2b K X10 (pc' := 27) (((((XT.ushrL x (8 : Int32))).toInt32)).toInt8.toInt32) d11_26 rfl rfl ?_
  refine ow_bastore K X10 (pc' := 28) e10 F3 11 [.int y0, .int y1, .int y2, .int y3, .int y4, .int 0, .int 0, .int 0, .int 0, .int 0, .int 0, .int (nar .byte (((XT.ushrL x (8 : Int32))).toInt32.toInt8.toInt32)), .int (nar .byte ((x).toInt32.toInt8.toInt32))] ⟨by decide, by decide⟩ (by omega) (by simp) rfl d11_27 rfl ?_
  intro T11 h11 X11 e11 W11 F11
  have F12 : Exa Z h11 o "com/example/cardinality/cardinality/value/ByteWriter" := Exa.wr W11 F4
  have F13 : Fld Z h11 o "com/example/cardinality/cardinality/value/ByteWriter" "bytes" "[B" (.ref r) := Fld.other W11 F5 (Or.inl ne)
  have F14 : Fld Z h11 o "com/example/cardinality/cardinality/value/ByteWriter" "length" "I" (.int (13 : Int32)) := Fld.other W11 F6 (Or.inl ne)
  have F15 : Exa Z h11 r "[B" := Exa.wr W11 F7
  have Z16 : n0 ≤ h11.size := Nat.le_trans Z8 (Nat.le_of_eq W11.size.symm)
  have N17 := Fr.snoc X11 N9 gr
  refine ow_lloadN K X11 (pc' := 29) (XT.ushrL x (8 : Int32)) d11_28 rfl rfl ?_
  refine ow_bipush K X11 (pc' := 31) (8 : Int32) d11_29 rfl (by decide) ?_
  refine ow_lushr K X11 (pc' := 32) (XT.ushrL (XT.ushrL x (8 : Int32)) (8 : Int32)) d11_31 rfl rfl ?_
  refine ow_lstoreN K X11 (pc' := 33) (Ls' := #[.val (.ref o), .val (.long (XT.ushrL (XT.ushrL x (8 : Int32)) (8 : Int32))), .second, .val (.int (5 : Int32)), .val (.int (6 : Int32))]) d11_32 rfl rfl ?_
  refine ow_iinc K X11 (pc' := 36) (Ls' := #[.val (.ref o), .val (.long (XT.ushrL (XT.ushrL x (8 : Int32)) (8 : Int32))), .second, .val (.int (5 : Int32)), .val (.int (5 : Int32))]) (-1 : Int32) (5 : Int32) d11_33 rfl (by decide) rfl (by decide) rfl ?_
  refine ow_goto K X11 (pc' := 11) d11_36 (by decide) (by decide) ?_
  refine ow_iload K X11 (pc' := 13) (5 : Int32) d11_11 rfl rfl ?_
  refine ow_ifN K X11 (pc' := 16) d11_13 rfl (XT.i0_lt_f (by decide)) ?_
  refine ow_aloadN K X11 (pc' := 17) o d11_16 rfl rfl ?_
  refine ow_getF K X11 (pc' := 20) e11 (hw _ (List.mem_of_getElem? (i := 14) rfl)) F13 d11_17 rfl ?_
  intro T18 X18 e18
  refine ow_iloadN K X18 (pc' := 21) (5 : Int32) d11_20 rfl rfl ?_
  refine ow_iload K X18 (pc' := 23) (5 : Int32) d11_21 rfl rfl ?_
  refine ow_iadd K X18 (pc' := 24) (10 : Int32) d11_23 rfl (by decide) ?_
  refine ow_lloadN K X18 (pc' := 25) (XT.ushrL (XT.ushrL x (8 : Int32)) (8 : Int32)) d11_24 rfl rfl ?_
  refine ow_l2i K X18 (pc' := 26) (((XT.ushrL (XT.ushrL x (8 : Int32)) (8 : Int32))).toInt32) d11_25 rfl rfl ?_
  refine ow_i2b K X18 (pc' := 27) (((((XT.ushrL (XT.ushrL x (8 : Int32)) (8 : Int32))).toInt32)).toInt8.toInt32) d11_26 rfl rfl ?_
  refine ow_bastore K X18 (pc' := 28) e18 F11 10 [.int y0, .int y1, .int y2, .int y3, .int y4, .int 0, .int 0, .int 0, .int 0, .int 0, .int (nar .byte (((XT.ushrL (XT.ushrL x (8 : Int32)) (8 : Int32))).toInt32.toInt8.toInt32)), .int (nar .byte (((XT.ushrL x (8 : Int32))).toInt32.toInt8.toInt32)), .int (nar .byte ((x).toInt32.toInt8.toInt32))] ⟨by decide, by decide⟩ (by omega) (by simp) rfl d11_27 rfl ?_
  intro T19 h19 X19 e19 W19 F19
  have F20 : Exa Z h19 o "com/example/cardinality/cardinality/value/ByteWriter" := Exa.wr W19 F12
  have F21 : Fld Z h19 o "com/example/cardinality/cardinality/value/ByteWriter" "bytes" "[B" (.ref r) := Fld.other W19 F13 (Or.inl ne)
  have F22 : Fld Z h19 o "com/example/cardinality/cardinality/value/ByteWriter" "length" "I" (.int (13 : Int32)) := Fld.other W19 F14 (Or.inl ne)
  have F23 : Exa Z h19 r "[B" := Exa.wr W19 F15
  have Z24 : n0 ≤ h19.size := Nat.le_trans Z16 (Nat.le_of_eq W19.size.symm)
  have N25 := Fr.snoc X19 N17 gr
  refine ow_lloadN K X19 (pc' := 29) (XT.ushrL (XT.ushrL x (8 : Int32)) (8 : Int32)) d11_28 rfl rfl ?_
  refine ow_bipush K X19 (pc' := 31) (8 : Int32) d11_29 rfl (by decide) ?_
  refine ow_lushr K X19 (pc' := 32) (XT.ushrL (XT.ushrL (XT.ushrL x (8 : Int32)) (8 : Int32)) (8 : Int32)) d11_31 rfl rfl ?_
  refine ow_lstoreN K X19 (pc' := 33) (Ls' := #[.val (.ref o), .val (.long (XT.ushrL (XT.ushrL (XT.ushrL x (8 : Int32)) (8 : Int32)) (8 : Int32))), .second, .val (.int (5 : Int32)), .val (.int (5 : Int32))]) d11_32 rfl rfl ?_
  refine ow_iinc K X19 (pc' := 36) (Ls' := #[.val (.ref o), .val (.long (XT.ushrL (XT.ushrL (XT.ushrL x (8 : Int32)) (8 : Int32)) (8 : Int32))), .second, .val (.int (5 : Int32)), .val (.int (4 : Int32))]) (-1 : Int32) (4 : Int32) d11_33 rfl (by decide) rfl (by decide) rfl ?_
  refine ow_goto K X19 (pc' := 11) d11_36 (by decide) (by decide) ?_
  refine ow_iload K X19 (pc' := 13) (4 : Int32) d11_11 rfl rfl ?_
  refine ow_ifN K X19 (pc' := 16) d11_13 rfl (XT.i0_lt_f (by decide)) ?_
  refine ow_aloadN K X19 (pc' := 17) o d11_16 rfl rfl ?_
  refine ow_getF K X19 (pc' := 20) e19 (hw _ (List.mem_of_getElem? (i := 14) rfl)) F21 d11_17 rfl ?_
  intro T26 X26 e26
  refine ow_iloadN K X26 (pc' := 21) (5 : Int32) d11_20 rfl rfl ?_
  refine ow_iload K X26 (pc' := 23) (4 : Int32) d11_21 rfl rfl ?_
  refine ow_iadd K X26 (pc' := 24) (9 : Int32) d11_23 rfl (by decide) ?_
  refine ow_lloadN K X26 (pc' := 25) (XT.ushrL (XT.ushrL (XT.ushrL x (8 : Int32)) (8 : Int32)) (8 : Int32)) d11_24 rfl rfl ?_
  refine ow_l2i K X26 (pc' := 26) (((XT.ushrL (XT.ushrL (XT.ushrL x (8 : Int32)) (8 : Int32)) (8 : Int32))).toInt32) d11_25 rfl rfl ?_
  refine ow_i2b K X26 (pc' := 27) (((((XT.ushrL (XT.ushrL (XT.ushrL x (8 : Int32)) (8 : Int32)) (8 : Int32))).toInt32)).toInt8.toInt32) d11_26 rfl rfl ?_
  refine ow_bastore K X26 (pc' := 28) e26 F19 9 [.int y0, .int y1, .int y2, .int y3, .int y4, .int 0, .int 0, .int 0, .int 0, .int (nar .byte (((XT.ushrL (XT.ushrL (XT.ushrL x (8 : Int32)) (8 : Int32)) (8 : Int32))).toInt32.toInt8.toInt32)), .int (nar .byte (((XT.ushrL (XT.ushrL x (8 : Int32)) (8 : Int32))).toInt32.toInt8.toInt32)), .int (nar .byte (((XT.ushrL x (8 : Int32))).toInt32.toInt8.toInt32)), .int (nar .byte ((x).toInt32.toInt8.toInt32))] ⟨by decide, by decide⟩ (by omega) (by simp) rfl d11_27 rfl ?_
  intro T27 h27 X27 e27 W27 F27
  have F28 : Exa Z h27 o "com/example/cardinality/cardinality/value/ByteWriter" := Exa.wr W27 F20
  have F29 : Fld Z h27 o "com/example/cardinality/cardinality/value/ByteWriter" "bytes" "[B" (.ref r) := Fld.other W27 F21 (Or.inl ne)
  have F30 : Fld Z h27 o "com/example/cardinality/cardinality/value/ByteWriter" "length" "I" (.int (13 : Int32)) := Fld.other W27 F22 (Or.inl ne)
  have F31 : Exa Z h27 r "[B" := Exa.wr W27 F23
  have Z32 : n0 ≤ h27.size := Nat.le_trans Z24 (Nat.le_of_eq W27.size.symm)
  have N33 := Fr.snoc X27 N25 gr
  refine ow_lloadN K X27 (pc' := 29) (XT.ushrL (XT.ushrL (XT.ushrL x (8 : Int32)) (8 : Int32)) (8 : Int32)) d11_28 rfl rfl ?_
  refine ow_bipush K X27 (pc' := 31) (8 : Int32) d11_29 rfl (by decide) ?_
  refine ow_lushr K X27 (pc' := 32) (XT.ushrL (XT.ushrL (XT.ushrL (XT.ushrL x (8 : Int32)) (8 : Int32)) (8 : Int32)) (8 : Int32)) d11_31 rfl rfl ?_
  refine ow_lstoreN K X27 (pc' := 33) (Ls' := #[.val (.ref o), .val (.long (XT.ushrL (XT.ushrL (XT.ushrL (XT.ushrL x (8 : Int32)) (8 : Int32)) (8 : Int32)) (8 : Int32))), .second, .val (.int (5 : Int32)), .val (.int (4 : Int32))]) d11_32 rfl rfl ?_
  refine ow_iinc K X27 (pc' := 36) (Ls' := #[.val (.ref o), .val (.long (XT.ushrL (XT.ushrL (XT.ushrL (XT.ushrL x (8 : Int32)) (8 : Int32)) (8 : Int32)) (8 : Int32))), .second, .val (.int (5 : Int32)), .val (.int (3 : Int32))]) (-1 : Int32) (3 : Int32) d11_33 rfl (by decide) rfl (by decide) rfl ?_
  refine ow_goto K X27 (pc' := 11) d11_36 (by decide) (by decide) ?_
  refine ow_iload K X27 (pc' := 13) (3 : Int32) d11_11 rfl rfl ?_
  refine ow_ifN K X27 (pc' := 16) d11_13 rfl (XT.i0_lt_f (by decide)) ?_
  refine ow_aloadN K X27 (pc' := 17) o d11_16 rfl rfl ?_
  refine ow_getF K X27 (pc' := 20) e27 (hw _ (List.mem_of_getElem? (i := 14) rfl)) F29 d11_17 rfl ?_
  intro T34 X34 e34
  refine ow_iloadN K X34 (pc' := 21) (5 : Int32) d11_20 rfl rfl ?_
  refine ow_iload K X34 (pc' := 23) (3 : Int32) d11_21 rfl rfl ?_
  refine ow_iadd K X34 (pc' := 24) (8 : Int32) d11_23 rfl (by decide) ?_
  refine ow_lloadN K X34 (pc' := 25) (XT.ushrL (XT.ushrL (XT.ushrL (XT.ushrL x (8 : Int32)) (8 : Int32)) (8 : Int32)) (8 : Int32)) d11_24 rfl rfl ?_
  refine ow_l2i K X34 (pc' := 26) (((XT.ushrL (XT.ushrL (XT.ushrL (XT.ushrL x (8 : Int32)) (8 : Int32)) (8 : Int32)) (8 : Int32))).toInt32) d11_25 rfl rfl ?_
  refine ow_i2b K X34 (pc' := 27) (((((XT.ushrL (XT.ushrL (XT.ushrL (XT.ushrL x (8 : Int32)) (8 : Int32)) (8 : Int32)) (8 : Int32))).toInt32)).toInt8.toInt32) d11_26 rfl rfl ?_
  refine ow_bastore K X34 (pc' := 28) e34 F27 8 [.int y0, .int y1, .int y2, .int y3, .int y4, .int 0, .int 0, .int 0, .int (nar .byte (((XT.ushrL (XT.ushrL (XT.ushrL (XT.ushrL x (8 : Int32)) (8 : Int32)) (8 : Int32)) (8 : Int32))).toInt32.toInt8.toInt32)), .int (nar .byte (((XT.ushrL (XT.ushrL (XT.ushrL x (8 : Int32)) (8 : Int32)) (8 : Int32))).toInt32.toInt8.toInt32)), .int (nar .byte (((XT.ushrL (XT.ushrL x (8 : Int32)) (8 : Int32))).toInt32.toInt8.toInt32)), .int (nar .byte (((XT.ushrL x (8 : Int32))).toInt32.toInt8.toInt32)), .int (nar .byte ((x).toInt32.toInt8.toInt32))] ⟨by decide, by decide⟩ (by omega) (by simp) rfl d11_27 rfl ?_
  intro T35 h35 X35 e35 W35 F35
  have F36 : Exa Z h35 o "com/example/cardinality/cardinality/value/ByteWriter" := Exa.wr W35 F28
  have F37 : Fld Z h35 o "com/example/cardinality/cardinality/value/ByteWriter" "bytes" "[B" (.ref r) := Fld.other W35 F29 (Or.inl ne)
  have F38 : Fld Z h35 o "com/example/cardinality/cardinality/value/ByteWriter" "length" "I" (.int (13 : Int32)) := Fld.other W35 F30 (Or.inl ne)
  have F39 : Exa Z h35 r "[B" := Exa.wr W35 F31
  have Z40 : n0 ≤ h35.size := Nat.le_trans Z32 (Nat.le_of_eq W35.size.symm)
  have N41 := Fr.snoc X35 N33 gr
  refine ow_lloadN K X35 (pc' := 29) (XT.ushrL (XT.ushrL (XT.ushrL (XT.ushrL x (8 : Int32)) (8 : Int32)) (8 : Int32)) (8 : Int32)) d11_28 rfl rfl ?_
  refine ow_bipush K X35 (pc' := 31) (8 : Int32) d11_29 rfl (by decide) ?_
  refine ow_lushr K X35 (pc' := 32) (XT.ushrL (XT.ushrL (XT.ushrL (XT.ushrL (XT.ushrL x (8 : Int32)) (8 : Int32)) (8 : Int32)) (8 : Int32)) (8 : Int32)) d11_31 rfl rfl ?_
  refine ow_lstoreN K X35 (pc' := 33) (Ls' := #[.val (.ref o), .val (.long (XT.ushrL (XT.ushrL (XT.ushrL (XT.ushrL (XT.ushrL x (8 : Int32)) (8 : Int32)) (8 : Int32)) (8 : Int32)) (8 : Int32))), .second, .val (.int (5 : Int32)), .val (.int (3 : Int32))]) d11_32 rfl rfl ?_
  refine ow_iinc K X35 (pc' := 36) (Ls' := #[.val (.ref o), .val (.long (XT.ushrL (XT.ushrL (XT.ushrL (XT.ushrL (XT.ushrL x (8 : Int32)) (8 : Int32)) (8 : Int32)) (8 : Int32)) (8 : Int32))), .second, .val (.int (5 : Int32)), .val (.int (2 : Int32))]) (-1 : Int32) (2 : Int32) d11_33 rfl (by decide) rfl (by decide) rfl ?_
  refine ow_goto K X35 (pc' := 11) d11_36 (by decide) (by decide) ?_
  refine ow_iload K X35 (pc' := 13) (2 : Int32) d11_11 rfl rfl ?_
  refine ow_ifN K X35 (pc' := 16) d11_13 rfl (XT.i0_lt_f (by decide)) ?_
  refine ow_aloadN K X35 (pc' := 17) o d11_16 rfl rfl ?_
  refine ow_getF K X35 (pc' := 20) e35 (hw _ (List.mem_of_getElem? (i := 14) rfl)) F37 d11_17 rfl ?_
  intro T42 X42 e42
  refine ow_iloadN K X42 (pc' := 21) (5 : Int32) d11_20 rfl rfl ?_
  refine ow_iload K X42 (pc' := 23) (2 : Int32) d11_21 rfl rfl ?_
  refine ow_iadd K X42 (pc' := 24) (7 : Int32) d11_23 rfl (by decide) ?_
  refine ow_lloadN K X42 (pc' := 25) (XT.ushrL (XT.ushrL (XT.ushrL (XT.ushrL (XT.ushrL x (8 : Int32)) (8 : Int32)) (8 : Int32)) (8 : Int32)) (8 : Int32)) d11_24 rfl rfl ?_
  refine ow_l2i K X42 (pc' := 26) (((XT.ushrL (XT.ushrL (XT.ushrL (XT.ushrL (XT.ushrL x (8 : Int32)) (8 : Int32)) (8 : Int32)) (8 : Int32)) (8 : Int32))).toInt32) d11_25 rfl rfl ?_
  refine ow_i2b K X42 (pc' := 27) (((((XT.ushrL (XT.ushrL (XT.ushrL (XT.ushrL (XT.ushrL x (8 : Int32)) (8 : Int32)) (8 : Int32)) (8 : Int32)) (8 : Int32))).toInt32)).toInt8.toInt32) d11_26 rfl rfl ?_
  refine ow_bastore K X42 (pc' := 28) e42 F35 7 [.int y0, .int y1, .int y2, .int y3, .int y4, .int 0, .int 0, .int (nar .byte (((XT.ushrL (XT.ushrL (XT.ushrL (XT.ushrL (XT.ushrL x (8 : Int32)) (8 : Int32)) (8 : Int32)) (8 : Int32)) (8 : Int32))).toInt32.toInt8.toInt32)), .int (nar .byte (((XT.ushrL (XT.ushrL (XT.ushrL (XT.ushrL x (8 : Int32)) (8 : Int32)) (8 : Int32)) (8 : Int32))).toInt32.toInt8.toInt32)), .int (nar .byte (((XT.ushrL (XT.ushrL (XT.ushrL x (8 : Int32)) (8 : Int32)) (8 : Int32))).toInt32.toInt8.toInt32)), .int (nar .byte (((XT.ushrL (XT.ushrL x (8 : Int32)) (8 : Int32))).toInt32.toInt8.toInt32)), .int (nar .byte (((XT.ushrL x (8 : Int32))).toInt32.toInt8.toInt32)), .int (nar .byte ((x).toInt32.toInt8.toInt32))] ⟨by decide, by decide⟩ (by omega) (by simp) rfl d11_27 rfl ?_
  intro T43 h43 X43 e43 W43 F43
  have F44 : Exa Z h43 o "com/example/cardinality/cardinality/value/ByteWriter" := Exa.wr W43 F36
  have F45 : Fld Z h43 o "com/example/cardinality/cardinality/value/ByteWriter" "bytes" "[B" (.ref r) := Fld.other W43 F37 (Or.inl ne)
  have F46 : Fld Z h43 o "com/example/cardinality/cardinality/value/ByteWriter" "length" "I" (.int (13 : Int32)) := Fld.other W43 F38 (Or.inl ne)
  have F47 : Exa Z h43 r "[B" := Exa.wr W43 F39
  have Z48 : n0 ≤ h43.size := Nat.le_trans Z40 (Nat.le_of_eq W43.size.symm)
  have N49 := Fr.snoc X43 N41 gr
  refine ow_lloadN K X43 (pc' := 29) (XT.ushrL (XT.ushrL (XT.ushrL (XT.ushrL (XT.ushrL x (8 : Int32)) (8 : Int32)) (8 : Int32)) (8 : Int32)) (8 : Int32)) d11_28 rfl rfl ?_
  refine ow_bipush K X43 (pc' := 31) (8 : Int32) d11_29 rfl (by decide) ?_
  refine ow_lushr K X43 (pc' := 32) (XT.ushrL (XT.ushrL (XT.ushrL (XT.ushrL (XT.ushrL (XT.ushrL x (8 : Int32)) (8 : Int32)) (8 : Int32)) (8 : Int32)) (8 : Int32)) (8 : Int32)) d11_31 rfl rfl ?_
  refine ow_lstoreN K X43 (pc' := 33) (Ls' := #[.val (.ref o), .val (.long (XT.ushrL (XT.ushrL (XT.ushrL (XT.ushrL (XT.ushrL (XT.ushrL x (8 : Int32)) (8 : Int32)) (8 : Int32)) (8 : Int32)) (8 : Int32)) (8 : Int32))), .second, .val (.int (5 : Int32)), .val (.int (2 : Int32))]) d11_32 rfl rfl ?_
  refine ow_iinc K X43 (pc' := 36) (Ls' := #[.val (.ref o), .val (.long (XT.ushrL (XT.ushrL (XT.ushrL (XT.ushrL (XT.ushrL (XT.ushrL x (8 : Int32)) (8 : Int32)) (8 : Int32)) (8 : Int32)) (8 : Int32)) (8 : Int32))), .second, .val (.int (5 : Int32)), .val (.int (1 : Int32))]) (-1 : Int32) (1 : Int32) d11_33 rfl (by decide) rfl (by decide) rfl ?_
  refine ow_goto K X43 (pc' := 11) d11_36 (by decide) (by decide) ?_
  refine ow_iload K X43 (pc' := 13) (1 : Int32) d11_11 rfl rfl ?_
  refine ow_ifN K X43 (pc' := 16) d11_13 rfl (XT.i0_lt_f (by decide)) ?_
  refine ow_aloadN K X43 (pc' := 17) o d11_16 rfl rfl ?_
  refine ow_getF K X43 (pc' := 20) e43 (hw _ (List.mem_of_getElem? (i := 14) rfl)) F45 d11_17 rfl ?_
  intro T50 X50 e50
  refine ow_iloadN K X50 (pc' := 21) (5 : Int32) d11_20 rfl rfl ?_
  refine ow_iload K X50 (pc' := 23) (1 : Int32) d11_21 rfl rfl ?_
  refine ow_iadd K X50 (pc' := 24) (6 : Int32) d11_23 rfl (by decide) ?_
  refine ow_lloadN K X50 (pc' := 25) (XT.ushrL (XT.ushrL (XT.ushrL (XT.ushrL (XT.ushrL (XT.ushrL x (8 : Int32)) (8 : Int32)) (8 : Int32)) (8 : Int32)) (8 : Int32)) (8 : Int32)) d11_24 rfl rfl ?_
  refine ow_l2i K X50 (pc' := 26) (((XT.ushrL (XT.ushrL (XT.ushrL (XT.ushrL (XT.ushrL (XT.ushrL x (8 : Int32)) (8 : Int32)) (8 : Int32)) (8 : Int32)) (8 : Int32)) (8 : Int32))).toInt32) d11_25 rfl rfl ?_
  refine ow_i2b K X50 (pc' := 27) (((((XT.ushrL (XT.ushrL (XT.ushrL (XT.ushrL (XT.ushrL (XT.ushrL x (8 : Int32)) (8 : Int32)) (8 : Int32)) (8 : Int32)) (8 : Int32)) (8 : Int32))).toInt32)).toInt8.toInt32) d11_26 rfl rfl ?_
  refine ow_bastore K X50 (pc' := 28) e50 F43 6 [.int y0, .int y1, .int y2, .int y3, .int y4, .int 0, .int (nar .byte (((XT.ushrL (XT.ushrL (XT.ushrL (XT.ushrL (XT.ushrL (XT.ushrL x (8 : Int32)) (8 : Int32)) (8 : Int32)) (8 : Int32)) (8 : Int32)) (8 : Int32))).toInt32.toInt8.toInt32)), .int (nar .byte (((XT.ushrL (XT.ushrL (XT.ushrL (XT.ushrL (XT.ushrL x (8 : Int32)) (8 : Int32)) (8 : Int32)) (8 : Int32)) (8 : Int32))).toInt32.toInt8.toInt32)), .int (nar .byte (((XT.ushrL (XT.ushrL (XT.ushrL (XT.ushrL x (8 : Int32)) (8 : Int32)) (8 : Int32)) (8 : Int32))).toInt32.toInt8.toInt32)), .int (nar .byte (((XT.ushrL (XT.ushrL (XT.ushrL x (8 : Int32)) (8 : Int32)) (8 : Int32))).toInt32.toInt8.toInt32)), .int (nar .byte (((XT.ushrL (XT.ushrL x (8 : Int32)) (8 : Int32))).toInt32.toInt8.toInt32)), .int (nar .byte (((XT.ushrL x (8 : Int32))).toInt32.toInt8.toInt32)), .int (nar .byte ((x).toInt32.toInt8.toInt32))] ⟨by decide, by decide⟩ (by omega) (by simp) rfl d11_27 rfl ?_
  intro T51 h51 X51 e51 W51 F51
  have F52 : Exa Z h51 o "com/example/cardinality/cardinality/value/ByteWriter" := Exa.wr W51 F44
  have F53 : Fld Z h51 o "com/example/cardinality/cardinality/value/ByteWriter" "bytes" "[B" (.ref r) := Fld.other W51 F45 (Or.inl ne)
  have F54 : Fld Z h51 o "com/example/cardinality/cardinality/value/ByteWriter" "length" "I" (.int (13 : Int32)) := Fld.other W51 F46 (Or.inl ne)
  have F55 : Exa Z h51 r "[B" := Exa.wr W51 F47
  have Z56 : n0 ≤ h51.size := Nat.le_trans Z48 (Nat.le_of_eq W51.size.symm)
  have N57 := Fr.snoc X51 N49 gr
  refine ow_lloadN K X51 (pc' := 29) (XT.ushrL (XT.ushrL (XT.ushrL (XT.ushrL (XT.ushrL (XT.ushrL x (8 : Int32)) (8 : Int32)) (8 : Int32)) (8 : Int32)) (8 : Int32)) (8 : Int32)) d11_28 rfl rfl ?_
  refine ow_bipush K X51 (pc' := 31) (8 : Int32) d11_29 rfl (by decide) ?_
  refine ow_lushr K X51 (pc' := 32) (XT.ushrL (XT.ushrL (XT.ushrL (XT.ushrL (XT.ushrL (XT.ushrL (XT.ushrL x (8 : Int32)) (8 : Int32)) (8 : Int32)) (8 : Int32)) (8 : Int32)) (8 : Int32)) (8 : Int32)) d11_31 rfl rfl ?_
  refine ow_lstoreN K X51 (pc' := 33) (Ls' := #[.val (.ref o), .val (.long (XT.ushrL (XT.ushrL (XT.ushrL (XT.ushrL (XT.ushrL (XT.ushrL (XT.ushrL x (8 : Int32)) (8 : Int32)) (8 : Int32)) (8 : Int32)) (8 : Int32)) (8 : Int32)) (8 : Int32))), .second, .val (.int (5 : Int32)), .val (.int (1 : Int32))]) d11_32 rfl rfl ?_
  refine ow_iinc K X51 (pc' := 36) (Ls' := #[.val (.ref o), .val (.long (XT.ushrL (XT.ushrL (XT.ushrL (XT.ushrL (XT.ushrL (XT.ushrL (XT.ushrL x (8 : Int32)) (8 : Int32)) (8 : Int32)) (8 : Int32)) (8 : Int32)) (8 : Int32)) (8 : Int32))), .second, .val (.int (5 : Int32)), .val (.int (0 : Int32))]) (-1 : Int32) (0 : Int32) d11_33 rfl (by decide) rfl (by decide) rfl ?_
  refine ow_goto K X51 (pc' := 11) d11_36 (by decide) (by decide) ?_
  refine ow_iload K X51 (pc' := 13) (0 : Int32) d11_11 rfl rfl ?_
  refine ow_ifN K X51 (pc' := 16) d11_13 rfl (XT.i0_lt_f (by decide)) ?_
  refine ow_aloadN K X51 (pc' := 17) o d11_16 rfl rfl ?_
  refine ow_getF K X51 (pc' := 20) e51 (hw _ (List.mem_of_getElem? (i := 14) rfl)) F53 d11_17 rfl ?_
  intro T58 X58 e58
  refine ow_iloadN K X58 (pc' := 21) (5 : Int32) d11_20 rfl rfl ?_
  refine ow_iload K X58 (pc' := 23) (0 : Int32) d11_21 rfl rfl ?_
  refine ow_iadd K X58 (pc' := 24) (5 : Int32) d11_23 rfl (by decide) ?_
  refine ow_lloadN K X58 (pc' := 25) (XT.ushrL (XT.ushrL (XT.ushrL (XT.ushrL (XT.ushrL (XT.ushrL (XT.ushrL x (8 : Int32)) (8 : Int32)) (8 : Int32)) (8 : Int32)) (8 : Int32)) (8 : Int32)) (8 : Int32)) d11_24 rfl rfl ?_
  refine ow_l2i K X58 (pc' := 26) (((XT.ushrL (XT.ushrL (XT.ushrL (XT.ushrL (XT.ushrL (XT.ushrL (XT.ushrL x (8 : Int32)) (8 : Int32)) (8 : Int32)) (8 : Int32)) (8 : Int32)) (8 : Int32)) (8 : Int32))).toInt32) d11_25 rfl rfl ?_
  refine ow_i2b K X58 (pc' := 27) (((((XT.ushrL (XT.ushrL (XT.ushrL (XT.ushrL (XT.ushrL (XT.ushrL (XT.ushrL x (8 : Int32)) (8 : Int32)) (8 : Int32)) (8 : Int32)) (8 : Int32)) (8 : Int32)) (8 : Int32))).toInt32)).toInt8.toInt32) d11_26 rfl rfl ?_
  refine ow_bastore K X58 (pc' := 28) e58 F51 5 [.int y0, .int y1, .int y2, .int y3, .int y4, .int (nar .byte (((XT.ushrL (XT.ushrL (XT.ushrL (XT.ushrL (XT.ushrL (XT.ushrL (XT.ushrL x (8 : Int32)) (8 : Int32)) (8 : Int32)) (8 : Int32)) (8 : Int32)) (8 : Int32)) (8 : Int32))).toInt32.toInt8.toInt32)), .int (nar .byte (((XT.ushrL (XT.ushrL (XT.ushrL (XT.ushrL (XT.ushrL (XT.ushrL x (8 : Int32)) (8 : Int32)) (8 : Int32)) (8 : Int32)) (8 : Int32)) (8 : Int32))).toInt32.toInt8.toInt32)), .int (nar .byte (((XT.ushrL (XT.ushrL (XT.ushrL (XT.ushrL (XT.ushrL x (8 : Int32)) (8 : Int32)) (8 : Int32)) (8 : Int32)) (8 : Int32))).toInt32.toInt8.toInt32)), .int (nar .byte (((XT.ushrL (XT.ushrL (XT.ushrL (XT.ushrL x (8 : Int32)) (8 : Int32)) (8 : Int32)) (8 : Int32))).toInt32.toInt8.toInt32)), .int (nar .byte (((XT.ushrL (XT.ushrL (XT.ushrL x (8 : Int32)) (8 : Int32)) (8 : Int32))).toInt32.toInt8.toInt32)), .int (nar .byte (((XT.ushrL (XT.ushrL x (8 : Int32)) (8 : Int32))).toInt32.toInt8.toInt32)), .int (nar .byte (((XT.ushrL x (8 : Int32))).toInt32.toInt8.toInt32)), .int (nar .byte ((x).toInt32.toInt8.toInt32))] ⟨by decide, by decide⟩ (by omega) (by simp) rfl d11_27 rfl ?_
  intro T59 h59 X59 e59 W59 F59
  have F60 : Exa Z h59 o "com/example/cardinality/cardinality/value/ByteWriter" := Exa.wr W59 F52
  have F61 : Fld Z h59 o "com/example/cardinality/cardinality/value/ByteWriter" "bytes" "[B" (.ref r) := Fld.other W59 F53 (Or.inl ne)
  have F62 : Fld Z h59 o "com/example/cardinality/cardinality/value/ByteWriter" "length" "I" (.int (13 : Int32)) := Fld.other W59 F54 (Or.inl ne)
  have F63 : Exa Z h59 r "[B" := Exa.wr W59 F55
  have Z64 : n0 ≤ h59.size := Nat.le_trans Z56 (Nat.le_of_eq W59.size.symm)
  have N65 := Fr.snoc X59 N57 gr
  refine ow_lloadN K X59 (pc' := 29) (XT.ushrL (XT.ushrL (XT.ushrL (XT.ushrL (XT.ushrL (XT.ushrL (XT.ushrL x (8 : Int32)) (8 : Int32)) (8 : Int32)) (8 : Int32)) (8 : Int32)) (8 : Int32)) (8 : Int32)) d11_28 rfl rfl ?_
  refine ow_bipush K X59 (pc' := 31) (8 : Int32) d11_29 rfl (by decide) ?_
  refine ow_lushr K X59 (pc' := 32) (XT.ushrL (XT.ushrL (XT.ushrL (XT.ushrL (XT.ushrL (XT.ushrL (XT.ushrL (XT.ushrL x (8 : Int32)) (8 : Int32)) (8 : Int32)) (8 : Int32)) (8 : Int32)) (8 : Int32)) (8 : Int32)) (8 : Int32)) d11_31 rfl rfl ?_
  refine ow_lstoreN K X59 (pc' := 33) (Ls' := #[.val (.ref o), .val (.long (XT.ushrL (XT.ushrL (XT.ushrL (XT.ushrL (XT.ushrL (XT.ushrL (XT.ushrL (XT.ushrL x (8 : Int32)) (8 : Int32)) (8 : Int32)) (8 : Int32)) (8 : Int32)) (8 : Int32)) (8 : Int32)) (8 : Int32))), .second, .val (.int (5 : Int32)), .val (.int (0 : Int32))]) d11_32 rfl rfl ?_
  refine ow_iinc K X59 (pc' := 36) (Ls' := #[.val (.ref o), .val (.long (XT.ushrL (XT.ushrL (XT.ushrL (XT.ushrL (XT.ushrL (XT.ushrL (XT.ushrL (XT.ushrL x (8 : Int32)) (8 : Int32)) (8 : Int32)) (8 : Int32)) (8 : Int32)) (8 : Int32)) (8 : Int32)) (8 : Int32))), .second, .val (.int (5 : Int32)), .val (.int (-1 : Int32))]) (-1 : Int32) (-1 : Int32) d11_33 rfl (by decide) rfl (by decide) rfl ?_
  refine ow_goto K X59 (pc' := 11) d11_36 (by decide) (by decide) ?_
  refine ow_iload K X59 (pc' := 13) (-1 : Int32) d11_11 rfl rfl ?_
  refine ow_ifY K X59 (pc' := 39) d11_13 (XT.i0_lt_t (by decide)) (by decide) (by decide) ?_
  refine ow_ret K X59 rfl d11_39 ?_ hce hse
  rw [e59]
  exact ⟨r, k, N, rfl, N65, Z64, gr, ne, h13, h31, F60, F61, F62, F59, F63⟩
theorem pn_11 : plainFor (⟨"com/example/cardinality/cardinality/value/ByteWriter", "writeLong", "(J)V"⟩ : MethodName) = true := by first | exact plainFor_of_name (by first | (simp [plainName, overriddenIn]; done) | decide +kernel) | decide +kernel
theorem pd_11 : parseMethodDescriptor "(J)V" = some ⟨[.long], none⟩ := by decide +kernel
theorem ef_11 (m : MethodId) (o : Addr) (x : Int64) : entryFrame m #[(.ref o), (.long x)] 5 = mkF m 0 #[.val (.ref o), .val (.long x), .second, .unset, .unset] [] := by first | (simp [entryFrame, mkF, argsToLocals, Value.category]; done) | rfl
def Q11 (Z : State) (o : Addr) (x : Int64) (r : Addr) (k : ClassId) (N : Int32) (y0 : Int32) (y1 : Int32) (y2 : Int32) (y3 : Int32) (y4 : Int32) (h0 : Heap) (n0 : Nat) (v : Option Value) (h : Heap) (L : List Loc) : Prop := QL Z o x y0 y1 y2 y3 y4 n0 v h L
set_option maxRecDepth 65536 in
set_option maxHeartbeats 40000000 in
theorem rm11 (l : Launch) (Z : State) (a0 : Array Value) (hw : ∀ d ∈ tables_1, d.before a0 Z = true) (ws : List Jvm.Cond) (o : Addr) (x : Int64) (r : Addr) (k : ClassId) (N : Int32) (y0 : Int32) (y1 : Int32) (y2 : Int32) (y3 : Int32) (y4 : Int32) (h0 : Heap) (n0 : Nat) (Z0 : n0 ≤ h0.size) (E : Exa Z h0 o "com/example/cardinality/cardinality/value/ByteWriter") (FB : Fld Z h0 o "com/example/cardinality/cardinality/value/ByteWriter" "bytes" "[B" (.ref r)) (FL : Fld Z h0 o "com/example/cardinality/cardinality/value/ByteWriter" "length" "I" (.int (5 : Int32))) (AV : Arv Z h0 r k .byte N [.int y0, .int y1, .int y2, .int y3, .int y4] (.int 0)) (AE : Exa Z h0 r "[B") (go : n0 ≤ o) (gr : n0 ≤ r) (ne : o ≠ r) (h8 : 8 ≤ N.toInt) (h31 : N.toInt ≤ 31) :
    MetFree l (⟨"com/example/cardinality/cardinality/value/ByteWriter", "writeLong", "(J)V"⟩ : MethodName) (head1 (Jvm.Cond.code (⟨"com/example/cardinality/cardinality/value/ByteWriter", "writeLong", "(J)V"⟩ : MethodName) prog_22_method_6_code 5 none :: ws) ({ frames := 3, cells := 1, slots := 31, locals := 60 } : Room)) (fun as_ U => as_ = #[(.ref o), (.long x)] ∧ Z.Warmed39 U.vm ∧ U.heap = h0) (fun _ _ _ _ _ => True) (fun _ U oc U' => ∃ v L, oc = .returned v ∧ QL Z o x y0 y1 y2 y3 y4 n0 v U'.heap L ∧ FrameEnd U oc U' L ({ frames := 3, cells := 1, slots := 31, locals := 60 } : Room).cells ({ frames := 3, cells := 1, slots := 31, locals := 60 } : Room).slots) := by
  refine MetFree.of_bodySF pn_11 hisR ?_
  intro p e s m args below meth c s₁ Bd hml0 hP hK
  obtain ⟨rfl, hZ, hh⟩ := hP
  have K : ow_K p e below s m meth c Z "com/example/cardinality/cardinality/value/ByteWriter" prog_22_method_6_code 5 none "writeLong" (ow_Gl p e below s (QL Z o x y0 y1 y2 y3 y4 n0) 1 31) := ⟨ow_Gl_bc, Bd.exec, Bd.bytes, hml0, findClass_of_methodNamed Bd.named, hZ, Bd.returns, Bd.notSynchronized, (name_of_methodNamed Bd.named Bd.method).1⟩
  have X0 : Stand p l e ({ frames := 3, cells := 1, slots := 31, locals := 60 } : Room) s m #[(.ref o), (.long x)] below meth c s₁ [] 0 0 := Stand.of_body Bd
  have e0 : s₁.heap = h0 := by rw [← hh, Bd.state]; rfl
  have N0 := Fr.nil n0
  refine ow_entry (Q := (QL Z o x y0 y1 y2 y3 y4 n0)) (ce := 1) (sl := 31) (ef_11 m o x) ?_
  refine ow_aloadN K X0 (pc' := 1) o d11_0 rfl rfl ?_
  refine ow_bipush K X0 (pc' := 3) (8 : Int32) d11_1 rfl (by decide) ?_
  by_cases hg : (N - 5) < 8
  · have e2 := own_mul2 (N := N) (by omega) (by omega)
    have hlt := own_gr (N := N) (a := 5) (b := 8) (by omega) (by omega) (by decide) (by decide) hg
    have e5 : (5 : Int32).toInt = 5 := by decide
    have e8 : (8 : Int32).toInt = 8 := by decide
    have e13 : (13 : Int32).toInt = 13 := by decide
    rw [e5, e8] at hlt
    have hmn := own_minI N (2 * N)
    rw [e2, if_neg (by omega)] at hmn
    have c1 := own_clamp (x := own_min N (2 * N)) (by omega)
    have c2 := own_clamp (x := (2 : Int32) * N) (by omega)
    have c3 := own_clamp (x := N) (by omega)
    have hmx : own_max (2 * N) 13 = 2 * N := by
      apply Int32.toInt_inj.mp; rw [own_maxI, e2, e13, if_neg (by omega)]
    refine ow_callR K X0 (pc' := 6) e0 (y' := (⟨"com/example/cardinality/cardinality/value/ByteWriter", "writeByte", "(I)V"⟩ : MethodName)) (y := (⟨"com/example/cardinality/cardinality/value/ByteWriter", "next", "(I)I"⟩ : MethodName)) (rm6 l Z a0 hw [] o (8 : Int32) r k N (5 : Int32) (13 : Int32) [.int y0, .int y1, .int y2, .int y3, .int y4] ((2 : Int32) * N) h0 n0 Z0 E FB FL AV AE go gr ne hg (by decide) rfl hmx (own_nneg (by omega)) (by omega) (own_nneg (by omega)) (by omega) (by omega) (by show 5 ≤ _; omega)) E rfl (hw _ (List.mem_of_getElem? (i := 19) rfl)) (hw _ (List.mem_of_getElem? (i := 23) rfl)) (hw _ (List.mem_of_getElem? (i := 21) rfl)) (hw _ (List.mem_of_getElem? (i := 22) rfl)) (hw _ (List.mem_of_getElem? (i := 2) rfl)) (hw _ (List.mem_of_getElem? (i := 24) rfl)) (by decide) (st := []) 0 (Nat.le_of_eq rfl) (by decide) (by decide) (by decide) (by decide) rfl [.int (8 : Int32)] rfl (lenOf pd_6 rfl) rfl d11_3 rfl ?_
    intro v1 T1 L1 X1 hQ1
    obtain ⟨rfl, NNn, Zn', r2, k2, gr2, ne2, E2, FB2, FL2, AV2, AE2⟩ := hQ1
    have NXn := Fr.app N0 NNn
    refine ow_at (g := (mkF m 6 #[.val (.ref o), .val (.long x), .second, .unset, .unset] [.int (5 : Int32)])) ?_
    exact t6L hw K X1 rfl NXn Zn' E2 FB2 FL2 AV2 AE2 go gr2 ne2 (by omega) (by omega) (by decide) (by decide)
  · have h13 : 13 ≤ N.toInt := by
      refine Classical.byContradiction fun q => hg ?_
      have e5 : (5 : Int32).toInt = 5 := by decide
      have e8 : (8 : Int32).toInt = 8 := by decide
      rw [Int32.lt_iff_toInt_lt, own_subI (by omega) (by omega) (by decide) (by decide), e5, e8]; omega
    refine ow_callR K X0 (pc' := 6) e0 (y' := (⟨"com/example/cardinality/cardinality/value/ByteWriter", "writeByte", "(I)V"⟩ : MethodName)) (y := (⟨"com/example/cardinality/cardinality/value/ByteWriter", "next", "(I)I"⟩ : MethodName)) (rm5 l Z a0 hw [] o (8 : Int32) r k N (5 : Int32) (13 : Int32) [.int y0, .int y1, .int y2, .int y3, .int y4] h0 n0 Z0 E FB FL AV AE go gr ne hg (by decide)) E rfl (hw _ (List.mem_of_getElem? (i := 19) rfl)) (hw _ (List.mem_of_getElem? (i := 23) rfl)) (hw _ (List.mem_of_getElem? (i := 21) rfl)) (hw _ (List.mem_of_getElem? (i := 22) rfl)) (hw _ (List.mem_of_getElem? (i := 2) rfl)) (hw _ (List.mem_of_getElem? (i := 24) rfl)) (by decide) (st := []) 0 (Nat.le_of_eq rfl) (by decide) (by decide) (by decide) (by decide) rfl [.int (8 : Int32)] rfl (lenOf pd_5 rfl) rfl d11_3 rfl ?_
    intro v2 T2 L2 X2 hQ2
    obtain ⟨rfl, NNn, Zn', E2, FB2, FL2, AV2, AE2⟩ := hQ2
    have NXn := Fr.app N0 NNn
    refine ow_at (g := (mkF m 6 #[.val (.ref o), .val (.long x), .second, .unset, .unset] [.int (5 : Int32)])) ?_
    exact t6L hw K X2 rfl NXn Zn' E2 FB2 FL2 AV2 AE2 go gr ne h13 h31 (by decide) (by decide)
theorem d12_0 : decode prog_22_method_10_code 0 = .ok (.aload_n 0, 1) := by decide +kernel
theorem d12_1 : decode prog_22_method_10_code 1 = .ok (.getfield 15, 3) := by decide +kernel
theorem d12_4 : decode prog_22_method_10_code 4 = .ok (.aload_n 0, 1) := by decide +kernel
theorem d12_5 : decode prog_22_method_10_code 5 = .ok (.getfield 21, 3) := by decide +kernel
theorem d12_8 : decode prog_22_method_10_code 8 = .ok (.invokestatic 64, 3) := by decide +kernel
theorem d12_11 : decode prog_22_method_10_code 11 = .ok (.areturn, 1) := by decide +kernel
theorem pn_12 : plainFor (⟨"com/example/cardinality/cardinality/value/ByteWriter", "toByteArray", "()[B"⟩ : MethodName) = true := by first | exact plainFor_of_name (by first | (simp [plainName, overriddenIn]; done) | decide +kernel) | decide +kernel
theorem pd_12 : parseMethodDescriptor "()[B" = some ⟨[], some (.array .byte)⟩ := by decide +kernel
theorem ef_12 (m : MethodId) (o : Addr) : entryFrame m #[(.ref o)] 1 = mkF m 0 #[.val (.ref o)] [] := by first | (simp [entryFrame, mkF, argsToLocals, Value.category]; done) | rfl
def Q12 (Z : State) (o : Addr) (r : Addr) (k : ClassId) (N : Int32) (ln : Int32) (vs : List Value) (h0 : Heap) (n0 : Nat) (v : Option Value) (h : Heap) (L : List Loc) : Prop := ∃ (b : Addr) (k' : ClassId), v = some (.ref b) ∧ Fr n0 L ∧ n0 ≤ h.size ∧ n0 ≤ b ∧ b = h0.size ∧ Keep h0 h [] ∧ Arv Z h b k' .byte ln vs (.int 0) ∧ Exa Z h b "[B"
set_option maxRecDepth 65536 in
set_option maxHeartbeats 40000000 in
theorem rm12 (l : Launch) (Z : State) (a0 : Array Value) (hw : ∀ d ∈ tables_1, d.before a0 Z = true) (ws : List Jvm.Cond) (o : Addr) (r : Addr) (k : ClassId) (N : Int32) (ln : Int32) (vs : List Value) (h0 : Heap) (n0 : Nat) (Z0 : n0 ≤ h0.size) (E : Exa Z h0 o "com/example/cardinality/cardinality/value/ByteWriter") (FB : Fld Z h0 o "com/example/cardinality/cardinality/value/ByteWriter" "bytes" "[B" (.ref r)) (FL : Fld Z h0 o "com/example/cardinality/cardinality/value/ByteWriter" "length" "I" (.int ln)) (AV : Arv Z h0 r k .byte N vs (.int 0)) (AE : Exa Z h0 r "[B") (go : n0 ≤ o) (gr : n0 ≤ r) (ne : o ≠ r) (hn : ¬ ln < 0) (hcap : ln.toNatClampNeg ≤ 31) (hm : ¬ own_min N ln < 0) (hm1 : (own_min N ln).toNatClampNeg ≤ N.toNatClampNeg) (hm2 : (own_min N ln).toNatClampNeg ≤ ln.toNatClampNeg) (hv : vs.length ≤ (own_min N ln).toNatClampNeg) :
    MetFree l (⟨"com/example/cardinality/cardinality/value/ByteWriter", "toByteArray", "()[B"⟩ : MethodName) (head1 (Jvm.Cond.code (⟨"com/example/cardinality/cardinality/value/ByteWriter", "toByteArray", "()[B"⟩ : MethodName) prog_22_method_10_code 1 (some (.array .byte)) :: ws) ({ frames := 2, cells := 1, slots := 31, locals := 40 } : Room)) (fun as_ U => as_ = #[(.ref o)] ∧ Z.Warmed39 U.vm ∧ U.heap = h0) (fun _ _ _ _ _ => True) (fun _ U oc U' => ∃ v L, oc = .returned v ∧ Q12 Z o r k N ln vs h0 n0 v U'.heap L ∧ FrameEnd U oc U' L ({ frames := 2, cells := 1, slots := 31, locals := 40 } : Room).cells ({ frames := 2, cells := 1, slots := 31, locals := 40 } : Room).slots) := by
  refine MetFree.of_bodySF pn_12 hisR ?_
  intro p e s m args below meth c s₁ Bd hml0 hP hK
  obtain ⟨rfl, hZ, hh⟩ := hP
  have K : ow_K p e below s m meth c Z "com/example/cardinality/cardinality/value/ByteWriter" prog_22_method_10_code 1 (some (.array .byte)) "toByteArray" (ow_Gl p e below s (Q12 Z o r k N ln vs h0 n0) 1 31) := ⟨ow_Gl_bc, Bd.exec, Bd.bytes, hml0, findClass_of_methodNamed Bd.named, hZ, Bd.returns, Bd.notSynchronized, (name_of_methodNamed Bd.named Bd.method).1⟩
  have X0 : Stand p l e ({ frames := 2, cells := 1, slots := 31, locals := 40 } : Room) s m #[(.ref o)] below meth c s₁ [] 0 0 := Stand.of_body Bd
  have e0 : s₁.heap = h0 := by rw [← hh, Bd.state]; rfl
  have N0 := Fr.nil n0
  refine ow_entry (Q := (Q12 Z o r k N ln vs h0 n0)) (ce := 1) (sl := 31) (ef_12 m o) ?_
  refine ow_aloadN K X0 (pc' := 1) o d12_0 rfl rfl ?_
  refine ow_getF K X0 (pc' := 4) e0 (hw _ (List.mem_of_getElem? (i := 14) rfl)) FB d12_1 rfl ?_
  intro T1 X1 e1
  refine ow_aloadN K X1 (pc' := 5) o d12_4 rfl rfl ?_
  refine ow_getF K X1 (pc' := 8) e1 (hw _ (List.mem_of_getElem? (i := 25) rfl)) FL d12_5 rfl ?_
  intro T2 X2 e2
  refine ow_callS K X2 (pc' := 11) e2 (y := (⟨"java/util/Arrays", "copyOf", "([BI)[B"⟩ : MethodName)) (rm3 l Z a0 hw [] r ln k N vs h0 n0 Z0 AV AE hn hcap hm hm1 hm2 hv) (hw _ (List.mem_of_getElem? (i := 46) rfl)) (hw _ (List.mem_of_getElem? (i := 47) rfl)) (hw _ (List.mem_of_getElem? (i := 48) rfl)) (hw _ (List.mem_of_getElem? (i := 49) rfl)) (by decide) (st := []) 0 (Nat.le_of_eq rfl) (by decide) (by decide) (by decide) (by decide) rfl [.ref r, .int ln] rfl (lenOf pd_3 rfl) rfl d12_8 rfl ?_
  intro v3 T3 L3 X3 hQ3
  obtain ⟨b, k2, rfl, NNc, Zc, gc, hcc, Kc, AVc, AEc⟩ := hQ3
  have NXc := Fr.app N0 NNc
  refine ow_at (g := (mkF m 11 #[.val (.ref o)] [.ref b])) ?_
  exact ow_retA K X3 (.array .byte) rfl rfl d12_11 ⟨b, k2, rfl, NXc, Zc, gc, hcc, Kc, AVc, AEc⟩ (by decide) (by decide)
theorem d13_0 : decode prog_22_method_2_code 0 = .ok (.aload_n 0, 1) := by decide +kernel
theorem d13_1 : decode prog_22_method_2_code 1 = .ok (.getfield 21, 3) := by decide +kernel
theorem d13_4 : decode prog_22_method_2_code 4 = .ok (.ireturn, 1) := by decide +kernel
theorem pn_13 : plainFor (⟨"com/example/cardinality/cardinality/value/ByteWriter", "length", "()I"⟩ : MethodName) = true := by first | exact plainFor_of_name (by first | (simp [plainName, overriddenIn]; done) | decide +kernel) | decide +kernel
theorem pd_13 : parseMethodDescriptor "()I" = some ⟨[], some .int⟩ := by decide +kernel
theorem ef_13 (m : MethodId) (o : Addr) : entryFrame m #[(.ref o)] 1 = mkF m 0 #[.val (.ref o)] [] := by first | (simp [entryFrame, mkF, argsToLocals, Value.category]; done) | rfl
def Q13 (Z : State) (o : Addr) (ln : Int32) (h0 : Heap) (n0 : Nat) (v : Option Value) (h : Heap) (L : List Loc) : Prop := v = some (.int ln) ∧ Fr n0 L ∧ h = h0
set_option maxRecDepth 65536 in
set_option maxHeartbeats 40000000 in
theorem rm13 (l : Launch) (Z : State) (a0 : Array Value) (hw : ∀ d ∈ tables_1, d.before a0 Z = true) (ws : List Jvm.Cond) (o : Addr) (ln : Int32) (h0 : Heap) (n0 : Nat) (Z0 : n0 ≤ h0.size) (FL : Fld Z h0 o "com/example/cardinality/cardinality/value/ByteWriter" "length" "I" (.int ln)) :
    MetFree l (⟨"com/example/cardinality/cardinality/value/ByteWriter", "length", "()I"⟩ : MethodName) (head1 (Jvm.Cond.code (⟨"com/example/cardinality/cardinality/value/ByteWriter", "length", "()I"⟩ : MethodName) prog_22_method_2_code 1 (some .int) :: ws) ({ frames := 0, cells := 0, slots := 0, locals := 0 } : Room)) (fun as_ U => as_ = #[(.ref o)] ∧ Z.Warmed39 U.vm ∧ U.heap = h0) (fun _ _ _ _ _ => True) (fun _ U oc U' => ∃ v L, oc = .returned v ∧ Q13 Z o ln h0 n0 v U'.heap L ∧ FrameEnd U oc U' L ({ frames := 0, cells := 0, slots := 0, locals := 0 } : Room).cells ({ frames := 0, cells := 0, slots := 0, locals := 0 } : Room).slots) := by
  refine MetFree.of_bodySF pn_13 hisR ?_
  intro p e s m args below meth c s₁ Bd hml0 hP hK
  obtain ⟨rfl, hZ, hh⟩ := hP
  have K : ow_K p e below s m meth c Z "com/example/cardinality/cardinality/value/ByteWriter" prog_22_method_2_code 1 (some .int) "length" (ow_Gl p e below s (Q13 Z o ln h0 n0) 0 0) := ⟨ow_Gl_bc, Bd.exec, Bd.bytes, hml0, findClass_of_methodNamed Bd.named, hZ, Bd.returns, Bd.notSynchronized, (name_of_methodNamed Bd.named Bd.method).1⟩
  have X0 : Stand p l e ({ frames := 0, cells := 0, slots := 0, locals := 0 } : Room) s m #[(.ref o)] below meth c s₁ [] 0 0 := Stand.of_body Bd
  have e0 : s₁.heap = h0 := by rw [← hh, Bd.state]; rfl
  have N0 := Fr.nil n0
  refine ow_entry (Q := (Q13 Z o ln h0 n0)) (ce := 0) (sl := 0) (ef_13 m o) ?_
  refine ow_aloadN K X0 (pc' := 1) o d13_0 rfl rfl ?_
  refine ow_getF K X0 (pc' := 4) e0 (hw _ (List.mem_of_getElem? (i := 25) rfl)) FL d13_1 rfl ?_
  intro T1 X1 e1
  exact ow_retI K X1 .int rfl rfl (Or.inl rfl) d13_4 ⟨rfl, N0, e1⟩ (by decide) (by decide)
theorem d105_0 : decode method_3_code 0 = .ok (.aload_n 0, 1) := by decide +kernel
theorem d105_1 : decode method_3_code 1 = .ok (.arraylength, 1) := by decide +kernel
theorem d105_2 : decode method_3_code 2 = .ok (.iload_n 2, 1) := by decide +kernel
theorem d105_3 : decode method_3_code 3 = .ok (.if_icmp .eq 5, 3) := by decide +kernel
theorem d105_6 : decode method_3_code 6 = .ok (.iconst 0, 1) := by decide +kernel
theorem d105_7 : decode method_3_code 7 = .ok (.ireturn, 1) := by decide +kernel
theorem d105_8 : decode method_3_code 8 = .ok (.aload_n 0, 1) := by decide +kernel
theorem d105_9 : decode method_3_code 9 = .ok (.iconst 0, 1) := by decide +kernel
theorem d105_10 : decode method_3_code 10 = .ok (.baload, 1) := by decide +kernel
theorem d105_11 : decode method_3_code 11 = .ok (.aload_n 1, 1) := by decide +kernel
theorem d105_12 : decode method_3_code 12 = .ok (.iconst 0, 1) := by decide +kernel
theorem d105_13 : decode method_3_code 13 = .ok (.baload, 1) := by decide +kernel
theorem d105_14 : decode method_3_code 14 = .ok (.if_icmp .ne 43, 3) := by decide +kernel
theorem d105_17 : decode method_3_code 17 = .ok (.aload_n 0, 1) := by decide +kernel
theorem d105_18 : decode method_3_code 18 = .ok (.iconst 1, 1) := by decide +kernel
theorem d105_19 : decode method_3_code 19 = .ok (.baload, 1) := by decide +kernel
theorem d105_20 : decode method_3_code 20 = .ok (.aload_n 1, 1) := by decide +kernel
theorem d105_21 : decode method_3_code 21 = .ok (.iconst 1, 1) := by decide +kernel
theorem d105_22 : decode method_3_code 22 = .ok (.baload, 1) := by decide +kernel
theorem d105_23 : decode method_3_code 23 = .ok (.if_icmp .ne 34, 3) := by decide +kernel
theorem d105_26 : decode method_3_code 26 = .ok (.aload_n 0, 1) := by decide +kernel
theorem d105_27 : decode method_3_code 27 = .ok (.iconst 2, 1) := by decide +kernel
theorem d105_28 : decode method_3_code 28 = .ok (.baload, 1) := by decide +kernel
theorem d105_29 : decode method_3_code 29 = .ok (.aload_n 1, 1) := by decide +kernel
theorem d105_30 : decode method_3_code 30 = .ok (.iconst 2, 1) := by decide +kernel
theorem d105_31 : decode method_3_code 31 = .ok (.baload, 1) := by decide +kernel
theorem d105_32 : decode method_3_code 32 = .ok (.if_icmp .ne 25, 3) := by decide +kernel
theorem d105_35 : decode method_3_code 35 = .ok (.aload_n 0, 1) := by decide +kernel
theorem d105_36 : decode method_3_code 36 = .ok (.iconst 3, 1) := by decide +kernel
theorem d105_37 : decode method_3_code 37 = .ok (.baload, 1) := by decide +kernel
theorem d105_38 : decode method_3_code 38 = .ok (.aload_n 1, 1) := by decide +kernel
theorem d105_39 : decode method_3_code 39 = .ok (.iconst 3, 1) := by decide +kernel
theorem d105_40 : decode method_3_code 40 = .ok (.baload, 1) := by decide +kernel
theorem d105_41 : decode method_3_code 41 = .ok (.if_icmp .ne 16, 3) := by decide +kernel
theorem d105_44 : decode method_3_code 44 = .ok (.aload_n 0, 1) := by decide +kernel
theorem d105_45 : decode method_3_code 45 = .ok (.iconst 4, 1) := by decide +kernel
theorem d105_46 : decode method_3_code 46 = .ok (.baload, 1) := by decide +kernel
theorem d105_47 : decode method_3_code 47 = .ok (.aload_n 1, 1) := by decide +kernel
theorem d105_48 : decode method_3_code 48 = .ok (.iconst 4, 1) := by decide +kernel
theorem d105_49 : decode method_3_code 49 = .ok (.baload, 1) := by decide +kernel
theorem d105_50 : decode method_3_code 50 = .ok (.if_icmp .ne 7, 3) := by decide +kernel
theorem d105_53 : decode method_3_code 53 = .ok (.iconst 1, 1) := by decide +kernel
theorem d105_54 : decode method_3_code 54 = .ok (.goto 4, 3) := by decide +kernel
theorem d105_57 : decode method_3_code 57 = .ok (.iconst 0, 1) := by decide +kernel
theorem d105_58 : decode method_3_code 58 = .ok (.istore_n 3, 1) := by decide +kernel
theorem d105_59 : decode method_3_code 59 = .ok (.iload_n 3, 1) := by decide +kernel
theorem d105_60 : decode method_3_code 60 = .ok (.ifCond .ne 5, 3) := by decide +kernel
theorem d105_63 : decode method_3_code 63 = .ok (.iconst 0, 1) := by decide +kernel
theorem d105_64 : decode method_3_code 64 = .ok (.ireturn, 1) := by decide +kernel
theorem d105_65 : decode method_3_code 65 = .ok (.iload_n 2, 1) := by decide +kernel
theorem d105_66 : decode method_3_code 66 = .ok (.iconst 5, 1) := by decide +kernel
theorem d105_67 : decode method_3_code 67 = .ok (.if_icmp .gt 5, 3) := by decide +kernel
theorem d105_70 : decode method_3_code 70 = .ok (.iconst 1, 1) := by decide +kernel
theorem d105_71 : decode method_3_code 71 = .ok (.ireturn, 1) := by decide +kernel
theorem d105_72 : decode method_3_code 72 = .ok (.aload_n 0, 1) := by decide +kernel
theorem d105_73 : decode method_3_code 73 = .ok (.iconst 5, 1) := by decide +kernel
theorem d105_74 : decode method_3_code 74 = .ok (.baload, 1) := by decide +kernel
theorem d105_75 : decode method_3_code 75 = .ok (.aload_n 1, 1) := by decide +kernel
theorem d105_76 : decode method_3_code 76 = .ok (.iconst 5, 1) := by decide +kernel
theorem d105_77 : decode method_3_code 77 = .ok (.baload, 1) := by decide +kernel
theorem d105_78 : decode method_3_code 78 = .ok (.if_icmp .ne 84, 3) := by decide +kernel
theorem d105_81 : decode method_3_code 81 = .ok (.aload_n 0, 1) := by decide +kernel
theorem d105_82 : decode method_3_code 82 = .ok (.bipush 6, 2) := by decide +kernel
theorem d105_84 : decode method_3_code 84 = .ok (.baload, 1) := by decide +kernel
theorem d105_85 : decode method_3_code 85 = .ok (.aload_n 1, 1) := by decide +kernel
theorem d105_86 : decode method_3_code 86 = .ok (.bipush 6, 2) := by decide +kernel
theorem d105_88 : decode method_3_code 88 = .ok (.baload, 1) := by decide +kernel
theorem d105_89 : decode method_3_code 89 = .ok (.if_icmp .ne 73, 3) := by decide +kernel
theorem d105_92 : decode method_3_code 92 = .ok (.aload_n 0, 1) := by decide +kernel
theorem d105_93 : decode method_3_code 93 = .ok (.bipush 7, 2) := by decide +kernel
theorem d105_95 : decode method_3_code 95 = .ok (.baload, 1) := by decide +kernel
theorem d105_96 : decode method_3_code 96 = .ok (.aload_n 1, 1) := by decide +kernel
theorem d105_97 : decode method_3_code 97 = .ok (.bipush 7, 2) := by decide +kernel
theorem d105_99 : decode method_3_code 99 = .ok (.baload, 1) := by decide +kernel
theorem d105_100 : decode method_3_code 100 = .ok (.if_icmp .ne 62, 3) := by decide +kernel
theorem d105_103 : decode method_3_code 103 = .ok (.aload_n 0, 1) := by decide +kernel
theorem d105_104 : decode method_3_code 104 = .ok (.bipush 8, 2) := by decide +kernel
theorem d105_106 : decode method_3_code 106 = .ok (.baload, 1) := by decide +kernel
theorem d105_107 : decode method_3_code 107 = .ok (.aload_n 1, 1) := by decide +kernel
theorem d105_108 : decode method_3_code 108 = .ok (.bipush 8, 2) := by decide +kernel
theorem d105_110 : decode method_3_code 110 = .ok (.baload, 1) := by decide +kernel
theorem d105_111 : decode method_3_code 111 = .ok (.if_icmp .ne 51, 3) := by decide +kernel
theorem d105_114 : decode method_3_code 114 = .ok (.aload_n 0, 1) := by decide +kernel
theorem d105_115 : decode method_3_code 115 = .ok (.bipush 9, 2) := by decide +kernel
theorem d105_117 : decode method_3_code 117 = .ok (.baload, 1) := by decide +kernel
theorem d105_118 : decode method_3_code 118 = .ok (.aload_n 1, 1) := by decide +kernel
theorem d105_119 : decode method_3_code 119 = .ok (.bipush 9, 2) := by decide +kernel
theorem d105_121 : decode method_3_code 121 = .ok (.baload, 1) := by decide +kernel
theorem d105_122 : decode method_3_code 122 = .ok (.if_icmp .ne 40, 3) := by decide +kernel
theorem d105_125 : decode method_3_code 125 = .ok (.aload_n 0, 1) := by decide +kernel
theorem d105_126 : decode method_3_code 126 = .ok (.bipush 10, 2) := by decide +kernel
theorem d105_128 : decode method_3_code 128 = .ok (.baload, 1) := by decide +kernel
theorem d105_129 : decode method_3_code 129 = .ok (.aload_n 1, 1) := by decide +kernel
theorem d105_130 : decode method_3_code 130 = .ok (.bipush 10, 2) := by decide +kernel
theorem d105_132 : decode method_3_code 132 = .ok (.baload, 1) := by decide +kernel
theorem d105_133 : decode method_3_code 133 = .ok (.if_icmp .ne 29, 3) := by decide +kernel
theorem d105_136 : decode method_3_code 136 = .ok (.aload_n 0, 1) := by decide +kernel
theorem d105_137 : decode method_3_code 137 = .ok (.bipush 11, 2) := by decide +kernel
theorem d105_139 : decode method_3_code 139 = .ok (.baload, 1) := by decide +kernel
theorem d105_140 : decode method_3_code 140 = .ok (.aload_n 1, 1) := by decide +kernel
theorem d105_141 : decode method_3_code 141 = .ok (.bipush 11, 2) := by decide +kernel
theorem d105_143 : decode method_3_code 143 = .ok (.baload, 1) := by decide +kernel
theorem d105_144 : decode method_3_code 144 = .ok (.if_icmp .ne 18, 3) := by decide +kernel
theorem d105_147 : decode method_3_code 147 = .ok (.aload_n 0, 1) := by decide +kernel
theorem d105_148 : decode method_3_code 148 = .ok (.bipush 12, 2) := by decide +kernel
theorem d105_150 : decode method_3_code 150 = .ok (.baload, 1) := by decide +kernel
theorem d105_151 : decode method_3_code 151 = .ok (.aload_n 1, 1) := by decide +kernel
theorem d105_152 : decode method_3_code 152 = .ok (.bipush 12, 2) := by decide +kernel
theorem d105_154 : decode method_3_code 154 = .ok (.baload, 1) := by decide +kernel
theorem d105_155 : decode method_3_code 155 = .ok (.if_icmp .ne 7, 3) := by decide +kernel
theorem d105_158 : decode method_3_code 158 = .ok (.iconst 1, 1) := by decide +kernel
theorem d105_159 : decode method_3_code 159 = .ok (.goto 4, 3) := by decide +kernel
theorem d105_162 : decode method_3_code 162 = .ok (.iconst 0, 1) := by decide +kernel
theorem d105_163 : decode method_3_code 163 = .ok (.ireturn, 1) := by decide +kernel
theorem pn_105 : plainFor (⟨"com/example/cardinality/cardinality/value/ByteWriterToByteArrayPinLaw", "same", "([B[BI)Z"⟩ : MethodName) = true := by first | exact plainFor_of_name (by first | (simp [plainName, overriddenIn]; done) | decide +kernel) | decide +kernel
theorem pd_105 : parseMethodDescriptor "([B[BI)Z" = some ⟨[(.array .byte), (.array .byte), .int], some .boolean⟩ := by decide +kernel
theorem ef_105 (m : MethodId) (a : Addr) (b : Addr) (n : Int32) : entryFrame m #[(.ref a), (.ref b), (.int n)] 4 = mkF m 0 #[.val (.ref a), .val (.ref b), .val (.int n), .unset] [] := by first | (simp [entryFrame, mkF, argsToLocals, Value.category]; done) | rfl
def Q105 (Z : State) (a : Addr) (b : Addr) (n : Int32) (k : ClassId) (k' : ClassId) (x0 : Int32) (x1 : Int32) (x2 : Int32) (x3 : Int32) (x4 : Int32) (x5 : Int32) (x6 : Int32) (x7 : Int32) (x8 : Int32) (x9 : Int32) (x10 : Int32) (x11 : Int32) (x12 : Int32) (h0 : Heap) (n0 : Nat) (v : Option Value) (h : Heap) (L : List Loc) : Prop := v = some (.int 1) ∧ Fr n0 L ∧ h = h0
set_option maxRecDepth 65536 in
set_option maxHeartbeats 40000000 in
theorem rm105 (l : Launch) (Z : State) (a0 : Array Value) (hw : ∀ d ∈ tables_1, d.before a0 Z = true) (ws : List Jvm.Cond) (a : Addr) (b : Addr) (n : Int32) (k : ClassId) (k' : ClassId) (x0 : Int32) (x1 : Int32) (x2 : Int32) (x3 : Int32) (x4 : Int32) (x5 : Int32) (x6 : Int32) (x7 : Int32) (x8 : Int32) (x9 : Int32) (x10 : Int32) (x11 : Int32) (x12 : Int32) (h0 : Heap) (n0 : Nat) (Z0 : n0 ≤ h0.size) (hn : n = 5) (FA : Arv Z h0 a k .byte (5 : Int32) [.int x0, .int x1, .int x2, .int x3, .int x4] (.int 0)) (FB : Arv Z h0 b k' .byte (13 : Int32) [.int x0, .int x1, .int x2, .int x3, .int x4, .int x5, .int x6, .int x7, .int x8, .int x9, .int x10, .int x11, .int x12] (.int 0)) :
    MetFree l (⟨"com/example/cardinality/cardinality/value/ByteWriterToByteArrayPinLaw", "same", "([B[BI)Z"⟩ : MethodName) (head1 (Jvm.Cond.code (⟨"com/example/cardinality/cardinality/value/ByteWriterToByteArrayPinLaw", "same", "([B[BI)Z"⟩ : MethodName) method_3_code 4 (some .boolean) :: ws) ({ frames := 0, cells := 0, slots := 0, locals := 0 } : Room)) (fun as_ U => as_ = #[(.ref a), (.ref b), (.int n)] ∧ Z.Warmed39 U.vm ∧ U.heap = h0) (fun _ _ _ _ _ => True) (fun _ U oc U' => ∃ v L, oc = .returned v ∧ Q105 Z a b n k k' x0 x1 x2 x3 x4 x5 x6 x7 x8 x9 x10 x11 x12 h0 n0 v U'.heap L ∧ FrameEnd U oc U' L ({ frames := 0, cells := 0, slots := 0, locals := 0 } : Room).cells ({ frames := 0, cells := 0, slots := 0, locals := 0 } : Room).slots) := by
  refine MetFree.of_bodySF pn_105 hisR ?_
  intro p e s m args below meth c s₁ Bd hml0 hP hK
  obtain ⟨rfl, hZ, hh⟩ := hP
  have K : ow_K p e below s m meth c Z "com/example/cardinality/cardinality/value/ByteWriterToByteArrayPinLaw" method_3_code 4 (some .boolean) "same" (ow_Gl p e below s (Q105 Z a b n k k' x0 x1 x2 x3 x4 x5 x6 x7 x8 x9 x10 x11 x12 h0 n0) 0 0) := ⟨ow_Gl_bc, Bd.exec, Bd.bytes, hml0, findClass_of_methodNamed Bd.named, hZ, Bd.returns, Bd.notSynchronized, (name_of_methodNamed Bd.named Bd.method).1⟩
  have X0 : Stand p l e ({ frames := 0, cells := 0, slots := 0, locals := 0 } : Room) s m #[(.ref a), (.ref b), (.int n)] below meth c s₁ [] 0 0 := Stand.of_body Bd
  have e0 : s₁.heap = h0 := by rw [← hh, Bd.state]; rfl
  have N0 := Fr.nil n0
  refine ow_entry (Q := (Q105 Z a b n k k' x0 x1 x2 x3 x4 x5 x6 x7 x8 x9 x10 x11 x12 h0 n0)) (ce := 0) (sl := 0) (ef_105 m a b n) ?_
  subst hn
  refine ow_aloadN K X0 (pc' := 1) a d105_0 rfl rfl ?_
  refine ow_len K X0 (pc' := 2) e0 FA d105_1 rfl ?_
  refine ow_iloadN K X0 (pc' := 3) (5 : Int32) d105_2 rfl rfl ?_
  refine ow_icmpY K X0 (pc' := 8) d105_3 (XT.ii_eq_t rfl) (by decide) (by decide) ?_
  refine ow_aloadN K X0 (pc' := 9) a d105_8 rfl rfl ?_
  refine ow_iconst K X0 (pc' := 10) (0 : Int32) d105_9 rfl (by decide) ?_
  refine ow_baload K X0 (pc' := 11) e0 FA 0 (.int x0) ⟨by decide, by decide⟩ (by decide) rfl d105_10 rfl ?_
  refine ow_aloadN K X0 (pc' := 12) b d105_11 rfl rfl ?_
  refine ow_iconst K X0 (pc' := 13) (0 : Int32) d105_12 rfl (by decide) ?_
  refine ow_baload K X0 (pc' := 14) e0 FB 0 (.int x0) ⟨by decide, by decide⟩ (by decide) rfl d105_13 rfl ?_
  refine ow_icmpN K X0 (pc' := 17) d105_14 rfl (XT.ii_ne_f rfl) ?_
  refine ow_aloadN K X0 (pc' := 18) a d105_17 rfl rfl ?_
  refine ow_iconst K X0 (pc' := 19) (1 : Int32) d105_18 rfl (by decide) ?_
  refine ow_baload K X0 (pc' := 20) e0 FA 1 (.int x1) ⟨by decide, by decide⟩ (by decide) rfl d105_19 rfl ?_
  refine ow_aloadN K X0 (pc' := 21) b d105_20 rfl rfl ?_
  refine ow_iconst K X0 (pc' := 22) (1 : Int32) d105_21 rfl (by decide) ?_
  refine ow_baload K X0 (pc' := 23) e0 FB 1 (.int x1) ⟨by decide, by decide⟩ (by decide) rfl d105_22 rfl ?_
  refine ow_icmpN K X0 (pc' := 26) d105_23 rfl (XT.ii_ne_f rfl) ?_
  refine ow_aloadN K X0 (pc' := 27) a d105_26 rfl rfl ?_
  refine ow_iconst K X0 (pc' := 28) (2 : Int32) d105_27 rfl (by decide) ?_
  refine ow_baload K X0 (pc' := 29) e0 FA 2 (.int x2) ⟨by decide, by decide⟩ (by decide) rfl d105_28 rfl ?_
  refine ow_aloadN K X0 (pc' := 30) b d105_29 rfl rfl ?_
  refine ow_iconst K X0 (pc' := 31) (2 : Int32) d105_30 rfl (by decide) ?_
  refine ow_baload K X0 (pc' := 32) e0 FB 2 (.int x2) ⟨by decide, by decide⟩ (by decide) rfl d105_31 rfl ?_
  refine ow_icmpN K X0 (pc' := 35) d105_32 rfl (XT.ii_ne_f rfl) ?_
  refine ow_aloadN K X0 (pc' := 36) a d105_35 rfl rfl ?_
  refine ow_iconst K X0 (pc' := 37) (3 : Int32) d105_36 rfl (by decide) ?_
  refine ow_baload K X0 (pc' := 38) e0 FA 3 (.int x3) ⟨by decide, by decide⟩ (by decide) rfl d105_37 rfl ?_
  refine ow_aloadN K X0 (pc' := 39) b d105_38 rfl rfl ?_
  refine ow_iconst K X0 (pc' := 40) (3 : Int32) d105_39 rfl (by decide) ?_
  refine ow_baload K X0 (pc' := 41) e0 FB 3 (.int x3) ⟨by decide, by decide⟩ (by decide) rfl d105_40 rfl ?_
  refine ow_icmpN K X0 (pc' := 44) d105_41 rfl (XT.ii_ne_f rfl) ?_
  refine ow_aloadN K X0 (pc' := 45) a d105_44 rfl rfl ?_
  refine ow_iconst K X0 (pc' := 46) (4 : Int32) d105_45 rfl (by decide) ?_
  refine ow_baload K X0 (pc' := 47) e0 FA 4 (.int x4) ⟨by decide, by decide⟩ (by decide) rfl d105_46 rfl ?_
  refine ow_aloadN K X0 (pc' := 48) b d105_47 rfl rfl ?_
  refine ow_iconst K X0 (pc' := 49) (4 : Int32) d105_48 rfl (by decide) ?_
  refine ow_baload K X0 (pc' := 50) e0 FB 4 (.int x4) ⟨by decide, by decide⟩ (by decide) rfl d105_49 rfl ?_
  refine ow_icmpN K X0 (pc' := 53) d105_50 rfl (XT.ii_ne_f rfl) ?_
  refine ow_iconst K X0 (pc' := 54) (1 : Int32) d105_53 rfl (by decide) ?_
  refine ow_goto K X0 (pc' := 58) d105_54 (by decide) (by decide) ?_
  refine ow_istoreN K X0 (pc' := 59) (Ls' := #[.val (.ref a), .val (.ref b), .val (.int (5 : Int32)), .val (.int (1 : Int32))]) d105_58 rfl rfl ?_
  refine ow_iloadN K X0 (pc' := 60) (1 : Int32) d105_59 rfl rfl ?_
  refine ow_ifY K X0 (pc' := 65) d105_60 (XT.i0_ne_t (by decide)) (by decide) (by decide) ?_
  refine ow_iloadN K X0 (pc' := 66) (5 : Int32) d105_65 rfl rfl ?_
  refine ow_iconst K X0 (pc' := 67) (5 : Int32) d105_66 rfl (by decide) ?_
  refine ow_icmpN K X0 (pc' := 70) d105_67 rfl (XT.ii_gt_f (by decide)) ?_
  refine ow_iconst K X0 (pc' := 71) (1 : Int32) d105_70 rfl (by decide) ?_
  exact ow_retI K X0 .boolean rfl (by decide) (Or.inr (Or.inl rfl)) d105_71 ⟨rfl, N0, e0⟩ (by decide) (by decide)
theorem d113_0 : decode method_3_code 0 = .ok (.aload_n 0, 1) := by decide +kernel
theorem d113_1 : decode method_3_code 1 = .ok (.arraylength, 1) := by decide +kernel
theorem d113_2 : decode method_3_code 2 = .ok (.iload_n 2, 1) := by decide +kernel
theorem d113_3 : decode method_3_code 3 = .ok (.if_icmp .eq 5, 3) := by decide +kernel
theorem d113_6 : decode method_3_code 6 = .ok (.iconst 0, 1) := by decide +kernel
theorem d113_7 : decode method_3_code 7 = .ok (.ireturn, 1) := by decide +kernel
theorem d113_8 : decode method_3_code 8 = .ok (.aload_n 0, 1) := by decide +kernel
theorem d113_9 : decode method_3_code 9 = .ok (.iconst 0, 1) := by decide +kernel
theorem d113_10 : decode method_3_code 10 = .ok (.baload, 1) := by decide +kernel
theorem d113_11 : decode method_3_code 11 = .ok (.aload_n 1, 1) := by decide +kernel
theorem d113_12 : decode method_3_code 12 = .ok (.iconst 0, 1) := by decide +kernel
theorem d113_13 : decode method_3_code 13 = .ok (.baload, 1) := by decide +kernel
theorem d113_14 : decode method_3_code 14 = .ok (.if_icmp .ne 43, 3) := by decide +kernel
theorem d113_17 : decode method_3_code 17 = .ok (.aload_n 0, 1) := by decide +kernel
theorem d113_18 : decode method_3_code 18 = .ok (.iconst 1, 1) := by decide +kernel
theorem d113_19 : decode method_3_code 19 = .ok (.baload, 1) := by decide +kernel
theorem d113_20 : decode method_3_code 20 = .ok (.aload_n 1, 1) := by decide +kernel
theorem d113_21 : decode method_3_code 21 = .ok (.iconst 1, 1) := by decide +kernel
theorem d113_22 : decode method_3_code 22 = .ok (.baload, 1) := by decide +kernel
theorem d113_23 : decode method_3_code 23 = .ok (.if_icmp .ne 34, 3) := by decide +kernel
theorem d113_26 : decode method_3_code 26 = .ok (.aload_n 0, 1) := by decide +kernel
theorem d113_27 : decode method_3_code 27 = .ok (.iconst 2, 1) := by decide +kernel
theorem d113_28 : decode method_3_code 28 = .ok (.baload, 1) := by decide +kernel
theorem d113_29 : decode method_3_code 29 = .ok (.aload_n 1, 1) := by decide +kernel
theorem d113_30 : decode method_3_code 30 = .ok (.iconst 2, 1) := by decide +kernel
theorem d113_31 : decode method_3_code 31 = .ok (.baload, 1) := by decide +kernel
theorem d113_32 : decode method_3_code 32 = .ok (.if_icmp .ne 25, 3) := by decide +kernel
theorem d113_35 : decode method_3_code 35 = .ok (.aload_n 0, 1) := by decide +kernel
theorem d113_36 : decode method_3_code 36 = .ok (.iconst 3, 1) := by decide +kernel
theorem d113_37 : decode method_3_code 37 = .ok (.baload, 1) := by decide +kernel
theorem d113_38 : decode method_3_code 38 = .ok (.aload_n 1, 1) := by decide +kernel
theorem d113_39 : decode method_3_code 39 = .ok (.iconst 3, 1) := by decide +kernel
theorem d113_40 : decode method_3_code 40 = .ok (.baload, 1) := by decide +kernel
theorem d113_41 : decode method_3_code 41 = .ok (.if_icmp .ne 16, 3) := by decide +kernel
theorem d113_44 : decode method_3_code 44 = .ok (.aload_n 0, 1) := by decide +kernel
theorem d113_45 : decode method_3_code 45 = .ok (.iconst 4, 1) := by decide +kernel
theorem d113_46 : decode method_3_code 46 = .ok (.baload, 1) := by decide +kernel
theorem d113_47 : decode method_3_code 47 = .ok (.aload_n 1, 1) := by decide +kernel
theorem d113_48 : decode method_3_code 48 = .ok (.iconst 4, 1) := by decide +kernel
theorem d113_49 : decode method_3_code 49 = .ok (.baload, 1) := by decide +kernel
theorem d113_50 : decode method_3_code 50 = .ok (.if_icmp .ne 7, 3) := by decide +kernel
theorem d113_53 : decode method_3_code 53 = .ok (.iconst 1, 1) := by decide +kernel
theorem d113_54 : decode method_3_code 54 = .ok (.goto 4, 3) := by decide +kernel
theorem d113_57 : decode method_3_code 57 = .ok (.iconst 0, 1) := by decide +kernel
theorem d113_58 : decode method_3_code 58 = .ok (.istore_n 3, 1) := by decide +kernel
theorem d113_59 : decode method_3_code 59 = .ok (.iload_n 3, 1) := by decide +kernel
theorem d113_60 : decode method_3_code 60 = .ok (.ifCond .ne 5, 3) := by decide +kernel
theorem d113_63 : decode method_3_code 63 = .ok (.iconst 0, 1) := by decide +kernel
theorem d113_64 : decode method_3_code 64 = .ok (.ireturn, 1) := by decide +kernel
theorem d113_65 : decode method_3_code 65 = .ok (.iload_n 2, 1) := by decide +kernel
theorem d113_66 : decode method_3_code 66 = .ok (.iconst 5, 1) := by decide +kernel
theorem d113_67 : decode method_3_code 67 = .ok (.if_icmp .gt 5, 3) := by decide +kernel
theorem d113_70 : decode method_3_code 70 = .ok (.iconst 1, 1) := by decide +kernel
theorem d113_71 : decode method_3_code 71 = .ok (.ireturn, 1) := by decide +kernel
theorem d113_72 : decode method_3_code 72 = .ok (.aload_n 0, 1) := by decide +kernel
theorem d113_73 : decode method_3_code 73 = .ok (.iconst 5, 1) := by decide +kernel
theorem d113_74 : decode method_3_code 74 = .ok (.baload, 1) := by decide +kernel
theorem d113_75 : decode method_3_code 75 = .ok (.aload_n 1, 1) := by decide +kernel
theorem d113_76 : decode method_3_code 76 = .ok (.iconst 5, 1) := by decide +kernel
theorem d113_77 : decode method_3_code 77 = .ok (.baload, 1) := by decide +kernel
theorem d113_78 : decode method_3_code 78 = .ok (.if_icmp .ne 84, 3) := by decide +kernel
theorem d113_81 : decode method_3_code 81 = .ok (.aload_n 0, 1) := by decide +kernel
theorem d113_82 : decode method_3_code 82 = .ok (.bipush 6, 2) := by decide +kernel
theorem d113_84 : decode method_3_code 84 = .ok (.baload, 1) := by decide +kernel
theorem d113_85 : decode method_3_code 85 = .ok (.aload_n 1, 1) := by decide +kernel
theorem d113_86 : decode method_3_code 86 = .ok (.bipush 6, 2) := by decide +kernel
theorem d113_88 : decode method_3_code 88 = .ok (.baload, 1) := by decide +kernel
theorem d113_89 : decode method_3_code 89 = .ok (.if_icmp .ne 73, 3) := by decide +kernel
theorem d113_92 : decode method_3_code 92 = .ok (.aload_n 0, 1) := by decide +kernel
theorem d113_93 : decode method_3_code 93 = .ok (.bipush 7, 2) := by decide +kernel
theorem d113_95 : decode method_3_code 95 = .ok (.baload, 1) := by decide +kernel
theorem d113_96 : decode method_3_code 96 = .ok (.aload_n 1, 1) := by decide +kernel
theorem d113_97 : decode method_3_code 97 = .ok (.bipush 7, 2) := by decide +kernel
theorem d113_99 : decode method_3_code 99 = .ok (.baload, 1) := by decide +kernel
theorem d113_100 : decode method_3_code 100 = .ok (.if_icmp .ne 62, 3) := by decide +kernel
theorem d113_103 : decode method_3_code 103 = .ok (.aload_n 0, 1) := by decide +kernel
theorem d113_104 : decode method_3_code 104 = .ok (.bipush 8, 2) := by decide +kernel
theorem d113_106 : decode method_3_code 106 = .ok (.baload, 1) := by decide +kernel
theorem d113_107 : decode method_3_code 107 = .ok (.aload_n 1, 1) := by decide +kernel
theorem d113_108 : decode method_3_code 108 = .ok (.bipush 8, 2) := by decide +kernel
theorem d113_110 : decode method_3_code 110 = .ok (.baload, 1) := by decide +kernel
theorem d113_111 : decode method_3_code 111 = .ok (.if_icmp .ne 51, 3) := by decide +kernel
theorem d113_114 : decode method_3_code 114 = .ok (.aload_n 0, 1) := by decide +kernel
theorem d113_115 : decode method_3_code 115 = .ok (.bipush 9, 2) := by decide +kernel
theorem d113_117 : decode method_3_code 117 = .ok (.baload, 1) := by decide +kernel
theorem d113_118 : decode method_3_code 118 = .ok (.aload_n 1, 1) := by decide +kernel
theorem d113_119 : decode method_3_code 119 = .ok (.bipush 9, 2) := by decide +kernel
theorem d113_121 : decode method_3_code 121 = .ok (.baload, 1) := by decide +kernel
theorem d113_122 : decode method_3_code 122 = .ok (.if_icmp .ne 40, 3) := by decide +kernel
theorem d113_125 : decode method_3_code 125 = .ok (.aload_n 0, 1) := by decide +kernel
theorem d113_126 : decode method_3_code 126 = .ok (.bipush 10, 2) := by decide +kernel
theorem d113_128 : decode method_3_code 128 = .ok (.baload, 1) := by decide +kernel
theorem d113_129 : decode method_3_code 129 = .ok (.aload_n 1, 1) := by decide +kernel
theorem d113_130 : decode method_3_code 130 = .ok (.bipush 10, 2) := by decide +kernel
theorem d113_132 : decode method_3_code 132 = .ok (.baload, 1) := by decide +kernel
theorem d113_133 : decode method_3_code 133 = .ok (.if_icmp .ne 29, 3) := by decide +kernel
theorem d113_136 : decode method_3_code 136 = .ok (.aload_n 0, 1) := by decide +kernel
theorem d113_137 : decode method_3_code 137 = .ok (.bipush 11, 2) := by decide +kernel
theorem d113_139 : decode method_3_code 139 = .ok (.baload, 1) := by decide +kernel
theorem d113_140 : decode method_3_code 140 = .ok (.aload_n 1, 1) := by decide +kernel
theorem d113_141 : decode method_3_code 141 = .ok (.bipush 11, 2) := by decide +kernel
theorem d113_143 : decode method_3_code 143 = .ok (.baload, 1) := by decide +kernel
theorem d113_144 : decode method_3_code 144 = .ok (.if_icmp .ne 18, 3) := by decide +kernel
theorem d113_147 : decode method_3_code 147 = .ok (.aload_n 0, 1) := by decide +kernel
theorem d113_148 : decode method_3_code 148 = .ok (.bipush 12, 2) := by decide +kernel
theorem d113_150 : decode method_3_code 150 = .ok (.baload, 1) := by decide +kernel
theorem d113_151 : decode method_3_code 151 = .ok (.aload_n 1, 1) := by decide +kernel
theorem d113_152 : decode method_3_code 152 = .ok (.bipush 12, 2) := by decide +kernel
theorem d113_154 : decode method_3_code 154 = .ok (.baload, 1) := by decide +kernel
theorem d113_155 : decode method_3_code 155 = .ok (.if_icmp .ne 7, 3) := by decide +kernel
theorem d113_158 : decode method_3_code 158 = .ok (.iconst 1, 1) := by decide +kernel
theorem d113_159 : decode method_3_code 159 = .ok (.goto 4, 3) := by decide +kernel
theorem d113_162 : decode method_3_code 162 = .ok (.iconst 0, 1) := by decide +kernel
theorem d113_163 : decode method_3_code 163 = .ok (.ireturn, 1) := by decide +kernel
theorem pn_113 : plainFor (⟨"com/example/cardinality/cardinality/value/ByteWriterToByteArrayPinLaw", "same", "([B[BI)Z"⟩ : MethodName) = true := by first | exact plainFor_of_name (by first | (simp [plainName, overriddenIn]; done) | decide +kernel) | decide +kernel
theorem pd_113 : parseMethodDescriptor "([B[BI)Z" = some ⟨[(.array .byte), (.array .byte), .int], some .boolean⟩ := by decide +kernel
theorem ef_113 (m : MethodId) (a : Addr) (b : Addr) (n : Int32) : entryFrame m #[(.ref a), (.ref b), (.int n)] 4 = mkF m 0 #[.val (.ref a), .val (.ref b), .val (.int n), .unset] [] := by first | (simp [entryFrame, mkF, argsToLocals, Value.category]; done) | rfl
def Q113 (Z : State) (a : Addr) (b : Addr) (n : Int32) (k : ClassId) (k' : ClassId) (x0 : Int32) (x1 : Int32) (x2 : Int32) (x3 : Int32) (x4 : Int32) (x5 : Int32) (x6 : Int32) (x7 : Int32) (x8 : Int32) (x9 : Int32) (x10 : Int32) (x11 : Int32) (x12 : Int32) (h0 : Heap) (n0 : Nat) (v : Option Value) (h : Heap) (L : List Loc) : Prop := v = some (.int 1) ∧ Fr n0 L ∧ h = h0
set_option maxRecDepth 65536 in
set_option maxHeartbeats 40000000 in
theorem rm113 (l : Launch) (Z : State) (a0 : Array Value) (hw : ∀ d ∈ tables_1, d.before a0 Z = true) (ws : List Jvm.Cond) (a : Addr) (b : Addr) (n : Int32) (k : ClassId) (k' : ClassId) (x0 : Int32) (x1 : Int32) (x2 : Int32) (x3 : Int32) (x4 : Int32) (x5 : Int32) (x6 : Int32) (x7 : Int32) (x8 : Int32) (x9 : Int32) (x10 : Int32) (x11 : Int32) (x12 : Int32) (h0 : Heap) (n0 : Nat) (Z0 : n0 ≤ h0.size) (hn : n = 13) (FA : Arv Z h0 a k .byte (13 : Int32) [.int x0, .int x1, .int x2, .int x3, .int x4, .int x5, .int x6, .int x7, .int x8, .int x9, .int x10, .int x11, .int x12] (.int 0)) (FB : Arv Z h0 b k' .byte (13 : Int32) [.int x0, .int x1, .int x2, .int x3, .int x4, .int x5, .int x6, .int x7, .int x8, .int x9, .int x10, .int x11, .int x12] (.int 0)) :
    MetFree l (⟨"com/example/cardinality/cardinality/value/ByteWriterToByteArrayPinLaw", "same", "([B[BI)Z"⟩ : MethodName) (head1 (Jvm.Cond.code (⟨"com/example/cardinality/cardinality/value/ByteWriterToByteArrayPinLaw", "same", "([B[BI)Z"⟩ : MethodName) method_3_code 4 (some .boolean) :: ws) ({ frames := 0, cells := 0, slots := 0, locals := 0 } : Room)) (fun as_ U => as_ = #[(.ref a), (.ref b), (.int n)] ∧ Z.Warmed39 U.vm ∧ U.heap = h0) (fun _ _ _ _ _ => True) (fun _ U oc U' => ∃ v L, oc = .returned v ∧ Q113 Z a b n k k' x0 x1 x2 x3 x4 x5 x6 x7 x8 x9 x10 x11 x12 h0 n0 v U'.heap L ∧ FrameEnd U oc U' L ({ frames := 0, cells := 0, slots := 0, locals := 0 } : Room).cells ({ frames := 0, cells := 0, slots := 0, locals := 0 } : Room).slots) := by
  refine MetFree.of_bodySF pn_113 hisR ?_
  intro p e s m args below meth c s₁ Bd hml0 hP hK
  obtain ⟨rfl, hZ, hh⟩ := hP
  have K : ow_K p e below s m meth c Z "com/example/cardinality/cardinality/value/ByteWriterToByteArrayPinLaw" method_3_code 4 (some .boolean) "same" (ow_Gl p e below s (Q113 Z a b n k k' x0 x1 x2 x3 x4 x5 x6 x7 x8 x9 x10 x11 x12 h0 n0) 0 0) := ⟨ow_Gl_bc, Bd.exec, Bd.bytes, hml0, findClass_of_methodNamed Bd.named, hZ, Bd.returns, Bd.notSynchronized, (name_of_methodNamed Bd.named Bd.method).1⟩
  have X0 : Stand p l e ({ frames := 0, cells := 0, slots := 0, locals := 0 } : Room) s m #[(.ref a), (.ref b), (.int n)] below meth c s₁ [] 0 0 := Stand.of_body Bd
  have e0 : s₁.heap = h0 := by rw [← hh, Bd.state]; rfl
  have N0 := Fr.nil n0
  refine ow_entry (Q := (Q113 Z a b n k k' x0 x1 x2 x3 x4 x5 x6 x7 x8 x9 x10 x11 x12 h0 n0)) (ce := 0) (sl := 0) (ef_113 m a b n) ?_
  subst hn
  refine ow_aloadN K X0 (pc' := 1) a d113_0 rfl rfl ?_
  refine ow_len K X0 (pc' := 2) e0 FA d113_1 rfl ?_
  refine ow_iloadN K X0 (pc' := 3) (13 : Int32) d113_2 rfl rfl ?_
  refine ow_icmpY K X0 (pc' := 8) d113_3 (XT.ii_eq_t rfl) (by decide) (by decide) ?_
  refine ow_aloadN K X0 (pc' := 9) a d113_8 rfl rfl ?_
  refine ow_iconst K X0 (pc' := 10) (0 : Int32) d113_9 rfl (by decide) ?_
  refine ow_baload K X0 (pc' := 11) e0 FA 0 (.int x0) ⟨by decide, by decide⟩ (by decide) rfl d113_10 rfl ?_
  refine ow_aloadN K X0 (pc' := 12) b d113_11 rfl rfl ?_
  refine ow_iconst K X0 (pc' := 13) (0 : Int32) d113_12 rfl (by decide) ?_
  refine ow_baload K X0 (pc' := 14) e0 FB 0 (.int x0) ⟨by decide, by decide⟩ (by decide) rfl d113_13 rfl ?_
  refine ow_icmpN K X0 (pc' := 17) d113_14 rfl (XT.ii_ne_f rfl) ?_
  refine ow_aloadN K X0 (pc' := 18) a d113_17 rfl rfl ?_
  refine ow_iconst K X0 (pc' := 19) (1 : Int32) d113_18 rfl (by decide) ?_
  refine ow_baload K X0 (pc' := 20) e0 FA 1 (.int x1) ⟨by decide, by decide⟩ (by decide) rfl d113_19 rfl ?_
  refine ow_aloadN K X0 (pc' := 21) b d113_20 rfl rfl ?_
  refine ow_iconst K X0 (pc' := 22) (1 : Int32) d113_21 rfl (by decide) ?_
  refine ow_baload K X0 (pc' := 23) e0 FB 1 (.int x1) ⟨by decide, by decide⟩ (by decide) rfl d113_22 rfl ?_
  refine ow_icmpN K X0 (pc' := 26) d113_23 rfl (XT.ii_ne_f rfl) ?_
  refine ow_aloadN K X0 (pc' := 27) a d113_26 rfl rfl ?_
  refine ow_iconst K X0 (pc' := 28) (2 : Int32) d113_27 rfl (by decide) ?_
  refine ow_baload K X0 (pc' := 29) e0 FA 2 (.int x2) ⟨by decide, by decide⟩ (by decide) rfl d113_28 rfl ?_
  refine ow_aloadN K X0 (pc' := 30) b d113_29 rfl rfl ?_
  refine ow_iconst K X0 (pc' := 31) (2 : Int32) d113_30 rfl (by decide) ?_
  refine ow_baload K X0 (pc' := 32) e0 FB 2 (.int x2) ⟨by decide, by decide⟩ (by decide) rfl d113_31 rfl ?_
  refine ow_icmpN K X0 (pc' := 35) d113_32 rfl (XT.ii_ne_f rfl) ?_
  refine ow_aloadN K X0 (pc' := 36) a d113_35 rfl rfl ?_
  refine ow_iconst K X0 (pc' := 37) (3 : Int32) d113_36 rfl (by decide) ?_
  refine ow_baload K X0 (pc' := 38) e0 FA 3 (.int x3) ⟨by decide, by decide⟩ (by decide) rfl d113_37 rfl ?_
  refine ow_aloadN K X0 (pc' := 39) b d113_38 rfl rfl ?_
  refine ow_iconst K X0 (pc' := 40) (3 : Int32) d113_39 rfl (by decide) ?_
  refine ow_baload K X0 (pc' := 41) e0 FB 3 (.int x3) ⟨by decide, by decide⟩ (by decide) rfl d113_40 rfl ?_
  refine ow_icmpN K X0 (pc' := 44) d113_41 rfl (XT.ii_ne_f rfl) ?_
  refine ow_aloadN K X0 (pc' := 45) a d113_44 rfl rfl ?_
  refine ow_iconst K X0 (pc' := 46) (4 : Int32) d113_45 rfl (by decide) ?_
  refine ow_baload K X0 (pc' := 47) e0 FA 4 (.int x4) ⟨by decide, by decide⟩ (by decide) rfl d113_46 rfl ?_
  refine ow_aloadN K X0 (pc' := 48) b d113_47 rfl rfl ?_
  refine ow_iconst K X0 (pc' := 49) (4 : Int32) d113_48 rfl (by decide) ?_
  refine ow_baload K X0 (pc' := 50) e0 FB 4 (.int x4) ⟨by decide, by decide⟩ (by decide) rfl d113_49 rfl ?_
  refine ow_icmpN K X0 (pc' := 53) d113_50 rfl (XT.ii_ne_f rfl) ?_
  refine ow_iconst K X0 (pc' := 54) (1 : Int32) d113_53 rfl (by decide) ?_
  refine ow_goto K X0 (pc' := 58) d113_54 (by decide) (by decide) ?_
  refine ow_istoreN K X0 (pc' := 59) (Ls' := #[.val (.ref a), .val (.ref b), .val (.int (13 : Int32)), .val (.int (1 : Int32))]) d113_58 rfl rfl ?_
  refine ow_iloadN K X0 (pc' := 60) (1 : Int32) d113_59 rfl rfl ?_
  refine ow_ifY K X0 (pc' := 65) d113_60 (XT.i0_ne_t (by decide)) (by decide) (by decide) ?_
  refine ow_iloadN K X0 (pc' := 66) (13 : Int32) d113_65 rfl rfl ?_
  refine ow_iconst K X0 (pc' := 67) (5 : Int32) d113_66 rfl (by decide) ?_
  refine ow_icmpY K X0 (pc' := 72) d113_67 (XT.ii_gt_t (by decide)) (by decide) (by decide) ?_
  refine ow_aloadN K X0 (pc' := 73) a d113_72 rfl rfl ?_
  refine ow_iconst K X0 (pc' := 74) (5 : Int32) d113_73 rfl (by decide) ?_
  refine ow_baload K X0 (pc' := 75) e0 FA 5 (.int x5) ⟨by decide, by decide⟩ (by decide) rfl d113_74 rfl ?_
  refine ow_aloadN K X0 (pc' := 76) b d113_75 rfl rfl ?_
  refine ow_iconst K X0 (pc' := 77) (5 : Int32) d113_76 rfl (by decide) ?_
  refine ow_baload K X0 (pc' := 78) e0 FB 5 (.int x5) ⟨by decide, by decide⟩ (by decide) rfl d113_77 rfl ?_
  refine ow_icmpN K X0 (pc' := 81) d113_78 rfl (XT.ii_ne_f rfl) ?_
  refine ow_aloadN K X0 (pc' := 82) a d113_81 rfl rfl ?_
  refine ow_bipush K X0 (pc' := 84) (6 : Int32) d113_82 rfl (by decide) ?_
  refine ow_baload K X0 (pc' := 85) e0 FA 6 (.int x6) ⟨by decide, by decide⟩ (by decide) rfl d113_84 rfl ?_
  refine ow_aloadN K X0 (pc' := 86) b d113_85 rfl rfl ?_
  refine ow_bipush K X0 (pc' := 88) (6 : Int32) d113_86 rfl (by decide) ?_
  refine ow_baload K X0 (pc' := 89) e0 FB 6 (.int x6) ⟨by decide, by decide⟩ (by decide) rfl d113_88 rfl ?_
  refine ow_icmpN K X0 (pc' := 92) d113_89 rfl (XT.ii_ne_f rfl) ?_
  refine ow_aloadN K X0 (pc' := 93) a d113_92 rfl rfl ?_
  refine ow_bipush K X0 (pc' := 95) (7 : Int32) d113_93 rfl (by decide) ?_
  refine ow_baload K X0 (pc' := 96) e0 FA 7 (.int x7) ⟨by decide, by decide⟩ (by decide) rfl d113_95 rfl ?_
  refine ow_aloadN K X0 (pc' := 97) b d113_96 rfl rfl ?_
  refine ow_bipush K X0 (pc' := 99) (7 : Int32) d113_97 rfl (by decide) ?_
  refine ow_baload K X0 (pc' := 100) e0 FB 7 (.int x7) ⟨by decide, by decide⟩ (by decide) rfl d113_99 rfl ?_
  refine ow_icmpN K X0 (pc' := 103) d113_100 rfl (XT.ii_ne_f rfl) ?_
  refine ow_aloadN K X0 (pc' := 104) a d113_103 rfl rfl ?_
  refine ow_bipush K X0 (pc' := 106) (8 : Int32) d113_104 rfl (by decide) ?_
  refine ow_baload K X0 (pc' := 107) e0 FA 8 (.int x8) ⟨by decide, by decide⟩ (by decide) rfl d113_106 rfl ?_
  refine ow_aloadN K X0 (pc' := 108) b d113_107 rfl rfl ?_
  refine ow_bipush K X0 (pc' := 110) (8 : Int32) d113_108 rfl (by decide) ?_
  refine ow_baload K X0 (pc' := 111) e0 FB 8 (.int x8) ⟨by decide, by decide⟩ (by decide) rfl d113_110 rfl ?_
  refine ow_icmpN K X0 (pc' := 114) d113_111 rfl (XT.ii_ne_f rfl) ?_
  refine ow_aloadN K X0 (pc' := 115) a d113_114 rfl rfl ?_
  refine ow_bipush K X0 (pc' := 117) (9 : Int32) d113_115 rfl (by decide) ?_
  refine ow_baload K X0 (pc' := 118) e0 FA 9 (.int x9) ⟨by decide, by decide⟩ (by decide) rfl d113_117 rfl ?_
  refine ow_aloadN K X0 (pc' := 119) b d113_118 rfl rfl ?_
  refine ow_bipush K X0 (pc' := 121) (9 : Int32) d113_119 rfl (by decide) ?_
  refine ow_baload K X0 (pc' := 122) e0 FB 9 (.int x9) ⟨by decide, by decide⟩ (by decide) rfl d113_121 rfl ?_
  refine ow_icmpN K X0 (pc' := 125) d113_122 rfl (XT.ii_ne_f rfl) ?_
  refine ow_aloadN K X0 (pc' := 126) a d113_125 rfl rfl ?_
  refine ow_bipush K X0 (pc' := 128) (10 : Int32) d113_126 rfl (by decide) ?_
  refine ow_baload K X0 (pc' := 129) e0 FA 10 (.int x10) ⟨by decide, by decide⟩ (by decide) rfl d113_128 rfl ?_
  refine ow_aloadN K X0 (pc' := 130) b d113_129 rfl rfl ?_
  refine ow_bipush K X0 (pc' := 132) (10 : Int32) d113_130 rfl (by decide) ?_
  refine ow_baload K X0 (pc' := 133) e0 FB 10 (.int x10) ⟨by decide, by decide⟩ (by decide) rfl d113_132 rfl ?_
  refine ow_icmpN K X0 (pc' := 136) d113_133 rfl (XT.ii_ne_f rfl) ?_
  refine ow_aloadN K X0 (pc' := 137) a d113_136 rfl rfl ?_
  refine ow_bipush K X0 (pc' := 139) (11 : Int32) d113_137 rfl (by decide) ?_
  refine ow_baload K X0 (pc' := 140) e0 FA 11 (.int x11) ⟨by decide, by decide⟩ (by decide) rfl d113_139 rfl ?_
  refine ow_aloadN K X0 (pc' := 141) b d113_140 rfl rfl ?_
  refine ow_bipush K X0 (pc' := 143) (11 : Int32) d113_141 rfl (by decide) ?_
  refine ow_baload K X0 (pc' := 144) e0 FB 11 (.int x11) ⟨by decide, by decide⟩ (by decide) rfl d113_143 rfl ?_
  refine ow_icmpN K X0 (pc' := 147) d113_144 rfl (XT.ii_ne_f rfl) ?_
  refine ow_aloadN K X0 (pc' := 148) a d113_147 rfl rfl ?_
  refine ow_bipush K X0 (pc' := 150) (12 : Int32) d113_148 rfl (by decide) ?_
  refine ow_baload K X0 (pc' := 151) e0 FA 12 (.int x12) ⟨by decide, by decide⟩ (by decide) rfl d113_150 rfl ?_
  refine ow_aloadN K X0 (pc' := 152) b d113_151 rfl rfl ?_
  refine ow_bipush K X0 (pc' := 154) (12 : Int32) d113_152 rfl (by decide) ?_
  refine ow_baload K X0 (pc' := 155) e0 FB 12 (.int x12) ⟨by decide, by decide⟩ (by decide) rfl d113_154 rfl ?_
  refine ow_icmpN K X0 (pc' := 158) d113_155 rfl (XT.ii_ne_f rfl) ?_
  refine ow_iconst K X0 (pc' := 159) (1 : Int32) d113_158 rfl (by decide) ?_
  refine ow_goto K X0 (pc' := 163) d113_159 (by decide) (by decide) ?_
  exact ow_retI K X0 .boolean rfl (by decide) (Or.inr (Or.inl rfl)) d113_163 ⟨rfl, N0, e0⟩ (by decide) (by decide)
def Q0 (n0 : Nat) (v : Option Value) (h : Heap) (L : List Loc) : Prop := v = some (.int 1) ∧ Fr n0 L
theorem pn_0 : plainName "com/example/cardinality/cardinality/value/ByteWriterToByteArrayPinLaw" = true := by first | (simp [plainName, overriddenIn]; done) | decide +kernel
theorem ef_0 (m : MethodId) (q0 : Int32) (q1 : Int32) (q2 : Int32) (q3 : Int64) (q4 : Int32) (q5 : Int32) : entryFrame m #[(.int q0), (.int q1), (.int q2), (.long q3), (.int q4), (.int q5)] maxLocals = mkF m 0 #[.val (.int q0), .val (.int q1), .val (.int q2), .val (.long q3), .second, .val (.int q4), .val (.int q5), .unset, .unset, .unset, .unset, .unset, .unset, .unset, .unset] [] := by first | (simp [entryFrame, mkF, argsToLocals, Value.category, maxLocals]; done) | rfl
set_option maxRecDepth 65536 in
set_option maxHeartbeats 40000000 in
theorem rm0 (l : Launch) (Z : State) (a0 : Array Value) (hw : ∀ d ∈ tables_1, d.before a0 Z = true) (ws : List Jvm.Cond) (q0 : Int32) (q1 : Int32) (q2 : Int32) (q3 : Int64) (q4 : Int32) (q5 : Int32) (h0 : Heap) (n0 : Nat) (Z0 : n0 ≤ h0.size) :
    MetFree l x (head1 (Jvm.Cond.code x code maxLocals ret :: ws) room_1) (fun as_ U => as_ = #[(.int q0), (.int q1), (.int q2), (.long q3), (.int q4), (.int q5)] ∧ Z.Warmed39 U.vm ∧ U.heap = h0) (fun _ _ _ _ _ => True) (fun _ U o U' => ∃ v L, o = .returned v ∧ Q0 n0 v U'.heap L ∧ FrameEnd U o U' L 24 256) := by
  refine MetFree.of_bodySF (plainFor_of_name pn_0) hisR ?_
  intro p e s m args below meth c s₁ Bd hml0 hP hK
  obtain ⟨rfl, hZ, hh⟩ := hP
  have K : ow_K p e below s m meth c Z "com/example/cardinality/cardinality/value/ByteWriterToByteArrayPinLaw" code 15 (some .boolean) "law" (ow_Gl p e below s (Q0 n0) 24 256) := ⟨ow_Gl_bc, Bd.exec, Bd.bytes, hml0, findClass_of_methodNamed Bd.named, hZ, Bd.returns, Bd.notSynchronized, (name_of_methodNamed Bd.named Bd.method).1⟩
  have X0 : Stand p l e room_1 s m #[(.int q0), (.int q1), (.int q2), (.long q3), (.int q4), (.int q5)] below meth c s₁ [] 0 0 := Stand.of_body Bd
  have e0 : s₁.heap = h0 := by rw [← hh, Bd.state]; rfl
  have N0 := Fr.nil n0
  refine ow_entry (Q := (Q0 n0)) (ce := 24) (sl := 256) (ef_0 m q0 q1 q2 q3 q4 q5) ?_
  refine ow_iload K X0 (pc' := 2) q5 at_0 rfl rfl ?_
  refine ow_iconst K X0 (pc' := 3) (1 : Int32) at_2 rfl (by decide) ?_
  refine ow_iand K X0 (pc' := 4) (q5 &&& (1 : Int32)) at_3 rfl rfl ?_
  by_cases hL : (q5 &&& (1 : Int32)) = 0
  · refine ow_ifY K X0 (pc' := 11) at_4 (XT.i0_eq_t hL) (by decide) (by decide) ?_
    refine ow_iconst K X0 (pc' := 12) (0 : Int32) at_11 rfl (by decide) ?_
    refine ow_istore K X0 (pc' := 14) (Ls' := #[.val (.int q0), .val (.int q1), .val (.int q2), .val (.long q3), .second, .val (.int q4), .val (.int q5), .val (.int (0 : Int32)), .unset, .unset, .unset, .unset, .unset, .unset, .unset]) at_12 rfl rfl ?_
    refine ow_iload K X0 (pc' := 16) q5 at_14 rfl rfl ?_
    refine ow_iconst K X0 (pc' := 17) (2 : Int32) at_16 rfl (by decide) ?_
    refine ow_iand K X0 (pc' := 18) (q5 &&& (2 : Int32)) at_17 rfl rfl ?_
    by_cases hO : (q5 &&& (2 : Int32)) = 0
    · refine ow_ifY K X0 (pc' := 25) at_18 (XT.i0_eq_t hO) (by decide) (by decide) ?_
      refine ow_iconst K X0 (pc' := 26) (0 : Int32) at_25 rfl (by decide) ?_
      refine ow_istore K X0 (pc' := 28) (Ls' := #[.val (.int q0), .val (.int q1), .val (.int q2), .val (.long q3), .second, .val (.int q4), .val (.int q5), .val (.int (0 : Int32)), .val (.int (0 : Int32)), .unset, .unset, .unset, .unset, .unset, .unset]) at_26 rfl rfl ?_
      refine ow_newO K X0 (pc' := 31) e0 (hw _ (List.mem_of_getElem? (i := 0) rfl)) (hw _ (List.mem_of_getElem? (i := 1) rfl)) (hw _ (List.mem_of_getElem? (i := 2) rfl)) (by decide) (by decide) at_28 rfl ?_
      intro T1 h1 o1 X1 e1 E1 g1 A1 D1
      have ge2 : n0 ≤ o1 := Nat.le_trans Z0 (Nat.le_of_eq g1.symm)
      have Z3 : n0 ≤ h1.size := Nat.le_trans Z0 E1.1
      have F4 : Fld Z h1 o1 "com/example/cardinality/cardinality/value/ByteWriter" "bytes" "[B" (.null) := D1 (Or.inl (hw _ (List.mem_of_getElem? (i := 15) rfl))) (ty := (.array .byte)) (by decide)
      have F5 : Fld Z h1 o1 "com/example/cardinality/cardinality/value/ByteWriter" "length" "I" (.int 0) := D1 (Or.inl (hw _ (List.mem_of_getElem? (i := 26) rfl))) (ty := .int) (by decide)
      refine ow_dup K X1 (pc' := 32) at_31 rfl rfl ?_
      refine ow_iloadN K X1 (pc' := 33) q0 at_32 rfl rfl ?_
      refine ow_bipush K X1 (pc' := 35) (31 : Int32) at_33 rfl (by decide) ?_
      refine ow_iand K X1 (pc' := 36) (q0 &&& (31 : Int32)) at_35 rfl rfl ?_
      have hx31 := own_and31 q0
      have e8 : (8 : Int32).toInt = 8 := by decide
      obtain ⟨N, hN, h8, h31⟩ : ∃ N : Int32, own_max (q0 &&& (31 : Int32)) 8 = N ∧ 8 ≤ N.toInt ∧ N.toInt ≤ 31 := ⟨_, rfl, by rw [own_maxI, e8]; split <;> omega, by rw [own_maxI, e8]; split <;> omega⟩
      have nc := own_clamp (x := N) (by omega)
      refine ow_callP K X1 (pc' := 39) e1 (y := (⟨"com/example/cardinality/cardinality/value/ByteWriter", "<init>", "(I)V"⟩ : MethodName)) (rm4 l Z a0 hw [] o1 (q0 &&& (31 : Int32)) N h1 n0 Z3 A1 F4 F5 ge2 hN h8 h31) rfl (hw _ (List.mem_of_getElem? (i := 3) rfl)) (hw _ (List.mem_of_getElem? (i := 4) rfl)) (hw _ (List.mem_of_getElem? (i := 2) rfl)) (hw _ (List.mem_of_getElem? (i := 5) rfl)) (by decide) (st := [.ref o1]) 1 (Nat.le_of_eq rfl) (by decide) (by decide) (by decide) (by decide) rfl [.int (q0 &&& (31 : Int32))] rfl (lenOf pd_4 rfl) rfl at_36 rfl ?_
      intro v6 T6 L6 X6 hQ6
      obtain ⟨rfl, NNi, Zi, r1, k1, gr, ne, Ei, FBi, FLi, AVi, AEi⟩ := hQ6
      have NXi := Fr.app N0 NNi
      refine ow_at (g := (mkF m 39 #[.val (.int q0), .val (.int q1), .val (.int q2), .val (.long q3), .second, .val (.int q4), .val (.int q5), .val (.int (0 : Int32)), .val (.int (0 : Int32)), .unset, .unset, .unset, .unset, .unset, .unset] [.ref o1])) ?_
      refine ow_astore K X6 (pc' := 41) (Ls' := #[.val (.int q0), .val (.int q1), .val (.int q2), .val (.long q3), .second, .val (.int q4), .val (.int q5), .val (.int (0 : Int32)), .val (.int (0 : Int32)), .val (.ref o1), .unset, .unset, .unset, .unset, .unset]) at_39 rfl rfl ?_
      refine ow_aload K X6 (pc' := 43) o1 at_41 rfl rfl ?_
      refine ow_iloadN K X6 (pc' := 44) q1 at_43 rfl rfl ?_
      refine ow_callV K X6 (pc' := 47) (rfl : T6.heap = T6.heap) (y := (⟨"com/example/cardinality/cardinality/value/ByteWriter", "writeByte", "(I)V"⟩ : MethodName)) (rm7 l Z a0 hw [] o1 q1 r1 k1 N T6.heap n0 Zi Ei FBi FLi AVi AEi ge2 gr ne (own_ng (by omega) (by omega) (by decide) (by decide) (by show (1 : Int) ≤ _ - 0; omega)) (by omega)) Ei (hw _ (List.mem_of_getElem? (i := 16) rfl)) (hw _ (List.mem_of_getElem? (i := 17) rfl)) (hw _ (List.mem_of_getElem? (i := 19) rfl)) (hw _ (List.mem_of_getElem? (i := 18) rfl)) (hw _ (List.mem_of_getElem? (i := 2) rfl)) (hw _ (List.mem_of_getElem? (i := 20) rfl)) (by decide) (st := []) 0 (Nat.le_of_eq rfl) (by decide) (by decide) (by decide) (by decide) rfl [.int q1] rfl (lenOf pd_7 rfl) rfl at_44 rfl ?_
      intro v7 T7 L7 X7 hQ7
      obtain ⟨rfl, NNb, Zb, Eb, FBb, FLb, AVb, AEb⟩ := hQ7
      have NXb := Fr.app NXi NNb
      refine ow_at (g := (mkF m 47 #[.val (.int q0), .val (.int q1), .val (.int q2), .val (.long q3), .second, .val (.int q4), .val (.int q5), .val (.int (0 : Int32)), .val (.int (0 : Int32)), .val (.ref o1), .unset, .unset, .unset, .unset, .unset] [])) ?_
      refine ow_aload K X7 (pc' := 49) o1 at_47 rfl rfl ?_
      refine ow_iloadN K X7 (pc' := 50) q2 at_49 rfl rfl ?_
      refine ow_callV K X7 (pc' := 53) (rfl : T7.heap = T7.heap) (y := (⟨"com/example/cardinality/cardinality/value/ByteWriter", "writeInt", "(I)V"⟩ : MethodName)) (rm9 l Z a0 hw [] o1 q2 r1 k1 N (nar .byte (q1.toInt8.toInt32)) T7.heap n0 Zb Eb FBb FLb AVb AEb ge2 gr ne (own_ng (by omega) (by omega) (by decide) (by decide) (by show (4 : Int) ≤ _ - 1; omega)) (by omega)) Eb (hw _ (List.mem_of_getElem? (i := 27) rfl)) (hw _ (List.mem_of_getElem? (i := 28) rfl)) (hw _ (List.mem_of_getElem? (i := 30) rfl)) (hw _ (List.mem_of_getElem? (i := 29) rfl)) (hw _ (List.mem_of_getElem? (i := 2) rfl)) (hw _ (List.mem_of_getElem? (i := 31) rfl)) (by decide) (st := []) 0 (Nat.le_of_eq rfl) (by decide) (by decide) (by decide) (by decide) rfl [.int q2] rfl (lenOf pd_9 rfl) rfl at_50 rfl ?_
      intro v8 T8 L8 X8 hQ8
      obtain ⟨rfl, NNi, Zi, Ei, FBi, FLi, AVi, AEi⟩ := hQ8
      have NXi := Fr.app NXb NNi
      refine ow_at (g := (mkF m 53 #[.val (.int q0), .val (.int q1), .val (.int q2), .val (.long q3), .second, .val (.int q4), .val (.int q5), .val (.int (0 : Int32)), .val (.int (0 : Int32)), .val (.ref o1), .unset, .unset, .unset, .unset, .unset] [])) ?_
      refine ow_iload K X8 (pc' := 55) (0 : Int32) at_53 rfl rfl ?_
      refine ow_ifY K X8 (pc' := 64) at_55 (XT.i0_eq_t (by decide)) (by decide) (by decide) ?_
      refine ow_iload K X8 (pc' := 66) (0 : Int32) at_64 rfl rfl ?_
      refine ow_ifY K X8 (pc' := 77) at_66 (XT.i0_eq_t (by decide)) (by decide) (by decide) ?_
      refine ow_iload K X8 (pc' := 79) (0 : Int32) at_77 rfl rfl ?_
      refine ow_ifY K X8 (pc' := 87) at_79 (XT.i0_eq_t (by decide)) (by decide) (by decide) ?_
      refine ow_iconst K X8 (pc' := 88) (5 : Int32) at_87 rfl (by decide) ?_
      refine ow_istore K X8 (pc' := 90) (Ls' := #[.val (.int q0), .val (.int q1), .val (.int q2), .val (.long q3), .second, .val (.int q4), .val (.int q5), .val (.int (0 : Int32)), .val (.int (0 : Int32)), .val (.ref o1), .val (.int (5 : Int32)), .unset, .unset, .unset, .unset]) at_88 rfl rfl ?_
      refine ow_iload K X8 (pc' := 92) (0 : Int32) at_90 rfl rfl ?_
      refine ow_ifY K X8 (pc' := 100) at_92 (XT.i0_eq_t (by decide)) (by decide) (by decide) ?_
      refine ow_iloadN K X8 (pc' := 101) q2 at_100 rfl rfl ?_
      refine ow_istore K X8 (pc' := 103) (Ls' := #[.val (.int q0), .val (.int q1), .val (.int q2), .val (.long q3), .second, .val (.int q4), .val (.int q5), .val (.int (0 : Int32)), .val (.int (0 : Int32)), .val (.ref o1), .val (.int (5 : Int32)), .val (.int q2), .unset, .unset, .unset]) at_101 rfl rfl ?_
      refine ow_bipush K X8 (pc' := 105) (13 : Int32) at_103 rfl (by decide) ?_
      refine ow_newP K X8 (pc' := 107) (rfl : T8.heap = T8.heap) (hw _ (List.mem_of_getElem? (i := 13) rfl)) (by decide) 13 (by decide) (by decide) (by decide) (by decide) at_105 rfl ?_
      intro T9 h9 k9 a1 X9 e9 E9 g9 A9
      have ne10 : o1 ≠ a1 := ow_ne Ei.lt g9
      have ne11 : r1 ≠ a1 := ow_ne AVi.lt g9
      have ge12 : n0 ≤ a1 := Nat.le_trans Zi (Nat.le_of_eq g9.symm)
      have F13 : Exa Z h9 o1 "com/example/cardinality/cardinality/value/ByteWriter" := Ei.ext E9
      have F14 : Fld Z h9 o1 "com/example/cardinality/cardinality/value/ByteWriter" "bytes" "[B" (.ref r1) := FBi.ext E9
      have F15 : Fld Z h9 o1 "com/example/cardinality/cardinality/value/ByteWriter" "length" "I" (.int (5 : Int32)) := FLi.ext E9
      have F16 : Arv Z h9 r1 k1 .byte N [.int (nar .byte (q1.toInt8.toInt32)), .int (nar .byte ((XT.ushr q2 (24 : Int32)).toInt8.toInt32)), .int (nar .byte ((XT.ushr q2 (16 : Int32)).toInt8.toInt32)), .int (nar .byte ((XT.ushr q2 (8 : Int32)).toInt8.toInt32)), .int (nar .byte (q2.toInt8.toInt32))] (.int 0) := AVi.ext E9
      have F17 : Exa Z h9 r1 "[B" := AEi.ext E9
      have Z18 : n0 ≤ h9.size := Nat.le_trans Zi E9.1
      have F19 : Arv Z h9 a1 k9 .byte (13 : Int32) [.int 0, .int 0, .int 0, .int 0, .int 0, .int 0, .int 0, .int 0, .int 0, .int 0, .int 0, .int 0, .int 0] (.int 0) := Arv.pad A9 (pad_rep [] (.int 0) 13)
      refine ow_astore K X9 (pc' := 109) (Ls' := #[.val (.int q0), .val (.int q1), .val (.int q2), .val (.long q3), .second, .val (.int q4), .val (.int q5), .val (.int (0 : Int32)), .val (.int (0 : Int32)), .val (.ref o1), .val (.int (5 : Int32)), .val (.int q2), .val (.ref a1), .unset, .unset]) at_107 rfl rfl ?_
      refine ow_aload K X9 (pc' := 111) a1 at_109 rfl rfl ?_
      refine ow_iconst K X9 (pc' := 112) (0 : Int32) at_111 rfl (by decide) ?_
      refine ow_iloadN K X9 (pc' := 113) q1 at_112 rfl rfl ?_
      refine ow_i2b K X9 (pc' := 114) ((q1).toInt8.toInt32) at_113 rfl rfl ?_
      refine ow_bastore K X9 (pc' := 115) e9 F19 0 [.int (nar .byte (q1.toInt8.toInt32)), .int 0, .int 0, .int 0, .int 0, .int 0, .int 0, .int 0, .int 0, .int 0, .int 0, .int 0, .int 0] ⟨by decide, by decide⟩ (by decide) (by simp) rfl at_114 rfl ?_
      intro T20 h20 X20 e20 W20 F20
      have F21 : Exa Z h20 o1 "com/example/cardinality/cardinality/value/ByteWriter" := Exa.wr W20 F13
      have F22 : Fld Z h20 o1 "com/example/cardinality/cardinality/value/ByteWriter" "bytes" "[B" (.ref r1) := Fld.other W20 F14 (Or.inl ne10)
      have F23 : Fld Z h20 o1 "com/example/cardinality/cardinality/value/ByteWriter" "length" "I" (.int (5 : Int32)) := Fld.other W20 F15 (Or.inl ne10)
      have F24 : Arv Z h20 r1 k1 .byte N [.int (nar .byte (q1.toInt8.toInt32)), .int (nar .byte ((XT.ushr q2 (24 : Int32)).toInt8.toInt32)), .int (nar .byte ((XT.ushr q2 (16 : Int32)).toInt8.toInt32)), .int (nar .byte ((XT.ushr q2 (8 : Int32)).toInt8.toInt32)), .int (nar .byte (q2.toInt8.toInt32))] (.int 0) := F16.other W20 ne11
      have F25 : Exa Z h20 r1 "[B" := Exa.wr W20 F17
      have Z26 : n0 ≤ h20.size := Nat.le_trans Z18 (Nat.le_of_eq W20.size.symm)
      have N27 := Fr.snoc X20 NXi ge12
      refine ow_aload K X20 (pc' := 117) a1 at_115 rfl rfl ?_
      refine ow_iconst K X20 (pc' := 118) (1 : Int32) at_117 rfl (by decide) ?_
      refine ow_iload K X20 (pc' := 120) q2 at_118 rfl rfl ?_
      refine ow_bipush K X20 (pc' := 122) (24 : Int32) at_120 rfl (by decide) ?_
      refine ow_ishr K X20 (pc' := 123) (q2 >>> ((24 : Int32) &&& 31)) at_122 rfl rfl ?_
      refine ow_i2b K X20 (pc' := 124) (((q2 >>> ((24 : Int32) &&& 31))).toInt8.toInt32) at_123 rfl rfl ?_
      refine ow_bastore K X20 (pc' := 125) e20 F20 1 [.int (nar .byte (q1.toInt8.toInt32)), .int (nar .byte ((XT.ushr q2 (24 : Int32)).toInt8.toInt32)), .int 0, .int 0, .int 0, .int 0, .int 0, .int 0, .int 0, .int 0, .int 0, .int 0, .int 0] ⟨by decide, by decide⟩ (by decide) (by simp) (by rw [own_i24]; rfl) at_124 rfl ?_
      intro T28 h28 X28 e28 W28 F28
      have F29 : Exa Z h28 o1 "com/example/cardinality/cardinality/value/ByteWriter" := Exa.wr W28 F21
      have F30 : Fld Z h28 o1 "com/example/cardinality/cardinality/value/ByteWriter" "bytes" "[B" (.ref r1) := Fld.other W28 F22 (Or.inl ne10)
      have F31 : Fld Z h28 o1 "com/example/cardinality/cardinality/value/ByteWriter" "length" "I" (.int (5 : Int32)) := Fld.other W28 F23 (Or.inl ne10)
      have F32 : Arv Z h28 r1 k1 .byte N [.int (nar .byte (q1.toInt8.toInt32)), .int (nar .byte ((XT.ushr q2 (24 : Int32)).toInt8.toInt32)), .int (nar .byte ((XT.ushr q2 (16 : Int32)).toInt8.toInt32)), .int (nar .byte ((XT.ushr q2 (8 : Int32)).toInt8.toInt32)), .int (nar .byte (q2.toInt8.toInt32))] (.int 0) := F24.other W28 ne11
      have F33 : Exa Z h28 r1 "[B" := Exa.wr W28 F25
      have Z34 : n0 ≤ h28.size := Nat.le_trans Z26 (Nat.le_of_eq W28.size.symm)
      have N35 := Fr.snoc X28 N27 ge12
      refine ow_aload K X28 (pc' := 127) a1 at_125 rfl rfl ?_
      refine ow_iconst K X28 (pc' := 128) (2 : Int32) at_127 rfl (by decide) ?_
      refine ow_iload K X28 (pc' := 130) q2 at_128 rfl rfl ?_
      refine ow_bipush K X28 (pc' := 132) (16 : Int32) at_130 rfl (by decide) ?_
      refine ow_ishr K X28 (pc' := 133) (q2 >>> ((16 : Int32) &&& 31)) at_132 rfl rfl ?_
      refine ow_i2b K X28 (pc' := 134) (((q2 >>> ((16 : Int32) &&& 31))).toInt8.toInt32) at_133 rfl rfl ?_
      refine ow_bastore K X28 (pc' := 135) e28 F28 2 [.int (nar .byte (q1.toInt8.toInt32)), .int (nar .byte ((XT.ushr q2 (24 : Int32)).toInt8.toInt32)), .int (nar .byte ((XT.ushr q2 (16 : Int32)).toInt8.toInt32)), .int 0, .int 0, .int 0, .int 0, .int 0, .int 0, .int 0, .int 0, .int 0, .int 0] ⟨by decide, by decide⟩ (by decide) (by simp) (by rw [own_i16]; rfl) at_134 rfl ?_
      intro T36 h36 X36 e36 W36 F36
      have F37 : Exa Z h36 o1 "com/example/cardinality/cardinality/value/ByteWriter" := Exa.wr W36 F29
      have F38 : Fld Z h36 o1 "com/example/cardinality/cardinality/value/ByteWriter" "bytes" "[B" (.ref r1) := Fld.other W36 F30 (Or.inl ne10)
      have F39 : Fld Z h36 o1 "com/example/cardinality/cardinality/value/ByteWriter" "length" "I" (.int (5 : Int32)) := Fld.other W36 F31 (Or.inl ne10)
      have F40 : Arv Z h36 r1 k1 .byte N [.int (nar .byte (q1.toInt8.toInt32)), .int (nar .byte ((XT.ushr q2 (24 : Int32)).toInt8.toInt32)), .int (nar .byte ((XT.ushr q2 (16 : Int32)).toInt8.toInt32)), .int (nar .byte ((XT.ushr q2 (8 : Int32)).toInt8.toInt32)), .int (nar .byte (q2.toInt8.toInt32))] (.int 0) := F32.other W36 ne11
      have F41 : Exa Z h36 r1 "[B" := Exa.wr W36 F33
      have Z42 : n0 ≤ h36.size := Nat.le_trans Z34 (Nat.le_of_eq W36.size.symm)
      have N43 := Fr.snoc X36 N35 ge12
      refine ow_aload K X36 (pc' := 137) a1 at_135 rfl rfl ?_
      refine ow_iconst K X36 (pc' := 138) (3 : Int32) at_137 rfl (by decide) ?_
      refine ow_iload K X36 (pc' := 140) q2 at_138 rfl rfl ?_
      refine ow_bipush K X36 (pc' := 142) (8 : Int32) at_140 rfl (by decide) ?_
      refine ow_ishr K X36 (pc' := 143) (q2 >>> ((8 : Int32) &&& 31)) at_142 rfl rfl ?_
      refine ow_i2b K X36 (pc' := 144) (((q2 >>> ((8 : Int32) &&& 31))).toInt8.toInt32) at_143 rfl rfl ?_
      refine ow_bastore K X36 (pc' := 145) e36 F36 3 [.int (nar .byte (q1.toInt8.toInt32)), .int (nar .byte ((XT.ushr q2 (24 : Int32)).toInt8.toInt32)), .int (nar .byte ((XT.ushr q2 (16 : Int32)).toInt8.toInt32)), .int (nar .byte ((XT.ushr q2 (8 : Int32)).toInt8.toInt32)), .int 0, .int 0, .int 0, .int 0, .int 0, .int 0, .int 0, .int 0, .int 0] ⟨by decide, by decide⟩ (by decide) (by simp) (by rw [own_i8]; rfl) at_144 rfl ?_
      intro T44 h44 X44 e44 W44 F44
      have F45 : Exa Z h44 o1 "com/example/cardinality/cardinality/value/ByteWriter" := Exa.wr W44 F37
      have F46 : Fld Z h44 o1 "com/example/cardinality/cardinality/value/ByteWriter" "bytes" "[B" (.ref r1) := Fld.other W44 F38 (Or.inl ne10)
      have F47 : Fld Z h44 o1 "com/example/cardinality/cardinality/value/ByteWriter" "length" "I" (.int (5 : Int32)) := Fld.other W44 F39 (Or.inl ne10)
      have F48 : Arv Z h44 r1 k1 .byte N [.int (nar .byte (q1.toInt8.toInt32)), .int (nar .byte ((XT.ushr q2 (24 : Int32)).toInt8.toInt32)), .int (nar .byte ((XT.ushr q2 (16 : Int32)).toInt8.toInt32)), .int (nar .byte ((XT.ushr q2 (8 : Int32)).toInt8.toInt32)), .int (nar .byte (q2.toInt8.toInt32))] (.int 0) := F40.other W44 ne11
      have F49 : Exa Z h44 r1 "[B" := Exa.wr W44 F41
      have Z50 : n0 ≤ h44.size := Nat.le_trans Z42 (Nat.le_of_eq W44.size.symm)
      have N51 := Fr.snoc X44 N43 ge12
      refine ow_aload K X44 (pc' := 147) a1 at_145 rfl rfl ?_
      refine ow_iconst K X44 (pc' := 148) (4 : Int32) at_147 rfl (by decide) ?_
      refine ow_iload K X44 (pc' := 150) q2 at_148 rfl rfl ?_
      refine ow_i2b K X44 (pc' := 151) ((q2).toInt8.toInt32) at_150 rfl rfl ?_
      refine ow_bastore K X44 (pc' := 152) e44 F44 4 [.int (nar .byte (q1.toInt8.toInt32)), .int (nar .byte ((XT.ushr q2 (24 : Int32)).toInt8.toInt32)), .int (nar .byte ((XT.ushr q2 (16 : Int32)).toInt8.toInt32)), .int (nar .byte ((XT.ushr q2 (8 : Int32)).toInt8.toInt32)), .int (nar .byte (q2.toInt8.toInt32)), .int 0, .int 0, .int 0, .int 0, .int 0, .int 0, .int 0, .int 0] ⟨by decide, by decide⟩ (by decide) (by simp) rfl at_151 rfl ?_
      intro T52 h52 X52 e52 W52 F52
      have F53 : Exa Z h52 o1 "com/example/cardinality/cardinality/value/ByteWriter" := Exa.wr W52 F45
      have F54 : Fld Z h52 o1 "com/example/cardinality/cardinality/value/ByteWriter" "bytes" "[B" (.ref r1) := Fld.other W52 F46 (Or.inl ne10)
      have F55 : Fld Z h52 o1 "com/example/cardinality/cardinality/value/ByteWriter" "length" "I" (.int (5 : Int32)) := Fld.other W52 F47 (Or.inl ne10)
      have F56 : Arv Z h52 r1 k1 .byte N [.int (nar .byte (q1.toInt8.toInt32)), .int (nar .byte ((XT.ushr q2 (24 : Int32)).toInt8.toInt32)), .int (nar .byte ((XT.ushr q2 (16 : Int32)).toInt8.toInt32)), .int (nar .byte ((XT.ushr q2 (8 : Int32)).toInt8.toInt32)), .int (nar .byte (q2.toInt8.toInt32))] (.int 0) := F48.other W52 ne11
      have F57 : Exa Z h52 r1 "[B" := Exa.wr W52 F49
      have Z58 : n0 ≤ h52.size := Nat.le_trans Z50 (Nat.le_of_eq W52.size.symm)
      have N59 := Fr.snoc X52 N51 ge12
      refine ow_aload K X52 (pc' := 154) a1 at_152 rfl rfl ?_
      refine ow_iconst K X52 (pc' := 155) (5 : Int32) at_154 rfl (by decide) ?_
      refine ow_lloadN K X52 (pc' := 156) q3 at_155 rfl rfl ?_
      refine ow_bipush K X52 (pc' := 158) (56 : Int32) at_156 rfl (by decide) ?_
      refine ow_lshr K X52 (pc' := 159) (q3 >>> (((56 : Int32)).toInt64 &&& 63)) at_158 rfl rfl ?_
      refine ow_l2i K X52 (pc' := 160) (((q3 >>> (((56 : Int32)).toInt64 &&& 63))).toInt32) at_159 rfl rfl ?_
      refine ow_i2b K X52 (pc' := 161) (((((q3 >>> (((56 : Int32)).toInt64 &&& 63))).toInt32)).toInt8.toInt32) at_160 rfl rfl ?_
      refine ow_bastore K X52 (pc' := 162) e52 F52 5 [.int (nar .byte (q1.toInt8.toInt32)), .int (nar .byte ((XT.ushr q2 (24 : Int32)).toInt8.toInt32)), .int (nar .byte ((XT.ushr q2 (16 : Int32)).toInt8.toInt32)), .int (nar .byte ((XT.ushr q2 (8 : Int32)).toInt8.toInt32)), .int (nar .byte (q2.toInt8.toInt32)), .int (nar .byte (((XT.ushrL (XT.ushrL (XT.ushrL (XT.ushrL (XT.ushrL (XT.ushrL (XT.ushrL q3 (8 : Int32)) (8 : Int32)) (8 : Int32)) (8 : Int32)) (8 : Int32)) (8 : Int32)) (8 : Int32))).toInt32.toInt8.toInt32)), .int 0, .int 0, .int 0, .int 0, .int 0, .int 0, .int 0] ⟨by decide, by decide⟩ (by decide) (by simp) (by rw [own_l7]; rfl) at_161 rfl ?_
      intro T60 h60 X60 e60 W60 F60
      have F61 : Exa Z h60 o1 "com/example/cardinality/cardinality/value/ByteWriter" := Exa.wr W60 F53
      have F62 : Fld Z h60 o1 "com/example/cardinality/cardinality/value/ByteWriter" "bytes" "[B" (.ref r1) := Fld.other W60 F54 (Or.inl ne10)
      have F63 : Fld Z h60 o1 "com/example/cardinality/cardinality/value/ByteWriter" "length" "I" (.int (5 : Int32)) := Fld.other W60 F55 (Or.inl ne10)
      have F64 : Arv Z h60 r1 k1 .byte N [.int (nar .byte (q1.toInt8.toInt32)), .int (nar .byte ((XT.ushr q2 (24 : Int32)).toInt8.toInt32)), .int (nar .byte ((XT.ushr q2 (16 : Int32)).toInt8.toInt32)), .int (nar .byte ((XT.ushr q2 (8 : Int32)).toInt8.toInt32)), .int (nar .byte (q2.toInt8.toInt32))] (.int 0) := F56.other W60 ne11
      have F65 : Exa Z h60 r1 "[B" := Exa.wr W60 F57
      have Z66 : n0 ≤ h60.size := Nat.le_trans Z58 (Nat.le_of_eq W60.size.symm)
      have N67 := Fr.snoc X60 N59 ge12
      refine ow_aload K X60 (pc' := 164) a1 at_162 rfl rfl ?_
      refine ow_bipush K X60 (pc' := 166) (6 : Int32) at_164 rfl (by decide) ?_
      refine ow_lloadN K X60 (pc' := 167) q3 at_166 rfl rfl ?_
      refine ow_bipush K X60 (pc' := 169) (48 : Int32) at_167 rfl (by decide) ?_
      refine ow_lshr K X60 (pc' := 170) (q3 >>> (((48 : Int32)).toInt64 &&& 63)) at_169 rfl rfl ?_
      refine ow_l2i K X60 (pc' := 171) (((q3 >>> (((48 : Int32)).toInt64 &&& 63))).toInt32) at_170 rfl rfl ?_
      refine ow_i2b K X60 (pc' := 172) (((((q3 >>> (((48 : Int32)).toInt64 &&& 63))).toInt32)).toInt8.toInt32) at_171 rfl rfl ?_
      refine ow_bastore K X60 (pc' := 173) e60 F60 6 [.int (nar .byte (q1.toInt8.toInt32)), .int (nar .byte ((XT.ushr q2 (24 : Int32)).toInt8.toInt32)), .int (nar .byte ((XT.ushr q2 (16 : Int32)).toInt8.toInt32)), .int (nar .byte ((XT.ushr q2 (8 : Int32)).toInt8.toInt32)), .int (nar .byte (q2.toInt8.toInt32)), .int (nar .byte (((XT.ushrL (XT.ushrL (XT.ushrL (XT.ushrL (XT.ushrL (XT.ushrL (XT.ushrL q3 (8 : Int32)) (8 : Int32)) (8 : Int32)) (8 : Int32)) (8 : Int32)) (8 : Int32)) (8 : Int32))).toInt32.toInt8.toInt32)), .int (nar .byte (((XT.ushrL (XT.ushrL (XT.ushrL (XT.ushrL (XT.ushrL (XT.ushrL q3 (8 : Int32)) (8 : Int32)) (8 : Int32)) (8 : Int32)) (8 : Int32)) (8 : Int32))).toInt32.toInt8.toInt32)), .int 0, .int 0, .int 0, .int 0, .int 0, .int 0] ⟨by decide, by decide⟩ (by decide) (by simp) (by rw [own_l6]; rfl) at_172 rfl ?_
      intro T68 h68 X68 e68 W68 F68
      have F69 : Exa Z h68 o1 "com/example/cardinality/cardinality/value/ByteWriter" := Exa.wr W68 F61
      have F70 : Fld Z h68 o1 "com/example/cardinality/cardinality/value/ByteWriter" "bytes" "[B" (.ref r1) := Fld.other W68 F62 (Or.inl ne10)
      have F71 : Fld Z h68 o1 "com/example/cardinality/cardinality/value/ByteWriter" "length" "I" (.int (5 : Int32)) := Fld.other W68 F63 (Or.inl ne10)
      have F72 : Arv Z h68 r1 k1 .byte N [.int (nar .byte (q1.toInt8.toInt32)), .int (nar .byte ((XT.ushr q2 (24 : Int32)).toInt8.toInt32)), .int (nar .byte ((XT.ushr q2 (16 : Int32)).toInt8.toInt32)), .int (nar .byte ((XT.ushr q2 (8 : Int32)).toInt8.toInt32)), .int (nar .byte (q2.toInt8.toInt32))] (.int 0) := F64.other W68 ne11
      have F73 : Exa Z h68 r1 "[B" := Exa.wr W68 F65
      have Z74 : n0 ≤ h68.size := Nat.le_trans Z66 (Nat.le_of_eq W68.size.symm)
      have N75 := Fr.snoc X68 N67 ge12
      refine ow_aload K X68 (pc' := 175) a1 at_173 rfl rfl ?_
      refine ow_bipush K X68 (pc' := 177) (7 : Int32) at_175 rfl (by decide) ?_
      refine ow_lloadN K X68 (pc' := 178) q3 at_177 rfl rfl ?_
      refine ow_bipush K X68 (pc' := 180) (40 : Int32) at_178 rfl (by decide) ?_
      refine ow_lshr K X68 (pc' := 181) (q3 >>> (((40 : Int32)).toInt64 &&& 63)) at_180 rfl rfl ?_
      refine ow_l2i K X68 (pc' := 182) (((q3 >>> (((40 : Int32)).toInt64 &&& 63))).toInt32) at_181 rfl rfl ?_
      refine ow_i2b K X68 (pc' := 183) (((((q3 >>> (((40 : Int32)).toInt64 &&& 63))).toInt32)).toInt8.toInt32) at_182 rfl rfl ?_
      refine ow_bastore K X68 (pc' := 184) e68 F68 7 [.int (nar .byte (q1.toInt8.toInt32)), .int (nar .byte ((XT.ushr q2 (24 : Int32)).toInt8.toInt32)), .int (nar .byte ((XT.ushr q2 (16 : Int32)).toInt8.toInt32)), .int (nar .byte ((XT.ushr q2 (8 : Int32)).toInt8.toInt32)), .int (nar .byte (q2.toInt8.toInt32)), .int (nar .byte (((XT.ushrL (XT.ushrL (XT.ushrL (XT.ushrL (XT.ushrL (XT.ushrL (XT.ushrL q3 (8 : Int32)) (8 : Int32)) (8 : Int32)) (8 : Int32)) (8 : Int32)) (8 : Int32)) (8 : Int32))).toInt32.toInt8.toInt32)), .int (nar .byte (((XT.ushrL (XT.ushrL (XT.ushrL (XT.ushrL (XT.ushrL (XT.ushrL q3 (8 : Int32)) (8 : Int32)) (8 : Int32)) (8 : Int32)) (8 : Int32)) (8 : Int32))).toInt32.toInt8.toInt32)), .int (nar .byte (((XT.ushrL (XT.ushrL (XT.ushrL (XT.ushrL (XT.ushrL q3 (8 : Int32)) (8 : Int32)) (8 : Int32)) (8 : Int32)) (8 : Int32))).toInt32.toInt8.toInt32)), .int 0, .int 0, .int 0, .int 0, .int 0] ⟨by decide, by decide⟩ (by decide) (by simp) (by rw [own_l5]; rfl) at_183 rfl ?_
      intro T76 h76 X76 e76 W76 F76
      have F77 : Exa Z h76 o1 "com/example/cardinality/cardinality/value/ByteWriter" := Exa.wr W76 F69
      have F78 : Fld Z h76 o1 "com/example/cardinality/cardinality/value/ByteWriter" "bytes" "[B" (.ref r1) := Fld.other W76 F70 (Or.inl ne10)
      have F79 : Fld Z h76 o1 "com/example/cardinality/cardinality/value/ByteWriter" "length" "I" (.int (5 : Int32)) := Fld.other W76 F71 (Or.inl ne10)
      have F80 : Arv Z h76 r1 k1 .byte N [.int (nar .byte (q1.toInt8.toInt32)), .int (nar .byte ((XT.ushr q2 (24 : Int32)).toInt8.toInt32)), .int (nar .byte ((XT.ushr q2 (16 : Int32)).toInt8.toInt32)), .int (nar .byte ((XT.ushr q2 (8 : Int32)).toInt8.toInt32)), .int (nar .byte (q2.toInt8.toInt32))] (.int 0) := F72.other W76 ne11
      have F81 : Exa Z h76 r1 "[B" := Exa.wr W76 F73
      have Z82 : n0 ≤ h76.size := Nat.le_trans Z74 (Nat.le_of_eq W76.size.symm)
      have N83 := Fr.snoc X76 N75 ge12
      refine ow_aload K X76 (pc' := 186) a1 at_184 rfl rfl ?_
      refine ow_bipush K X76 (pc' := 188) (8 : Int32) at_186 rfl (by decide) ?_
      refine ow_lloadN K X76 (pc' := 189) q3 at_188 rfl rfl ?_
      refine ow_bipush K X76 (pc' := 191) (32 : Int32) at_189 rfl (by decide) ?_
      refine ow_lshr K X76 (pc' := 192) (q3 >>> (((32 : Int32)).toInt64 &&& 63)) at_191 rfl rfl ?_
      refine ow_l2i K X76 (pc' := 193) (((q3 >>> (((32 : Int32)).toInt64 &&& 63))).toInt32) at_192 rfl rfl ?_
      refine ow_i2b K X76 (pc' := 194) (((((q3 >>> (((32 : Int32)).toInt64 &&& 63))).toInt32)).toInt8.toInt32) at_193 rfl rfl ?_
      refine ow_bastore K X76 (pc' := 195) e76 F76 8 [.int (nar .byte (q1.toInt8.toInt32)), .int (nar .byte ((XT.ushr q2 (24 : Int32)).toInt8.toInt32)), .int (nar .byte ((XT.ushr q2 (16 : Int32)).toInt8.toInt32)), .int (nar .byte ((XT.ushr q2 (8 : Int32)).toInt8.toInt32)), .int (nar .byte (q2.toInt8.toInt32)), .int (nar .byte (((XT.ushrL (XT.ushrL (XT.ushrL (XT.ushrL (XT.ushrL (XT.ushrL (XT.ushrL q3 (8 : Int32)) (8 : Int32)) (8 : Int32)) (8 : Int32)) (8 : Int32)) (8 : Int32)) (8 : Int32))).toInt32.toInt8.toInt32)), .int (nar .byte (((XT.ushrL (XT.ushrL (XT.ushrL (XT.ushrL (XT.ushrL (XT.ushrL q3 (8 : Int32)) (8 : Int32)) (8 : Int32)) (8 : Int32)) (8 : Int32)) (8 : Int32))).toInt32.toInt8.toInt32)), .int (nar .byte (((XT.ushrL (XT.ushrL (XT.ushrL (XT.ushrL (XT.ushrL q3 (8 : Int32)) (8 : Int32)) (8 : Int32)) (8 : Int32)) (8 : Int32))).toInt32.toInt8.toInt32)), .int (nar .byte (((XT.ushrL (XT.ushrL (XT.ushrL (XT.ushrL q3 (8 : Int32)) (8 : Int32)) (8 : Int32)) (8 : Int32))).toInt32.toInt8.toInt32)), .int 0, .int 0, .int 0, .int 0] ⟨by decide, by decide⟩ (by decide) (by simp) (by rw [own_l4]; rfl) at_194 rfl ?_
      intro T84 h84 X84 e84 W84 F84
      have F85 : Exa Z h84 o1 "com/example/cardinality/cardinality/value/ByteWriter" := Exa.wr W84 F77
      have F86 : Fld Z h84 o1 "com/example/cardinality/cardinality/value/ByteWriter" "bytes" "[B" (.ref r1) := Fld.other W84 F78 (Or.inl ne10)
      have F87 : Fld Z h84 o1 "com/example/cardinality/cardinality/value/ByteWriter" "length" "I" (.int (5 : Int32)) := Fld.other W84 F79 (Or.inl ne10)
      have F88 : Arv Z h84 r1 k1 .byte N [.int (nar .byte (q1.toInt8.toInt32)), .int (nar .byte ((XT.ushr q2 (24 : Int32)).toInt8.toInt32)), .int (nar .byte ((XT.ushr q2 (16 : Int32)).toInt8.toInt32)), .int (nar .byte ((XT.ushr q2 (8 : Int32)).toInt8.toInt32)), .int (nar .byte (q2.toInt8.toInt32))] (.int 0) := F80.other W84 ne11
      have F89 : Exa Z h84 r1 "[B" := Exa.wr W84 F81
      have Z90 : n0 ≤ h84.size := Nat.le_trans Z82 (Nat.le_of_eq W84.size.symm)
      have N91 := Fr.snoc X84 N83 ge12
      refine ow_aload K X84 (pc' := 197) a1 at_195 rfl rfl ?_
      refine ow_bipush K X84 (pc' := 199) (9 : Int32) at_197 rfl (by decide) ?_
      refine ow_lloadN K X84 (pc' := 200) q3 at_199 rfl rfl ?_
      refine ow_bipush K X84 (pc' := 202) (24 : Int32) at_200 rfl (by decide) ?_
      refine ow_lshr K X84 (pc' := 203) (q3 >>> (((24 : Int32)).toInt64 &&& 63)) at_202 rfl rfl ?_
      refine ow_l2i K X84 (pc' := 204) (((q3 >>> (((24 : Int32)).toInt64 &&& 63))).toInt32) at_203 rfl rfl ?_
      refine ow_i2b K X84 (pc' := 205) (((((q3 >>> (((24 : Int32)).toInt64 &&& 63))).toInt32)).toInt8.toInt32) at_204 rfl rfl ?_
      refine ow_bastore K X84 (pc' := 206) e84 F84 9 [.int (nar .byte (q1.toInt8.toInt32)), .int (nar .byte ((XT.ushr q2 (24 : Int32)).toInt8.toInt32)), .int (nar .byte ((XT.ushr q2 (16 : Int32)).toInt8.toInt32)), .int (nar .byte ((XT.ushr q2 (8 : Int32)).toInt8.toInt32)), .int (nar .byte (q2.toInt8.toInt32)), .int (nar .byte (((XT.ushrL (XT.ushrL (XT.ushrL (XT.ushrL (XT.ushrL (XT.ushrL (XT.ushrL q3 (8 : Int32)) (8 : Int32)) (8 : Int32)) (8 : Int32)) (8 : Int32)) (8 : Int32)) (8 : Int32))).toInt32.toInt8.toInt32)), .int (nar .byte (((XT.ushrL (XT.ushrL (XT.ushrL (XT.ushrL (XT.ushrL (XT.ushrL q3 (8 : Int32)) (8 : Int32)) (8 : Int32)) (8 : Int32)) (8 : Int32)) (8 : Int32))).toInt32.toInt8.toInt32)), .int (nar .byte (((XT.ushrL (XT.ushrL (XT.ushrL (XT.ushrL (XT.ushrL q3 (8 : Int32)) (8 : Int32)) (8 : Int32)) (8 : Int32)) (8 : Int32))).toInt32.toInt8.toInt32)), .int (nar .byte (((XT.ushrL (XT.ushrL (XT.ushrL (XT.ushrL q3 (8 : Int32)) (8 : Int32)) (8 : Int32)) (8 : Int32))).toInt32.toInt8.toInt32)), .int (nar .byte (((XT.ushrL (XT.ushrL (XT.ushrL q3 (8 : Int32)) (8 : Int32)) (8 : Int32))).toInt32.toInt8.toInt32)), .int 0, .int 0, .int 0] ⟨by decide, by decide⟩ (by decide) (by simp) (by rw [own_l3]; rfl) at_205 rfl ?_
      intro T92 h92 X92 e92 W92 F92
      have F93 : Exa Z h92 o1 "com/example/cardinality/cardinality/value/ByteWriter" := Exa.wr W92 F85
      have F94 : Fld Z h92 o1 "com/example/cardinality/cardinality/value/ByteWriter" "bytes" "[B" (.ref r1) := Fld.other W92 F86 (Or.inl ne10)
      have F95 : Fld Z h92 o1 "com/example/cardinality/cardinality/value/ByteWriter" "length" "I" (.int (5 : Int32)) := Fld.other W92 F87 (Or.inl ne10)
      have F96 : Arv Z h92 r1 k1 .byte N [.int (nar .byte (q1.toInt8.toInt32)), .int (nar .byte ((XT.ushr q2 (24 : Int32)).toInt8.toInt32)), .int (nar .byte ((XT.ushr q2 (16 : Int32)).toInt8.toInt32)), .int (nar .byte ((XT.ushr q2 (8 : Int32)).toInt8.toInt32)), .int (nar .byte (q2.toInt8.toInt32))] (.int 0) := F88.other W92 ne11
      have F97 : Exa Z h92 r1 "[B" := Exa.wr W92 F89
      have Z98 : n0 ≤ h92.size := Nat.le_trans Z90 (Nat.le_of_eq W92.size.symm)
      have N99 := Fr.snoc X92 N91 ge12
      refine ow_aload K X92 (pc' := 208) a1 at_206 rfl rfl ?_
      refine ow_bipush K X92 (pc' := 210) (10 : Int32) at_208 rfl (by decide) ?_
      refine ow_lloadN K X92 (pc' := 211) q3 at_210 rfl rfl ?_
      refine ow_bipush K X92 (pc' := 213) (16 : Int32) at_211 rfl (by decide) ?_
      refine ow_lshr K X92 (pc' := 214) (q3 >>> (((16 : Int32)).toInt64 &&& 63)) at_213 rfl rfl ?_
      refine ow_l2i K X92 (pc' := 215) (((q3 >>> (((16 : Int32)).toInt64 &&& 63))).toInt32) at_214 rfl rfl ?_
      refine ow_i2b K X92 (pc' := 216) (((((q3 >>> (((16 : Int32)).toInt64 &&& 63))).toInt32)).toInt8.toInt32) at_215 rfl rfl ?_
      refine ow_bastore K X92 (pc' := 217) e92 F92 10 [.int (nar .byte (q1.toInt8.toInt32)), .int (nar .byte ((XT.ushr q2 (24 : Int32)).toInt8.toInt32)), .int (nar .byte ((XT.ushr q2 (16 : Int32)).toInt8.toInt32)), .int (nar .byte ((XT.ushr q2 (8 : Int32)).toInt8.toInt32)), .int (nar .byte (q2.toInt8.toInt32)), .int (nar .byte (((XT.ushrL (XT.ushrL (XT.ushrL (XT.ushrL (XT.ushrL (XT.ushrL (XT.ushrL q3 (8 : Int32)) (8 : Int32)) (8 : Int32)) (8 : Int32)) (8 : Int32)) (8 : Int32)) (8 : Int32))).toInt32.toInt8.toInt32)), .int (nar .byte (((XT.ushrL (XT.ushrL (XT.ushrL (XT.ushrL (XT.ushrL (XT.ushrL q3 (8 : Int32)) (8 : Int32)) (8 : Int32)) (8 : Int32)) (8 : Int32)) (8 : Int32))).toInt32.toInt8.toInt32)), .int (nar .byte (((XT.ushrL (XT.ushrL (XT.ushrL (XT.ushrL (XT.ushrL q3 (8 : Int32)) (8 : Int32)) (8 : Int32)) (8 : Int32)) (8 : Int32))).toInt32.toInt8.toInt32)), .int (nar .byte (((XT.ushrL (XT.ushrL (XT.ushrL (XT.ushrL q3 (8 : Int32)) (8 : Int32)) (8 : Int32)) (8 : Int32))).toInt32.toInt8.toInt32)), .int (nar .byte (((XT.ushrL (XT.ushrL (XT.ushrL q3 (8 : Int32)) (8 : Int32)) (8 : Int32))).toInt32.toInt8.toInt32)), .int (nar .byte (((XT.ushrL (XT.ushrL q3 (8 : Int32)) (8 : Int32))).toInt32.toInt8.toInt32)), .int 0, .int 0] ⟨by decide, by decide⟩ (by decide) (by simp) (by rw [own_l2]; rfl) at_216 rfl ?_
      intro T100 h100 X100 e100 W100 F100
      have F101 : Exa Z h100 o1 "com/example/cardinality/cardinality/value/ByteWriter" := Exa.wr W100 F93
      have F102 : Fld Z h100 o1 "com/example/cardinality/cardinality/value/ByteWriter" "bytes" "[B" (.ref r1) := Fld.other W100 F94 (Or.inl ne10)
      have F103 : Fld Z h100 o1 "com/example/cardinality/cardinality/value/ByteWriter" "length" "I" (.int (5 : Int32)) := Fld.other W100 F95 (Or.inl ne10)
      have F104 : Arv Z h100 r1 k1 .byte N [.int (nar .byte (q1.toInt8.toInt32)), .int (nar .byte ((XT.ushr q2 (24 : Int32)).toInt8.toInt32)), .int (nar .byte ((XT.ushr q2 (16 : Int32)).toInt8.toInt32)), .int (nar .byte ((XT.ushr q2 (8 : Int32)).toInt8.toInt32)), .int (nar .byte (q2.toInt8.toInt32))] (.int 0) := F96.other W100 ne11
      have F105 : Exa Z h100 r1 "[B" := Exa.wr W100 F97
      have Z106 : n0 ≤ h100.size := Nat.le_trans Z98 (Nat.le_of_eq W100.size.symm)
      have N107 := Fr.snoc X100 N99 ge12
      refine ow_aload K X100 (pc' := 219) a1 at_217 rfl rfl ?_
      refine ow_bipush K X100 (pc' := 221) (11 : Int32) at_219 rfl (by decide) ?_
      refine ow_lloadN K X100 (pc' := 222) q3 at_221 rfl rfl ?_
      refine ow_bipush K X100 (pc' := 224) (8 : Int32) at_222 rfl (by decide) ?_
      refine ow_lshr K X100 (pc' := 225) (q3 >>> (((8 : Int32)).toInt64 &&& 63)) at_224 rfl rfl ?_
      refine ow_l2i K X100 (pc' := 226) (((q3 >>> (((8 : Int32)).toInt64 &&& 63))).toInt32) at_225 rfl rfl ?_
      refine ow_i2b K X100 (pc' := 227) (((((q3 >>> (((8 : Int32)).toInt64 &&& 63))).toInt32)).toInt8.toInt32) at_226 rfl rfl ?_
      refine ow_bastore K X100 (pc' := 228) e100 F100 11 [.int (nar .byte (q1.toInt8.toInt32)), .int (nar .byte ((XT.ushr q2 (24 : Int32)).toInt8.toInt32)), .int (nar .byte ((XT.ushr q2 (16 : Int32)).toInt8.toInt32)), .int (nar .byte ((XT.ushr q2 (8 : Int32)).toInt8.toInt32)), .int (nar .byte (q2.toInt8.toInt32)), .int (nar .byte (((XT.ushrL (XT.ushrL (XT.ushrL (XT.ushrL (XT.ushrL (XT.ushrL (XT.ushrL q3 (8 : Int32)) (8 : Int32)) (8 : Int32)) (8 : Int32)) (8 : Int32)) (8 : Int32)) (8 : Int32))).toInt32.toInt8.toInt32)), .int (nar .byte (((XT.ushrL (XT.ushrL (XT.ushrL (XT.ushrL (XT.ushrL (XT.ushrL q3 (8 : Int32)) (8 : Int32)) (8 : Int32)) (8 : Int32)) (8 : Int32)) (8 : Int32))).toInt32.toInt8.toInt32)), .int (nar .byte (((XT.ushrL (XT.ushrL (XT.ushrL (XT.ushrL (XT.ushrL q3 (8 : Int32)) (8 : Int32)) (8 : Int32)) (8 : Int32)) (8 : Int32))).toInt32.toInt8.toInt32)), .int (nar .byte (((XT.ushrL (XT.ushrL (XT.ushrL (XT.ushrL q3 (8 : Int32)) (8 : Int32)) (8 : Int32)) (8 : Int32))).toInt32.toInt8.toInt32)), .int (nar .byte (((XT.ushrL (XT.ushrL (XT.ushrL q3 (8 : Int32)) (8 : Int32)) (8 : Int32))).toInt32.toInt8.toInt32)), .int (nar .byte (((XT.ushrL (XT.ushrL q3 (8 : Int32)) (8 : Int32))).toInt32.toInt8.toInt32)), .int (nar .byte (((XT.ushrL q3 (8 : Int32))).toInt32.toInt8.toInt32)), .int 0] ⟨by decide, by decide⟩ (by decide) (by simp) (by rw [own_l1]; rfl) at_227 rfl ?_
      intro T108 h108 X108 e108 W108 F108
      have F109 : Exa Z h108 o1 "com/example/cardinality/cardinality/value/ByteWriter" := Exa.wr W108 F101
      have F110 : Fld Z h108 o1 "com/example/cardinality/cardinality/value/ByteWriter" "bytes" "[B" (.ref r1) := Fld.other W108 F102 (Or.inl ne10)
      have F111 : Fld Z h108 o1 "com/example/cardinality/cardinality/value/ByteWriter" "length" "I" (.int (5 : Int32)) := Fld.other W108 F103 (Or.inl ne10)
      have F112 : Arv Z h108 r1 k1 .byte N [.int (nar .byte (q1.toInt8.toInt32)), .int (nar .byte ((XT.ushr q2 (24 : Int32)).toInt8.toInt32)), .int (nar .byte ((XT.ushr q2 (16 : Int32)).toInt8.toInt32)), .int (nar .byte ((XT.ushr q2 (8 : Int32)).toInt8.toInt32)), .int (nar .byte (q2.toInt8.toInt32))] (.int 0) := F104.other W108 ne11
      have F113 : Exa Z h108 r1 "[B" := Exa.wr W108 F105
      have Z114 : n0 ≤ h108.size := Nat.le_trans Z106 (Nat.le_of_eq W108.size.symm)
      have N115 := Fr.snoc X108 N107 ge12
      refine ow_aload K X108 (pc' := 230) a1 at_228 rfl rfl ?_
      refine ow_bipush K X108 (pc' := 232) (12 : Int32) at_230 rfl (by decide) ?_
      refine ow_lloadN K X108 (pc' := 233) q3 at_232 rfl rfl ?_
      refine ow_l2i K X108 (pc' := 234) ((q3).toInt32) at_233 rfl rfl ?_
      refine ow_i2b K X108 (pc' := 235) ((((q3).toInt32)).toInt8.toInt32) at_234 rfl rfl ?_
      refine ow_bastore K X108 (pc' := 236) e108 F108 12 [.int (nar .byte (q1.toInt8.toInt32)), .int (nar .byte ((XT.ushr q2 (24 : Int32)).toInt8.toInt32)), .int (nar .byte ((XT.ushr q2 (16 : Int32)).toInt8.toInt32)), .int (nar .byte ((XT.ushr q2 (8 : Int32)).toInt8.toInt32)), .int (nar .byte (q2.toInt8.toInt32)), .int (nar .byte (((XT.ushrL (XT.ushrL (XT.ushrL (XT.ushrL (XT.ushrL (XT.ushrL (XT.ushrL q3 (8 : Int32)) (8 : Int32)) (8 : Int32)) (8 : Int32)) (8 : Int32)) (8 : Int32)) (8 : Int32))).toInt32.toInt8.toInt32)), .int (nar .byte (((XT.ushrL (XT.ushrL (XT.ushrL (XT.ushrL (XT.ushrL (XT.ushrL q3 (8 : Int32)) (8 : Int32)) (8 : Int32)) (8 : Int32)) (8 : Int32)) (8 : Int32))).toInt32.toInt8.toInt32)), .int (nar .byte (((XT.ushrL (XT.ushrL (XT.ushrL (XT.ushrL (XT.ushrL q3 (8 : Int32)) (8 : Int32)) (8 : Int32)) (8 : Int32)) (8 : Int32))).toInt32.toInt8.toInt32)), .int (nar .byte (((XT.ushrL (XT.ushrL (XT.ushrL (XT.ushrL q3 (8 : Int32)) (8 : Int32)) (8 : Int32)) (8 : Int32))).toInt32.toInt8.toInt32)), .int (nar .byte (((XT.ushrL (XT.ushrL (XT.ushrL q3 (8 : Int32)) (8 : Int32)) (8 : Int32))).toInt32.toInt8.toInt32)), .int (nar .byte (((XT.ushrL (XT.ushrL q3 (8 : Int32)) (8 : Int32))).toInt32.toInt8.toInt32)), .int (nar .byte (((XT.ushrL q3 (8 : Int32))).toInt32.toInt8.toInt32)), .int (nar .byte ((q3).toInt32.toInt8.toInt32))] ⟨by decide, by decide⟩ (by decide) (by simp) rfl at_235 rfl ?_
      intro T116 h116 X116 e116 W116 F116
      have F117 : Exa Z h116 o1 "com/example/cardinality/cardinality/value/ByteWriter" := Exa.wr W116 F109
      have F118 : Fld Z h116 o1 "com/example/cardinality/cardinality/value/ByteWriter" "bytes" "[B" (.ref r1) := Fld.other W116 F110 (Or.inl ne10)
      have F119 : Fld Z h116 o1 "com/example/cardinality/cardinality/value/ByteWriter" "length" "I" (.int (5 : Int32)) := Fld.other W116 F111 (Or.inl ne10)
      have F120 : Arv Z h116 r1 k1 .byte N [.int (nar .byte (q1.toInt8.toInt32)), .int (nar .byte ((XT.ushr q2 (24 : Int32)).toInt8.toInt32)), .int (nar .byte ((XT.ushr q2 (16 : Int32)).toInt8.toInt32)), .int (nar .byte ((XT.ushr q2 (8 : Int32)).toInt8.toInt32)), .int (nar .byte (q2.toInt8.toInt32))] (.int 0) := F112.other W116 ne11
      have F121 : Exa Z h116 r1 "[B" := Exa.wr W116 F113
      have Z122 : n0 ≤ h116.size := Nat.le_trans Z114 (Nat.le_of_eq W116.size.symm)
      have N123 := Fr.snoc X116 N115 ge12
      refine ow_aload K X116 (pc' := 238) o1 at_236 rfl rfl ?_
      have own_mn1 : own_min N (5 : Int32) = (5 : Int32) := by
        apply Int32.toInt_inj.mp
        have e : ((5 : Int32)).toInt = 5 := by decide
        rw [own_minI, e]; split <;> omega
      refine ow_callV K X116 (pc' := 241) e116 (y := (⟨"com/example/cardinality/cardinality/value/ByteWriter", "toByteArray", "()[B"⟩ : MethodName)) (rm12 l Z a0 hw [] o1 r1 k1 N (5 : Int32) [.int (nar .byte (q1.toInt8.toInt32)), .int (nar .byte ((XT.ushr q2 (24 : Int32)).toInt8.toInt32)), .int (nar .byte ((XT.ushr q2 (16 : Int32)).toInt8.toInt32)), .int (nar .byte ((XT.ushr q2 (8 : Int32)).toInt8.toInt32)), .int (nar .byte (q2.toInt8.toInt32))] h116 n0 Z122 F117 F118 F119 F120 F121 ge2 gr ne (by decide) (by decide) (by rw [own_mn1]; decide) (by rw [own_mn1]; show 5 ≤ _; omega) (by rw [own_mn1]; decide) (by rw [own_mn1]; exact (Nat.le_refl 5 : 5 ≤ 5))) F117 (hw _ (List.mem_of_getElem? (i := 41) rfl)) (hw _ (List.mem_of_getElem? (i := 42) rfl)) (hw _ (List.mem_of_getElem? (i := 44) rfl)) (hw _ (List.mem_of_getElem? (i := 43) rfl)) (hw _ (List.mem_of_getElem? (i := 2) rfl)) (hw _ (List.mem_of_getElem? (i := 45) rfl)) (by decide) (st := []) 0 (Nat.le_of_eq rfl) (by decide) (by decide) (by decide) (by decide) rfl [] rfl (lenOf pd_12 rfl) rfl at_238 rfl ?_
      intro v124 T124 L124 X124 hQ124
      obtain ⟨b1, kb1, rfl, NN1, Z1, g1, hc1, Kp1, AV1, AE1⟩ := hQ124
      have NX1 := Fr.app N123 NN1
      have ne125 : o1 ≠ b1 := ow_ne F117.lt hc1
      have ne126 : r1 ≠ b1 := ow_ne F120.lt hc1
      have ne127 : a1 ≠ b1 := ow_ne F116.lt hc1
      have F128 : Exa Z T124.heap o1 "com/example/cardinality/cardinality/value/ByteWriter" := F117.keep Kp1
      have F129 : Fld Z T124.heap o1 "com/example/cardinality/cardinality/value/ByteWriter" "bytes" "[B" (.ref r1) := F118.keep Kp1 nin0
      have F130 : Fld Z T124.heap o1 "com/example/cardinality/cardinality/value/ByteWriter" "length" "I" (.int (5 : Int32)) := F119.keep Kp1 nin0
      have F131 : Arv Z T124.heap r1 k1 .byte N [.int (nar .byte (q1.toInt8.toInt32)), .int (nar .byte ((XT.ushr q2 (24 : Int32)).toInt8.toInt32)), .int (nar .byte ((XT.ushr q2 (16 : Int32)).toInt8.toInt32)), .int (nar .byte ((XT.ushr q2 (8 : Int32)).toInt8.toInt32)), .int (nar .byte (q2.toInt8.toInt32))] (.int 0) := F120.keep Kp1 nin0
      have F132 : Exa Z T124.heap r1 "[B" := F121.keep Kp1
      have F133 : Arv Z T124.heap a1 k9 .byte (13 : Int32) [.int (nar .byte (q1.toInt8.toInt32)), .int (nar .byte ((XT.ushr q2 (24 : Int32)).toInt8.toInt32)), .int (nar .byte ((XT.ushr q2 (16 : Int32)).toInt8.toInt32)), .int (nar .byte ((XT.ushr q2 (8 : Int32)).toInt8.toInt32)), .int (nar .byte (q2.toInt8.toInt32)), .int (nar .byte (((XT.ushrL (XT.ushrL (XT.ushrL (XT.ushrL (XT.ushrL (XT.ushrL (XT.ushrL q3 (8 : Int32)) (8 : Int32)) (8 : Int32)) (8 : Int32)) (8 : Int32)) (8 : Int32)) (8 : Int32))).toInt32.toInt8.toInt32)), .int (nar .byte (((XT.ushrL (XT.ushrL (XT.ushrL (XT.ushrL (XT.ushrL (XT.ushrL q3 (8 : Int32)) (8 : Int32)) (8 : Int32)) (8 : Int32)) (8 : Int32)) (8 : Int32))).toInt32.toInt8.toInt32)), .int (nar .byte (((XT.ushrL (XT.ushrL (XT.ushrL (XT.ushrL (XT.ushrL q3 (8 : Int32)) (8 : Int32)) (8 : Int32)) (8 : Int32)) (8 : Int32))).toInt32.toInt8.toInt32)), .int (nar .byte (((XT.ushrL (XT.ushrL (XT.ushrL (XT.ushrL q3 (8 : Int32)) (8 : Int32)) (8 : Int32)) (8 : Int32))).toInt32.toInt8.toInt32)), .int (nar .byte (((XT.ushrL (XT.ushrL (XT.ushrL q3 (8 : Int32)) (8 : Int32)) (8 : Int32))).toInt32.toInt8.toInt32)), .int (nar .byte (((XT.ushrL (XT.ushrL q3 (8 : Int32)) (8 : Int32))).toInt32.toInt8.toInt32)), .int (nar .byte (((XT.ushrL q3 (8 : Int32))).toInt32.toInt8.toInt32)), .int (nar .byte ((q3).toInt32.toInt8.toInt32))] (.int 0) := F116.keep Kp1 nin0
      have Z134 : n0 ≤ T124.heap.size := Nat.le_trans Z122 Kp1.1
      refine ow_at (g := (mkF m 241 #[.val (.int q0), .val (.int q1), .val (.int q2), .val (.long q3), .second, .val (.int q4), .val (.int q5), .val (.int (0 : Int32)), .val (.int (0 : Int32)), .val (.ref o1), .val (.int (5 : Int32)), .val (.int q2), .val (.ref a1), .unset, .unset] [.ref b1])) ?_
      refine ow_astore K X124 (pc' := 243) (Ls' := #[.val (.int q0), .val (.int q1), .val (.int q2), .val (.long q3), .second, .val (.int q4), .val (.int q5), .val (.int (0 : Int32)), .val (.int (0 : Int32)), .val (.ref o1), .val (.int (5 : Int32)), .val (.int q2), .val (.ref a1), .val (.ref b1), .unset]) at_241 rfl rfl ?_
      refine ow_aload K X124 (pc' := 245) b1 at_243 rfl rfl ?_
      refine ow_aload K X124 (pc' := 247) a1 at_245 rfl rfl ?_
      refine ow_iload K X124 (pc' := 249) (5 : Int32) at_247 rfl rfl ?_
      refine ow_callS K X124 (pc' := 252) (rfl : T124.heap = T124.heap) (y := (⟨"com/example/cardinality/cardinality/value/ByteWriterToByteArrayPinLaw", "same", "([B[BI)Z"⟩ : MethodName)) (rm105 l Z a0 hw [] b1 a1 (5 : Int32) kb1 k9 (nar .byte (q1.toInt8.toInt32)) (nar .byte ((XT.ushr q2 (24 : Int32)).toInt8.toInt32)) (nar .byte ((XT.ushr q2 (16 : Int32)).toInt8.toInt32)) (nar .byte ((XT.ushr q2 (8 : Int32)).toInt8.toInt32)) (nar .byte (q2.toInt8.toInt32)) (nar .byte (((XT.ushrL (XT.ushrL (XT.ushrL (XT.ushrL (XT.ushrL (XT.ushrL (XT.ushrL q3 (8 : Int32)) (8 : Int32)) (8 : Int32)) (8 : Int32)) (8 : Int32)) (8 : Int32)) (8 : Int32))).toInt32.toInt8.toInt32)) (nar .byte (((XT.ushrL (XT.ushrL (XT.ushrL (XT.ushrL (XT.ushrL (XT.ushrL q3 (8 : Int32)) (8 : Int32)) (8 : Int32)) (8 : Int32)) (8 : Int32)) (8 : Int32))).toInt32.toInt8.toInt32)) (nar .byte (((XT.ushrL (XT.ushrL (XT.ushrL (XT.ushrL (XT.ushrL q3 (8 : Int32)) (8 : Int32)) (8 : Int32)) (8 : Int32)) (8 : Int32))).toInt32.toInt8.toInt32)) (nar .byte (((XT.ushrL (XT.ushrL (XT.ushrL (XT.ushrL q3 (8 : Int32)) (8 : Int32)) (8 : Int32)) (8 : Int32))).toInt32.toInt8.toInt32)) (nar .byte (((XT.ushrL (XT.ushrL (XT.ushrL q3 (8 : Int32)) (8 : Int32)) (8 : Int32))).toInt32.toInt8.toInt32)) (nar .byte (((XT.ushrL (XT.ushrL q3 (8 : Int32)) (8 : Int32))).toInt32.toInt8.toInt32)) (nar .byte (((XT.ushrL q3 (8 : Int32))).toInt32.toInt8.toInt32)) (nar .byte ((q3).toInt32.toInt8.toInt32)) T124.heap n0 Z1 rfl AV1 F133) (hw _ (List.mem_of_getElem? (i := 57) rfl)) (hw _ (List.mem_of_getElem? (i := 58) rfl)) (hw _ (List.mem_of_getElem? (i := 59) rfl)) (hw _ (List.mem_of_getElem? (i := 60) rfl)) (by decide) (st := []) 0 (Nat.le_of_eq rfl) (by decide) (by decide) (by decide) (by decide) rfl [.ref b1, .ref a1, .int (5 : Int32)] rfl (lenOf pd_105 rfl) rfl at_249 rfl ?_
      intro v135 T135 L135 X135 hQ135
      obtain ⟨rfl, NNs1, exs1⟩ := hQ135
      have NXs1 := Fr.app NX1 NNs1
      refine ow_at (g := (mkF m 252 #[.val (.int q0), .val (.int q1), .val (.int q2), .val (.long q3), .second, .val (.int q4), .val (.int q5), .val (.int (0 : Int32)), .val (.int (0 : Int32)), .val (.ref o1), .val (.int (5 : Int32)), .val (.int q2), .val (.ref a1), .val (.ref b1), .unset] [.int (1 : Int32)])) ?_
      refine ow_ifN K X135 (pc' := 255) at_252 rfl (XT.i0_eq_f (by decide)) ?_
      refine ow_aload K X135 (pc' := 257) o1 at_255 rfl rfl ?_
      refine ow_callV K X135 (pc' := 260) exs1 (y := (⟨"com/example/cardinality/cardinality/value/ByteWriter", "length", "()I"⟩ : MethodName)) (rm13 l Z a0 hw [] o1 (5 : Int32) T124.heap n0 Z1 F130) F128 (hw _ (List.mem_of_getElem? (i := 61) rfl)) (hw _ (List.mem_of_getElem? (i := 62) rfl)) (hw _ (List.mem_of_getElem? (i := 64) rfl)) (hw _ (List.mem_of_getElem? (i := 63) rfl)) (hw _ (List.mem_of_getElem? (i := 2) rfl)) (hw _ (List.mem_of_getElem? (i := 65) rfl)) (by decide) (st := []) 0 (Nat.le_of_eq rfl) (by decide) (by decide) (by decide) (by decide) rfl [] rfl (lenOf pd_13 rfl) rfl at_257 rfl ?_
      intro v136 T136 L136 X136 hQ136
      obtain ⟨rfl, NNt1, ext1⟩ := hQ136
      have NXt1 := Fr.app NXs1 NNt1
      refine ow_at (g := (mkF m 260 #[.val (.int q0), .val (.int q1), .val (.int q2), .val (.long q3), .second, .val (.int q4), .val (.int q5), .val (.int (0 : Int32)), .val (.int (0 : Int32)), .val (.ref o1), .val (.int (5 : Int32)), .val (.int q2), .val (.ref a1), .val (.ref b1), .unset] [.int (5 : Int32)])) ?_
      refine ow_iload K X136 (pc' := 262) (5 : Int32) at_260 rfl rfl ?_
      refine ow_icmpY K X136 (pc' := 267) at_262 (XT.ii_eq_t rfl) (by decide) (by decide) ?_
      refine ow_aload K X136 (pc' := 269) b1 at_267 rfl rfl ?_
      refine ow_iconst K X136 (pc' := 270) (0 : Int32) at_269 rfl (by decide) ?_
      refine ow_aload K X136 (pc' := 272) b1 at_270 rfl rfl ?_
      refine ow_iconst K X136 (pc' := 273) (0 : Int32) at_272 rfl (by decide) ?_
      refine ow_baload K X136 (pc' := 274) ext1 AV1 0 (.int (nar .byte (q1.toInt8.toInt32))) ⟨by decide, by decide⟩ (by decide) rfl at_273 rfl ?_
      refine ow_iconst K X136 (pc' := 275) (1 : Int32) at_274 rfl (by decide) ?_
      refine ow_ixor K X136 (pc' := 276) ((nar .byte (q1.toInt8.toInt32)) ^^^ (1 : Int32)) at_275 rfl rfl ?_
      refine ow_i2b K X136 (pc' := 277) ((((nar .byte (q1.toInt8.toInt32)) ^^^ (1 : Int32))).toInt8.toInt32) at_276 rfl rfl ?_
      refine ow_bastore K X136 (pc' := 278) ext1 AV1 0 [.int (nar .byte (((nar .byte (q1.toInt8.toInt32)) ^^^ (1 : Int32)).toInt8.toInt32)), .int (nar .byte ((XT.ushr q2 (24 : Int32)).toInt8.toInt32)), .int (nar .byte ((XT.ushr q2 (16 : Int32)).toInt8.toInt32)), .int (nar .byte ((XT.ushr q2 (8 : Int32)).toInt8.toInt32)), .int (nar .byte (q2.toInt8.toInt32))] ⟨by decide, by decide⟩ (by decide) (by simp) rfl at_277 rfl ?_
      intro T137 h137 X137 e137 W137 F137
      have F138 : Exa Z h137 o1 "com/example/cardinality/cardinality/value/ByteWriter" := Exa.wr W137 F128
      have F139 : Fld Z h137 o1 "com/example/cardinality/cardinality/value/ByteWriter" "bytes" "[B" (.ref r1) := Fld.other W137 F129 (Or.inl ne125)
      have F140 : Fld Z h137 o1 "com/example/cardinality/cardinality/value/ByteWriter" "length" "I" (.int (5 : Int32)) := Fld.other W137 F130 (Or.inl ne125)
      have F141 : Arv Z h137 r1 k1 .byte N [.int (nar .byte (q1.toInt8.toInt32)), .int (nar .byte ((XT.ushr q2 (24 : Int32)).toInt8.toInt32)), .int (nar .byte ((XT.ushr q2 (16 : Int32)).toInt8.toInt32)), .int (nar .byte ((XT.ushr q2 (8 : Int32)).toInt8.toInt32)), .int (nar .byte (q2.toInt8.toInt32))] (.int 0) := F131.other W137 ne126
      have F142 : Exa Z h137 r1 "[B" := Exa.wr W137 F132
      have F143 : Arv Z h137 a1 k9 .byte (13 : Int32) [.int (nar .byte (q1.toInt8.toInt32)), .int (nar .byte ((XT.ushr q2 (24 : Int32)).toInt8.toInt32)), .int (nar .byte ((XT.ushr q2 (16 : Int32)).toInt8.toInt32)), .int (nar .byte ((XT.ushr q2 (8 : Int32)).toInt8.toInt32)), .int (nar .byte (q2.toInt8.toInt32)), .int (nar .byte (((XT.ushrL (XT.ushrL (XT.ushrL (XT.ushrL (XT.ushrL (XT.ushrL (XT.ushrL q3 (8 : Int32)) (8 : Int32)) (8 : Int32)) (8 : Int32)) (8 : Int32)) (8 : Int32)) (8 : Int32))).toInt32.toInt8.toInt32)), .int (nar .byte (((XT.ushrL (XT.ushrL (XT.ushrL (XT.ushrL (XT.ushrL (XT.ushrL q3 (8 : Int32)) (8 : Int32)) (8 : Int32)) (8 : Int32)) (8 : Int32)) (8 : Int32))).toInt32.toInt8.toInt32)), .int (nar .byte (((XT.ushrL (XT.ushrL (XT.ushrL (XT.ushrL (XT.ushrL q3 (8 : Int32)) (8 : Int32)) (8 : Int32)) (8 : Int32)) (8 : Int32))).toInt32.toInt8.toInt32)), .int (nar .byte (((XT.ushrL (XT.ushrL (XT.ushrL (XT.ushrL q3 (8 : Int32)) (8 : Int32)) (8 : Int32)) (8 : Int32))).toInt32.toInt8.toInt32)), .int (nar .byte (((XT.ushrL (XT.ushrL (XT.ushrL q3 (8 : Int32)) (8 : Int32)) (8 : Int32))).toInt32.toInt8.toInt32)), .int (nar .byte (((XT.ushrL (XT.ushrL q3 (8 : Int32)) (8 : Int32))).toInt32.toInt8.toInt32)), .int (nar .byte (((XT.ushrL q3 (8 : Int32))).toInt32.toInt8.toInt32)), .int (nar .byte ((q3).toInt32.toInt8.toInt32))] (.int 0) := F133.other W137 ne127
      have Z144 : n0 ≤ h137.size := Nat.le_trans Z1 (Nat.le_of_eq W137.size.symm)
      have N145 := Fr.snoc X137 NXt1 g1
      refine ow_aload K X137 (pc' := 280) o1 at_278 rfl rfl ?_
      have own_mn2 : own_min N (5 : Int32) = (5 : Int32) := by
        apply Int32.toInt_inj.mp
        have e : ((5 : Int32)).toInt = 5 := by decide
        rw [own_minI, e]; split <;> omega
      refine ow_callV K X137 (pc' := 283) e137 (y := (⟨"com/example/cardinality/cardinality/value/ByteWriter", "toByteArray", "()[B"⟩ : MethodName)) (rm12 l Z a0 hw [] o1 r1 k1 N (5 : Int32) [.int (nar .byte (q1.toInt8.toInt32)), .int (nar .byte ((XT.ushr q2 (24 : Int32)).toInt8.toInt32)), .int (nar .byte ((XT.ushr q2 (16 : Int32)).toInt8.toInt32)), .int (nar .byte ((XT.ushr q2 (8 : Int32)).toInt8.toInt32)), .int (nar .byte (q2.toInt8.toInt32))] h137 n0 Z144 F138 F139 F140 F141 F142 ge2 gr ne (by decide) (by decide) (by rw [own_mn2]; decide) (by rw [own_mn2]; show 5 ≤ _; omega) (by rw [own_mn2]; decide) (by rw [own_mn2]; exact (Nat.le_refl 5 : 5 ≤ 5))) F138 (hw _ (List.mem_of_getElem? (i := 41) rfl)) (hw _ (List.mem_of_getElem? (i := 42) rfl)) (hw _ (List.mem_of_getElem? (i := 44) rfl)) (hw _ (List.mem_of_getElem? (i := 43) rfl)) (hw _ (List.mem_of_getElem? (i := 2) rfl)) (hw _ (List.mem_of_getElem? (i := 45) rfl)) (by decide) (st := []) 0 (Nat.le_of_eq rfl) (by decide) (by decide) (by decide) (by decide) rfl [] rfl (lenOf pd_12 rfl) rfl at_280 rfl ?_
      intro v146 T146 L146 X146 hQ146
      obtain ⟨b2, kb2, rfl, NN2, Z2, g2, hc2, Kp2, AV2, AE2⟩ := hQ146
      have NX2 := Fr.app N145 NN2
      have ne147 : o1 ≠ b2 := ow_ne F138.lt hc2
      have ne148 : r1 ≠ b2 := ow_ne F141.lt hc2
      have ne149 : a1 ≠ b2 := ow_ne F143.lt hc2
      have F150 : Exa Z T146.heap o1 "com/example/cardinality/cardinality/value/ByteWriter" := F138.keep Kp2
      have F151 : Fld Z T146.heap o1 "com/example/cardinality/cardinality/value/ByteWriter" "bytes" "[B" (.ref r1) := F139.keep Kp2 nin0
      have F152 : Fld Z T146.heap o1 "com/example/cardinality/cardinality/value/ByteWriter" "length" "I" (.int (5 : Int32)) := F140.keep Kp2 nin0
      have F153 : Arv Z T146.heap r1 k1 .byte N [.int (nar .byte (q1.toInt8.toInt32)), .int (nar .byte ((XT.ushr q2 (24 : Int32)).toInt8.toInt32)), .int (nar .byte ((XT.ushr q2 (16 : Int32)).toInt8.toInt32)), .int (nar .byte ((XT.ushr q2 (8 : Int32)).toInt8.toInt32)), .int (nar .byte (q2.toInt8.toInt32))] (.int 0) := F141.keep Kp2 nin0
      have F154 : Exa Z T146.heap r1 "[B" := F142.keep Kp2
      have F155 : Arv Z T146.heap a1 k9 .byte (13 : Int32) [.int (nar .byte (q1.toInt8.toInt32)), .int (nar .byte ((XT.ushr q2 (24 : Int32)).toInt8.toInt32)), .int (nar .byte ((XT.ushr q2 (16 : Int32)).toInt8.toInt32)), .int (nar .byte ((XT.ushr q2 (8 : Int32)).toInt8.toInt32)), .int (nar .byte (q2.toInt8.toInt32)), .int (nar .byte (((XT.ushrL (XT.ushrL (XT.ushrL (XT.ushrL (XT.ushrL (XT.ushrL (XT.ushrL q3 (8 : Int32)) (8 : Int32)) (8 : Int32)) (8 : Int32)) (8 : Int32)) (8 : Int32)) (8 : Int32))).toInt32.toInt8.toInt32)), .int (nar .byte (((XT.ushrL (XT.ushrL (XT.ushrL (XT.ushrL (XT.ushrL (XT.ushrL q3 (8 : Int32)) (8 : Int32)) (8 : Int32)) (8 : Int32)) (8 : Int32)) (8 : Int32))).toInt32.toInt8.toInt32)), .int (nar .byte (((XT.ushrL (XT.ushrL (XT.ushrL (XT.ushrL (XT.ushrL q3 (8 : Int32)) (8 : Int32)) (8 : Int32)) (8 : Int32)) (8 : Int32))).toInt32.toInt8.toInt32)), .int (nar .byte (((XT.ushrL (XT.ushrL (XT.ushrL (XT.ushrL q3 (8 : Int32)) (8 : Int32)) (8 : Int32)) (8 : Int32))).toInt32.toInt8.toInt32)), .int (nar .byte (((XT.ushrL (XT.ushrL (XT.ushrL q3 (8 : Int32)) (8 : Int32)) (8 : Int32))).toInt32.toInt8.toInt32)), .int (nar .byte (((XT.ushrL (XT.ushrL q3 (8 : Int32)) (8 : Int32))).toInt32.toInt8.toInt32)), .int (nar .byte (((XT.ushrL q3 (8 : Int32))).toInt32.toInt8.toInt32)), .int (nar .byte ((q3).toInt32.toInt8.toInt32))] (.int 0) := F143.keep Kp2 nin0
      have Z156 : n0 ≤ T146.heap.size := Nat.le_trans Z144 Kp2.1
      refine ow_at (g := (mkF m 283 #[.val (.int q0), .val (.int q1), .val (.int q2), .val (.long q3), .second, .val (.int q4), .val (.int q5), .val (.int (0 : Int32)), .val (.int (0 : Int32)), .val (.ref o1), .val (.int (5 : Int32)), .val (.int q2), .val (.ref a1), .val (.ref b1), .unset] [.ref b2])) ?_
      refine ow_astore K X146 (pc' := 285) (Ls' := #[.val (.int q0), .val (.int q1), .val (.int q2), .val (.long q3), .second, .val (.int q4), .val (.int q5), .val (.int (0 : Int32)), .val (.int (0 : Int32)), .val (.ref o1), .val (.int (5 : Int32)), .val (.int q2), .val (.ref a1), .val (.ref b1), .val (.ref b2)]) at_283 rfl rfl ?_
      refine ow_aload K X146 (pc' := 287) b2 at_285 rfl rfl ?_
      refine ow_aload K X146 (pc' := 289) a1 at_287 rfl rfl ?_
      refine ow_iload K X146 (pc' := 291) (5 : Int32) at_289 rfl rfl ?_
      refine ow_callS K X146 (pc' := 294) (rfl : T146.heap = T146.heap) (y := (⟨"com/example/cardinality/cardinality/value/ByteWriterToByteArrayPinLaw", "same", "([B[BI)Z"⟩ : MethodName)) (rm105 l Z a0 hw [] b2 a1 (5 : Int32) kb2 k9 (nar .byte (q1.toInt8.toInt32)) (nar .byte ((XT.ushr q2 (24 : Int32)).toInt8.toInt32)) (nar .byte ((XT.ushr q2 (16 : Int32)).toInt8.toInt32)) (nar .byte ((XT.ushr q2 (8 : Int32)).toInt8.toInt32)) (nar .byte (q2.toInt8.toInt32)) (nar .byte (((XT.ushrL (XT.ushrL (XT.ushrL (XT.ushrL (XT.ushrL (XT.ushrL (XT.ushrL q3 (8 : Int32)) (8 : Int32)) (8 : Int32)) (8 : Int32)) (8 : Int32)) (8 : Int32)) (8 : Int32))).toInt32.toInt8.toInt32)) (nar .byte (((XT.ushrL (XT.ushrL (XT.ushrL (XT.ushrL (XT.ushrL (XT.ushrL q3 (8 : Int32)) (8 : Int32)) (8 : Int32)) (8 : Int32)) (8 : Int32)) (8 : Int32))).toInt32.toInt8.toInt32)) (nar .byte (((XT.ushrL (XT.ushrL (XT.ushrL (XT.ushrL (XT.ushrL q3 (8 : Int32)) (8 : Int32)) (8 : Int32)) (8 : Int32)) (8 : Int32))).toInt32.toInt8.toInt32)) (nar .byte (((XT.ushrL (XT.ushrL (XT.ushrL (XT.ushrL q3 (8 : Int32)) (8 : Int32)) (8 : Int32)) (8 : Int32))).toInt32.toInt8.toInt32)) (nar .byte (((XT.ushrL (XT.ushrL (XT.ushrL q3 (8 : Int32)) (8 : Int32)) (8 : Int32))).toInt32.toInt8.toInt32)) (nar .byte (((XT.ushrL (XT.ushrL q3 (8 : Int32)) (8 : Int32))).toInt32.toInt8.toInt32)) (nar .byte (((XT.ushrL q3 (8 : Int32))).toInt32.toInt8.toInt32)) (nar .byte ((q3).toInt32.toInt8.toInt32)) T146.heap n0 Z2 rfl AV2 F155) (hw _ (List.mem_of_getElem? (i := 57) rfl)) (hw _ (List.mem_of_getElem? (i := 58) rfl)) (hw _ (List.mem_of_getElem? (i := 59) rfl)) (hw _ (List.mem_of_getElem? (i := 60) rfl)) (by decide) (st := []) 0 (Nat.le_of_eq rfl) (by decide) (by decide) (by decide) (by decide) rfl [.ref b2, .ref a1, .int (5 : Int32)] rfl (lenOf pd_105 rfl) rfl at_291 rfl ?_
      intro v157 T157 L157 X157 hQ157
      obtain ⟨rfl, NNs2, exs2⟩ := hQ157
      have NXs2 := Fr.app NX2 NNs2
      refine ow_at (g := (mkF m 294 #[.val (.int q0), .val (.int q1), .val (.int q2), .val (.long q3), .second, .val (.int q4), .val (.int q5), .val (.int (0 : Int32)), .val (.int (0 : Int32)), .val (.ref o1), .val (.int (5 : Int32)), .val (.int q2), .val (.ref a1), .val (.ref b1), .val (.ref b2)] [.int (1 : Int32)])) ?_
      refine ow_ifN K X157 (pc' := 297) at_294 rfl (XT.i0_eq_f (by decide)) ?_
      refine ow_aload K X157 (pc' := 299) o1 at_297 rfl rfl ?_
      refine ow_callV K X157 (pc' := 302) exs2 (y := (⟨"com/example/cardinality/cardinality/value/ByteWriter", "length", "()I"⟩ : MethodName)) (rm13 l Z a0 hw [] o1 (5 : Int32) T146.heap n0 Z2 F152) F150 (hw _ (List.mem_of_getElem? (i := 61) rfl)) (hw _ (List.mem_of_getElem? (i := 62) rfl)) (hw _ (List.mem_of_getElem? (i := 64) rfl)) (hw _ (List.mem_of_getElem? (i := 63) rfl)) (hw _ (List.mem_of_getElem? (i := 2) rfl)) (hw _ (List.mem_of_getElem? (i := 65) rfl)) (by decide) (st := []) 0 (Nat.le_of_eq rfl) (by decide) (by decide) (by decide) (by decide) rfl [] rfl (lenOf pd_13 rfl) rfl at_299 rfl ?_
      intro v158 T158 L158 X158 hQ158
      obtain ⟨rfl, NNt2, ext2⟩ := hQ158
      have NXt2 := Fr.app NXs2 NNt2
      refine ow_at (g := (mkF m 302 #[.val (.int q0), .val (.int q1), .val (.int q2), .val (.long q3), .second, .val (.int q4), .val (.int q5), .val (.int (0 : Int32)), .val (.int (0 : Int32)), .val (.ref o1), .val (.int (5 : Int32)), .val (.int q2), .val (.ref a1), .val (.ref b1), .val (.ref b2)] [.int (5 : Int32)])) ?_
      refine ow_iload K X158 (pc' := 304) (5 : Int32) at_302 rfl rfl ?_
      refine ow_icmpN K X158 (pc' := 307) at_304 rfl (XT.ii_ne_f rfl) ?_
      refine ow_iconst K X158 (pc' := 308) (1 : Int32) at_307 rfl (by decide) ?_
      refine ow_goto K X158 (pc' := 312) at_308 (by decide) (by decide) ?_
      exact ow_retI K X158 .boolean rfl (by decide) (Or.inr (Or.inl rfl)) at_312 ⟨rfl, NXt2⟩ (by decide) (by decide)
    · refine ow_ifN K X0 (pc' := 21) at_18 rfl (XT.i0_eq_f hO) ?_
      refine ow_iconst K X0 (pc' := 22) (1 : Int32) at_21 rfl (by decide) ?_
      refine ow_goto K X0 (pc' := 26) at_22 (by decide) (by decide) ?_
      refine ow_istore K X0 (pc' := 28) (Ls' := #[.val (.int q0), .val (.int q1), .val (.int q2), .val (.long q3), .second, .val (.int q4), .val (.int q5), .val (.int (0 : Int32)), .val (.int (1 : Int32)), .unset, .unset, .unset, .unset, .unset, .unset]) at_26 rfl rfl ?_
      refine ow_newO K X0 (pc' := 31) e0 (hw _ (List.mem_of_getElem? (i := 0) rfl)) (hw _ (List.mem_of_getElem? (i := 1) rfl)) (hw _ (List.mem_of_getElem? (i := 2) rfl)) (by decide) (by decide) at_28 rfl ?_
      intro T159 h159 o1 X159 e159 E159 g159 A159 D159
      have ge160 : n0 ≤ o1 := Nat.le_trans Z0 (Nat.le_of_eq g159.symm)
      have Z161 : n0 ≤ h159.size := Nat.le_trans Z0 E159.1
      have F162 : Fld Z h159 o1 "com/example/cardinality/cardinality/value/ByteWriter" "bytes" "[B" (.null) := D159 (Or.inl (hw _ (List.mem_of_getElem? (i := 15) rfl))) (ty := (.array .byte)) (by decide)
      have F163 : Fld Z h159 o1 "com/example/cardinality/cardinality/value/ByteWriter" "length" "I" (.int 0) := D159 (Or.inl (hw _ (List.mem_of_getElem? (i := 26) rfl))) (ty := .int) (by decide)
      refine ow_dup K X159 (pc' := 32) at_31 rfl rfl ?_
      refine ow_iloadN K X159 (pc' := 33) q0 at_32 rfl rfl ?_
      refine ow_bipush K X159 (pc' := 35) (31 : Int32) at_33 rfl (by decide) ?_
      refine ow_iand K X159 (pc' := 36) (q0 &&& (31 : Int32)) at_35 rfl rfl ?_
      have hx31 := own_and31 q0
      have e8 : (8 : Int32).toInt = 8 := by decide
      obtain ⟨N, hN, h8, h31⟩ : ∃ N : Int32, own_max (q0 &&& (31 : Int32)) 8 = N ∧ 8 ≤ N.toInt ∧ N.toInt ≤ 31 := ⟨_, rfl, by rw [own_maxI, e8]; split <;> omega, by rw [own_maxI, e8]; split <;> omega⟩
      have nc := own_clamp (x := N) (by omega)
      refine ow_callP K X159 (pc' := 39) e159 (y := (⟨"com/example/cardinality/cardinality/value/ByteWriter", "<init>", "(I)V"⟩ : MethodName)) (rm4 l Z a0 hw [] o1 (q0 &&& (31 : Int32)) N h159 n0 Z161 A159 F162 F163 ge160 hN h8 h31) rfl (hw _ (List.mem_of_getElem? (i := 3) rfl)) (hw _ (List.mem_of_getElem? (i := 4) rfl)) (hw _ (List.mem_of_getElem? (i := 2) rfl)) (hw _ (List.mem_of_getElem? (i := 5) rfl)) (by decide) (st := [.ref o1]) 1 (Nat.le_of_eq rfl) (by decide) (by decide) (by decide) (by decide) rfl [.int (q0 &&& (31 : Int32))] rfl (lenOf pd_4 rfl) rfl at_36 rfl ?_
      intro v164 T164 L164 X164 hQ164
      obtain ⟨rfl, NNi, Zi, r1, k1, gr, ne, Ei, FBi, FLi, AVi, AEi⟩ := hQ164
      have NXi := Fr.app N0 NNi
      refine ow_at (g := (mkF m 39 #[.val (.int q0), .val (.int q1), .val (.int q2), .val (.long q3), .second, .val (.int q4), .val (.int q5), .val (.int (0 : Int32)), .val (.int (1 : Int32)), .unset, .unset, .unset, .unset, .unset, .unset] [.ref o1])) ?_
      refine ow_astore K X164 (pc' := 41) (Ls' := #[.val (.int q0), .val (.int q1), .val (.int q2), .val (.long q3), .second, .val (.int q4), .val (.int q5), .val (.int (0 : Int32)), .val (.int (1 : Int32)), .val (.ref o1), .unset, .unset, .unset, .unset, .unset]) at_39 rfl rfl ?_
      refine ow_aload K X164 (pc' := 43) o1 at_41 rfl rfl ?_
      refine ow_iloadN K X164 (pc' := 44) q1 at_43 rfl rfl ?_
      refine ow_callV K X164 (pc' := 47) (rfl : T164.heap = T164.heap) (y := (⟨"com/example/cardinality/cardinality/value/ByteWriter", "writeByte", "(I)V"⟩ : MethodName)) (rm7 l Z a0 hw [] o1 q1 r1 k1 N T164.heap n0 Zi Ei FBi FLi AVi AEi ge160 gr ne (own_ng (by omega) (by omega) (by decide) (by decide) (by show (1 : Int) ≤ _ - 0; omega)) (by omega)) Ei (hw _ (List.mem_of_getElem? (i := 16) rfl)) (hw _ (List.mem_of_getElem? (i := 17) rfl)) (hw _ (List.mem_of_getElem? (i := 19) rfl)) (hw _ (List.mem_of_getElem? (i := 18) rfl)) (hw _ (List.mem_of_getElem? (i := 2) rfl)) (hw _ (List.mem_of_getElem? (i := 20) rfl)) (by decide) (st := []) 0 (Nat.le_of_eq rfl) (by decide) (by decide) (by decide) (by decide) rfl [.int q1] rfl (lenOf pd_7 rfl) rfl at_44 rfl ?_
      intro v165 T165 L165 X165 hQ165
      obtain ⟨rfl, NNb, Zb, Eb, FBb, FLb, AVb, AEb⟩ := hQ165
      have NXb := Fr.app NXi NNb
      refine ow_at (g := (mkF m 47 #[.val (.int q0), .val (.int q1), .val (.int q2), .val (.long q3), .second, .val (.int q4), .val (.int q5), .val (.int (0 : Int32)), .val (.int (1 : Int32)), .val (.ref o1), .unset, .unset, .unset, .unset, .unset] [])) ?_
      refine ow_aload K X165 (pc' := 49) o1 at_47 rfl rfl ?_
      refine ow_iloadN K X165 (pc' := 50) q2 at_49 rfl rfl ?_
      refine ow_callV K X165 (pc' := 53) (rfl : T165.heap = T165.heap) (y := (⟨"com/example/cardinality/cardinality/value/ByteWriter", "writeInt", "(I)V"⟩ : MethodName)) (rm9 l Z a0 hw [] o1 q2 r1 k1 N (nar .byte (q1.toInt8.toInt32)) T165.heap n0 Zb Eb FBb FLb AVb AEb ge160 gr ne (own_ng (by omega) (by omega) (by decide) (by decide) (by show (4 : Int) ≤ _ - 1; omega)) (by omega)) Eb (hw _ (List.mem_of_getElem? (i := 27) rfl)) (hw _ (List.mem_of_getElem? (i := 28) rfl)) (hw _ (List.mem_of_getElem? (i := 30) rfl)) (hw _ (List.mem_of_getElem? (i := 29) rfl)) (hw _ (List.mem_of_getElem? (i := 2) rfl)) (hw _ (List.mem_of_getElem? (i := 31) rfl)) (by decide) (st := []) 0 (Nat.le_of_eq rfl) (by decide) (by decide) (by decide) (by decide) rfl [.int q2] rfl (lenOf pd_9 rfl) rfl at_50 rfl ?_
      intro v166 T166 L166 X166 hQ166
      obtain ⟨rfl, NNi, Zi, Ei, FBi, FLi, AVi, AEi⟩ := hQ166
      have NXi := Fr.app NXb NNi
      refine ow_at (g := (mkF m 53 #[.val (.int q0), .val (.int q1), .val (.int q2), .val (.long q3), .second, .val (.int q4), .val (.int q5), .val (.int (0 : Int32)), .val (.int (1 : Int32)), .val (.ref o1), .unset, .unset, .unset, .unset, .unset] [])) ?_
      refine ow_iload K X166 (pc' := 55) (0 : Int32) at_53 rfl rfl ?_
      refine ow_ifY K X166 (pc' := 64) at_55 (XT.i0_eq_t (by decide)) (by decide) (by decide) ?_
      refine ow_iload K X166 (pc' := 66) (1 : Int32) at_64 rfl rfl ?_
      refine ow_ifN K X166 (pc' := 69) at_66 rfl (XT.i0_eq_f (by decide)) ?_
      refine ow_aload K X166 (pc' := 71) o1 at_69 rfl rfl ?_
      refine ow_iconst K X166 (pc' := 72) (1 : Int32) at_71 rfl (by decide) ?_
      refine ow_iload K X166 (pc' := 74) q4 at_72 rfl rfl ?_
      refine ow_callV K X166 (pc' := 77) (rfl : T166.heap = T166.heap) (y := (⟨"com/example/cardinality/cardinality/value/ByteWriter", "writeIntAt", "(II)V"⟩ : MethodName)) (rm10 l Z a0 hw [] o1 (1 : Int32) q4 r1 k1 N (5 : Int32) [.int (nar .byte (q1.toInt8.toInt32)), .int (nar .byte ((XT.ushr q2 (24 : Int32)).toInt8.toInt32)), .int (nar .byte ((XT.ushr q2 (16 : Int32)).toInt8.toInt32)), .int (nar .byte ((XT.ushr q2 (8 : Int32)).toInt8.toInt32)), .int (nar .byte (q2.toInt8.toInt32))] T166.heap n0 Zi Ei FBi FLi AVi AEi ge160 gr ne rfl (by decide) (by omega) (by show 5 ≤ 5; decide)) Ei (hw _ (List.mem_of_getElem? (i := 36) rfl)) (hw _ (List.mem_of_getElem? (i := 37) rfl)) (hw _ (List.mem_of_getElem? (i := 39) rfl)) (hw _ (List.mem_of_getElem? (i := 38) rfl)) (hw _ (List.mem_of_getElem? (i := 2) rfl)) (hw _ (List.mem_of_getElem? (i := 40) rfl)) (by decide) (st := []) 0 (Nat.le_of_eq rfl) (by decide) (by decide) (by decide) (by decide) rfl [.int (1 : Int32), .int q4] rfl (lenOf pd_10 rfl) rfl at_74 rfl ?_
      intro v167 T167 L167 X167 hQ167
      obtain ⟨rfl, NNw, Zw, Ew, FBw, FLw, AVw', AEw⟩ := hQ167
      have NXw := Fr.app NXi NNw
      have AVw : Arv Z T167.heap r1 k1 .byte N [.int (nar .byte (q1.toInt8.toInt32)), .int (nar .byte ((XT.ushr q4 (24 : Int32)).toInt8.toInt32)), .int (nar .byte ((XT.ushr q4 (16 : Int32)).toInt8.toInt32)), .int (nar .byte ((XT.ushr q4 (8 : Int32)).toInt8.toInt32)), .int (nar .byte (q4.toInt8.toInt32))] (.int 0) := AVw'
      refine ow_at (g := (mkF m 77 #[.val (.int q0), .val (.int q1), .val (.int q2), .val (.long q3), .second, .val (.int q4), .val (.int q5), .val (.int (0 : Int32)), .val (.int (1 : Int32)), .val (.ref o1), .unset, .unset, .unset, .unset, .unset] [])) ?_
      refine ow_iload K X167 (pc' := 79) (0 : Int32) at_77 rfl rfl ?_
      refine ow_ifY K X167 (pc' := 87) at_79 (XT.i0_eq_t (by decide)) (by decide) (by decide) ?_
      refine ow_iconst K X167 (pc' := 88) (5 : Int32) at_87 rfl (by decide) ?_
      refine ow_istore K X167 (pc' := 90) (Ls' := #[.val (.int q0), .val (.int q1), .val (.int q2), .val (.long q3), .second, .val (.int q4), .val (.int q5), .val (.int (0 : Int32)), .val (.int (1 : Int32)), .val (.ref o1), .val (.int (5 : Int32)), .unset, .unset, .unset, .unset]) at_88 rfl rfl ?_
      refine ow_iload K X167 (pc' := 92) (1 : Int32) at_90 rfl rfl ?_
      refine ow_ifN K X167 (pc' := 95) at_92 rfl (XT.i0_eq_f (by decide)) ?_
      refine ow_iload K X167 (pc' := 97) q4 at_95 rfl rfl ?_
      refine ow_goto K X167 (pc' := 101) at_97 (by decide) (by decide) ?_
      refine ow_istore K X167 (pc' := 103) (Ls' := #[.val (.int q0), .val (.int q1), .val (.int q2), .val (.long q3), .second, .val (.int q4), .val (.int q5), .val (.int (0 : Int32)), .val (.int (1 : Int32)), .val (.ref o1), .val (.int (5 : Int32)), .val (.int q4), .unset, .unset, .unset]) at_101 rfl rfl ?_
      refine ow_bipush K X167 (pc' := 105) (13 : Int32) at_103 rfl (by decide) ?_
      refine ow_newP K X167 (pc' := 107) (rfl : T167.heap = T167.heap) (hw _ (List.mem_of_getElem? (i := 13) rfl)) (by decide) 13 (by decide) (by decide) (by decide) (by decide) at_105 rfl ?_
      intro T168 h168 k168 a1 X168 e168 E168 g168 A168
      have ne169 : o1 ≠ a1 := ow_ne Ew.lt g168
      have ne170 : r1 ≠ a1 := ow_ne AVw.lt g168
      have ge171 : n0 ≤ a1 := Nat.le_trans Zw (Nat.le_of_eq g168.symm)
      have F172 : Exa Z h168 o1 "com/example/cardinality/cardinality/value/ByteWriter" := Ew.ext E168
      have F173 : Fld Z h168 o1 "com/example/cardinality/cardinality/value/ByteWriter" "bytes" "[B" (.ref r1) := FBw.ext E168
      have F174 : Fld Z h168 o1 "com/example/cardinality/cardinality/value/ByteWriter" "length" "I" (.int (5 : Int32)) := FLw.ext E168
      have F175 : Arv Z h168 r1 k1 .byte N [.int (nar .byte (q1.toInt8.toInt32)), .int (nar .byte ((XT.ushr q4 (24 : Int32)).toInt8.toInt32)), .int (nar .byte ((XT.ushr q4 (16 : Int32)).toInt8.toInt32)), .int (nar .byte ((XT.ushr q4 (8 : Int32)).toInt8.toInt32)), .int (nar .byte (q4.toInt8.toInt32))] (.int 0) := AVw.ext E168
      have F176 : Exa Z h168 r1 "[B" := AEw.ext E168
      have Z177 : n0 ≤ h168.size := Nat.le_trans Zw E168.1
      have F178 : Arv Z h168 a1 k168 .byte (13 : Int32) [.int 0, .int 0, .int 0, .int 0, .int 0, .int 0, .int 0, .int 0, .int 0, .int 0, .int 0, .int 0, .int 0] (.int 0) := Arv.pad A168 (pad_rep [] (.int 0) 13)
      refine ow_astore K X168 (pc' := 109) (Ls' := #[.val (.int q0), .val (.int q1), .val (.int q2), .val (.long q3), .second, .val (.int q4), .val (.int q5), .val (.int (0 : Int32)), .val (.int (1 : Int32)), .val (.ref o1), .val (.int (5 : Int32)), .val (.int q4), .val (.ref a1), .unset, .unset]) at_107 rfl rfl ?_
      refine ow_aload K X168 (pc' := 111) a1 at_109 rfl rfl ?_
      refine ow_iconst K X168 (pc' := 112) (0 : Int32) at_111 rfl (by decide) ?_
      refine ow_iloadN K X168 (pc' := 113) q1 at_112 rfl rfl ?_
      refine ow_i2b K X168 (pc' := 114) ((q1).toInt8.toInt32) at_113 rfl rfl ?_
      refine ow_bastore K X168 (pc' := 115) e168 F178 0 [.int (nar .byte (q1.toInt8.toInt32)), .int 0, .int 0, .int 0, .int 0, .int 0, .int 0, .int 0, .int 0, .int 0, .int 0, .int 0, .int 0] ⟨by decide, by decide⟩ (by decide) (by simp) rfl at_114 rfl ?_
      intro T179 h179 X179 e179 W179 F179
      have F180 : Exa Z h179 o1 "com/example/cardinality/cardinality/value/ByteWriter" := Exa.wr W179 F172
      have F181 : Fld Z h179 o1 "com/example/cardinality/cardinality/value/ByteWriter" "bytes" "[B" (.ref r1) := Fld.other W179 F173 (Or.inl ne169)
      have F182 : Fld Z h179 o1 "com/example/cardinality/cardinality/value/ByteWriter" "length" "I" (.int (5 : Int32)) := Fld.other W179 F174 (Or.inl ne169)
      have F183 : Arv Z h179 r1 k1 .byte N [.int (nar .byte (q1.toInt8.toInt32)), .int (nar .byte ((XT.ushr q4 (24 : Int32)).toInt8.toInt32)), .int (nar .byte ((XT.ushr q4 (16 : Int32)).toInt8.toInt32)), .int (nar .byte ((XT.ushr q4 (8 : Int32)).toInt8.toInt32)), .int (nar .byte (q4.toInt8.toInt32))] (.int 0) := F175.other W179 ne170
      have F184 : Exa Z h179 r1 "[B" := Exa.wr W179 F176
      have Z185 : n0 ≤ h179.size := Nat.le_trans Z177 (Nat.le_of_eq W179.size.symm)
      have N186 := Fr.snoc X179 NXw ge171
      refine ow_aload K X179 (pc' := 117) a1 at_115 rfl rfl ?_
      refine ow_iconst K X179 (pc' := 118) (1 : Int32) at_117 rfl (by decide) ?_
      refine ow_iload K X179 (pc' := 120) q4 at_118 rfl rfl ?_
      refine ow_bipush K X179 (pc' := 122) (24 : Int32) at_120 rfl (by decide) ?_
      refine ow_ishr K X179 (pc' := 123) (q4 >>> ((24 : Int32) &&& 31)) at_122 rfl rfl ?_
      refine ow_i2b K X179 (pc' := 124) (((q4 >>> ((24 : Int32) &&& 31))).toInt8.toInt32) at_123 rfl rfl ?_
      refine ow_bastore K X179 (pc' := 125) e179 F179 1 [.int (nar .byte (q1.toInt8.toInt32)), .int (nar .byte ((XT.ushr q4 (24 : Int32)).toInt8.toInt32)), .int 0, .int 0, .int 0, .int 0, .int 0, .int 0, .int 0, .int 0, .int 0, .int 0, .int 0] ⟨by decide, by decide⟩ (by decide) (by simp) (by rw [own_i24]; rfl) at_124 rfl ?_
      intro T187 h187 X187 e187 W187 F187
      have F188 : Exa Z h187 o1 "com/example/cardinality/cardinality/value/ByteWriter" := Exa.wr W187 F180
      have F189 : Fld Z h187 o1 "com/example/cardinality/cardinality/value/ByteWriter" "bytes" "[B" (.ref r1) := Fld.other W187 F181 (Or.inl ne169)
      have F190 : Fld Z h187 o1 "com/example/cardinality/cardinality/value/ByteWriter" "length" "I" (.int (5 : Int32)) := Fld.other W187 F182 (Or.inl ne169)
      have F191 : Arv Z h187 r1 k1 .byte N [.int (nar .byte (q1.toInt8.toInt32)), .int (nar .byte ((XT.ushr q4 (24 : Int32)).toInt8.toInt32)), .int (nar .byte ((XT.ushr q4 (16 : Int32)).toInt8.toInt32)), .int (nar .byte ((XT.ushr q4 (8 : Int32)).toInt8.toInt32)), .int (nar .byte (q4.toInt8.toInt32))] (.int 0) := F183.other W187 ne170
      have F192 : Exa Z h187 r1 "[B" := Exa.wr W187 F184
      have Z193 : n0 ≤ h187.size := Nat.le_trans Z185 (Nat.le_of_eq W187.size.symm)
      have N194 := Fr.snoc X187 N186 ge171
      refine ow_aload K X187 (pc' := 127) a1 at_125 rfl rfl ?_
      refine ow_iconst K X187 (pc' := 128) (2 : Int32) at_127 rfl (by decide) ?_
      refine ow_iload K X187 (pc' := 130) q4 at_128 rfl rfl ?_
      refine ow_bipush K X187 (pc' := 132) (16 : Int32) at_130 rfl (by decide) ?_
      refine ow_ishr K X187 (pc' := 133) (q4 >>> ((16 : Int32) &&& 31)) at_132 rfl rfl ?_
      refine ow_i2b K X187 (pc' := 134) (((q4 >>> ((16 : Int32) &&& 31))).toInt8.toInt32) at_133 rfl rfl ?_
      refine ow_bastore K X187 (pc' := 135) e187 F187 2 [.int (nar .byte (q1.toInt8.toInt32)), .int (nar .byte ((XT.ushr q4 (24 : Int32)).toInt8.toInt32)), .int (nar .byte ((XT.ushr q4 (16 : Int32)).toInt8.toInt32)), .int 0, .int 0, .int 0, .int 0, .int 0, .int 0, .int 0, .int 0, .int 0, .int 0] ⟨by decide, by decide⟩ (by decide) (by simp) (by rw [own_i16]; rfl) at_134 rfl ?_
      intro T195 h195 X195 e195 W195 F195
      have F196 : Exa Z h195 o1 "com/example/cardinality/cardinality/value/ByteWriter" := Exa.wr W195 F188
      have F197 : Fld Z h195 o1 "com/example/cardinality/cardinality/value/ByteWriter" "bytes" "[B" (.ref r1) := Fld.other W195 F189 (Or.inl ne169)
      have F198 : Fld Z h195 o1 "com/example/cardinality/cardinality/value/ByteWriter" "length" "I" (.int (5 : Int32)) := Fld.other W195 F190 (Or.inl ne169)
      have F199 : Arv Z h195 r1 k1 .byte N [.int (nar .byte (q1.toInt8.toInt32)), .int (nar .byte ((XT.ushr q4 (24 : Int32)).toInt8.toInt32)), .int (nar .byte ((XT.ushr q4 (16 : Int32)).toInt8.toInt32)), .int (nar .byte ((XT.ushr q4 (8 : Int32)).toInt8.toInt32)), .int (nar .byte (q4.toInt8.toInt32))] (.int 0) := F191.other W195 ne170
      have F200 : Exa Z h195 r1 "[B" := Exa.wr W195 F192
      have Z201 : n0 ≤ h195.size := Nat.le_trans Z193 (Nat.le_of_eq W195.size.symm)
      have N202 := Fr.snoc X195 N194 ge171
      refine ow_aload K X195 (pc' := 137) a1 at_135 rfl rfl ?_
      refine ow_iconst K X195 (pc' := 138) (3 : Int32) at_137 rfl (by decide) ?_
      refine ow_iload K X195 (pc' := 140) q4 at_138 rfl rfl ?_
      refine ow_bipush K X195 (pc' := 142) (8 : Int32) at_140 rfl (by decide) ?_
      refine ow_ishr K X195 (pc' := 143) (q4 >>> ((8 : Int32) &&& 31)) at_142 rfl rfl ?_
      refine ow_i2b K X195 (pc' := 144) (((q4 >>> ((8 : Int32) &&& 31))).toInt8.toInt32) at_143 rfl rfl ?_
      refine ow_bastore K X195 (pc' := 145) e195 F195 3 [.int (nar .byte (q1.toInt8.toInt32)), .int (nar .byte ((XT.ushr q4 (24 : Int32)).toInt8.toInt32)), .int (nar .byte ((XT.ushr q4 (16 : Int32)).toInt8.toInt32)), .int (nar .byte ((XT.ushr q4 (8 : Int32)).toInt8.toInt32)), .int 0, .int 0, .int 0, .int 0, .int 0, .int 0, .int 0, .int 0, .int 0] ⟨by decide, by decide⟩ (by decide) (by simp) (by rw [own_i8]; rfl) at_144 rfl ?_
      intro T203 h203 X203 e203 W203 F203
      have F204 : Exa Z h203 o1 "com/example/cardinality/cardinality/value/ByteWriter" := Exa.wr W203 F196
      have F205 : Fld Z h203 o1 "com/example/cardinality/cardinality/value/ByteWriter" "bytes" "[B" (.ref r1) := Fld.other W203 F197 (Or.inl ne169)
      have F206 : Fld Z h203 o1 "com/example/cardinality/cardinality/value/ByteWriter" "length" "I" (.int (5 : Int32)) := Fld.other W203 F198 (Or.inl ne169)
      have F207 : Arv Z h203 r1 k1 .byte N [.int (nar .byte (q1.toInt8.toInt32)), .int (nar .byte ((XT.ushr q4 (24 : Int32)).toInt8.toInt32)), .int (nar .byte ((XT.ushr q4 (16 : Int32)).toInt8.toInt32)), .int (nar .byte ((XT.ushr q4 (8 : Int32)).toInt8.toInt32)), .int (nar .byte (q4.toInt8.toInt32))] (.int 0) := F199.other W203 ne170
      have F208 : Exa Z h203 r1 "[B" := Exa.wr W203 F200
      have Z209 : n0 ≤ h203.size := Nat.le_trans Z201 (Nat.le_of_eq W203.size.symm)
      have N210 := Fr.snoc X203 N202 ge171
      refine ow_aload K X203 (pc' := 147) a1 at_145 rfl rfl ?_
      refine ow_iconst K X203 (pc' := 148) (4 : Int32) at_147 rfl (by decide) ?_
      refine ow_iload K X203 (pc' := 150) q4 at_148 rfl rfl ?_
      refine ow_i2b K X203 (pc' := 151) ((q4).toInt8.toInt32) at_150 rfl rfl ?_
      refine ow_bastore K X203 (pc' := 152) e203 F203 4 [.int (nar .byte (q1.toInt8.toInt32)), .int (nar .byte ((XT.ushr q4 (24 : Int32)).toInt8.toInt32)), .int (nar .byte ((XT.ushr q4 (16 : Int32)).toInt8.toInt32)), .int (nar .byte ((XT.ushr q4 (8 : Int32)).toInt8.toInt32)), .int (nar .byte (q4.toInt8.toInt32)), .int 0, .int 0, .int 0, .int 0, .int 0, .int 0, .int 0, .int 0] ⟨by decide, by decide⟩ (by decide) (by simp) rfl at_151 rfl ?_
      intro T211 h211 X211 e211 W211 F211
      have F212 : Exa Z h211 o1 "com/example/cardinality/cardinality/value/ByteWriter" := Exa.wr W211 F204
      have F213 : Fld Z h211 o1 "com/example/cardinality/cardinality/value/ByteWriter" "bytes" "[B" (.ref r1) := Fld.other W211 F205 (Or.inl ne169)
      have F214 : Fld Z h211 o1 "com/example/cardinality/cardinality/value/ByteWriter" "length" "I" (.int (5 : Int32)) := Fld.other W211 F206 (Or.inl ne169)
      have F215 : Arv Z h211 r1 k1 .byte N [.int (nar .byte (q1.toInt8.toInt32)), .int (nar .byte ((XT.ushr q4 (24 : Int32)).toInt8.toInt32)), .int (nar .byte ((XT.ushr q4 (16 : Int32)).toInt8.toInt32)), .int (nar .byte ((XT.ushr q4 (8 : Int32)).toInt8.toInt32)), .int (nar .byte (q4.toInt8.toInt32))] (.int 0) := F207.other W211 ne170
      have F216 : Exa Z h211 r1 "[B" := Exa.wr W211 F208
      have Z217 : n0 ≤ h211.size := Nat.le_trans Z209 (Nat.le_of_eq W211.size.symm)
      have N218 := Fr.snoc X211 N210 ge171
      refine ow_aload K X211 (pc' := 154) a1 at_152 rfl rfl ?_
      refine ow_iconst K X211 (pc' := 155) (5 : Int32) at_154 rfl (by decide) ?_
      refine ow_lloadN K X211 (pc' := 156) q3 at_155 rfl rfl ?_
      refine ow_bipush K X211 (pc' := 158) (56 : Int32) at_156 rfl (by decide) ?_
      refine ow_lshr K X211 (pc' := 159) (q3 >>> (((56 : Int32)).toInt64 &&& 63)) at_158 rfl rfl ?_
      refine ow_l2i K X211 (pc' := 160) (((q3 >>> (((56 : Int32)).toInt64 &&& 63))).toInt32) at_159 rfl rfl ?_
      refine ow_i2b K X211 (pc' := 161) (((((q3 >>> (((56 : Int32)).toInt64 &&& 63))).toInt32)).toInt8.toInt32) at_160 rfl rfl ?_
      refine ow_bastore K X211 (pc' := 162) e211 F211 5 [.int (nar .byte (q1.toInt8.toInt32)), .int (nar .byte ((XT.ushr q4 (24 : Int32)).toInt8.toInt32)), .int (nar .byte ((XT.ushr q4 (16 : Int32)).toInt8.toInt32)), .int (nar .byte ((XT.ushr q4 (8 : Int32)).toInt8.toInt32)), .int (nar .byte (q4.toInt8.toInt32)), .int (nar .byte (((XT.ushrL (XT.ushrL (XT.ushrL (XT.ushrL (XT.ushrL (XT.ushrL (XT.ushrL q3 (8 : Int32)) (8 : Int32)) (8 : Int32)) (8 : Int32)) (8 : Int32)) (8 : Int32)) (8 : Int32))).toInt32.toInt8.toInt32)), .int 0, .int 0, .int 0, .int 0, .int 0, .int 0, .int 0] ⟨by decide, by decide⟩ (by decide) (by simp) (by rw [own_l7]; rfl) at_161 rfl ?_
      intro T219 h219 X219 e219 W219 F219
      have F220 : Exa Z h219 o1 "com/example/cardinality/cardinality/value/ByteWriter" := Exa.wr W219 F212
      have F221 : Fld Z h219 o1 "com/example/cardinality/cardinality/value/ByteWriter" "bytes" "[B" (.ref r1) := Fld.other W219 F213 (Or.inl ne169)
      have F222 : Fld Z h219 o1 "com/example/cardinality/cardinality/value/ByteWriter" "length" "I" (.int (5 : Int32)) := Fld.other W219 F214 (Or.inl ne169)
      have F223 : Arv Z h219 r1 k1 .byte N [.int (nar .byte (q1.toInt8.toInt32)), .int (nar .byte ((XT.ushr q4 (24 : Int32)).toInt8.toInt32)), .int (nar .byte ((XT.ushr q4 (16 : Int32)).toInt8.toInt32)), .int (nar .byte ((XT.ushr q4 (8 : Int32)).toInt8.toInt32)), .int (nar .byte (q4.toInt8.toInt32))] (.int 0) := F215.other W219 ne170
      have F224 : Exa Z h219 r1 "[B" := Exa.wr W219 F216
      have Z225 : n0 ≤ h219.size := Nat.le_trans Z217 (Nat.le_of_eq W219.size.symm)
      have N226 := Fr.snoc X219 N218 ge171
      refine ow_aload K X219 (pc' := 164) a1 at_162 rfl rfl ?_
      refine ow_bipush K X219 (pc' := 166) (6 : Int32) at_164 rfl (by decide) ?_
      refine ow_lloadN K X219 (pc' := 167) q3 at_166 rfl rfl ?_
      refine ow_bipush K X219 (pc' := 169) (48 : Int32) at_167 rfl (by decide) ?_
      refine ow_lshr K X219 (pc' := 170) (q3 >>> (((48 : Int32)).toInt64 &&& 63)) at_169 rfl rfl ?_
      refine ow_l2i K X219 (pc' := 171) (((q3 >>> (((48 : Int32)).toInt64 &&& 63))).toInt32) at_170 rfl rfl ?_
      refine ow_i2b K X219 (pc' := 172) (((((q3 >>> (((48 : Int32)).toInt64 &&& 63))).toInt32)).toInt8.toInt32) at_171 rfl rfl ?_
      refine ow_bastore K X219 (pc' := 173) e219 F219 6 [.int (nar .byte (q1.toInt8.toInt32)), .int (nar .byte ((XT.ushr q4 (24 : Int32)).toInt8.toInt32)), .int (nar .byte ((XT.ushr q4 (16 : Int32)).toInt8.toInt32)), .int (nar .byte ((XT.ushr q4 (8 : Int32)).toInt8.toInt32)), .int (nar .byte (q4.toInt8.toInt32)), .int (nar .byte (((XT.ushrL (XT.ushrL (XT.ushrL (XT.ushrL (XT.ushrL (XT.ushrL (XT.ushrL q3 (8 : Int32)) (8 : Int32)) (8 : Int32)) (8 : Int32)) (8 : Int32)) (8 : Int32)) (8 : Int32))).toInt32.toInt8.toInt32)), .int (nar .byte (((XT.ushrL (XT.ushrL (XT.ushrL (XT.ushrL (XT.ushrL (XT.ushrL q3 (8 : Int32)) (8 : Int32)) (8 : Int32)) (8 : Int32)) (8 : Int32)) (8 : Int32))).toInt32.toInt8.toInt32)), .int 0, .int 0, .int 0, .int 0, .int 0, .int 0] ⟨by decide, by decide⟩ (by decide) (by simp) (by rw [own_l6]; rfl) at_172 rfl ?_
      intro T227 h227 X227 e227 W227 F227
      have F228 : Exa Z h227 o1 "com/example/cardinality/cardinality/value/ByteWriter" := Exa.wr W227 F220
      have F229 : Fld Z h227 o1 "com/example/cardinality/cardinality/value/ByteWriter" "bytes" "[B" (.ref r1) := Fld.other W227 F221 (Or.inl ne169)
      have F230 : Fld Z h227 o1 "com/example/cardinality/cardinality/value/ByteWriter" "length" "I" (.int (5 : Int32)) := Fld.other W227 F222 (Or.inl ne169)
      have F231 : Arv Z h227 r1 k1 .byte N [.int (nar .byte (q1.toInt8.toInt32)), .int (nar .byte ((XT.ushr q4 (24 : Int32)).toInt8.toInt32)), .int (nar .byte ((XT.ushr q4 (16 : Int32)).toInt8.toInt32)), .int (nar .byte ((XT.ushr q4 (8 : Int32)).toInt8.toInt32)), .int (nar .byte (q4.toInt8.toInt32))] (.int 0) := F223.other W227 ne170
      have F232 : Exa Z h227 r1 "[B" := Exa.wr W227 F224
      have Z233 : n0 ≤ h227.size := Nat.le_trans Z225 (Nat.le_of_eq W227.size.symm)
      have N234 := Fr.snoc X227 N226 ge171
      refine ow_aload K X227 (pc' := 175) a1 at_173 rfl rfl ?_
      refine ow_bipush K X227 (pc' := 177) (7 : Int32) at_175 rfl (by decide) ?_
      refine ow_lloadN K X227 (pc' := 178) q3 at_177 rfl rfl ?_
      refine ow_bipush K X227 (pc' := 180) (40 : Int32) at_178 rfl (by decide) ?_
      refine ow_lshr K X227 (pc' := 181) (q3 >>> (((40 : Int32)).toInt64 &&& 63)) at_180 rfl rfl ?_
      refine ow_l2i K X227 (pc' := 182) (((q3 >>> (((40 : Int32)).toInt64 &&& 63))).toInt32) at_181 rfl rfl ?_
      refine ow_i2b K X227 (pc' := 183) (((((q3 >>> (((40 : Int32)).toInt64 &&& 63))).toInt32)).toInt8.toInt32) at_182 rfl rfl ?_
      refine ow_bastore K X227 (pc' := 184) e227 F227 7 [.int (nar .byte (q1.toInt8.toInt32)), .int (nar .byte ((XT.ushr q4 (24 : Int32)).toInt8.toInt32)), .int (nar .byte ((XT.ushr q4 (16 : Int32)).toInt8.toInt32)), .int (nar .byte ((XT.ushr q4 (8 : Int32)).toInt8.toInt32)), .int (nar .byte (q4.toInt8.toInt32)), .int (nar .byte (((XT.ushrL (XT.ushrL (XT.ushrL (XT.ushrL (XT.ushrL (XT.ushrL (XT.ushrL q3 (8 : Int32)) (8 : Int32)) (8 : Int32)) (8 : Int32)) (8 : Int32)) (8 : Int32)) (8 : Int32))).toInt32.toInt8.toInt32)), .int (nar .byte (((XT.ushrL (XT.ushrL (XT.ushrL (XT.ushrL (XT.ushrL (XT.ushrL q3 (8 : Int32)) (8 : Int32)) (8 : Int32)) (8 : Int32)) (8 : Int32)) (8 : Int32))).toInt32.toInt8.toInt32)), .int (nar .byte (((XT.ushrL (XT.ushrL (XT.ushrL (XT.ushrL (XT.ushrL q3 (8 : Int32)) (8 : Int32)) (8 : Int32)) (8 : Int32)) (8 : Int32))).toInt32.toInt8.toInt32)), .int 0, .int 0, .int 0, .int 0, .int 0] ⟨by decide, by decide⟩ (by decide) (by simp) (by rw [own_l5]; rfl) at_183 rfl ?_
      intro T235 h235 X235 e235 W235 F235
      have F236 : Exa Z h235 o1 "com/example/cardinality/cardinality/value/ByteWriter" := Exa.wr W235 F228
      have F237 : Fld Z h235 o1 "com/example/cardinality/cardinality/value/ByteWriter" "bytes" "[B" (.ref r1) := Fld.other W235 F229 (Or.inl ne169)
      have F238 : Fld Z h235 o1 "com/example/cardinality/cardinality/value/ByteWriter" "length" "I" (.int (5 : Int32)) := Fld.other W235 F230 (Or.inl ne169)
      have F239 : Arv Z h235 r1 k1 .byte N [.int (nar .byte (q1.toInt8.toInt32)), .int (nar .byte ((XT.ushr q4 (24 : Int32)).toInt8.toInt32)), .int (nar .byte ((XT.ushr q4 (16 : Int32)).toInt8.toInt32)), .int (nar .byte ((XT.ushr q4 (8 : Int32)).toInt8.toInt32)), .int (nar .byte (q4.toInt8.toInt32))] (.int 0) := F231.other W235 ne170
      have F240 : Exa Z h235 r1 "[B" := Exa.wr W235 F232
      have Z241 : n0 ≤ h235.size := Nat.le_trans Z233 (Nat.le_of_eq W235.size.symm)
      have N242 := Fr.snoc X235 N234 ge171
      refine ow_aload K X235 (pc' := 186) a1 at_184 rfl rfl ?_
      refine ow_bipush K X235 (pc' := 188) (8 : Int32) at_186 rfl (by decide) ?_
      refine ow_lloadN K X235 (pc' := 189) q3 at_188 rfl rfl ?_
      refine ow_bipush K X235 (pc' := 191) (32 : Int32) at_189 rfl (by decide) ?_
      refine ow_lshr K X235 (pc' := 192) (q3 >>> (((32 : Int32)).toInt64 &&& 63)) at_191 rfl rfl ?_
      refine ow_l2i K X235 (pc' := 193) (((q3 >>> (((32 : Int32)).toInt64 &&& 63))).toInt32) at_192 rfl rfl ?_
      refine ow_i2b K X235 (pc' := 194) (((((q3 >>> (((32 : Int32)).toInt64 &&& 63))).toInt32)).toInt8.toInt32) at_193 rfl rfl ?_
      refine ow_bastore K X235 (pc' := 195) e235 F235 8 [.int (nar .byte (q1.toInt8.toInt32)), .int (nar .byte ((XT.ushr q4 (24 : Int32)).toInt8.toInt32)), .int (nar .byte ((XT.ushr q4 (16 : Int32)).toInt8.toInt32)), .int (nar .byte ((XT.ushr q4 (8 : Int32)).toInt8.toInt32)), .int (nar .byte (q4.toInt8.toInt32)), .int (nar .byte (((XT.ushrL (XT.ushrL (XT.ushrL (XT.ushrL (XT.ushrL (XT.ushrL (XT.ushrL q3 (8 : Int32)) (8 : Int32)) (8 : Int32)) (8 : Int32)) (8 : Int32)) (8 : Int32)) (8 : Int32))).toInt32.toInt8.toInt32)), .int (nar .byte (((XT.ushrL (XT.ushrL (XT.ushrL (XT.ushrL (XT.ushrL (XT.ushrL q3 (8 : Int32)) (8 : Int32)) (8 : Int32)) (8 : Int32)) (8 : Int32)) (8 : Int32))).toInt32.toInt8.toInt32)), .int (nar .byte (((XT.ushrL (XT.ushrL (XT.ushrL (XT.ushrL (XT.ushrL q3 (8 : Int32)) (8 : Int32)) (8 : Int32)) (8 : Int32)) (8 : Int32))).toInt32.toInt8.toInt32)), .int (nar .byte (((XT.ushrL (XT.ushrL (XT.ushrL (XT.ushrL q3 (8 : Int32)) (8 : Int32)) (8 : Int32)) (8 : Int32))).toInt32.toInt8.toInt32)), .int 0, .int 0, .int 0, .int 0] ⟨by decide, by decide⟩ (by decide) (by simp) (by rw [own_l4]; rfl) at_194 rfl ?_
      intro T243 h243 X243 e243 W243 F243
      have F244 : Exa Z h243 o1 "com/example/cardinality/cardinality/value/ByteWriter" := Exa.wr W243 F236
      have F245 : Fld Z h243 o1 "com/example/cardinality/cardinality/value/ByteWriter" "bytes" "[B" (.ref r1) := Fld.other W243 F237 (Or.inl ne169)
      have F246 : Fld Z h243 o1 "com/example/cardinality/cardinality/value/ByteWriter" "length" "I" (.int (5 : Int32)) := Fld.other W243 F238 (Or.inl ne169)
      have F247 : Arv Z h243 r1 k1 .byte N [.int (nar .byte (q1.toInt8.toInt32)), .int (nar .byte ((XT.ushr q4 (24 : Int32)).toInt8.toInt32)), .int (nar .byte ((XT.ushr q4 (16 : Int32)).toInt8.toInt32)), .int (nar .byte ((XT.ushr q4 (8 : Int32)).toInt8.toInt32)), .int (nar .byte (q4.toInt8.toInt32))] (.int 0) := F239.other W243 ne170
      have F248 : Exa Z h243 r1 "[B" := Exa.wr W243 F240
      have Z249 : n0 ≤ h243.size := Nat.le_trans Z241 (Nat.le_of_eq W243.size.symm)
      have N250 := Fr.snoc X243 N242 ge171
      refine ow_aload K X243 (pc' := 197) a1 at_195 rfl rfl ?_
      refine ow_bipush K X243 (pc' := 199) (9 : Int32) at_197 rfl (by decide) ?_
      refine ow_lloadN K X243 (pc' := 200) q3 at_199 rfl rfl ?_
      refine ow_bipush K X243 (pc' := 202) (24 : Int32) at_200 rfl (by decide) ?_
      refine ow_lshr K X243 (pc' := 203) (q3 >>> (((24 : Int32)).toInt64 &&& 63)) at_202 rfl rfl ?_
      refine ow_l2i K X243 (pc' := 204) (((q3 >>> (((24 : Int32)).toInt64 &&& 63))).toInt32) at_203 rfl rfl ?_
      refine ow_i2b K X243 (pc' := 205) (((((q3 >>> (((24 : Int32)).toInt64 &&& 63))).toInt32)).toInt8.toInt32) at_204 rfl rfl ?_
      refine ow_bastore K X243 (pc' := 206) e243 F243 9 [.int (nar .byte (q1.toInt8.toInt32)), .int (nar .byte ((XT.ushr q4 (24 : Int32)).toInt8.toInt32)), .int (nar .byte ((XT.ushr q4 (16 : Int32)).toInt8.toInt32)), .int (nar .byte ((XT.ushr q4 (8 : Int32)).toInt8.toInt32)), .int (nar .byte (q4.toInt8.toInt32)), .int (nar .byte (((XT.ushrL (XT.ushrL (XT.ushrL (XT.ushrL (XT.ushrL (XT.ushrL (XT.ushrL q3 (8 : Int32)) (8 : Int32)) (8 : Int32)) (8 : Int32)) (8 : Int32)) (8 : Int32)) (8 : Int32))).toInt32.toInt8.toInt32)), .int (nar .byte (((XT.ushrL (XT.ushrL (XT.ushrL (XT.ushrL (XT.ushrL (XT.ushrL q3 (8 : Int32)) (8 : Int32)) (8 : Int32)) (8 : Int32)) (8 : Int32)) (8 : Int32))).toInt32.toInt8.toInt32)), .int (nar .byte (((XT.ushrL (XT.ushrL (XT.ushrL (XT.ushrL (XT.ushrL q3 (8 : Int32)) (8 : Int32)) (8 : Int32)) (8 : Int32)) (8 : Int32))).toInt32.toInt8.toInt32)), .int (nar .byte (((XT.ushrL (XT.ushrL (XT.ushrL (XT.ushrL q3 (8 : Int32)) (8 : Int32)) (8 : Int32)) (8 : Int32))).toInt32.toInt8.toInt32)), .int (nar .byte (((XT.ushrL (XT.ushrL (XT.ushrL q3 (8 : Int32)) (8 : Int32)) (8 : Int32))).toInt32.toInt8.toInt32)), .int 0, .int 0, .int 0] ⟨by decide, by decide⟩ (by decide) (by simp) (by rw [own_l3]; rfl) at_205 rfl ?_
      intro T251 h251 X251 e251 W251 F251
      have F252 : Exa Z h251 o1 "com/example/cardinality/cardinality/value/ByteWriter" := Exa.wr W251 F244
      have F253 : Fld Z h251 o1 "com/example/cardinality/cardinality/value/ByteWriter" "bytes" "[B" (.ref r1) := Fld.other W251 F245 (Or.inl ne169)
      have F254 : Fld Z h251 o1 "com/example/cardinality/cardinality/value/ByteWriter" "length" "I" (.int (5 : Int32)) := Fld.other W251 F246 (Or.inl ne169)
      have F255 : Arv Z h251 r1 k1 .byte N [.int (nar .byte (q1.toInt8.toInt32)), .int (nar .byte ((XT.ushr q4 (24 : Int32)).toInt8.toInt32)), .int (nar .byte ((XT.ushr q4 (16 : Int32)).toInt8.toInt32)), .int (nar .byte ((XT.ushr q4 (8 : Int32)).toInt8.toInt32)), .int (nar .byte (q4.toInt8.toInt32))] (.int 0) := F247.other W251 ne170
      have F256 : Exa Z h251 r1 "[B" := Exa.wr W251 F248
      have Z257 : n0 ≤ h251.size := Nat.le_trans Z249 (Nat.le_of_eq W251.size.symm)
      have N258 := Fr.snoc X251 N250 ge171
      refine ow_aload K X251 (pc' := 208) a1 at_206 rfl rfl ?_
      refine ow_bipush K X251 (pc' := 210) (10 : Int32) at_208 rfl (by decide) ?_
      refine ow_lloadN K X251 (pc' := 211) q3 at_210 rfl rfl ?_
      refine ow_bipush K X251 (pc' := 213) (16 : Int32) at_211 rfl (by decide) ?_
      refine ow_lshr K X251 (pc' := 214) (q3 >>> (((16 : Int32)).toInt64 &&& 63)) at_213 rfl rfl ?_
      refine ow_l2i K X251 (pc' := 215) (((q3 >>> (((16 : Int32)).toInt64 &&& 63))).toInt32) at_214 rfl rfl ?_
      refine ow_i2b K X251 (pc' := 216) (((((q3 >>> (((16 : Int32)).toInt64 &&& 63))).toInt32)).toInt8.toInt32) at_215 rfl rfl ?_
      refine ow_bastore K X251 (pc' := 217) e251 F251 10 [.int (nar .byte (q1.toInt8.toInt32)), .int (nar .byte ((XT.ushr q4 (24 : Int32)).toInt8.toInt32)), .int (nar .byte ((XT.ushr q4 (16 : Int32)).toInt8.toInt32)), .int (nar .byte ((XT.ushr q4 (8 : Int32)).toInt8.toInt32)), .int (nar .byte (q4.toInt8.toInt32)), .int (nar .byte (((XT.ushrL (XT.ushrL (XT.ushrL (XT.ushrL (XT.ushrL (XT.ushrL (XT.ushrL q3 (8 : Int32)) (8 : Int32)) (8 : Int32)) (8 : Int32)) (8 : Int32)) (8 : Int32)) (8 : Int32))).toInt32.toInt8.toInt32)), .int (nar .byte (((XT.ushrL (XT.ushrL (XT.ushrL (XT.ushrL (XT.ushrL (XT.ushrL q3 (8 : Int32)) (8 : Int32)) (8 : Int32)) (8 : Int32)) (8 : Int32)) (8 : Int32))).toInt32.toInt8.toInt32)), .int (nar .byte (((XT.ushrL (XT.ushrL (XT.ushrL (XT.ushrL (XT.ushrL q3 (8 : Int32)) (8 : Int32)) (8 : Int32)) (8 : Int32)) (8 : Int32))).toInt32.toInt8.toInt32)), .int (nar .byte (((XT.ushrL (XT.ushrL (XT.ushrL (XT.ushrL q3 (8 : Int32)) (8 : Int32)) (8 : Int32)) (8 : Int32))).toInt32.toInt8.toInt32)), .int (nar .byte (((XT.ushrL (XT.ushrL (XT.ushrL q3 (8 : Int32)) (8 : Int32)) (8 : Int32))).toInt32.toInt8.toInt32)), .int (nar .byte (((XT.ushrL (XT.ushrL q3 (8 : Int32)) (8 : Int32))).toInt32.toInt8.toInt32)), .int 0, .int 0] ⟨by decide, by decide⟩ (by decide) (by simp) (by rw [own_l2]; rfl) at_216 rfl ?_
      intro T259 h259 X259 e259 W259 F259
      have F260 : Exa Z h259 o1 "com/example/cardinality/cardinality/value/ByteWriter" := Exa.wr W259 F252
      have F261 : Fld Z h259 o1 "com/example/cardinality/cardinality/value/ByteWriter" "bytes" "[B" (.ref r1) := Fld.other W259 F253 (Or.inl ne169)
      have F262 : Fld Z h259 o1 "com/example/cardinality/cardinality/value/ByteWriter" "length" "I" (.int (5 : Int32)) := Fld.other W259 F254 (Or.inl ne169)
      have F263 : Arv Z h259 r1 k1 .byte N [.int (nar .byte (q1.toInt8.toInt32)), .int (nar .byte ((XT.ushr q4 (24 : Int32)).toInt8.toInt32)), .int (nar .byte ((XT.ushr q4 (16 : Int32)).toInt8.toInt32)), .int (nar .byte ((XT.ushr q4 (8 : Int32)).toInt8.toInt32)), .int (nar .byte (q4.toInt8.toInt32))] (.int 0) := F255.other W259 ne170
      have F264 : Exa Z h259 r1 "[B" := Exa.wr W259 F256
      have Z265 : n0 ≤ h259.size := Nat.le_trans Z257 (Nat.le_of_eq W259.size.symm)
      have N266 := Fr.snoc X259 N258 ge171
      refine ow_aload K X259 (pc' := 219) a1 at_217 rfl rfl ?_
      refine ow_bipush K X259 (pc' := 221) (11 : Int32) at_219 rfl (by decide) ?_
      refine ow_lloadN K X259 (pc' := 222) q3 at_221 rfl rfl ?_
      refine ow_bipush K X259 (pc' := 224) (8 : Int32) at_222 rfl (by decide) ?_
      refine ow_lshr K X259 (pc' := 225) (q3 >>> (((8 : Int32)).toInt64 &&& 63)) at_224 rfl rfl ?_
      refine ow_l2i K X259 (pc' := 226) (((q3 >>> (((8 : Int32)).toInt64 &&& 63))).toInt32) at_225 rfl rfl ?_
      refine ow_i2b K X259 (pc' := 227) (((((q3 >>> (((8 : Int32)).toInt64 &&& 63))).toInt32)).toInt8.toInt32) at_226 rfl rfl ?_
      refine ow_bastore K X259 (pc' := 228) e259 F259 11 [.int (nar .byte (q1.toInt8.toInt32)), .int (nar .byte ((XT.ushr q4 (24 : Int32)).toInt8.toInt32)), .int (nar .byte ((XT.ushr q4 (16 : Int32)).toInt8.toInt32)), .int (nar .byte ((XT.ushr q4 (8 : Int32)).toInt8.toInt32)), .int (nar .byte (q4.toInt8.toInt32)), .int (nar .byte (((XT.ushrL (XT.ushrL (XT.ushrL (XT.ushrL (XT.ushrL (XT.ushrL (XT.ushrL q3 (8 : Int32)) (8 : Int32)) (8 : Int32)) (8 : Int32)) (8 : Int32)) (8 : Int32)) (8 : Int32))).toInt32.toInt8.toInt32)), .int (nar .byte (((XT.ushrL (XT.ushrL (XT.ushrL (XT.ushrL (XT.ushrL (XT.ushrL q3 (8 : Int32)) (8 : Int32)) (8 : Int32)) (8 : Int32)) (8 : Int32)) (8 : Int32))).toInt32.toInt8.toInt32)), .int (nar .byte (((XT.ushrL (XT.ushrL (XT.ushrL (XT.ushrL (XT.ushrL q3 (8 : Int32)) (8 : Int32)) (8 : Int32)) (8 : Int32)) (8 : Int32))).toInt32.toInt8.toInt32)), .int (nar .byte (((XT.ushrL (XT.ushrL (XT.ushrL (XT.ushrL q3 (8 : Int32)) (8 : Int32)) (8 : Int32)) (8 : Int32))).toInt32.toInt8.toInt32)), .int (nar .byte (((XT.ushrL (XT.ushrL (XT.ushrL q3 (8 : Int32)) (8 : Int32)) (8 : Int32))).toInt32.toInt8.toInt32)), .int (nar .byte (((XT.ushrL (XT.ushrL q3 (8 : Int32)) (8 : Int32))).toInt32.toInt8.toInt32)), .int (nar .byte (((XT.ushrL q3 (8 : Int32))).toInt32.toInt8.toInt32)), .int 0] ⟨by decide, by decide⟩ (by decide) (by simp) (by rw [own_l1]; rfl) at_227 rfl ?_
      intro T267 h267 X267 e267 W267 F267
      have F268 : Exa Z h267 o1 "com/example/cardinality/cardinality/value/ByteWriter" := Exa.wr W267 F260
      have F269 : Fld Z h267 o1 "com/example/cardinality/cardinality/value/ByteWriter" "bytes" "[B" (.ref r1) := Fld.other W267 F261 (Or.inl ne169)
      have F270 : Fld Z h267 o1 "com/example/cardinality/cardinality/value/ByteWriter" "length" "I" (.int (5 : Int32)) := Fld.other W267 F262 (Or.inl ne169)
      have F271 : Arv Z h267 r1 k1 .byte N [.int (nar .byte (q1.toInt8.toInt32)), .int (nar .byte ((XT.ushr q4 (24 : Int32)).toInt8.toInt32)), .int (nar .byte ((XT.ushr q4 (16 : Int32)).toInt8.toInt32)), .int (nar .byte ((XT.ushr q4 (8 : Int32)).toInt8.toInt32)), .int (nar .byte (q4.toInt8.toInt32))] (.int 0) := F263.other W267 ne170
      have F272 : Exa Z h267 r1 "[B" := Exa.wr W267 F264
      have Z273 : n0 ≤ h267.size := Nat.le_trans Z265 (Nat.le_of_eq W267.size.symm)
      have N274 := Fr.snoc X267 N266 ge171
      refine ow_aload K X267 (pc' := 230) a1 at_228 rfl rfl ?_
      refine ow_bipush K X267 (pc' := 232) (12 : Int32) at_230 rfl (by decide) ?_
      refine ow_lloadN K X267 (pc' := 233) q3 at_232 rfl rfl ?_
      refine ow_l2i K X267 (pc' := 234) ((q3).toInt32) at_233 rfl rfl ?_
      refine ow_i2b K X267 (pc' := 235) ((((q3).toInt32)).toInt8.toInt32) at_234 rfl rfl ?_
      refine ow_bastore K X267 (pc' := 236) e267 F267 12 [.int (nar .byte (q1.toInt8.toInt32)), .int (nar .byte ((XT.ushr q4 (24 : Int32)).toInt8.toInt32)), .int (nar .byte ((XT.ushr q4 (16 : Int32)).toInt8.toInt32)), .int (nar .byte ((XT.ushr q4 (8 : Int32)).toInt8.toInt32)), .int (nar .byte (q4.toInt8.toInt32)), .int (nar .byte (((XT.ushrL (XT.ushrL (XT.ushrL (XT.ushrL (XT.ushrL (XT.ushrL (XT.ushrL q3 (8 : Int32)) (8 : Int32)) (8 : Int32)) (8 : Int32)) (8 : Int32)) (8 : Int32)) (8 : Int32))).toInt32.toInt8.toInt32)), .int (nar .byte (((XT.ushrL (XT.ushrL (XT.ushrL (XT.ushrL (XT.ushrL (XT.ushrL q3 (8 : Int32)) (8 : Int32)) (8 : Int32)) (8 : Int32)) (8 : Int32)) (8 : Int32))).toInt32.toInt8.toInt32)), .int (nar .byte (((XT.ushrL (XT.ushrL (XT.ushrL (XT.ushrL (XT.ushrL q3 (8 : Int32)) (8 : Int32)) (8 : Int32)) (8 : Int32)) (8 : Int32))).toInt32.toInt8.toInt32)), .int (nar .byte (((XT.ushrL (XT.ushrL (XT.ushrL (XT.ushrL q3 (8 : Int32)) (8 : Int32)) (8 : Int32)) (8 : Int32))).toInt32.toInt8.toInt32)), .int (nar .byte (((XT.ushrL (XT.ushrL (XT.ushrL q3 (8 : Int32)) (8 : Int32)) (8 : Int32))).toInt32.toInt8.toInt32)), .int (nar .byte (((XT.ushrL (XT.ushrL q3 (8 : Int32)) (8 : Int32))).toInt32.toInt8.toInt32)), .int (nar .byte (((XT.ushrL q3 (8 : Int32))).toInt32.toInt8.toInt32)), .int (nar .byte ((q3).toInt32.toInt8.toInt32))] ⟨by decide, by decide⟩ (by decide) (by simp) rfl at_235 rfl ?_
      intro T275 h275 X275 e275 W275 F275
      have F276 : Exa Z h275 o1 "com/example/cardinality/cardinality/value/ByteWriter" := Exa.wr W275 F268
      have F277 : Fld Z h275 o1 "com/example/cardinality/cardinality/value/ByteWriter" "bytes" "[B" (.ref r1) := Fld.other W275 F269 (Or.inl ne169)
      have F278 : Fld Z h275 o1 "com/example/cardinality/cardinality/value/ByteWriter" "length" "I" (.int (5 : Int32)) := Fld.other W275 F270 (Or.inl ne169)
      have F279 : Arv Z h275 r1 k1 .byte N [.int (nar .byte (q1.toInt8.toInt32)), .int (nar .byte ((XT.ushr q4 (24 : Int32)).toInt8.toInt32)), .int (nar .byte ((XT.ushr q4 (16 : Int32)).toInt8.toInt32)), .int (nar .byte ((XT.ushr q4 (8 : Int32)).toInt8.toInt32)), .int (nar .byte (q4.toInt8.toInt32))] (.int 0) := F271.other W275 ne170
      have F280 : Exa Z h275 r1 "[B" := Exa.wr W275 F272
      have Z281 : n0 ≤ h275.size := Nat.le_trans Z273 (Nat.le_of_eq W275.size.symm)
      have N282 := Fr.snoc X275 N274 ge171
      refine ow_aload K X275 (pc' := 238) o1 at_236 rfl rfl ?_
      have own_mn1 : own_min N (5 : Int32) = (5 : Int32) := by
        apply Int32.toInt_inj.mp
        have e : ((5 : Int32)).toInt = 5 := by decide
        rw [own_minI, e]; split <;> omega
      refine ow_callV K X275 (pc' := 241) e275 (y := (⟨"com/example/cardinality/cardinality/value/ByteWriter", "toByteArray", "()[B"⟩ : MethodName)) (rm12 l Z a0 hw [] o1 r1 k1 N (5 : Int32) [.int (nar .byte (q1.toInt8.toInt32)), .int (nar .byte ((XT.ushr q4 (24 : Int32)).toInt8.toInt32)), .int (nar .byte ((XT.ushr q4 (16 : Int32)).toInt8.toInt32)), .int (nar .byte ((XT.ushr q4 (8 : Int32)).toInt8.toInt32)), .int (nar .byte (q4.toInt8.toInt32))] h275 n0 Z281 F276 F277 F278 F279 F280 ge160 gr ne (by decide) (by decide) (by rw [own_mn1]; decide) (by rw [own_mn1]; show 5 ≤ _; omega) (by rw [own_mn1]; decide) (by rw [own_mn1]; exact (Nat.le_refl 5 : 5 ≤ 5))) F276 (hw _ (List.mem_of_getElem? (i := 41) rfl)) (hw _ (List.mem_of_getElem? (i := 42) rfl)) (hw _ (List.mem_of_getElem? (i := 44) rfl)) (hw _ (List.mem_of_getElem? (i := 43) rfl)) (hw _ (List.mem_of_getElem? (i := 2) rfl)) (hw _ (List.mem_of_getElem? (i := 45) rfl)) (by decide) (st := []) 0 (Nat.le_of_eq rfl) (by decide) (by decide) (by decide) (by decide) rfl [] rfl (lenOf pd_12 rfl) rfl at_238 rfl ?_
      intro v283 T283 L283 X283 hQ283
      obtain ⟨b1, kb1, rfl, NN1, Z1, g1, hc1, Kp1, AV1, AE1⟩ := hQ283
      have NX1 := Fr.app N282 NN1
      have ne284 : o1 ≠ b1 := ow_ne F276.lt hc1
      have ne285 : r1 ≠ b1 := ow_ne F279.lt hc1
      have ne286 : a1 ≠ b1 := ow_ne F275.lt hc1
      have F287 : Exa Z T283.heap o1 "com/example/cardinality/cardinality/value/ByteWriter" := F276.keep Kp1
      have F288 : Fld Z T283.heap o1 "com/example/cardinality/cardinality/value/ByteWriter" "bytes" "[B" (.ref r1) := F277.keep Kp1 nin0
      have F289 : Fld Z T283.heap o1 "com/example/cardinality/cardinality/value/ByteWriter" "length" "I" (.int (5 : Int32)) := F278.keep Kp1 nin0
      have F290 : Arv Z T283.heap r1 k1 .byte N [.int (nar .byte (q1.toInt8.toInt32)), .int (nar .byte ((XT.ushr q4 (24 : Int32)).toInt8.toInt32)), .int (nar .byte ((XT.ushr q4 (16 : Int32)).toInt8.toInt32)), .int (nar .byte ((XT.ushr q4 (8 : Int32)).toInt8.toInt32)), .int (nar .byte (q4.toInt8.toInt32))] (.int 0) := F279.keep Kp1 nin0
      have F291 : Exa Z T283.heap r1 "[B" := F280.keep Kp1
      have F292 : Arv Z T283.heap a1 k168 .byte (13 : Int32) [.int (nar .byte (q1.toInt8.toInt32)), .int (nar .byte ((XT.ushr q4 (24 : Int32)).toInt8.toInt32)), .int (nar .byte ((XT.ushr q4 (16 : Int32)).toInt8.toInt32)), .int (nar .byte ((XT.ushr q4 (8 : Int32)).toInt8.toInt32)), .int (nar .byte (q4.toInt8.toInt32)), .int (nar .byte (((XT.ushrL (XT.ushrL (XT.ushrL (XT.ushrL (XT.ushrL (XT.ushrL (XT.ushrL q3 (8 : Int32)) (8 : Int32)) (8 : Int32)) (8 : Int32)) (8 : Int32)) (8 : Int32)) (8 : Int32))).toInt32.toInt8.toInt32)), .int (nar .byte (((XT.ushrL (XT.ushrL (XT.ushrL (XT.ushrL (XT.ushrL (XT.ushrL q3 (8 : Int32)) (8 : Int32)) (8 : Int32)) (8 : Int32)) (8 : Int32)) (8 : Int32))).toInt32.toInt8.toInt32)), .int (nar .byte (((XT.ushrL (XT.ushrL (XT.ushrL (XT.ushrL (XT.ushrL q3 (8 : Int32)) (8 : Int32)) (8 : Int32)) (8 : Int32)) (8 : Int32))).toInt32.toInt8.toInt32)), .int (nar .byte (((XT.ushrL (XT.ushrL (XT.ushrL (XT.ushrL q3 (8 : Int32)) (8 : Int32)) (8 : Int32)) (8 : Int32))).toInt32.toInt8.toInt32)), .int (nar .byte (((XT.ushrL (XT.ushrL (XT.ushrL q3 (8 : Int32)) (8 : Int32)) (8 : Int32))).toInt32.toInt8.toInt32)), .int (nar .byte (((XT.ushrL (XT.ushrL q3 (8 : Int32)) (8 : Int32))).toInt32.toInt8.toInt32)), .int (nar .byte (((XT.ushrL q3 (8 : Int32))).toInt32.toInt8.toInt32)), .int (nar .byte ((q3).toInt32.toInt8.toInt32))] (.int 0) := F275.keep Kp1 nin0
      have Z293 : n0 ≤ T283.heap.size := Nat.le_trans Z281 Kp1.1
      refine ow_at (g := (mkF m 241 #[.val (.int q0), .val (.int q1), .val (.int q2), .val (.long q3), .second, .val (.int q4), .val (.int q5), .val (.int (0 : Int32)), .val (.int (1 : Int32)), .val (.ref o1), .val (.int (5 : Int32)), .val (.int q4), .val (.ref a1), .unset, .unset] [.ref b1])) ?_
      refine ow_astore K X283 (pc' := 243) (Ls' := #[.val (.int q0), .val (.int q1), .val (.int q2), .val (.long q3), .second, .val (.int q4), .val (.int q5), .val (.int (0 : Int32)), .val (.int (1 : Int32)), .val (.ref o1), .val (.int (5 : Int32)), .val (.int q4), .val (.ref a1), .val (.ref b1), .unset]) at_241 rfl rfl ?_
      refine ow_aload K X283 (pc' := 245) b1 at_243 rfl rfl ?_
      refine ow_aload K X283 (pc' := 247) a1 at_245 rfl rfl ?_
      refine ow_iload K X283 (pc' := 249) (5 : Int32) at_247 rfl rfl ?_
      refine ow_callS K X283 (pc' := 252) (rfl : T283.heap = T283.heap) (y := (⟨"com/example/cardinality/cardinality/value/ByteWriterToByteArrayPinLaw", "same", "([B[BI)Z"⟩ : MethodName)) (rm105 l Z a0 hw [] b1 a1 (5 : Int32) kb1 k168 (nar .byte (q1.toInt8.toInt32)) (nar .byte ((XT.ushr q4 (24 : Int32)).toInt8.toInt32)) (nar .byte ((XT.ushr q4 (16 : Int32)).toInt8.toInt32)) (nar .byte ((XT.ushr q4 (8 : Int32)).toInt8.toInt32)) (nar .byte (q4.toInt8.toInt32)) (nar .byte (((XT.ushrL (XT.ushrL (XT.ushrL (XT.ushrL (XT.ushrL (XT.ushrL (XT.ushrL q3 (8 : Int32)) (8 : Int32)) (8 : Int32)) (8 : Int32)) (8 : Int32)) (8 : Int32)) (8 : Int32))).toInt32.toInt8.toInt32)) (nar .byte (((XT.ushrL (XT.ushrL (XT.ushrL (XT.ushrL (XT.ushrL (XT.ushrL q3 (8 : Int32)) (8 : Int32)) (8 : Int32)) (8 : Int32)) (8 : Int32)) (8 : Int32))).toInt32.toInt8.toInt32)) (nar .byte (((XT.ushrL (XT.ushrL (XT.ushrL (XT.ushrL (XT.ushrL q3 (8 : Int32)) (8 : Int32)) (8 : Int32)) (8 : Int32)) (8 : Int32))).toInt32.toInt8.toInt32)) (nar .byte (((XT.ushrL (XT.ushrL (XT.ushrL (XT.ushrL q3 (8 : Int32)) (8 : Int32)) (8 : Int32)) (8 : Int32))).toInt32.toInt8.toInt32)) (nar .byte (((XT.ushrL (XT.ushrL (XT.ushrL q3 (8 : Int32)) (8 : Int32)) (8 : Int32))).toInt32.toInt8.toInt32)) (nar .byte (((XT.ushrL (XT.ushrL q3 (8 : Int32)) (8 : Int32))).toInt32.toInt8.toInt32)) (nar .byte (((XT.ushrL q3 (8 : Int32))).toInt32.toInt8.toInt32)) (nar .byte ((q3).toInt32.toInt8.toInt32)) T283.heap n0 Z1 rfl AV1 F292) (hw _ (List.mem_of_getElem? (i := 57) rfl)) (hw _ (List.mem_of_getElem? (i := 58) rfl)) (hw _ (List.mem_of_getElem? (i := 59) rfl)) (hw _ (List.mem_of_getElem? (i := 60) rfl)) (by decide) (st := []) 0 (Nat.le_of_eq rfl) (by decide) (by decide) (by decide) (by decide) rfl [.ref b1, .ref a1, .int (5 : Int32)] rfl (lenOf pd_105 rfl) rfl at_249 rfl ?_
      intro v294 T294 L294 X294 hQ294
      obtain ⟨rfl, NNs1, exs1⟩ := hQ294
      have NXs1 := Fr.app NX1 NNs1
      refine ow_at (g := (mkF m 252 #[.val (.int q0), .val (.int q1), .val (.int q2), .val (.long q3), .second, .val (.int q4), .val (.int q5), .val (.int (0 : Int32)), .val (.int (1 : Int32)), .val (.ref o1), .val (.int (5 : Int32)), .val (.int q4), .val (.ref a1), .val (.ref b1), .unset] [.int (1 : Int32)])) ?_
      refine ow_ifN K X294 (pc' := 255) at_252 rfl (XT.i0_eq_f (by decide)) ?_
      refine ow_aload K X294 (pc' := 257) o1 at_255 rfl rfl ?_
      refine ow_callV K X294 (pc' := 260) exs1 (y := (⟨"com/example/cardinality/cardinality/value/ByteWriter", "length", "()I"⟩ : MethodName)) (rm13 l Z a0 hw [] o1 (5 : Int32) T283.heap n0 Z1 F289) F287 (hw _ (List.mem_of_getElem? (i := 61) rfl)) (hw _ (List.mem_of_getElem? (i := 62) rfl)) (hw _ (List.mem_of_getElem? (i := 64) rfl)) (hw _ (List.mem_of_getElem? (i := 63) rfl)) (hw _ (List.mem_of_getElem? (i := 2) rfl)) (hw _ (List.mem_of_getElem? (i := 65) rfl)) (by decide) (st := []) 0 (Nat.le_of_eq rfl) (by decide) (by decide) (by decide) (by decide) rfl [] rfl (lenOf pd_13 rfl) rfl at_257 rfl ?_
      intro v295 T295 L295 X295 hQ295
      obtain ⟨rfl, NNt1, ext1⟩ := hQ295
      have NXt1 := Fr.app NXs1 NNt1
      refine ow_at (g := (mkF m 260 #[.val (.int q0), .val (.int q1), .val (.int q2), .val (.long q3), .second, .val (.int q4), .val (.int q5), .val (.int (0 : Int32)), .val (.int (1 : Int32)), .val (.ref o1), .val (.int (5 : Int32)), .val (.int q4), .val (.ref a1), .val (.ref b1), .unset] [.int (5 : Int32)])) ?_
      refine ow_iload K X295 (pc' := 262) (5 : Int32) at_260 rfl rfl ?_
      refine ow_icmpY K X295 (pc' := 267) at_262 (XT.ii_eq_t rfl) (by decide) (by decide) ?_
      refine ow_aload K X295 (pc' := 269) b1 at_267 rfl rfl ?_
      refine ow_iconst K X295 (pc' := 270) (0 : Int32) at_269 rfl (by decide) ?_
      refine ow_aload K X295 (pc' := 272) b1 at_270 rfl rfl ?_
      refine ow_iconst K X295 (pc' := 273) (0 : Int32) at_272 rfl (by decide) ?_
      refine ow_baload K X295 (pc' := 274) ext1 AV1 0 (.int (nar .byte (q1.toInt8.toInt32))) ⟨by decide, by decide⟩ (by decide) rfl at_273 rfl ?_
      refine ow_iconst K X295 (pc' := 275) (1 : Int32) at_274 rfl (by decide) ?_
      refine ow_ixor K X295 (pc' := 276) ((nar .byte (q1.toInt8.toInt32)) ^^^ (1 : Int32)) at_275 rfl rfl ?_
      refine ow_i2b K X295 (pc' := 277) ((((nar .byte (q1.toInt8.toInt32)) ^^^ (1 : Int32))).toInt8.toInt32) at_276 rfl rfl ?_
      refine ow_bastore K X295 (pc' := 278) ext1 AV1 0 [.int (nar .byte (((nar .byte (q1.toInt8.toInt32)) ^^^ (1 : Int32)).toInt8.toInt32)), .int (nar .byte ((XT.ushr q4 (24 : Int32)).toInt8.toInt32)), .int (nar .byte ((XT.ushr q4 (16 : Int32)).toInt8.toInt32)), .int (nar .byte ((XT.ushr q4 (8 : Int32)).toInt8.toInt32)), .int (nar .byte (q4.toInt8.toInt32))] ⟨by decide, by decide⟩ (by decide) (by simp) rfl at_277 rfl ?_
      intro T296 h296 X296 e296 W296 F296
      have F297 : Exa Z h296 o1 "com/example/cardinality/cardinality/value/ByteWriter" := Exa.wr W296 F287
      have F298 : Fld Z h296 o1 "com/example/cardinality/cardinality/value/ByteWriter" "bytes" "[B" (.ref r1) := Fld.other W296 F288 (Or.inl ne284)
      have F299 : Fld Z h296 o1 "com/example/cardinality/cardinality/value/ByteWriter" "length" "I" (.int (5 : Int32)) := Fld.other W296 F289 (Or.inl ne284)
      have F300 : Arv Z h296 r1 k1 .byte N [.int (nar .byte (q1.toInt8.toInt32)), .int (nar .byte ((XT.ushr q4 (24 : Int32)).toInt8.toInt32)), .int (nar .byte ((XT.ushr q4 (16 : Int32)).toInt8.toInt32)), .int (nar .byte ((XT.ushr q4 (8 : Int32)).toInt8.toInt32)), .int (nar .byte (q4.toInt8.toInt32))] (.int 0) := F290.other W296 ne285
      have F301 : Exa Z h296 r1 "[B" := Exa.wr W296 F291
      have F302 : Arv Z h296 a1 k168 .byte (13 : Int32) [.int (nar .byte (q1.toInt8.toInt32)), .int (nar .byte ((XT.ushr q4 (24 : Int32)).toInt8.toInt32)), .int (nar .byte ((XT.ushr q4 (16 : Int32)).toInt8.toInt32)), .int (nar .byte ((XT.ushr q4 (8 : Int32)).toInt8.toInt32)), .int (nar .byte (q4.toInt8.toInt32)), .int (nar .byte (((XT.ushrL (XT.ushrL (XT.ushrL (XT.ushrL (XT.ushrL (XT.ushrL (XT.ushrL q3 (8 : Int32)) (8 : Int32)) (8 : Int32)) (8 : Int32)) (8 : Int32)) (8 : Int32)) (8 : Int32))).toInt32.toInt8.toInt32)), .int (nar .byte (((XT.ushrL (XT.ushrL (XT.ushrL (XT.ushrL (XT.ushrL (XT.ushrL q3 (8 : Int32)) (8 : Int32)) (8 : Int32)) (8 : Int32)) (8 : Int32)) (8 : Int32))).toInt32.toInt8.toInt32)), .int (nar .byte (((XT.ushrL (XT.ushrL (XT.ushrL (XT.ushrL (XT.ushrL q3 (8 : Int32)) (8 : Int32)) (8 : Int32)) (8 : Int32)) (8 : Int32))).toInt32.toInt8.toInt32)), .int (nar .byte (((XT.ushrL (XT.ushrL (XT.ushrL (XT.ushrL q3 (8 : Int32)) (8 : Int32)) (8 : Int32)) (8 : Int32))).toInt32.toInt8.toInt32)), .int (nar .byte (((XT.ushrL (XT.ushrL (XT.ushrL q3 (8 : Int32)) (8 : Int32)) (8 : Int32))).toInt32.toInt8.toInt32)), .int (nar .byte (((XT.ushrL (XT.ushrL q3 (8 : Int32)) (8 : Int32))).toInt32.toInt8.toInt32)), .int (nar .byte (((XT.ushrL q3 (8 : Int32))).toInt32.toInt8.toInt32)), .int (nar .byte ((q3).toInt32.toInt8.toInt32))] (.int 0) := F292.other W296 ne286
      have Z303 : n0 ≤ h296.size := Nat.le_trans Z1 (Nat.le_of_eq W296.size.symm)
      have N304 := Fr.snoc X296 NXt1 g1
      refine ow_aload K X296 (pc' := 280) o1 at_278 rfl rfl ?_
      have own_mn2 : own_min N (5 : Int32) = (5 : Int32) := by
        apply Int32.toInt_inj.mp
        have e : ((5 : Int32)).toInt = 5 := by decide
        rw [own_minI, e]; split <;> omega
      refine ow_callV K X296 (pc' := 283) e296 (y := (⟨"com/example/cardinality/cardinality/value/ByteWriter", "toByteArray", "()[B"⟩ : MethodName)) (rm12 l Z a0 hw [] o1 r1 k1 N (5 : Int32) [.int (nar .byte (q1.toInt8.toInt32)), .int (nar .byte ((XT.ushr q4 (24 : Int32)).toInt8.toInt32)), .int (nar .byte ((XT.ushr q4 (16 : Int32)).toInt8.toInt32)), .int (nar .byte ((XT.ushr q4 (8 : Int32)).toInt8.toInt32)), .int (nar .byte (q4.toInt8.toInt32))] h296 n0 Z303 F297 F298 F299 F300 F301 ge160 gr ne (by decide) (by decide) (by rw [own_mn2]; decide) (by rw [own_mn2]; show 5 ≤ _; omega) (by rw [own_mn2]; decide) (by rw [own_mn2]; exact (Nat.le_refl 5 : 5 ≤ 5))) F297 (hw _ (List.mem_of_getElem? (i := 41) rfl)) (hw _ (List.mem_of_getElem? (i := 42) rfl)) (hw _ (List.mem_of_getElem? (i := 44) rfl)) (hw _ (List.mem_of_getElem? (i := 43) rfl)) (hw _ (List.mem_of_getElem? (i := 2) rfl)) (hw _ (List.mem_of_getElem? (i := 45) rfl)) (by decide) (st := []) 0 (Nat.le_of_eq rfl) (by decide) (by decide) (by decide) (by decide) rfl [] rfl (lenOf pd_12 rfl) rfl at_280 rfl ?_
      intro v305 T305 L305 X305 hQ305
      obtain ⟨b2, kb2, rfl, NN2, Z2, g2, hc2, Kp2, AV2, AE2⟩ := hQ305
      have NX2 := Fr.app N304 NN2
      have ne306 : o1 ≠ b2 := ow_ne F297.lt hc2
      have ne307 : r1 ≠ b2 := ow_ne F300.lt hc2
      have ne308 : a1 ≠ b2 := ow_ne F302.lt hc2
      have F309 : Exa Z T305.heap o1 "com/example/cardinality/cardinality/value/ByteWriter" := F297.keep Kp2
      have F310 : Fld Z T305.heap o1 "com/example/cardinality/cardinality/value/ByteWriter" "bytes" "[B" (.ref r1) := F298.keep Kp2 nin0
      have F311 : Fld Z T305.heap o1 "com/example/cardinality/cardinality/value/ByteWriter" "length" "I" (.int (5 : Int32)) := F299.keep Kp2 nin0
      have F312 : Arv Z T305.heap r1 k1 .byte N [.int (nar .byte (q1.toInt8.toInt32)), .int (nar .byte ((XT.ushr q4 (24 : Int32)).toInt8.toInt32)), .int (nar .byte ((XT.ushr q4 (16 : Int32)).toInt8.toInt32)), .int (nar .byte ((XT.ushr q4 (8 : Int32)).toInt8.toInt32)), .int (nar .byte (q4.toInt8.toInt32))] (.int 0) := F300.keep Kp2 nin0
      have F313 : Exa Z T305.heap r1 "[B" := F301.keep Kp2
      have F314 : Arv Z T305.heap a1 k168 .byte (13 : Int32) [.int (nar .byte (q1.toInt8.toInt32)), .int (nar .byte ((XT.ushr q4 (24 : Int32)).toInt8.toInt32)), .int (nar .byte ((XT.ushr q4 (16 : Int32)).toInt8.toInt32)), .int (nar .byte ((XT.ushr q4 (8 : Int32)).toInt8.toInt32)), .int (nar .byte (q4.toInt8.toInt32)), .int (nar .byte (((XT.ushrL (XT.ushrL (XT.ushrL (XT.ushrL (XT.ushrL (XT.ushrL (XT.ushrL q3 (8 : Int32)) (8 : Int32)) (8 : Int32)) (8 : Int32)) (8 : Int32)) (8 : Int32)) (8 : Int32))).toInt32.toInt8.toInt32)), .int (nar .byte (((XT.ushrL (XT.ushrL (XT.ushrL (XT.ushrL (XT.ushrL (XT.ushrL q3 (8 : Int32)) (8 : Int32)) (8 : Int32)) (8 : Int32)) (8 : Int32)) (8 : Int32))).toInt32.toInt8.toInt32)), .int (nar .byte (((XT.ushrL (XT.ushrL (XT.ushrL (XT.ushrL (XT.ushrL q3 (8 : Int32)) (8 : Int32)) (8 : Int32)) (8 : Int32)) (8 : Int32))).toInt32.toInt8.toInt32)), .int (nar .byte (((XT.ushrL (XT.ushrL (XT.ushrL (XT.ushrL q3 (8 : Int32)) (8 : Int32)) (8 : Int32)) (8 : Int32))).toInt32.toInt8.toInt32)), .int (nar .byte (((XT.ushrL (XT.ushrL (XT.ushrL q3 (8 : Int32)) (8 : Int32)) (8 : Int32))).toInt32.toInt8.toInt32)), .int (nar .byte (((XT.ushrL (XT.ushrL q3 (8 : Int32)) (8 : Int32))).toInt32.toInt8.toInt32)), .int (nar .byte (((XT.ushrL q3 (8 : Int32))).toInt32.toInt8.toInt32)), .int (nar .byte ((q3).toInt32.toInt8.toInt32))] (.int 0) := F302.keep Kp2 nin0
      have Z315 : n0 ≤ T305.heap.size := Nat.le_trans Z303 Kp2.1
      refine ow_at (g := (mkF m 283 #[.val (.int q0), .val (.int q1), .val (.int q2), .val (.long q3), .second, .val (.int q4), .val (.int q5), .val (.int (0 : Int32)), .val (.int (1 : Int32)), .val (.ref o1), .val (.int (5 : Int32)), .val (.int q4), .val (.ref a1), .val (.ref b1), .unset] [.ref b2])) ?_
      refine ow_astore K X305 (pc' := 285) (Ls' := #[.val (.int q0), .val (.int q1), .val (.int q2), .val (.long q3), .second, .val (.int q4), .val (.int q5), .val (.int (0 : Int32)), .val (.int (1 : Int32)), .val (.ref o1), .val (.int (5 : Int32)), .val (.int q4), .val (.ref a1), .val (.ref b1), .val (.ref b2)]) at_283 rfl rfl ?_
      refine ow_aload K X305 (pc' := 287) b2 at_285 rfl rfl ?_
      refine ow_aload K X305 (pc' := 289) a1 at_287 rfl rfl ?_
      refine ow_iload K X305 (pc' := 291) (5 : Int32) at_289 rfl rfl ?_
      refine ow_callS K X305 (pc' := 294) (rfl : T305.heap = T305.heap) (y := (⟨"com/example/cardinality/cardinality/value/ByteWriterToByteArrayPinLaw", "same", "([B[BI)Z"⟩ : MethodName)) (rm105 l Z a0 hw [] b2 a1 (5 : Int32) kb2 k168 (nar .byte (q1.toInt8.toInt32)) (nar .byte ((XT.ushr q4 (24 : Int32)).toInt8.toInt32)) (nar .byte ((XT.ushr q4 (16 : Int32)).toInt8.toInt32)) (nar .byte ((XT.ushr q4 (8 : Int32)).toInt8.toInt32)) (nar .byte (q4.toInt8.toInt32)) (nar .byte (((XT.ushrL (XT.ushrL (XT.ushrL (XT.ushrL (XT.ushrL (XT.ushrL (XT.ushrL q3 (8 : Int32)) (8 : Int32)) (8 : Int32)) (8 : Int32)) (8 : Int32)) (8 : Int32)) (8 : Int32))).toInt32.toInt8.toInt32)) (nar .byte (((XT.ushrL (XT.ushrL (XT.ushrL (XT.ushrL (XT.ushrL (XT.ushrL q3 (8 : Int32)) (8 : Int32)) (8 : Int32)) (8 : Int32)) (8 : Int32)) (8 : Int32))).toInt32.toInt8.toInt32)) (nar .byte (((XT.ushrL (XT.ushrL (XT.ushrL (XT.ushrL (XT.ushrL q3 (8 : Int32)) (8 : Int32)) (8 : Int32)) (8 : Int32)) (8 : Int32))).toInt32.toInt8.toInt32)) (nar .byte (((XT.ushrL (XT.ushrL (XT.ushrL (XT.ushrL q3 (8 : Int32)) (8 : Int32)) (8 : Int32)) (8 : Int32))).toInt32.toInt8.toInt32)) (nar .byte (((XT.ushrL (XT.ushrL (XT.ushrL q3 (8 : Int32)) (8 : Int32)) (8 : Int32))).toInt32.toInt8.toInt32)) (nar .byte (((XT.ushrL (XT.ushrL q3 (8 : Int32)) (8 : Int32))).toInt32.toInt8.toInt32)) (nar .byte (((XT.ushrL q3 (8 : Int32))).toInt32.toInt8.toInt32)) (nar .byte ((q3).toInt32.toInt8.toInt32)) T305.heap n0 Z2 rfl AV2 F314) (hw _ (List.mem_of_getElem? (i := 57) rfl)) (hw _ (List.mem_of_getElem? (i := 58) rfl)) (hw _ (List.mem_of_getElem? (i := 59) rfl)) (hw _ (List.mem_of_getElem? (i := 60) rfl)) (by decide) (st := []) 0 (Nat.le_of_eq rfl) (by decide) (by decide) (by decide) (by decide) rfl [.ref b2, .ref a1, .int (5 : Int32)] rfl (lenOf pd_105 rfl) rfl at_291 rfl ?_
      intro v316 T316 L316 X316 hQ316
      obtain ⟨rfl, NNs2, exs2⟩ := hQ316
      have NXs2 := Fr.app NX2 NNs2
      refine ow_at (g := (mkF m 294 #[.val (.int q0), .val (.int q1), .val (.int q2), .val (.long q3), .second, .val (.int q4), .val (.int q5), .val (.int (0 : Int32)), .val (.int (1 : Int32)), .val (.ref o1), .val (.int (5 : Int32)), .val (.int q4), .val (.ref a1), .val (.ref b1), .val (.ref b2)] [.int (1 : Int32)])) ?_
      refine ow_ifN K X316 (pc' := 297) at_294 rfl (XT.i0_eq_f (by decide)) ?_
      refine ow_aload K X316 (pc' := 299) o1 at_297 rfl rfl ?_
      refine ow_callV K X316 (pc' := 302) exs2 (y := (⟨"com/example/cardinality/cardinality/value/ByteWriter", "length", "()I"⟩ : MethodName)) (rm13 l Z a0 hw [] o1 (5 : Int32) T305.heap n0 Z2 F311) F309 (hw _ (List.mem_of_getElem? (i := 61) rfl)) (hw _ (List.mem_of_getElem? (i := 62) rfl)) (hw _ (List.mem_of_getElem? (i := 64) rfl)) (hw _ (List.mem_of_getElem? (i := 63) rfl)) (hw _ (List.mem_of_getElem? (i := 2) rfl)) (hw _ (List.mem_of_getElem? (i := 65) rfl)) (by decide) (st := []) 0 (Nat.le_of_eq rfl) (by decide) (by decide) (by decide) (by decide) rfl [] rfl (lenOf pd_13 rfl) rfl at_299 rfl ?_
      intro v317 T317 L317 X317 hQ317
      obtain ⟨rfl, NNt2, ext2⟩ := hQ317
      have NXt2 := Fr.app NXs2 NNt2
      refine ow_at (g := (mkF m 302 #[.val (.int q0), .val (.int q1), .val (.int q2), .val (.long q3), .second, .val (.int q4), .val (.int q5), .val (.int (0 : Int32)), .val (.int (1 : Int32)), .val (.ref o1), .val (.int (5 : Int32)), .val (.int q4), .val (.ref a1), .val (.ref b1), .val (.ref b2)] [.int (5 : Int32)])) ?_
      refine ow_iload K X317 (pc' := 304) (5 : Int32) at_302 rfl rfl ?_
      refine ow_icmpN K X317 (pc' := 307) at_304 rfl (XT.ii_ne_f rfl) ?_
      refine ow_iconst K X317 (pc' := 308) (1 : Int32) at_307 rfl (by decide) ?_
      refine ow_goto K X317 (pc' := 312) at_308 (by decide) (by decide) ?_
      exact ow_retI K X317 .boolean rfl (by decide) (Or.inr (Or.inl rfl)) at_312 ⟨rfl, NXt2⟩ (by decide) (by decide)
  · refine ow_ifN K X0 (pc' := 7) at_4 rfl (XT.i0_eq_f hL) ?_
    refine ow_iconst K X0 (pc' := 8) (1 : Int32) at_7 rfl (by decide) ?_
    refine ow_goto K X0 (pc' := 12) at_8 (by decide) (by decide) ?_
    refine ow_istore K X0 (pc' := 14) (Ls' := #[.val (.int q0), .val (.int q1), .val (.int q2), .val (.long q3), .second, .val (.int q4), .val (.int q5), .val (.int (1 : Int32)), .unset, .unset, .unset, .unset, .unset, .unset, .unset]) at_12 rfl rfl ?_
    refine ow_iload K X0 (pc' := 16) q5 at_14 rfl rfl ?_
    refine ow_iconst K X0 (pc' := 17) (2 : Int32) at_16 rfl (by decide) ?_
    refine ow_iand K X0 (pc' := 18) (q5 &&& (2 : Int32)) at_17 rfl rfl ?_
    by_cases hO : (q5 &&& (2 : Int32)) = 0
    · refine ow_ifY K X0 (pc' := 25) at_18 (XT.i0_eq_t hO) (by decide) (by decide) ?_
      refine ow_iconst K X0 (pc' := 26) (0 : Int32) at_25 rfl (by decide) ?_
      refine ow_istore K X0 (pc' := 28) (Ls' := #[.val (.int q0), .val (.int q1), .val (.int q2), .val (.long q3), .second, .val (.int q4), .val (.int q5), .val (.int (1 : Int32)), .val (.int (0 : Int32)), .unset, .unset, .unset, .unset, .unset, .unset]) at_26 rfl rfl ?_
      refine ow_newO K X0 (pc' := 31) e0 (hw _ (List.mem_of_getElem? (i := 0) rfl)) (hw _ (List.mem_of_getElem? (i := 1) rfl)) (hw _ (List.mem_of_getElem? (i := 2) rfl)) (by decide) (by decide) at_28 rfl ?_
      intro T318 h318 o1 X318 e318 E318 g318 A318 D318
      have ge319 : n0 ≤ o1 := Nat.le_trans Z0 (Nat.le_of_eq g318.symm)
      have Z320 : n0 ≤ h318.size := Nat.le_trans Z0 E318.1
      have F321 : Fld Z h318 o1 "com/example/cardinality/cardinality/value/ByteWriter" "bytes" "[B" (.null) := D318 (Or.inl (hw _ (List.mem_of_getElem? (i := 15) rfl))) (ty := (.array .byte)) (by decide)
      have F322 : Fld Z h318 o1 "com/example/cardinality/cardinality/value/ByteWriter" "length" "I" (.int 0) := D318 (Or.inl (hw _ (List.mem_of_getElem? (i := 26) rfl))) (ty := .int) (by decide)
      refine ow_dup K X318 (pc' := 32) at_31 rfl rfl ?_
      refine ow_iloadN K X318 (pc' := 33) q0 at_32 rfl rfl ?_
      refine ow_bipush K X318 (pc' := 35) (31 : Int32) at_33 rfl (by decide) ?_
      refine ow_iand K X318 (pc' := 36) (q0 &&& (31 : Int32)) at_35 rfl rfl ?_
      have hx31 := own_and31 q0
      have e8 : (8 : Int32).toInt = 8 := by decide
      obtain ⟨N, hN, h8, h31⟩ : ∃ N : Int32, own_max (q0 &&& (31 : Int32)) 8 = N ∧ 8 ≤ N.toInt ∧ N.toInt ≤ 31 := ⟨_, rfl, by rw [own_maxI, e8]; split <;> omega, by rw [own_maxI, e8]; split <;> omega⟩
      have nc := own_clamp (x := N) (by omega)
      refine ow_callP K X318 (pc' := 39) e318 (y := (⟨"com/example/cardinality/cardinality/value/ByteWriter", "<init>", "(I)V"⟩ : MethodName)) (rm4 l Z a0 hw [] o1 (q0 &&& (31 : Int32)) N h318 n0 Z320 A318 F321 F322 ge319 hN h8 h31) rfl (hw _ (List.mem_of_getElem? (i := 3) rfl)) (hw _ (List.mem_of_getElem? (i := 4) rfl)) (hw _ (List.mem_of_getElem? (i := 2) rfl)) (hw _ (List.mem_of_getElem? (i := 5) rfl)) (by decide) (st := [.ref o1]) 1 (Nat.le_of_eq rfl) (by decide) (by decide) (by decide) (by decide) rfl [.int (q0 &&& (31 : Int32))] rfl (lenOf pd_4 rfl) rfl at_36 rfl ?_
      intro v323 T323 L323 X323 hQ323
      obtain ⟨rfl, NNi, Zi, r1, k1, gr, ne, Ei, FBi, FLi, AVi, AEi⟩ := hQ323
      have NXi := Fr.app N0 NNi
      refine ow_at (g := (mkF m 39 #[.val (.int q0), .val (.int q1), .val (.int q2), .val (.long q3), .second, .val (.int q4), .val (.int q5), .val (.int (1 : Int32)), .val (.int (0 : Int32)), .unset, .unset, .unset, .unset, .unset, .unset] [.ref o1])) ?_
      refine ow_astore K X323 (pc' := 41) (Ls' := #[.val (.int q0), .val (.int q1), .val (.int q2), .val (.long q3), .second, .val (.int q4), .val (.int q5), .val (.int (1 : Int32)), .val (.int (0 : Int32)), .val (.ref o1), .unset, .unset, .unset, .unset, .unset]) at_39 rfl rfl ?_
      refine ow_aload K X323 (pc' := 43) o1 at_41 rfl rfl ?_
      refine ow_iloadN K X323 (pc' := 44) q1 at_43 rfl rfl ?_
      refine ow_callV K X323 (pc' := 47) (rfl : T323.heap = T323.heap) (y := (⟨"com/example/cardinality/cardinality/value/ByteWriter", "writeByte", "(I)V"⟩ : MethodName)) (rm7 l Z a0 hw [] o1 q1 r1 k1 N T323.heap n0 Zi Ei FBi FLi AVi AEi ge319 gr ne (own_ng (by omega) (by omega) (by decide) (by decide) (by show (1 : Int) ≤ _ - 0; omega)) (by omega)) Ei (hw _ (List.mem_of_getElem? (i := 16) rfl)) (hw _ (List.mem_of_getElem? (i := 17) rfl)) (hw _ (List.mem_of_getElem? (i := 19) rfl)) (hw _ (List.mem_of_getElem? (i := 18) rfl)) (hw _ (List.mem_of_getElem? (i := 2) rfl)) (hw _ (List.mem_of_getElem? (i := 20) rfl)) (by decide) (st := []) 0 (Nat.le_of_eq rfl) (by decide) (by decide) (by decide) (by decide) rfl [.int q1] rfl (lenOf pd_7 rfl) rfl at_44 rfl ?_
      intro v324 T324 L324 X324 hQ324
      obtain ⟨rfl, NNb, Zb, Eb, FBb, FLb, AVb, AEb⟩ := hQ324
      have NXb := Fr.app NXi NNb
      refine ow_at (g := (mkF m 47 #[.val (.int q0), .val (.int q1), .val (.int q2), .val (.long q3), .second, .val (.int q4), .val (.int q5), .val (.int (1 : Int32)), .val (.int (0 : Int32)), .val (.ref o1), .unset, .unset, .unset, .unset, .unset] [])) ?_
      refine ow_aload K X324 (pc' := 49) o1 at_47 rfl rfl ?_
      refine ow_iloadN K X324 (pc' := 50) q2 at_49 rfl rfl ?_
      refine ow_callV K X324 (pc' := 53) (rfl : T324.heap = T324.heap) (y := (⟨"com/example/cardinality/cardinality/value/ByteWriter", "writeInt", "(I)V"⟩ : MethodName)) (rm9 l Z a0 hw [] o1 q2 r1 k1 N (nar .byte (q1.toInt8.toInt32)) T324.heap n0 Zb Eb FBb FLb AVb AEb ge319 gr ne (own_ng (by omega) (by omega) (by decide) (by decide) (by show (4 : Int) ≤ _ - 1; omega)) (by omega)) Eb (hw _ (List.mem_of_getElem? (i := 27) rfl)) (hw _ (List.mem_of_getElem? (i := 28) rfl)) (hw _ (List.mem_of_getElem? (i := 30) rfl)) (hw _ (List.mem_of_getElem? (i := 29) rfl)) (hw _ (List.mem_of_getElem? (i := 2) rfl)) (hw _ (List.mem_of_getElem? (i := 31) rfl)) (by decide) (st := []) 0 (Nat.le_of_eq rfl) (by decide) (by decide) (by decide) (by decide) rfl [.int q2] rfl (lenOf pd_9 rfl) rfl at_50 rfl ?_
      intro v325 T325 L325 X325 hQ325
      obtain ⟨rfl, NNi, Zi, Ei, FBi, FLi, AVi, AEi⟩ := hQ325
      have NXi := Fr.app NXb NNi
      refine ow_at (g := (mkF m 53 #[.val (.int q0), .val (.int q1), .val (.int q2), .val (.long q3), .second, .val (.int q4), .val (.int q5), .val (.int (1 : Int32)), .val (.int (0 : Int32)), .val (.ref o1), .unset, .unset, .unset, .unset, .unset] [])) ?_
      refine ow_iload K X325 (pc' := 55) (1 : Int32) at_53 rfl rfl ?_
      refine ow_ifN K X325 (pc' := 58) at_55 rfl (XT.i0_eq_f (by decide)) ?_
      refine ow_aload K X325 (pc' := 60) o1 at_58 rfl rfl ?_
      refine ow_lloadN K X325 (pc' := 61) q3 at_60 rfl rfl ?_
      refine ow_callV K X325 (pc' := 64) (rfl : T325.heap = T325.heap) (y := (⟨"com/example/cardinality/cardinality/value/ByteWriter", "writeLong", "(J)V"⟩ : MethodName)) (rm11 l Z a0 hw [] o1 q3 r1 k1 N (nar .byte (q1.toInt8.toInt32)) (nar .byte ((XT.ushr q2 (24 : Int32)).toInt8.toInt32)) (nar .byte ((XT.ushr q2 (16 : Int32)).toInt8.toInt32)) (nar .byte ((XT.ushr q2 (8 : Int32)).toInt8.toInt32)) (nar .byte (q2.toInt8.toInt32)) T325.heap n0 Zi Ei FBi FLi AVi AEi ge319 gr ne h8 h31) Ei (hw _ (List.mem_of_getElem? (i := 66) rfl)) (hw _ (List.mem_of_getElem? (i := 67) rfl)) (hw _ (List.mem_of_getElem? (i := 69) rfl)) (hw _ (List.mem_of_getElem? (i := 68) rfl)) (hw _ (List.mem_of_getElem? (i := 2) rfl)) (hw _ (List.mem_of_getElem? (i := 70) rfl)) (by decide) (st := []) 0 (Nat.le_of_eq rfl) (by decide) (by decide) (by decide) (by decide) rfl [.long q3] rfl (lenOf pd_11 rfl) rfl at_61 rfl ?_
      intro v326 T326 L326 X326 hQ326
      obtain ⟨r2, k2, N2, rfl, NNl, Zl, gr2, ne2, h13, h31', El, FBl, FLl, AVl, AEl⟩ := hQ326
      have NXl := Fr.app NXi NNl
      have nc2 := own_clamp (x := N2) (by omega)
      refine ow_at (g := (mkF m 64 #[.val (.int q0), .val (.int q1), .val (.int q2), .val (.long q3), .second, .val (.int q4), .val (.int q5), .val (.int (1 : Int32)), .val (.int (0 : Int32)), .val (.ref o1), .unset, .unset, .unset, .unset, .unset] [])) ?_
      refine ow_iload K X326 (pc' := 66) (0 : Int32) at_64 rfl rfl ?_
      refine ow_ifY K X326 (pc' := 77) at_66 (XT.i0_eq_t (by decide)) (by decide) (by decide) ?_
      refine ow_iload K X326 (pc' := 79) (1 : Int32) at_77 rfl rfl ?_
      refine ow_ifN K X326 (pc' := 82) at_79 rfl (XT.i0_eq_f (by decide)) ?_
      refine ow_bipush K X326 (pc' := 84) (13 : Int32) at_82 rfl (by decide) ?_
      refine ow_goto K X326 (pc' := 88) at_84 (by decide) (by decide) ?_
      refine ow_istore K X326 (pc' := 90) (Ls' := #[.val (.int q0), .val (.int q1), .val (.int q2), .val (.long q3), .second, .val (.int q4), .val (.int q5), .val (.int (1 : Int32)), .val (.int (0 : Int32)), .val (.ref o1), .val (.int (13 : Int32)), .unset, .unset, .unset, .unset]) at_88 rfl rfl ?_
      refine ow_iload K X326 (pc' := 92) (0 : Int32) at_90 rfl rfl ?_
      refine ow_ifY K X326 (pc' := 100) at_92 (XT.i0_eq_t (by decide)) (by decide) (by decide) ?_
      refine ow_iloadN K X326 (pc' := 101) q2 at_100 rfl rfl ?_
      refine ow_istore K X326 (pc' := 103) (Ls' := #[.val (.int q0), .val (.int q1), .val (.int q2), .val (.long q3), .second, .val (.int q4), .val (.int q5), .val (.int (1 : Int32)), .val (.int (0 : Int32)), .val (.ref o1), .val (.int (13 : Int32)), .val (.int q2), .unset, .unset, .unset]) at_101 rfl rfl ?_
      refine ow_bipush K X326 (pc' := 105) (13 : Int32) at_103 rfl (by decide) ?_
      refine ow_newP K X326 (pc' := 107) (rfl : T326.heap = T326.heap) (hw _ (List.mem_of_getElem? (i := 13) rfl)) (by decide) 13 (by decide) (by decide) (by decide) (by decide) at_105 rfl ?_
      intro T327 h327 k327 a1 X327 e327 E327 g327 A327
      have ne328 : o1 ≠ a1 := ow_ne El.lt g327
      have ne329 : r2 ≠ a1 := ow_ne AVl.lt g327
      have ge330 : n0 ≤ a1 := Nat.le_trans Zl (Nat.le_of_eq g327.symm)
      have F331 : Exa Z h327 o1 "com/example/cardinality/cardinality/value/ByteWriter" := El.ext E327
      have F332 : Fld Z h327 o1 "com/example/cardinality/cardinality/value/ByteWriter" "bytes" "[B" (.ref r2) := FBl.ext E327
      have F333 : Fld Z h327 o1 "com/example/cardinality/cardinality/value/ByteWriter" "length" "I" (.int (13 : Int32)) := FLl.ext E327
      have F334 : Arv Z h327 r2 k2 .byte N2 [.int (nar .byte (q1.toInt8.toInt32)), .int (nar .byte ((XT.ushr q2 (24 : Int32)).toInt8.toInt32)), .int (nar .byte ((XT.ushr q2 (16 : Int32)).toInt8.toInt32)), .int (nar .byte ((XT.ushr q2 (8 : Int32)).toInt8.toInt32)), .int (nar .byte (q2.toInt8.toInt32)), .int (nar .byte (((XT.ushrL (XT.ushrL (XT.ushrL (XT.ushrL (XT.ushrL (XT.ushrL (XT.ushrL q3 (8 : Int32)) (8 : Int32)) (8 : Int32)) (8 : Int32)) (8 : Int32)) (8 : Int32)) (8 : Int32))).toInt32.toInt8.toInt32)), .int (nar .byte (((XT.ushrL (XT.ushrL (XT.ushrL (XT.ushrL (XT.ushrL (XT.ushrL q3 (8 : Int32)) (8 : Int32)) (8 : Int32)) (8 : Int32)) (8 : Int32)) (8 : Int32))).toInt32.toInt8.toInt32)), .int (nar .byte (((XT.ushrL (XT.ushrL (XT.ushrL (XT.ushrL (XT.ushrL q3 (8 : Int32)) (8 : Int32)) (8 : Int32)) (8 : Int32)) (8 : Int32))).toInt32.toInt8.toInt32)), .int (nar .byte (((XT.ushrL (XT.ushrL (XT.ushrL (XT.ushrL q3 (8 : Int32)) (8 : Int32)) (8 : Int32)) (8 : Int32))).toInt32.toInt8.toInt32)), .int (nar .byte (((XT.ushrL (XT.ushrL (XT.ushrL q3 (8 : Int32)) (8 : Int32)) (8 : Int32))).toInt32.toInt8.toInt32)), .int (nar .byte (((XT.ushrL (XT.ushrL q3 (8 : Int32)) (8 : Int32))).toInt32.toInt8.toInt32)), .int (nar .byte (((XT.ushrL q3 (8 : Int32))).toInt32.toInt8.toInt32)), .int (nar .byte ((q3).toInt32.toInt8.toInt32))] (.int 0) := AVl.ext E327
      have F335 : Exa Z h327 r2 "[B" := AEl.ext E327
      have Z336 : n0 ≤ h327.size := Nat.le_trans Zl E327.1
      have F337 : Arv Z h327 a1 k327 .byte (13 : Int32) [.int 0, .int 0, .int 0, .int 0, .int 0, .int 0, .int 0, .int 0, .int 0, .int 0, .int 0, .int 0, .int 0] (.int 0) := Arv.pad A327 (pad_rep [] (.int 0) 13)
      refine ow_astore K X327 (pc' := 109) (Ls' := #[.val (.int q0), .val (.int q1), .val (.int q2), .val (.long q3), .second, .val (.int q4), .val (.int q5), .val (.int (1 : Int32)), .val (.int (0 : Int32)), .val (.ref o1), .val (.int (13 : Int32)), .val (.int q2), .val (.ref a1), .unset, .unset]) at_107 rfl rfl ?_
      refine ow_aload K X327 (pc' := 111) a1 at_109 rfl rfl ?_
      refine ow_iconst K X327 (pc' := 112) (0 : Int32) at_111 rfl (by decide) ?_
      refine ow_iloadN K X327 (pc' := 113) q1 at_112 rfl rfl ?_
      refine ow_i2b K X327 (pc' := 114) ((q1).toInt8.toInt32) at_113 rfl rfl ?_
      refine ow_bastore K X327 (pc' := 115) e327 F337 0 [.int (nar .byte (q1.toInt8.toInt32)), .int 0, .int 0, .int 0, .int 0, .int 0, .int 0, .int 0, .int 0, .int 0, .int 0, .int 0, .int 0] ⟨by decide, by decide⟩ (by decide) (by simp) rfl at_114 rfl ?_
      intro T338 h338 X338 e338 W338 F338
      have F339 : Exa Z h338 o1 "com/example/cardinality/cardinality/value/ByteWriter" := Exa.wr W338 F331
      have F340 : Fld Z h338 o1 "com/example/cardinality/cardinality/value/ByteWriter" "bytes" "[B" (.ref r2) := Fld.other W338 F332 (Or.inl ne328)
      have F341 : Fld Z h338 o1 "com/example/cardinality/cardinality/value/ByteWriter" "length" "I" (.int (13 : Int32)) := Fld.other W338 F333 (Or.inl ne328)
      have F342 : Arv Z h338 r2 k2 .byte N2 [.int (nar .byte (q1.toInt8.toInt32)), .int (nar .byte ((XT.ushr q2 (24 : Int32)).toInt8.toInt32)), .int (nar .byte ((XT.ushr q2 (16 : Int32)).toInt8.toInt32)), .int (nar .byte ((XT.ushr q2 (8 : Int32)).toInt8.toInt32)), .int (nar .byte (q2.toInt8.toInt32)), .int (nar .byte (((XT.ushrL (XT.ushrL (XT.ushrL (XT.ushrL (XT.ushrL (XT.ushrL (XT.ushrL q3 (8 : Int32)) (8 : Int32)) (8 : Int32)) (8 : Int32)) (8 : Int32)) (8 : Int32)) (8 : Int32))).toInt32.toInt8.toInt32)), .int (nar .byte (((XT.ushrL (XT.ushrL (XT.ushrL (XT.ushrL (XT.ushrL (XT.ushrL q3 (8 : Int32)) (8 : Int32)) (8 : Int32)) (8 : Int32)) (8 : Int32)) (8 : Int32))).toInt32.toInt8.toInt32)), .int (nar .byte (((XT.ushrL (XT.ushrL (XT.ushrL (XT.ushrL (XT.ushrL q3 (8 : Int32)) (8 : Int32)) (8 : Int32)) (8 : Int32)) (8 : Int32))).toInt32.toInt8.toInt32)), .int (nar .byte (((XT.ushrL (XT.ushrL (XT.ushrL (XT.ushrL q3 (8 : Int32)) (8 : Int32)) (8 : Int32)) (8 : Int32))).toInt32.toInt8.toInt32)), .int (nar .byte (((XT.ushrL (XT.ushrL (XT.ushrL q3 (8 : Int32)) (8 : Int32)) (8 : Int32))).toInt32.toInt8.toInt32)), .int (nar .byte (((XT.ushrL (XT.ushrL q3 (8 : Int32)) (8 : Int32))).toInt32.toInt8.toInt32)), .int (nar .byte (((XT.ushrL q3 (8 : Int32))).toInt32.toInt8.toInt32)), .int (nar .byte ((q3).toInt32.toInt8.toInt32))] (.int 0) := F334.other W338 ne329
      have F343 : Exa Z h338 r2 "[B" := Exa.wr W338 F335
      have Z344 : n0 ≤ h338.size := Nat.le_trans Z336 (Nat.le_of_eq W338.size.symm)
      have N345 := Fr.snoc X338 NXl ge330
      refine ow_aload K X338 (pc' := 117) a1 at_115 rfl rfl ?_
      refine ow_iconst K X338 (pc' := 118) (1 : Int32) at_117 rfl (by decide) ?_
      refine ow_iload K X338 (pc' := 120) q2 at_118 rfl rfl ?_
      refine ow_bipush K X338 (pc' := 122) (24 : Int32) at_120 rfl (by decide) ?_
      refine ow_ishr K X338 (pc' := 123) (q2 >>> ((24 : Int32) &&& 31)) at_122 rfl rfl ?_
      refine ow_i2b K X338 (pc' := 124) (((q2 >>> ((24 : Int32) &&& 31))).toInt8.toInt32) at_123 rfl rfl ?_
      refine ow_bastore K X338 (pc' := 125) e338 F338 1 [.int (nar .byte (q1.toInt8.toInt32)), .int (nar .byte ((XT.ushr q2 (24 : Int32)).toInt8.toInt32)), .int 0, .int 0, .int 0, .int 0, .int 0, .int 0, .int 0, .int 0, .int 0, .int 0, .int 0] ⟨by decide, by decide⟩ (by decide) (by simp) (by rw [own_i24]; rfl) at_124 rfl ?_
      intro T346 h346 X346 e346 W346 F346
      have F347 : Exa Z h346 o1 "com/example/cardinality/cardinality/value/ByteWriter" := Exa.wr W346 F339
      have F348 : Fld Z h346 o1 "com/example/cardinality/cardinality/value/ByteWriter" "bytes" "[B" (.ref r2) := Fld.other W346 F340 (Or.inl ne328)
      have F349 : Fld Z h346 o1 "com/example/cardinality/cardinality/value/ByteWriter" "length" "I" (.int (13 : Int32)) := Fld.other W346 F341 (Or.inl ne328)
      have F350 : Arv Z h346 r2 k2 .byte N2 [.int (nar .byte (q1.toInt8.toInt32)), .int (nar .byte ((XT.ushr q2 (24 : Int32)).toInt8.toInt32)), .int (nar .byte ((XT.ushr q2 (16 : Int32)).toInt8.toInt32)), .int (nar .byte ((XT.ushr q2 (8 : Int32)).toInt8.toInt32)), .int (nar .byte (q2.toInt8.toInt32)), .int (nar .byte (((XT.ushrL (XT.ushrL (XT.ushrL (XT.ushrL (XT.ushrL (XT.ushrL (XT.ushrL q3 (8 : Int32)) (8 : Int32)) (8 : Int32)) (8 : Int32)) (8 : Int32)) (8 : Int32)) (8 : Int32))).toInt32.toInt8.toInt32)), .int (nar .byte (((XT.ushrL (XT.ushrL (XT.ushrL (XT.ushrL (XT.ushrL (XT.ushrL q3 (8 : Int32)) (8 : Int32)) (8 : Int32)) (8 : Int32)) (8 : Int32)) (8 : Int32))).toInt32.toInt8.toInt32)), .int (nar .byte (((XT.ushrL (XT.ushrL (XT.ushrL (XT.ushrL (XT.ushrL q3 (8 : Int32)) (8 : Int32)) (8 : Int32)) (8 : Int32)) (8 : Int32))).toInt32.toInt8.toInt32)), .int (nar .byte (((XT.ushrL (XT.ushrL (XT.ushrL (XT.ushrL q3 (8 : Int32)) (8 : Int32)) (8 : Int32)) (8 : Int32))).toInt32.toInt8.toInt32)), .int (nar .byte (((XT.ushrL (XT.ushrL (XT.ushrL q3 (8 : Int32)) (8 : Int32)) (8 : Int32))).toInt32.toInt8.toInt32)), .int (nar .byte (((XT.ushrL (XT.ushrL q3 (8 : Int32)) (8 : Int32))).toInt32.toInt8.toInt32)), .int (nar .byte (((XT.ushrL q3 (8 : Int32))).toInt32.toInt8.toInt32)), .int (nar .byte ((q3).toInt32.toInt8.toInt32))] (.int 0) := F342.other W346 ne329
      have F351 : Exa Z h346 r2 "[B" := Exa.wr W346 F343
      have Z352 : n0 ≤ h346.size := Nat.le_trans Z344 (Nat.le_of_eq W346.size.symm)
      have N353 := Fr.snoc X346 N345 ge330
      refine ow_aload K X346 (pc' := 127) a1 at_125 rfl rfl ?_
      refine ow_iconst K X346 (pc' := 128) (2 : Int32) at_127 rfl (by decide) ?_
      refine ow_iload K X346 (pc' := 130) q2 at_128 rfl rfl ?_
      refine ow_bipush K X346 (pc' := 132) (16 : Int32) at_130 rfl (by decide) ?_
      refine ow_ishr K X346 (pc' := 133) (q2 >>> ((16 : Int32) &&& 31)) at_132 rfl rfl ?_
      refine ow_i2b K X346 (pc' := 134) (((q2 >>> ((16 : Int32) &&& 31))).toInt8.toInt32) at_133 rfl rfl ?_
      refine ow_bastore K X346 (pc' := 135) e346 F346 2 [.int (nar .byte (q1.toInt8.toInt32)), .int (nar .byte ((XT.ushr q2 (24 : Int32)).toInt8.toInt32)), .int (nar .byte ((XT.ushr q2 (16 : Int32)).toInt8.toInt32)), .int 0, .int 0, .int 0, .int 0, .int 0, .int 0, .int 0, .int 0, .int 0, .int 0] ⟨by decide, by decide⟩ (by decide) (by simp) (by rw [own_i16]; rfl) at_134 rfl ?_
      intro T354 h354 X354 e354 W354 F354
      have F355 : Exa Z h354 o1 "com/example/cardinality/cardinality/value/ByteWriter" := Exa.wr W354 F347
      have F356 : Fld Z h354 o1 "com/example/cardinality/cardinality/value/ByteWriter" "bytes" "[B" (.ref r2) := Fld.other W354 F348 (Or.inl ne328)
      have F357 : Fld Z h354 o1 "com/example/cardinality/cardinality/value/ByteWriter" "length" "I" (.int (13 : Int32)) := Fld.other W354 F349 (Or.inl ne328)
      have F358 : Arv Z h354 r2 k2 .byte N2 [.int (nar .byte (q1.toInt8.toInt32)), .int (nar .byte ((XT.ushr q2 (24 : Int32)).toInt8.toInt32)), .int (nar .byte ((XT.ushr q2 (16 : Int32)).toInt8.toInt32)), .int (nar .byte ((XT.ushr q2 (8 : Int32)).toInt8.toInt32)), .int (nar .byte (q2.toInt8.toInt32)), .int (nar .byte (((XT.ushrL (XT.ushrL (XT.ushrL (XT.ushrL (XT.ushrL (XT.ushrL (XT.ushrL q3 (8 : Int32)) (8 : Int32)) (8 : Int32)) (8 : Int32)) (8 : Int32)) (8 : Int32)) (8 : Int32))).toInt32.toInt8.toInt32)), .int (nar .byte (((XT.ushrL (XT.ushrL (XT.ushrL (XT.ushrL (XT.ushrL (XT.ushrL q3 (8 : Int32)) (8 : Int32)) (8 : Int32)) (8 : Int32)) (8 : Int32)) (8 : Int32))).toInt32.toInt8.toInt32)), .int (nar .byte (((XT.ushrL (XT.ushrL (XT.ushrL (XT.ushrL (XT.ushrL q3 (8 : Int32)) (8 : Int32)) (8 : Int32)) (8 : Int32)) (8 : Int32))).toInt32.toInt8.toInt32)), .int (nar .byte (((XT.ushrL (XT.ushrL (XT.ushrL (XT.ushrL q3 (8 : Int32)) (8 : Int32)) (8 : Int32)) (8 : Int32))).toInt32.toInt8.toInt32)), .int (nar .byte (((XT.ushrL (XT.ushrL (XT.ushrL q3 (8 : Int32)) (8 : Int32)) (8 : Int32))).toInt32.toInt8.toInt32)), .int (nar .byte (((XT.ushrL (XT.ushrL q3 (8 : Int32)) (8 : Int32))).toInt32.toInt8.toInt32)), .int (nar .byte (((XT.ushrL q3 (8 : Int32))).toInt32.toInt8.toInt32)), .int (nar .byte ((q3).toInt32.toInt8.toInt32))] (.int 0) := F350.other W354 ne329
      have F359 : Exa Z h354 r2 "[B" := Exa.wr W354 F351
      have Z360 : n0 ≤ h354.size := Nat.le_trans Z352 (Nat.le_of_eq W354.size.symm)
      have N361 := Fr.snoc X354 N353 ge330
      refine ow_aload K X354 (pc' := 137) a1 at_135 rfl rfl ?_
      refine ow_iconst K X354 (pc' := 138) (3 : Int32) at_137 rfl (by decide) ?_
      refine ow_iload K X354 (pc' := 140) q2 at_138 rfl rfl ?_
      refine ow_bipush K X354 (pc' := 142) (8 : Int32) at_140 rfl (by decide) ?_
      refine ow_ishr K X354 (pc' := 143) (q2 >>> ((8 : Int32) &&& 31)) at_142 rfl rfl ?_
      refine ow_i2b K X354 (pc' := 144) (((q2 >>> ((8 : Int32) &&& 31))).toInt8.toInt32) at_143 rfl rfl ?_
      refine ow_bastore K X354 (pc' := 145) e354 F354 3 [.int (nar .byte (q1.toInt8.toInt32)), .int (nar .byte ((XT.ushr q2 (24 : Int32)).toInt8.toInt32)), .int (nar .byte ((XT.ushr q2 (16 : Int32)).toInt8.toInt32)), .int (nar .byte ((XT.ushr q2 (8 : Int32)).toInt8.toInt32)), .int 0, .int 0, .int 0, .int 0, .int 0, .int 0, .int 0, .int 0, .int 0] ⟨by decide, by decide⟩ (by decide) (by simp) (by rw [own_i8]; rfl) at_144 rfl ?_
      intro T362 h362 X362 e362 W362 F362
      have F363 : Exa Z h362 o1 "com/example/cardinality/cardinality/value/ByteWriter" := Exa.wr W362 F355
      have F364 : Fld Z h362 o1 "com/example/cardinality/cardinality/value/ByteWriter" "bytes" "[B" (.ref r2) := Fld.other W362 F356 (Or.inl ne328)
      have F365 : Fld Z h362 o1 "com/example/cardinality/cardinality/value/ByteWriter" "length" "I" (.int (13 : Int32)) := Fld.other W362 F357 (Or.inl ne328)
      have F366 : Arv Z h362 r2 k2 .byte N2 [.int (nar .byte (q1.toInt8.toInt32)), .int (nar .byte ((XT.ushr q2 (24 : Int32)).toInt8.toInt32)), .int (nar .byte ((XT.ushr q2 (16 : Int32)).toInt8.toInt32)), .int (nar .byte ((XT.ushr q2 (8 : Int32)).toInt8.toInt32)), .int (nar .byte (q2.toInt8.toInt32)), .int (nar .byte (((XT.ushrL (XT.ushrL (XT.ushrL (XT.ushrL (XT.ushrL (XT.ushrL (XT.ushrL q3 (8 : Int32)) (8 : Int32)) (8 : Int32)) (8 : Int32)) (8 : Int32)) (8 : Int32)) (8 : Int32))).toInt32.toInt8.toInt32)), .int (nar .byte (((XT.ushrL (XT.ushrL (XT.ushrL (XT.ushrL (XT.ushrL (XT.ushrL q3 (8 : Int32)) (8 : Int32)) (8 : Int32)) (8 : Int32)) (8 : Int32)) (8 : Int32))).toInt32.toInt8.toInt32)), .int (nar .byte (((XT.ushrL (XT.ushrL (XT.ushrL (XT.ushrL (XT.ushrL q3 (8 : Int32)) (8 : Int32)) (8 : Int32)) (8 : Int32)) (8 : Int32))).toInt32.toInt8.toInt32)), .int (nar .byte (((XT.ushrL (XT.ushrL (XT.ushrL (XT.ushrL q3 (8 : Int32)) (8 : Int32)) (8 : Int32)) (8 : Int32))).toInt32.toInt8.toInt32)), .int (nar .byte (((XT.ushrL (XT.ushrL (XT.ushrL q3 (8 : Int32)) (8 : Int32)) (8 : Int32))).toInt32.toInt8.toInt32)), .int (nar .byte (((XT.ushrL (XT.ushrL q3 (8 : Int32)) (8 : Int32))).toInt32.toInt8.toInt32)), .int (nar .byte (((XT.ushrL q3 (8 : Int32))).toInt32.toInt8.toInt32)), .int (nar .byte ((q3).toInt32.toInt8.toInt32))] (.int 0) := F358.other W362 ne329
      have F367 : Exa Z h362 r2 "[B" := Exa.wr W362 F359
      have Z368 : n0 ≤ h362.size := Nat.le_trans Z360 (Nat.le_of_eq W362.size.symm)
      have N369 := Fr.snoc X362 N361 ge330
      refine ow_aload K X362 (pc' := 147) a1 at_145 rfl rfl ?_
      refine ow_iconst K X362 (pc' := 148) (4 : Int32) at_147 rfl (by decide) ?_
      refine ow_iload K X362 (pc' := 150) q2 at_148 rfl rfl ?_
      refine ow_i2b K X362 (pc' := 151) ((q2).toInt8.toInt32) at_150 rfl rfl ?_
      refine ow_bastore K X362 (pc' := 152) e362 F362 4 [.int (nar .byte (q1.toInt8.toInt32)), .int (nar .byte ((XT.ushr q2 (24 : Int32)).toInt8.toInt32)), .int (nar .byte ((XT.ushr q2 (16 : Int32)).toInt8.toInt32)), .int (nar .byte ((XT.ushr q2 (8 : Int32)).toInt8.toInt32)), .int (nar .byte (q2.toInt8.toInt32)), .int 0, .int 0, .int 0, .int 0, .int 0, .int 0, .int 0, .int 0] ⟨by decide, by decide⟩ (by decide) (by simp) rfl at_151 rfl ?_
      intro T370 h370 X370 e370 W370 F370
      have F371 : Exa Z h370 o1 "com/example/cardinality/cardinality/value/ByteWriter" := Exa.wr W370 F363
      have F372 : Fld Z h370 o1 "com/example/cardinality/cardinality/value/ByteWriter" "bytes" "[B" (.ref r2) := Fld.other W370 F364 (Or.inl ne328)
      have F373 : Fld Z h370 o1 "com/example/cardinality/cardinality/value/ByteWriter" "length" "I" (.int (13 : Int32)) := Fld.other W370 F365 (Or.inl ne328)
      have F374 : Arv Z h370 r2 k2 .byte N2 [.int (nar .byte (q1.toInt8.toInt32)), .int (nar .byte ((XT.ushr q2 (24 : Int32)).toInt8.toInt32)), .int (nar .byte ((XT.ushr q2 (16 : Int32)).toInt8.toInt32)), .int (nar .byte ((XT.ushr q2 (8 : Int32)).toInt8.toInt32)), .int (nar .byte (q2.toInt8.toInt32)), .int (nar .byte (((XT.ushrL (XT.ushrL (XT.ushrL (XT.ushrL (XT.ushrL (XT.ushrL (XT.ushrL q3 (8 : Int32)) (8 : Int32)) (8 : Int32)) (8 : Int32)) (8 : Int32)) (8 : Int32)) (8 : Int32))).toInt32.toInt8.toInt32)), .int (nar .byte (((XT.ushrL (XT.ushrL (XT.ushrL (XT.ushrL (XT.ushrL (XT.ushrL q3 (8 : Int32)) (8 : Int32)) (8 : Int32)) (8 : Int32)) (8 : Int32)) (8 : Int32))).toInt32.toInt8.toInt32)), .int (nar .byte (((XT.ushrL (XT.ushrL (XT.ushrL (XT.ushrL (XT.ushrL q3 (8 : Int32)) (8 : Int32)) (8 : Int32)) (8 : Int32)) (8 : Int32))).toInt32.toInt8.toInt32)), .int (nar .byte (((XT.ushrL (XT.ushrL (XT.ushrL (XT.ushrL q3 (8 : Int32)) (8 : Int32)) (8 : Int32)) (8 : Int32))).toInt32.toInt8.toInt32)), .int (nar .byte (((XT.ushrL (XT.ushrL (XT.ushrL q3 (8 : Int32)) (8 : Int32)) (8 : Int32))).toInt32.toInt8.toInt32)), .int (nar .byte (((XT.ushrL (XT.ushrL q3 (8 : Int32)) (8 : Int32))).toInt32.toInt8.toInt32)), .int (nar .byte (((XT.ushrL q3 (8 : Int32))).toInt32.toInt8.toInt32)), .int (nar .byte ((q3).toInt32.toInt8.toInt32))] (.int 0) := F366.other W370 ne329
      have F375 : Exa Z h370 r2 "[B" := Exa.wr W370 F367
      have Z376 : n0 ≤ h370.size := Nat.le_trans Z368 (Nat.le_of_eq W370.size.symm)
      have N377 := Fr.snoc X370 N369 ge330
      refine ow_aload K X370 (pc' := 154) a1 at_152 rfl rfl ?_
      refine ow_iconst K X370 (pc' := 155) (5 : Int32) at_154 rfl (by decide) ?_
      refine ow_lloadN K X370 (pc' := 156) q3 at_155 rfl rfl ?_
      refine ow_bipush K X370 (pc' := 158) (56 : Int32) at_156 rfl (by decide) ?_
      refine ow_lshr K X370 (pc' := 159) (q3 >>> (((56 : Int32)).toInt64 &&& 63)) at_158 rfl rfl ?_
      refine ow_l2i K X370 (pc' := 160) (((q3 >>> (((56 : Int32)).toInt64 &&& 63))).toInt32) at_159 rfl rfl ?_
      refine ow_i2b K X370 (pc' := 161) (((((q3 >>> (((56 : Int32)).toInt64 &&& 63))).toInt32)).toInt8.toInt32) at_160 rfl rfl ?_
      refine ow_bastore K X370 (pc' := 162) e370 F370 5 [.int (nar .byte (q1.toInt8.toInt32)), .int (nar .byte ((XT.ushr q2 (24 : Int32)).toInt8.toInt32)), .int (nar .byte ((XT.ushr q2 (16 : Int32)).toInt8.toInt32)), .int (nar .byte ((XT.ushr q2 (8 : Int32)).toInt8.toInt32)), .int (nar .byte (q2.toInt8.toInt32)), .int (nar .byte (((XT.ushrL (XT.ushrL (XT.ushrL (XT.ushrL (XT.ushrL (XT.ushrL (XT.ushrL q3 (8 : Int32)) (8 : Int32)) (8 : Int32)) (8 : Int32)) (8 : Int32)) (8 : Int32)) (8 : Int32))).toInt32.toInt8.toInt32)), .int 0, .int 0, .int 0, .int 0, .int 0, .int 0, .int 0] ⟨by decide, by decide⟩ (by decide) (by simp) (by rw [own_l7]; rfl) at_161 rfl ?_
      intro T378 h378 X378 e378 W378 F378
      have F379 : Exa Z h378 o1 "com/example/cardinality/cardinality/value/ByteWriter" := Exa.wr W378 F371
      have F380 : Fld Z h378 o1 "com/example/cardinality/cardinality/value/ByteWriter" "bytes" "[B" (.ref r2) := Fld.other W378 F372 (Or.inl ne328)
      have F381 : Fld Z h378 o1 "com/example/cardinality/cardinality/value/ByteWriter" "length" "I" (.int (13 : Int32)) := Fld.other W378 F373 (Or.inl ne328)
      have F382 : Arv Z h378 r2 k2 .byte N2 [.int (nar .byte (q1.toInt8.toInt32)), .int (nar .byte ((XT.ushr q2 (24 : Int32)).toInt8.toInt32)), .int (nar .byte ((XT.ushr q2 (16 : Int32)).toInt8.toInt32)), .int (nar .byte ((XT.ushr q2 (8 : Int32)).toInt8.toInt32)), .int (nar .byte (q2.toInt8.toInt32)), .int (nar .byte (((XT.ushrL (XT.ushrL (XT.ushrL (XT.ushrL (XT.ushrL (XT.ushrL (XT.ushrL q3 (8 : Int32)) (8 : Int32)) (8 : Int32)) (8 : Int32)) (8 : Int32)) (8 : Int32)) (8 : Int32))).toInt32.toInt8.toInt32)), .int (nar .byte (((XT.ushrL (XT.ushrL (XT.ushrL (XT.ushrL (XT.ushrL (XT.ushrL q3 (8 : Int32)) (8 : Int32)) (8 : Int32)) (8 : Int32)) (8 : Int32)) (8 : Int32))).toInt32.toInt8.toInt32)), .int (nar .byte (((XT.ushrL (XT.ushrL (XT.ushrL (XT.ushrL (XT.ushrL q3 (8 : Int32)) (8 : Int32)) (8 : Int32)) (8 : Int32)) (8 : Int32))).toInt32.toInt8.toInt32)), .int (nar .byte (((XT.ushrL (XT.ushrL (XT.ushrL (XT.ushrL q3 (8 : Int32)) (8 : Int32)) (8 : Int32)) (8 : Int32))).toInt32.toInt8.toInt32)), .int (nar .byte (((XT.ushrL (XT.ushrL (XT.ushrL q3 (8 : Int32)) (8 : Int32)) (8 : Int32))).toInt32.toInt8.toInt32)), .int (nar .byte (((XT.ushrL (XT.ushrL q3 (8 : Int32)) (8 : Int32))).toInt32.toInt8.toInt32)), .int (nar .byte (((XT.ushrL q3 (8 : Int32))).toInt32.toInt8.toInt32)), .int (nar .byte ((q3).toInt32.toInt8.toInt32))] (.int 0) := F374.other W378 ne329
      have F383 : Exa Z h378 r2 "[B" := Exa.wr W378 F375
      have Z384 : n0 ≤ h378.size := Nat.le_trans Z376 (Nat.le_of_eq W378.size.symm)
      have N385 := Fr.snoc X378 N377 ge330
      refine ow_aload K X378 (pc' := 164) a1 at_162 rfl rfl ?_
      refine ow_bipush K X378 (pc' := 166) (6 : Int32) at_164 rfl (by decide) ?_
      refine ow_lloadN K X378 (pc' := 167) q3 at_166 rfl rfl ?_
      refine ow_bipush K X378 (pc' := 169) (48 : Int32) at_167 rfl (by decide) ?_
      refine ow_lshr K X378 (pc' := 170) (q3 >>> (((48 : Int32)).toInt64 &&& 63)) at_169 rfl rfl ?_
      refine ow_l2i K X378 (pc' := 171) (((q3 >>> (((48 : Int32)).toInt64 &&& 63))).toInt32) at_170 rfl rfl ?_
      refine ow_i2b K X378 (pc' := 172) (((((q3 >>> (((48 : Int32)).toInt64 &&& 63))).toInt32)).toInt8.toInt32) at_171 rfl rfl ?_
      refine ow_bastore K X378 (pc' := 173) e378 F378 6 [.int (nar .byte (q1.toInt8.toInt32)), .int (nar .byte ((XT.ushr q2 (24 : Int32)).toInt8.toInt32)), .int (nar .byte ((XT.ushr q2 (16 : Int32)).toInt8.toInt32)), .int (nar .byte ((XT.ushr q2 (8 : Int32)).toInt8.toInt32)), .int (nar .byte (q2.toInt8.toInt32)), .int (nar .byte (((XT.ushrL (XT.ushrL (XT.ushrL (XT.ushrL (XT.ushrL (XT.ushrL (XT.ushrL q3 (8 : Int32)) (8 : Int32)) (8 : Int32)) (8 : Int32)) (8 : Int32)) (8 : Int32)) (8 : Int32))).toInt32.toInt8.toInt32)), .int (nar .byte (((XT.ushrL (XT.ushrL (XT.ushrL (XT.ushrL (XT.ushrL (XT.ushrL q3 (8 : Int32)) (8 : Int32)) (8 : Int32)) (8 : Int32)) (8 : Int32)) (8 : Int32))).toInt32.toInt8.toInt32)), .int 0, .int 0, .int 0, .int 0, .int 0, .int 0] ⟨by decide, by decide⟩ (by decide) (by simp) (by rw [own_l6]; rfl) at_172 rfl ?_
      intro T386 h386 X386 e386 W386 F386
      have F387 : Exa Z h386 o1 "com/example/cardinality/cardinality/value/ByteWriter" := Exa.wr W386 F379
      have F388 : Fld Z h386 o1 "com/example/cardinality/cardinality/value/ByteWriter" "bytes" "[B" (.ref r2) := Fld.other W386 F380 (Or.inl ne328)
      have F389 : Fld Z h386 o1 "com/example/cardinality/cardinality/value/ByteWriter" "length" "I" (.int (13 : Int32)) := Fld.other W386 F381 (Or.inl ne328)
      have F390 : Arv Z h386 r2 k2 .byte N2 [.int (nar .byte (q1.toInt8.toInt32)), .int (nar .byte ((XT.ushr q2 (24 : Int32)).toInt8.toInt32)), .int (nar .byte ((XT.ushr q2 (16 : Int32)).toInt8.toInt32)), .int (nar .byte ((XT.ushr q2 (8 : Int32)).toInt8.toInt32)), .int (nar .byte (q2.toInt8.toInt32)), .int (nar .byte (((XT.ushrL (XT.ushrL (XT.ushrL (XT.ushrL (XT.ushrL (XT.ushrL (XT.ushrL q3 (8 : Int32)) (8 : Int32)) (8 : Int32)) (8 : Int32)) (8 : Int32)) (8 : Int32)) (8 : Int32))).toInt32.toInt8.toInt32)), .int (nar .byte (((XT.ushrL (XT.ushrL (XT.ushrL (XT.ushrL (XT.ushrL (XT.ushrL q3 (8 : Int32)) (8 : Int32)) (8 : Int32)) (8 : Int32)) (8 : Int32)) (8 : Int32))).toInt32.toInt8.toInt32)), .int (nar .byte (((XT.ushrL (XT.ushrL (XT.ushrL (XT.ushrL (XT.ushrL q3 (8 : Int32)) (8 : Int32)) (8 : Int32)) (8 : Int32)) (8 : Int32))).toInt32.toInt8.toInt32)), .int (nar .byte (((XT.ushrL (XT.ushrL (XT.ushrL (XT.ushrL q3 (8 : Int32)) (8 : Int32)) (8 : Int32)) (8 : Int32))).toInt32.toInt8.toInt32)), .int (nar .byte (((XT.ushrL (XT.ushrL (XT.ushrL q3 (8 : Int32)) (8 : Int32)) (8 : Int32))).toInt32.toInt8.toInt32)), .int (nar .byte (((XT.ushrL (XT.ushrL q3 (8 : Int32)) (8 : Int32))).toInt32.toInt8.toInt32)), .int (nar .byte (((XT.ushrL q3 (8 : Int32))).toInt32.toInt8.toInt32)), .int (nar .byte ((q3).toInt32.toInt8.toInt32))] (.int 0) := F382.other W386 ne329
      have F391 : Exa Z h386 r2 "[B" := Exa.wr W386 F383
      have Z392 : n0 ≤ h386.size := Nat.le_trans Z384 (Nat.le_of_eq W386.size.symm)
      have N393 := Fr.snoc X386 N385 ge330
      refine ow_aload K X386 (pc' := 175) a1 at_173 rfl rfl ?_
      refine ow_bipush K X386 (pc' := 177) (7 : Int32) at_175 rfl (by decide) ?_
      refine ow_lloadN K X386 (pc' := 178) q3 at_177 rfl rfl ?_
      refine ow_bipush K X386 (pc' := 180) (40 : Int32) at_178 rfl (by decide) ?_
      refine ow_lshr K X386 (pc' := 181) (q3 >>> (((40 : Int32)).toInt64 &&& 63)) at_180 rfl rfl ?_
      refine ow_l2i K X386 (pc' := 182) (((q3 >>> (((40 : Int32)).toInt64 &&& 63))).toInt32) at_181 rfl rfl ?_
      refine ow_i2b K X386 (pc' := 183) (((((q3 >>> (((40 : Int32)).toInt64 &&& 63))).toInt32)).toInt8.toInt32) at_182 rfl rfl ?_
      refine ow_bastore K X386 (pc' := 184) e386 F386 7 [.int (nar .byte (q1.toInt8.toInt32)), .int (nar .byte ((XT.ushr q2 (24 : Int32)).toInt8.toInt32)), .int (nar .byte ((XT.ushr q2 (16 : Int32)).toInt8.toInt32)), .int (nar .byte ((XT.ushr q2 (8 : Int32)).toInt8.toInt32)), .int (nar .byte (q2.toInt8.toInt32)), .int (nar .byte (((XT.ushrL (XT.ushrL (XT.ushrL (XT.ushrL (XT.ushrL (XT.ushrL (XT.ushrL q3 (8 : Int32)) (8 : Int32)) (8 : Int32)) (8 : Int32)) (8 : Int32)) (8 : Int32)) (8 : Int32))).toInt32.toInt8.toInt32)), .int (nar .byte (((XT.ushrL (XT.ushrL (XT.ushrL (XT.ushrL (XT.ushrL (XT.ushrL q3 (8 : Int32)) (8 : Int32)) (8 : Int32)) (8 : Int32)) (8 : Int32)) (8 : Int32))).toInt32.toInt8.toInt32)), .int (nar .byte (((XT.ushrL (XT.ushrL (XT.ushrL (XT.ushrL (XT.ushrL q3 (8 : Int32)) (8 : Int32)) (8 : Int32)) (8 : Int32)) (8 : Int32))).toInt32.toInt8.toInt32)), .int 0, .int 0, .int 0, .int 0, .int 0] ⟨by decide, by decide⟩ (by decide) (by simp) (by rw [own_l5]; rfl) at_183 rfl ?_
      intro T394 h394 X394 e394 W394 F394
      have F395 : Exa Z h394 o1 "com/example/cardinality/cardinality/value/ByteWriter" := Exa.wr W394 F387
      have F396 : Fld Z h394 o1 "com/example/cardinality/cardinality/value/ByteWriter" "bytes" "[B" (.ref r2) := Fld.other W394 F388 (Or.inl ne328)
      have F397 : Fld Z h394 o1 "com/example/cardinality/cardinality/value/ByteWriter" "length" "I" (.int (13 : Int32)) := Fld.other W394 F389 (Or.inl ne328)
      have F398 : Arv Z h394 r2 k2 .byte N2 [.int (nar .byte (q1.toInt8.toInt32)), .int (nar .byte ((XT.ushr q2 (24 : Int32)).toInt8.toInt32)), .int (nar .byte ((XT.ushr q2 (16 : Int32)).toInt8.toInt32)), .int (nar .byte ((XT.ushr q2 (8 : Int32)).toInt8.toInt32)), .int (nar .byte (q2.toInt8.toInt32)), .int (nar .byte (((XT.ushrL (XT.ushrL (XT.ushrL (XT.ushrL (XT.ushrL (XT.ushrL (XT.ushrL q3 (8 : Int32)) (8 : Int32)) (8 : Int32)) (8 : Int32)) (8 : Int32)) (8 : Int32)) (8 : Int32))).toInt32.toInt8.toInt32)), .int (nar .byte (((XT.ushrL (XT.ushrL (XT.ushrL (XT.ushrL (XT.ushrL (XT.ushrL q3 (8 : Int32)) (8 : Int32)) (8 : Int32)) (8 : Int32)) (8 : Int32)) (8 : Int32))).toInt32.toInt8.toInt32)), .int (nar .byte (((XT.ushrL (XT.ushrL (XT.ushrL (XT.ushrL (XT.ushrL q3 (8 : Int32)) (8 : Int32)) (8 : Int32)) (8 : Int32)) (8 : Int32))).toInt32.toInt8.toInt32)), .int (nar .byte (((XT.ushrL (XT.ushrL (XT.ushrL (XT.ushrL q3 (8 : Int32)) (8 : Int32)) (8 : Int32)) (8 : Int32))).toInt32.toInt8.toInt32)), .int (nar .byte (((XT.ushrL (XT.ushrL (XT.ushrL q3 (8 : Int32)) (8 : Int32)) (8 : Int32))).toInt32.toInt8.toInt32)), .int (nar .byte (((XT.ushrL (XT.ushrL q3 (8 : Int32)) (8 : Int32))).toInt32.toInt8.toInt32)), .int (nar .byte (((XT.ushrL q3 (8 : Int32))).toInt32.toInt8.toInt32)), .int (nar .byte ((q3).toInt32.toInt8.toInt32))] (.int 0) := F390.other W394 ne329
      have F399 : Exa Z h394 r2 "[B" := Exa.wr W394 F391
      have Z400 : n0 ≤ h394.size := Nat.le_trans Z392 (Nat.le_of_eq W394.size.symm)
      have N401 := Fr.snoc X394 N393 ge330
      refine ow_aload K X394 (pc' := 186) a1 at_184 rfl rfl ?_
      refine ow_bipush K X394 (pc' := 188) (8 : Int32) at_186 rfl (by decide) ?_
      refine ow_lloadN K X394 (pc' := 189) q3 at_188 rfl rfl ?_
      refine ow_bipush K X394 (pc' := 191) (32 : Int32) at_189 rfl (by decide) ?_
      refine ow_lshr K X394 (pc' := 192) (q3 >>> (((32 : Int32)).toInt64 &&& 63)) at_191 rfl rfl ?_
      refine ow_l2i K X394 (pc' := 193) (((q3 >>> (((32 : Int32)).toInt64 &&& 63))).toInt32) at_192 rfl rfl ?_
      refine ow_i2b K X394 (pc' := 194) (((((q3 >>> (((32 : Int32)).toInt64 &&& 63))).toInt32)).toInt8.toInt32) at_193 rfl rfl ?_
      refine ow_bastore K X394 (pc' := 195) e394 F394 8 [.int (nar .byte (q1.toInt8.toInt32)), .int (nar .byte ((XT.ushr q2 (24 : Int32)).toInt8.toInt32)), .int (nar .byte ((XT.ushr q2 (16 : Int32)).toInt8.toInt32)), .int (nar .byte ((XT.ushr q2 (8 : Int32)).toInt8.toInt32)), .int (nar .byte (q2.toInt8.toInt32)), .int (nar .byte (((XT.ushrL (XT.ushrL (XT.ushrL (XT.ushrL (XT.ushrL (XT.ushrL (XT.ushrL q3 (8 : Int32)) (8 : Int32)) (8 : Int32)) (8 : Int32)) (8 : Int32)) (8 : Int32)) (8 : Int32))).toInt32.toInt8.toInt32)), .int (nar .byte (((XT.ushrL (XT.ushrL (XT.ushrL (XT.ushrL (XT.ushrL (XT.ushrL q3 (8 : Int32)) (8 : Int32)) (8 : Int32)) (8 : Int32)) (8 : Int32)) (8 : Int32))).toInt32.toInt8.toInt32)), .int (nar .byte (((XT.ushrL (XT.ushrL (XT.ushrL (XT.ushrL (XT.ushrL q3 (8 : Int32)) (8 : Int32)) (8 : Int32)) (8 : Int32)) (8 : Int32))).toInt32.toInt8.toInt32)), .int (nar .byte (((XT.ushrL (XT.ushrL (XT.ushrL (XT.ushrL q3 (8 : Int32)) (8 : Int32)) (8 : Int32)) (8 : Int32))).toInt32.toInt8.toInt32)), .int 0, .int 0, .int 0, .int 0] ⟨by decide, by decide⟩ (by decide) (by simp) (by rw [own_l4]; rfl) at_194 rfl ?_
      intro T402 h402 X402 e402 W402 F402
      have F403 : Exa Z h402 o1 "com/example/cardinality/cardinality/value/ByteWriter" := Exa.wr W402 F395
      have F404 : Fld Z h402 o1 "com/example/cardinality/cardinality/value/ByteWriter" "bytes" "[B" (.ref r2) := Fld.other W402 F396 (Or.inl ne328)
      have F405 : Fld Z h402 o1 "com/example/cardinality/cardinality/value/ByteWriter" "length" "I" (.int (13 : Int32)) := Fld.other W402 F397 (Or.inl ne328)
      have F406 : Arv Z h402 r2 k2 .byte N2 [.int (nar .byte (q1.toInt8.toInt32)), .int (nar .byte ((XT.ushr q2 (24 : Int32)).toInt8.toInt32)), .int (nar .byte ((XT.ushr q2 (16 : Int32)).toInt8.toInt32)), .int (nar .byte ((XT.ushr q2 (8 : Int32)).toInt8.toInt32)), .int (nar .byte (q2.toInt8.toInt32)), .int (nar .byte (((XT.ushrL (XT.ushrL (XT.ushrL (XT.ushrL (XT.ushrL (XT.ushrL (XT.ushrL q3 (8 : Int32)) (8 : Int32)) (8 : Int32)) (8 : Int32)) (8 : Int32)) (8 : Int32)) (8 : Int32))).toInt32.toInt8.toInt32)), .int (nar .byte (((XT.ushrL (XT.ushrL (XT.ushrL (XT.ushrL (XT.ushrL (XT.ushrL q3 (8 : Int32)) (8 : Int32)) (8 : Int32)) (8 : Int32)) (8 : Int32)) (8 : Int32))).toInt32.toInt8.toInt32)), .int (nar .byte (((XT.ushrL (XT.ushrL (XT.ushrL (XT.ushrL (XT.ushrL q3 (8 : Int32)) (8 : Int32)) (8 : Int32)) (8 : Int32)) (8 : Int32))).toInt32.toInt8.toInt32)), .int (nar .byte (((XT.ushrL (XT.ushrL (XT.ushrL (XT.ushrL q3 (8 : Int32)) (8 : Int32)) (8 : Int32)) (8 : Int32))).toInt32.toInt8.toInt32)), .int (nar .byte (((XT.ushrL (XT.ushrL (XT.ushrL q3 (8 : Int32)) (8 : Int32)) (8 : Int32))).toInt32.toInt8.toInt32)), .int (nar .byte (((XT.ushrL (XT.ushrL q3 (8 : Int32)) (8 : Int32))).toInt32.toInt8.toInt32)), .int (nar .byte (((XT.ushrL q3 (8 : Int32))).toInt32.toInt8.toInt32)), .int (nar .byte ((q3).toInt32.toInt8.toInt32))] (.int 0) := F398.other W402 ne329
      have F407 : Exa Z h402 r2 "[B" := Exa.wr W402 F399
      have Z408 : n0 ≤ h402.size := Nat.le_trans Z400 (Nat.le_of_eq W402.size.symm)
      have N409 := Fr.snoc X402 N401 ge330
      refine ow_aload K X402 (pc' := 197) a1 at_195 rfl rfl ?_
      refine ow_bipush K X402 (pc' := 199) (9 : Int32) at_197 rfl (by decide) ?_
      refine ow_lloadN K X402 (pc' := 200) q3 at_199 rfl rfl ?_
      refine ow_bipush K X402 (pc' := 202) (24 : Int32) at_200 rfl (by decide) ?_
      refine ow_lshr K X402 (pc' := 203) (q3 >>> (((24 : Int32)).toInt64 &&& 63)) at_202 rfl rfl ?_
      refine ow_l2i K X402 (pc' := 204) (((q3 >>> (((24 : Int32)).toInt64 &&& 63))).toInt32) at_203 rfl rfl ?_
      refine ow_i2b K X402 (pc' := 205) (((((q3 >>> (((24 : Int32)).toInt64 &&& 63))).toInt32)).toInt8.toInt32) at_204 rfl rfl ?_
      refine ow_bastore K X402 (pc' := 206) e402 F402 9 [.int (nar .byte (q1.toInt8.toInt32)), .int (nar .byte ((XT.ushr q2 (24 : Int32)).toInt8.toInt32)), .int (nar .byte ((XT.ushr q2 (16 : Int32)).toInt8.toInt32)), .int (nar .byte ((XT.ushr q2 (8 : Int32)).toInt8.toInt32)), .int (nar .byte (q2.toInt8.toInt32)), .int (nar .byte (((XT.ushrL (XT.ushrL (XT.ushrL (XT.ushrL (XT.ushrL (XT.ushrL (XT.ushrL q3 (8 : Int32)) (8 : Int32)) (8 : Int32)) (8 : Int32)) (8 : Int32)) (8 : Int32)) (8 : Int32))).toInt32.toInt8.toInt32)), .int (nar .byte (((XT.ushrL (XT.ushrL (XT.ushrL (XT.ushrL (XT.ushrL (XT.ushrL q3 (8 : Int32)) (8 : Int32)) (8 : Int32)) (8 : Int32)) (8 : Int32)) (8 : Int32))).toInt32.toInt8.toInt32)), .int (nar .byte (((XT.ushrL (XT.ushrL (XT.ushrL (XT.ushrL (XT.ushrL q3 (8 : Int32)) (8 : Int32)) (8 : Int32)) (8 : Int32)) (8 : Int32))).toInt32.toInt8.toInt32)), .int (nar .byte (((XT.ushrL (XT.ushrL (XT.ushrL (XT.ushrL q3 (8 : Int32)) (8 : Int32)) (8 : Int32)) (8 : Int32))).toInt32.toInt8.toInt32)), .int (nar .byte (((XT.ushrL (XT.ushrL (XT.ushrL q3 (8 : Int32)) (8 : Int32)) (8 : Int32))).toInt32.toInt8.toInt32)), .int 0, .int 0, .int 0] ⟨by decide, by decide⟩ (by decide) (by simp) (by rw [own_l3]; rfl) at_205 rfl ?_
      intro T410 h410 X410 e410 W410 F410
      have F411 : Exa Z h410 o1 "com/example/cardinality/cardinality/value/ByteWriter" := Exa.wr W410 F403
      have F412 : Fld Z h410 o1 "com/example/cardinality/cardinality/value/ByteWriter" "bytes" "[B" (.ref r2) := Fld.other W410 F404 (Or.inl ne328)
      have F413 : Fld Z h410 o1 "com/example/cardinality/cardinality/value/ByteWriter" "length" "I" (.int (13 : Int32)) := Fld.other W410 F405 (Or.inl ne328)
      have F414 : Arv Z h410 r2 k2 .byte N2 [.int (nar .byte (q1.toInt8.toInt32)), .int (nar .byte ((XT.ushr q2 (24 : Int32)).toInt8.toInt32)), .int (nar .byte ((XT.ushr q2 (16 : Int32)).toInt8.toInt32)), .int (nar .byte ((XT.ushr q2 (8 : Int32)).toInt8.toInt32)), .int (nar .byte (q2.toInt8.toInt32)), .int (nar .byte (((XT.ushrL (XT.ushrL (XT.ushrL (XT.ushrL (XT.ushrL (XT.ushrL (XT.ushrL q3 (8 : Int32)) (8 : Int32)) (8 : Int32)) (8 : Int32)) (8 : Int32)) (8 : Int32)) (8 : Int32))).toInt32.toInt8.toInt32)), .int (nar .byte (((XT.ushrL (XT.ushrL (XT.ushrL (XT.ushrL (XT.ushrL (XT.ushrL q3 (8 : Int32)) (8 : Int32)) (8 : Int32)) (8 : Int32)) (8 : Int32)) (8 : Int32))).toInt32.toInt8.toInt32)), .int (nar .byte (((XT.ushrL (XT.ushrL (XT.ushrL (XT.ushrL (XT.ushrL q3 (8 : Int32)) (8 : Int32)) (8 : Int32)) (8 : Int32)) (8 : Int32))).toInt32.toInt8.toInt32)), .int (nar .byte (((XT.ushrL (XT.ushrL (XT.ushrL (XT.ushrL q3 (8 : Int32)) (8 : Int32)) (8 : Int32)) (8 : Int32))).toInt32.toInt8.toInt32)), .int (nar .byte (((XT.ushrL (XT.ushrL (XT.ushrL q3 (8 : Int32)) (8 : Int32)) (8 : Int32))).toInt32.toInt8.toInt32)), .int (nar .byte (((XT.ushrL (XT.ushrL q3 (8 : Int32)) (8 : Int32))).toInt32.toInt8.toInt32)), .int (nar .byte (((XT.ushrL q3 (8 : Int32))).toInt32.toInt8.toInt32)), .int (nar .byte ((q3).toInt32.toInt8.toInt32))] (.int 0) := F406.other W410 ne329
      have F415 : Exa Z h410 r2 "[B" := Exa.wr W410 F407
      have Z416 : n0 ≤ h410.size := Nat.le_trans Z408 (Nat.le_of_eq W410.size.symm)
      have N417 := Fr.snoc X410 N409 ge330
      refine ow_aload K X410 (pc' := 208) a1 at_206 rfl rfl ?_
      refine ow_bipush K X410 (pc' := 210) (10 : Int32) at_208 rfl (by decide) ?_
      refine ow_lloadN K X410 (pc' := 211) q3 at_210 rfl rfl ?_
      refine ow_bipush K X410 (pc' := 213) (16 : Int32) at_211 rfl (by decide) ?_
      refine ow_lshr K X410 (pc' := 214) (q3 >>> (((16 : Int32)).toInt64 &&& 63)) at_213 rfl rfl ?_
      refine ow_l2i K X410 (pc' := 215) (((q3 >>> (((16 : Int32)).toInt64 &&& 63))).toInt32) at_214 rfl rfl ?_
      refine ow_i2b K X410 (pc' := 216) (((((q3 >>> (((16 : Int32)).toInt64 &&& 63))).toInt32)).toInt8.toInt32) at_215 rfl rfl ?_
      refine ow_bastore K X410 (pc' := 217) e410 F410 10 [.int (nar .byte (q1.toInt8.toInt32)), .int (nar .byte ((XT.ushr q2 (24 : Int32)).toInt8.toInt32)), .int (nar .byte ((XT.ushr q2 (16 : Int32)).toInt8.toInt32)), .int (nar .byte ((XT.ushr q2 (8 : Int32)).toInt8.toInt32)), .int (nar .byte (q2.toInt8.toInt32)), .int (nar .byte (((XT.ushrL (XT.ushrL (XT.ushrL (XT.ushrL (XT.ushrL (XT.ushrL (XT.ushrL q3 (8 : Int32)) (8 : Int32)) (8 : Int32)) (8 : Int32)) (8 : Int32)) (8 : Int32)) (8 : Int32))).toInt32.toInt8.toInt32)), .int (nar .byte (((XT.ushrL (XT.ushrL (XT.ushrL (XT.ushrL (XT.ushrL (XT.ushrL q3 (8 : Int32)) (8 : Int32)) (8 : Int32)) (8 : Int32)) (8 : Int32)) (8 : Int32))).toInt32.toInt8.toInt32)), .int (nar .byte (((XT.ushrL (XT.ushrL (XT.ushrL (XT.ushrL (XT.ushrL q3 (8 : Int32)) (8 : Int32)) (8 : Int32)) (8 : Int32)) (8 : Int32))).toInt32.toInt8.toInt32)), .int (nar .byte (((XT.ushrL (XT.ushrL (XT.ushrL (XT.ushrL q3 (8 : Int32)) (8 : Int32)) (8 : Int32)) (8 : Int32))).toInt32.toInt8.toInt32)), .int (nar .byte (((XT.ushrL (XT.ushrL (XT.ushrL q3 (8 : Int32)) (8 : Int32)) (8 : Int32))).toInt32.toInt8.toInt32)), .int (nar .byte (((XT.ushrL (XT.ushrL q3 (8 : Int32)) (8 : Int32))).toInt32.toInt8.toInt32)), .int 0, .int 0] ⟨by decide, by decide⟩ (by decide) (by simp) (by rw [own_l2]; rfl) at_216 rfl ?_
      intro T418 h418 X418 e418 W418 F418
      have F419 : Exa Z h418 o1 "com/example/cardinality/cardinality/value/ByteWriter" := Exa.wr W418 F411
      have F420 : Fld Z h418 o1 "com/example/cardinality/cardinality/value/ByteWriter" "bytes" "[B" (.ref r2) := Fld.other W418 F412 (Or.inl ne328)
      have F421 : Fld Z h418 o1 "com/example/cardinality/cardinality/value/ByteWriter" "length" "I" (.int (13 : Int32)) := Fld.other W418 F413 (Or.inl ne328)
      have F422 : Arv Z h418 r2 k2 .byte N2 [.int (nar .byte (q1.toInt8.toInt32)), .int (nar .byte ((XT.ushr q2 (24 : Int32)).toInt8.toInt32)), .int (nar .byte ((XT.ushr q2 (16 : Int32)).toInt8.toInt32)), .int (nar .byte ((XT.ushr q2 (8 : Int32)).toInt8.toInt32)), .int (nar .byte (q2.toInt8.toInt32)), .int (nar .byte (((XT.ushrL (XT.ushrL (XT.ushrL (XT.ushrL (XT.ushrL (XT.ushrL (XT.ushrL q3 (8 : Int32)) (8 : Int32)) (8 : Int32)) (8 : Int32)) (8 : Int32)) (8 : Int32)) (8 : Int32))).toInt32.toInt8.toInt32)), .int (nar .byte (((XT.ushrL (XT.ushrL (XT.ushrL (XT.ushrL (XT.ushrL (XT.ushrL q3 (8 : Int32)) (8 : Int32)) (8 : Int32)) (8 : Int32)) (8 : Int32)) (8 : Int32))).toInt32.toInt8.toInt32)), .int (nar .byte (((XT.ushrL (XT.ushrL (XT.ushrL (XT.ushrL (XT.ushrL q3 (8 : Int32)) (8 : Int32)) (8 : Int32)) (8 : Int32)) (8 : Int32))).toInt32.toInt8.toInt32)), .int (nar .byte (((XT.ushrL (XT.ushrL (XT.ushrL (XT.ushrL q3 (8 : Int32)) (8 : Int32)) (8 : Int32)) (8 : Int32))).toInt32.toInt8.toInt32)), .int (nar .byte (((XT.ushrL (XT.ushrL (XT.ushrL q3 (8 : Int32)) (8 : Int32)) (8 : Int32))).toInt32.toInt8.toInt32)), .int (nar .byte (((XT.ushrL (XT.ushrL q3 (8 : Int32)) (8 : Int32))).toInt32.toInt8.toInt32)), .int (nar .byte (((XT.ushrL q3 (8 : Int32))).toInt32.toInt8.toInt32)), .int (nar .byte ((q3).toInt32.toInt8.toInt32))] (.int 0) := F414.other W418 ne329
      have F423 : Exa Z h418 r2 "[B" := Exa.wr W418 F415
      have Z424 : n0 ≤ h418.size := Nat.le_trans Z416 (Nat.le_of_eq W418.size.symm)
      have N425 := Fr.snoc X418 N417 ge330
      refine ow_aload K X418 (pc' := 219) a1 at_217 rfl rfl ?_
      refine ow_bipush K X418 (pc' := 221) (11 : Int32) at_219 rfl (by decide) ?_
      refine ow_lloadN K X418 (pc' := 222) q3 at_221 rfl rfl ?_
      refine ow_bipush K X418 (pc' := 224) (8 : Int32) at_222 rfl (by decide) ?_
      refine ow_lshr K X418 (pc' := 225) (q3 >>> (((8 : Int32)).toInt64 &&& 63)) at_224 rfl rfl ?_
      refine ow_l2i K X418 (pc' := 226) (((q3 >>> (((8 : Int32)).toInt64 &&& 63))).toInt32) at_225 rfl rfl ?_
      refine ow_i2b K X418 (pc' := 227) (((((q3 >>> (((8 : Int32)).toInt64 &&& 63))).toInt32)).toInt8.toInt32) at_226 rfl rfl ?_
      refine ow_bastore K X418 (pc' := 228) e418 F418 11 [.int (nar .byte (q1.toInt8.toInt32)), .int (nar .byte ((XT.ushr q2 (24 : Int32)).toInt8.toInt32)), .int (nar .byte ((XT.ushr q2 (16 : Int32)).toInt8.toInt32)), .int (nar .byte ((XT.ushr q2 (8 : Int32)).toInt8.toInt32)), .int (nar .byte (q2.toInt8.toInt32)), .int (nar .byte (((XT.ushrL (XT.ushrL (XT.ushrL (XT.ushrL (XT.ushrL (XT.ushrL (XT.ushrL q3 (8 : Int32)) (8 : Int32)) (8 : Int32)) (8 : Int32)) (8 : Int32)) (8 : Int32)) (8 : Int32))).toInt32.toInt8.toInt32)), .int (nar .byte (((XT.ushrL (XT.ushrL (XT.ushrL (XT.ushrL (XT.ushrL (XT.ushrL q3 (8 : Int32)) (8 : Int32)) (8 : Int32)) (8 : Int32)) (8 : Int32)) (8 : Int32))).toInt32.toInt8.toInt32)), .int (nar .byte (((XT.ushrL (XT.ushrL (XT.ushrL (XT.ushrL (XT.ushrL q3 (8 : Int32)) (8 : Int32)) (8 : Int32)) (8 : Int32)) (8 : Int32))).toInt32.toInt8.toInt32)), .int (nar .byte (((XT.ushrL (XT.ushrL (XT.ushrL (XT.ushrL q3 (8 : Int32)) (8 : Int32)) (8 : Int32)) (8 : Int32))).toInt32.toInt8.toInt32)), .int (nar .byte (((XT.ushrL (XT.ushrL (XT.ushrL q3 (8 : Int32)) (8 : Int32)) (8 : Int32))).toInt32.toInt8.toInt32)), .int (nar .byte (((XT.ushrL (XT.ushrL q3 (8 : Int32)) (8 : Int32))).toInt32.toInt8.toInt32)), .int (nar .byte (((XT.ushrL q3 (8 : Int32))).toInt32.toInt8.toInt32)), .int 0] ⟨by decide, by decide⟩ (by decide) (by simp) (by rw [own_l1]; rfl) at_227 rfl ?_
      intro T426 h426 X426 e426 W426 F426
      have F427 : Exa Z h426 o1 "com/example/cardinality/cardinality/value/ByteWriter" := Exa.wr W426 F419
      have F428 : Fld Z h426 o1 "com/example/cardinality/cardinality/value/ByteWriter" "bytes" "[B" (.ref r2) := Fld.other W426 F420 (Or.inl ne328)
      have F429 : Fld Z h426 o1 "com/example/cardinality/cardinality/value/ByteWriter" "length" "I" (.int (13 : Int32)) := Fld.other W426 F421 (Or.inl ne328)
      have F430 : Arv Z h426 r2 k2 .byte N2 [.int (nar .byte (q1.toInt8.toInt32)), .int (nar .byte ((XT.ushr q2 (24 : Int32)).toInt8.toInt32)), .int (nar .byte ((XT.ushr q2 (16 : Int32)).toInt8.toInt32)), .int (nar .byte ((XT.ushr q2 (8 : Int32)).toInt8.toInt32)), .int (nar .byte (q2.toInt8.toInt32)), .int (nar .byte (((XT.ushrL (XT.ushrL (XT.ushrL (XT.ushrL (XT.ushrL (XT.ushrL (XT.ushrL q3 (8 : Int32)) (8 : Int32)) (8 : Int32)) (8 : Int32)) (8 : Int32)) (8 : Int32)) (8 : Int32))).toInt32.toInt8.toInt32)), .int (nar .byte (((XT.ushrL (XT.ushrL (XT.ushrL (XT.ushrL (XT.ushrL (XT.ushrL q3 (8 : Int32)) (8 : Int32)) (8 : Int32)) (8 : Int32)) (8 : Int32)) (8 : Int32))).toInt32.toInt8.toInt32)), .int (nar .byte (((XT.ushrL (XT.ushrL (XT.ushrL (XT.ushrL (XT.ushrL q3 (8 : Int32)) (8 : Int32)) (8 : Int32)) (8 : Int32)) (8 : Int32))).toInt32.toInt8.toInt32)), .int (nar .byte (((XT.ushrL (XT.ushrL (XT.ushrL (XT.ushrL q3 (8 : Int32)) (8 : Int32)) (8 : Int32)) (8 : Int32))).toInt32.toInt8.toInt32)), .int (nar .byte (((XT.ushrL (XT.ushrL (XT.ushrL q3 (8 : Int32)) (8 : Int32)) (8 : Int32))).toInt32.toInt8.toInt32)), .int (nar .byte (((XT.ushrL (XT.ushrL q3 (8 : Int32)) (8 : Int32))).toInt32.toInt8.toInt32)), .int (nar .byte (((XT.ushrL q3 (8 : Int32))).toInt32.toInt8.toInt32)), .int (nar .byte ((q3).toInt32.toInt8.toInt32))] (.int 0) := F422.other W426 ne329
      have F431 : Exa Z h426 r2 "[B" := Exa.wr W426 F423
      have Z432 : n0 ≤ h426.size := Nat.le_trans Z424 (Nat.le_of_eq W426.size.symm)
      have N433 := Fr.snoc X426 N425 ge330
      refine ow_aload K X426 (pc' := 230) a1 at_228 rfl rfl ?_
      refine ow_bipush K X426 (pc' := 232) (12 : Int32) at_230 rfl (by decide) ?_
      refine ow_lloadN K X426 (pc' := 233) q3 at_232 rfl rfl ?_
      refine ow_l2i K X426 (pc' := 234) ((q3).toInt32) at_233 rfl rfl ?_
      refine ow_i2b K X426 (pc' := 235) ((((q3).toInt32)).toInt8.toInt32) at_234 rfl rfl ?_
      refine ow_bastore K X426 (pc' := 236) e426 F426 12 [.int (nar .byte (q1.toInt8.toInt32)), .int (nar .byte ((XT.ushr q2 (24 : Int32)).toInt8.toInt32)), .int (nar .byte ((XT.ushr q2 (16 : Int32)).toInt8.toInt32)), .int (nar .byte ((XT.ushr q2 (8 : Int32)).toInt8.toInt32)), .int (nar .byte (q2.toInt8.toInt32)), .int (nar .byte (((XT.ushrL (XT.ushrL (XT.ushrL (XT.ushrL (XT.ushrL (XT.ushrL (XT.ushrL q3 (8 : Int32)) (8 : Int32)) (8 : Int32)) (8 : Int32)) (8 : Int32)) (8 : Int32)) (8 : Int32))).toInt32.toInt8.toInt32)), .int (nar .byte (((XT.ushrL (XT.ushrL (XT.ushrL (XT.ushrL (XT.ushrL (XT.ushrL q3 (8 : Int32)) (8 : Int32)) (8 : Int32)) (8 : Int32)) (8 : Int32)) (8 : Int32))).toInt32.toInt8.toInt32)), .int (nar .byte (((XT.ushrL (XT.ushrL (XT.ushrL (XT.ushrL (XT.ushrL q3 (8 : Int32)) (8 : Int32)) (8 : Int32)) (8 : Int32)) (8 : Int32))).toInt32.toInt8.toInt32)), .int (nar .byte (((XT.ushrL (XT.ushrL (XT.ushrL (XT.ushrL q3 (8 : Int32)) (8 : Int32)) (8 : Int32)) (8 : Int32))).toInt32.toInt8.toInt32)), .int (nar .byte (((XT.ushrL (XT.ushrL (XT.ushrL q3 (8 : Int32)) (8 : Int32)) (8 : Int32))).toInt32.toInt8.toInt32)), .int (nar .byte (((XT.ushrL (XT.ushrL q3 (8 : Int32)) (8 : Int32))).toInt32.toInt8.toInt32)), .int (nar .byte (((XT.ushrL q3 (8 : Int32))).toInt32.toInt8.toInt32)), .int (nar .byte ((q3).toInt32.toInt8.toInt32))] ⟨by decide, by decide⟩ (by decide) (by simp) rfl at_235 rfl ?_
      intro T434 h434 X434 e434 W434 F434
      have F435 : Exa Z h434 o1 "com/example/cardinality/cardinality/value/ByteWriter" := Exa.wr W434 F427
      have F436 : Fld Z h434 o1 "com/example/cardinality/cardinality/value/ByteWriter" "bytes" "[B" (.ref r2) := Fld.other W434 F428 (Or.inl ne328)
      have F437 : Fld Z h434 o1 "com/example/cardinality/cardinality/value/ByteWriter" "length" "I" (.int (13 : Int32)) := Fld.other W434 F429 (Or.inl ne328)
      have F438 : Arv Z h434 r2 k2 .byte N2 [.int (nar .byte (q1.toInt8.toInt32)), .int (nar .byte ((XT.ushr q2 (24 : Int32)).toInt8.toInt32)), .int (nar .byte ((XT.ushr q2 (16 : Int32)).toInt8.toInt32)), .int (nar .byte ((XT.ushr q2 (8 : Int32)).toInt8.toInt32)), .int (nar .byte (q2.toInt8.toInt32)), .int (nar .byte (((XT.ushrL (XT.ushrL (XT.ushrL (XT.ushrL (XT.ushrL (XT.ushrL (XT.ushrL q3 (8 : Int32)) (8 : Int32)) (8 : Int32)) (8 : Int32)) (8 : Int32)) (8 : Int32)) (8 : Int32))).toInt32.toInt8.toInt32)), .int (nar .byte (((XT.ushrL (XT.ushrL (XT.ushrL (XT.ushrL (XT.ushrL (XT.ushrL q3 (8 : Int32)) (8 : Int32)) (8 : Int32)) (8 : Int32)) (8 : Int32)) (8 : Int32))).toInt32.toInt8.toInt32)), .int (nar .byte (((XT.ushrL (XT.ushrL (XT.ushrL (XT.ushrL (XT.ushrL q3 (8 : Int32)) (8 : Int32)) (8 : Int32)) (8 : Int32)) (8 : Int32))).toInt32.toInt8.toInt32)), .int (nar .byte (((XT.ushrL (XT.ushrL (XT.ushrL (XT.ushrL q3 (8 : Int32)) (8 : Int32)) (8 : Int32)) (8 : Int32))).toInt32.toInt8.toInt32)), .int (nar .byte (((XT.ushrL (XT.ushrL (XT.ushrL q3 (8 : Int32)) (8 : Int32)) (8 : Int32))).toInt32.toInt8.toInt32)), .int (nar .byte (((XT.ushrL (XT.ushrL q3 (8 : Int32)) (8 : Int32))).toInt32.toInt8.toInt32)), .int (nar .byte (((XT.ushrL q3 (8 : Int32))).toInt32.toInt8.toInt32)), .int (nar .byte ((q3).toInt32.toInt8.toInt32))] (.int 0) := F430.other W434 ne329
      have F439 : Exa Z h434 r2 "[B" := Exa.wr W434 F431
      have Z440 : n0 ≤ h434.size := Nat.le_trans Z432 (Nat.le_of_eq W434.size.symm)
      have N441 := Fr.snoc X434 N433 ge330
      refine ow_aload K X434 (pc' := 238) o1 at_236 rfl rfl ?_
      have own_mn1 : own_min N2 (13 : Int32) = (13 : Int32) := by
        apply Int32.toInt_inj.mp
        have e : ((13 : Int32)).toInt = 13 := by decide
        rw [own_minI, e]; split <;> omega
      refine ow_callV K X434 (pc' := 241) e434 (y := (⟨"com/example/cardinality/cardinality/value/ByteWriter", "toByteArray", "()[B"⟩ : MethodName)) (rm12 l Z a0 hw [] o1 r2 k2 N2 (13 : Int32) [.int (nar .byte (q1.toInt8.toInt32)), .int (nar .byte ((XT.ushr q2 (24 : Int32)).toInt8.toInt32)), .int (nar .byte ((XT.ushr q2 (16 : Int32)).toInt8.toInt32)), .int (nar .byte ((XT.ushr q2 (8 : Int32)).toInt8.toInt32)), .int (nar .byte (q2.toInt8.toInt32)), .int (nar .byte (((XT.ushrL (XT.ushrL (XT.ushrL (XT.ushrL (XT.ushrL (XT.ushrL (XT.ushrL q3 (8 : Int32)) (8 : Int32)) (8 : Int32)) (8 : Int32)) (8 : Int32)) (8 : Int32)) (8 : Int32))).toInt32.toInt8.toInt32)), .int (nar .byte (((XT.ushrL (XT.ushrL (XT.ushrL (XT.ushrL (XT.ushrL (XT.ushrL q3 (8 : Int32)) (8 : Int32)) (8 : Int32)) (8 : Int32)) (8 : Int32)) (8 : Int32))).toInt32.toInt8.toInt32)), .int (nar .byte (((XT.ushrL (XT.ushrL (XT.ushrL (XT.ushrL (XT.ushrL q3 (8 : Int32)) (8 : Int32)) (8 : Int32)) (8 : Int32)) (8 : Int32))).toInt32.toInt8.toInt32)), .int (nar .byte (((XT.ushrL (XT.ushrL (XT.ushrL (XT.ushrL q3 (8 : Int32)) (8 : Int32)) (8 : Int32)) (8 : Int32))).toInt32.toInt8.toInt32)), .int (nar .byte (((XT.ushrL (XT.ushrL (XT.ushrL q3 (8 : Int32)) (8 : Int32)) (8 : Int32))).toInt32.toInt8.toInt32)), .int (nar .byte (((XT.ushrL (XT.ushrL q3 (8 : Int32)) (8 : Int32))).toInt32.toInt8.toInt32)), .int (nar .byte (((XT.ushrL q3 (8 : Int32))).toInt32.toInt8.toInt32)), .int (nar .byte ((q3).toInt32.toInt8.toInt32))] h434 n0 Z440 F435 F436 F437 F438 F439 ge319 gr2 ne2 (by decide) (by decide) (by rw [own_mn1]; decide) (by rw [own_mn1]; show 13 ≤ _; omega) (by rw [own_mn1]; decide) (by rw [own_mn1]; exact (Nat.le_refl 13 : 13 ≤ 13))) F435 (hw _ (List.mem_of_getElem? (i := 41) rfl)) (hw _ (List.mem_of_getElem? (i := 42) rfl)) (hw _ (List.mem_of_getElem? (i := 44) rfl)) (hw _ (List.mem_of_getElem? (i := 43) rfl)) (hw _ (List.mem_of_getElem? (i := 2) rfl)) (hw _ (List.mem_of_getElem? (i := 45) rfl)) (by decide) (st := []) 0 (Nat.le_of_eq rfl) (by decide) (by decide) (by decide) (by decide) rfl [] rfl (lenOf pd_12 rfl) rfl at_238 rfl ?_
      intro v442 T442 L442 X442 hQ442
      obtain ⟨b1, kb1, rfl, NN1, Z1, g1, hc1, Kp1, AV1, AE1⟩ := hQ442
      have NX1 := Fr.app N441 NN1
      have ne443 : o1 ≠ b1 := ow_ne F435.lt hc1
      have ne444 : r2 ≠ b1 := ow_ne F438.lt hc1
      have ne445 : a1 ≠ b1 := ow_ne F434.lt hc1
      have F446 : Exa Z T442.heap o1 "com/example/cardinality/cardinality/value/ByteWriter" := F435.keep Kp1
      have F447 : Fld Z T442.heap o1 "com/example/cardinality/cardinality/value/ByteWriter" "bytes" "[B" (.ref r2) := F436.keep Kp1 nin0
      have F448 : Fld Z T442.heap o1 "com/example/cardinality/cardinality/value/ByteWriter" "length" "I" (.int (13 : Int32)) := F437.keep Kp1 nin0
      have F449 : Arv Z T442.heap r2 k2 .byte N2 [.int (nar .byte (q1.toInt8.toInt32)), .int (nar .byte ((XT.ushr q2 (24 : Int32)).toInt8.toInt32)), .int (nar .byte ((XT.ushr q2 (16 : Int32)).toInt8.toInt32)), .int (nar .byte ((XT.ushr q2 (8 : Int32)).toInt8.toInt32)), .int (nar .byte (q2.toInt8.toInt32)), .int (nar .byte (((XT.ushrL (XT.ushrL (XT.ushrL (XT.ushrL (XT.ushrL (XT.ushrL (XT.ushrL q3 (8 : Int32)) (8 : Int32)) (8 : Int32)) (8 : Int32)) (8 : Int32)) (8 : Int32)) (8 : Int32))).toInt32.toInt8.toInt32)), .int (nar .byte (((XT.ushrL (XT.ushrL (XT.ushrL (XT.ushrL (XT.ushrL (XT.ushrL q3 (8 : Int32)) (8 : Int32)) (8 : Int32)) (8 : Int32)) (8 : Int32)) (8 : Int32))).toInt32.toInt8.toInt32)), .int (nar .byte (((XT.ushrL (XT.ushrL (XT.ushrL (XT.ushrL (XT.ushrL q3 (8 : Int32)) (8 : Int32)) (8 : Int32)) (8 : Int32)) (8 : Int32))).toInt32.toInt8.toInt32)), .int (nar .byte (((XT.ushrL (XT.ushrL (XT.ushrL (XT.ushrL q3 (8 : Int32)) (8 : Int32)) (8 : Int32)) (8 : Int32))).toInt32.toInt8.toInt32)), .int (nar .byte (((XT.ushrL (XT.ushrL (XT.ushrL q3 (8 : Int32)) (8 : Int32)) (8 : Int32))).toInt32.toInt8.toInt32)), .int (nar .byte (((XT.ushrL (XT.ushrL q3 (8 : Int32)) (8 : Int32))).toInt32.toInt8.toInt32)), .int (nar .byte (((XT.ushrL q3 (8 : Int32))).toInt32.toInt8.toInt32)), .int (nar .byte ((q3).toInt32.toInt8.toInt32))] (.int 0) := F438.keep Kp1 nin0
      have F450 : Exa Z T442.heap r2 "[B" := F439.keep Kp1
      have F451 : Arv Z T442.heap a1 k327 .byte (13 : Int32) [.int (nar .byte (q1.toInt8.toInt32)), .int (nar .byte ((XT.ushr q2 (24 : Int32)).toInt8.toInt32)), .int (nar .byte ((XT.ushr q2 (16 : Int32)).toInt8.toInt32)), .int (nar .byte ((XT.ushr q2 (8 : Int32)).toInt8.toInt32)), .int (nar .byte (q2.toInt8.toInt32)), .int (nar .byte (((XT.ushrL (XT.ushrL (XT.ushrL (XT.ushrL (XT.ushrL (XT.ushrL (XT.ushrL q3 (8 : Int32)) (8 : Int32)) (8 : Int32)) (8 : Int32)) (8 : Int32)) (8 : Int32)) (8 : Int32))).toInt32.toInt8.toInt32)), .int (nar .byte (((XT.ushrL (XT.ushrL (XT.ushrL (XT.ushrL (XT.ushrL (XT.ushrL q3 (8 : Int32)) (8 : Int32)) (8 : Int32)) (8 : Int32)) (8 : Int32)) (8 : Int32))).toInt32.toInt8.toInt32)), .int (nar .byte (((XT.ushrL (XT.ushrL (XT.ushrL (XT.ushrL (XT.ushrL q3 (8 : Int32)) (8 : Int32)) (8 : Int32)) (8 : Int32)) (8 : Int32))).toInt32.toInt8.toInt32)), .int (nar .byte (((XT.ushrL (XT.ushrL (XT.ushrL (XT.ushrL q3 (8 : Int32)) (8 : Int32)) (8 : Int32)) (8 : Int32))).toInt32.toInt8.toInt32)), .int (nar .byte (((XT.ushrL (XT.ushrL (XT.ushrL q3 (8 : Int32)) (8 : Int32)) (8 : Int32))).toInt32.toInt8.toInt32)), .int (nar .byte (((XT.ushrL (XT.ushrL q3 (8 : Int32)) (8 : Int32))).toInt32.toInt8.toInt32)), .int (nar .byte (((XT.ushrL q3 (8 : Int32))).toInt32.toInt8.toInt32)), .int (nar .byte ((q3).toInt32.toInt8.toInt32))] (.int 0) := F434.keep Kp1 nin0
      have Z452 : n0 ≤ T442.heap.size := Nat.le_trans Z440 Kp1.1
      refine ow_at (g := (mkF m 241 #[.val (.int q0), .val (.int q1), .val (.int q2), .val (.long q3), .second, .val (.int q4), .val (.int q5), .val (.int (1 : Int32)), .val (.int (0 : Int32)), .val (.ref o1), .val (.int (13 : Int32)), .val (.int q2), .val (.ref a1), .unset, .unset] [.ref b1])) ?_
      refine ow_astore K X442 (pc' := 243) (Ls' := #[.val (.int q0), .val (.int q1), .val (.int q2), .val (.long q3), .second, .val (.int q4), .val (.int q5), .val (.int (1 : Int32)), .val (.int (0 : Int32)), .val (.ref o1), .val (.int (13 : Int32)), .val (.int q2), .val (.ref a1), .val (.ref b1), .unset]) at_241 rfl rfl ?_
      refine ow_aload K X442 (pc' := 245) b1 at_243 rfl rfl ?_
      refine ow_aload K X442 (pc' := 247) a1 at_245 rfl rfl ?_
      refine ow_iload K X442 (pc' := 249) (13 : Int32) at_247 rfl rfl ?_
      refine ow_callS K X442 (pc' := 252) (rfl : T442.heap = T442.heap) (y := (⟨"com/example/cardinality/cardinality/value/ByteWriterToByteArrayPinLaw", "same", "([B[BI)Z"⟩ : MethodName)) (rm113 l Z a0 hw [] b1 a1 (13 : Int32) kb1 k327 (nar .byte (q1.toInt8.toInt32)) (nar .byte ((XT.ushr q2 (24 : Int32)).toInt8.toInt32)) (nar .byte ((XT.ushr q2 (16 : Int32)).toInt8.toInt32)) (nar .byte ((XT.ushr q2 (8 : Int32)).toInt8.toInt32)) (nar .byte (q2.toInt8.toInt32)) (nar .byte (((XT.ushrL (XT.ushrL (XT.ushrL (XT.ushrL (XT.ushrL (XT.ushrL (XT.ushrL q3 (8 : Int32)) (8 : Int32)) (8 : Int32)) (8 : Int32)) (8 : Int32)) (8 : Int32)) (8 : Int32))).toInt32.toInt8.toInt32)) (nar .byte (((XT.ushrL (XT.ushrL (XT.ushrL (XT.ushrL (XT.ushrL (XT.ushrL q3 (8 : Int32)) (8 : Int32)) (8 : Int32)) (8 : Int32)) (8 : Int32)) (8 : Int32))).toInt32.toInt8.toInt32)) (nar .byte (((XT.ushrL (XT.ushrL (XT.ushrL (XT.ushrL (XT.ushrL q3 (8 : Int32)) (8 : Int32)) (8 : Int32)) (8 : Int32)) (8 : Int32))).toInt32.toInt8.toInt32)) (nar .byte (((XT.ushrL (XT.ushrL (XT.ushrL (XT.ushrL q3 (8 : Int32)) (8 : Int32)) (8 : Int32)) (8 : Int32))).toInt32.toInt8.toInt32)) (nar .byte (((XT.ushrL (XT.ushrL (XT.ushrL q3 (8 : Int32)) (8 : Int32)) (8 : Int32))).toInt32.toInt8.toInt32)) (nar .byte (((XT.ushrL (XT.ushrL q3 (8 : Int32)) (8 : Int32))).toInt32.toInt8.toInt32)) (nar .byte (((XT.ushrL q3 (8 : Int32))).toInt32.toInt8.toInt32)) (nar .byte ((q3).toInt32.toInt8.toInt32)) T442.heap n0 Z1 rfl AV1 F451) (hw _ (List.mem_of_getElem? (i := 57) rfl)) (hw _ (List.mem_of_getElem? (i := 58) rfl)) (hw _ (List.mem_of_getElem? (i := 59) rfl)) (hw _ (List.mem_of_getElem? (i := 60) rfl)) (by decide) (st := []) 0 (Nat.le_of_eq rfl) (by decide) (by decide) (by decide) (by decide) rfl [.ref b1, .ref a1, .int (13 : Int32)] rfl (lenOf pd_113 rfl) rfl at_249 rfl ?_
      intro v453 T453 L453 X453 hQ453
      obtain ⟨rfl, NNs1, exs1⟩ := hQ453
      have NXs1 := Fr.app NX1 NNs1
      refine ow_at (g := (mkF m 252 #[.val (.int q0), .val (.int q1), .val (.int q2), .val (.long q3), .second, .val (.int q4), .val (.int q5), .val (.int (1 : Int32)), .val (.int (0 : Int32)), .val (.ref o1), .val (.int (13 : Int32)), .val (.int q2), .val (.ref a1), .val (.ref b1), .unset] [.int (1 : Int32)])) ?_
      refine ow_ifN K X453 (pc' := 255) at_252 rfl (XT.i0_eq_f (by decide)) ?_
      refine ow_aload K X453 (pc' := 257) o1 at_255 rfl rfl ?_
      refine ow_callV K X453 (pc' := 260) exs1 (y := (⟨"com/example/cardinality/cardinality/value/ByteWriter", "length", "()I"⟩ : MethodName)) (rm13 l Z a0 hw [] o1 (13 : Int32) T442.heap n0 Z1 F448) F446 (hw _ (List.mem_of_getElem? (i := 61) rfl)) (hw _ (List.mem_of_getElem? (i := 62) rfl)) (hw _ (List.mem_of_getElem? (i := 64) rfl)) (hw _ (List.mem_of_getElem? (i := 63) rfl)) (hw _ (List.mem_of_getElem? (i := 2) rfl)) (hw _ (List.mem_of_getElem? (i := 65) rfl)) (by decide) (st := []) 0 (Nat.le_of_eq rfl) (by decide) (by decide) (by decide) (by decide) rfl [] rfl (lenOf pd_13 rfl) rfl at_257 rfl ?_
      intro v454 T454 L454 X454 hQ454
      obtain ⟨rfl, NNt1, ext1⟩ := hQ454
      have NXt1 := Fr.app NXs1 NNt1
      refine ow_at (g := (mkF m 260 #[.val (.int q0), .val (.int q1), .val (.int q2), .val (.long q3), .second, .val (.int q4), .val (.int q5), .val (.int (1 : Int32)), .val (.int (0 : Int32)), .val (.ref o1), .val (.int (13 : Int32)), .val (.int q2), .val (.ref a1), .val (.ref b1), .unset] [.int (13 : Int32)])) ?_
      refine ow_iload K X454 (pc' := 262) (13 : Int32) at_260 rfl rfl ?_
      refine ow_icmpY K X454 (pc' := 267) at_262 (XT.ii_eq_t rfl) (by decide) (by decide) ?_
      refine ow_aload K X454 (pc' := 269) b1 at_267 rfl rfl ?_
      refine ow_iconst K X454 (pc' := 270) (0 : Int32) at_269 rfl (by decide) ?_
      refine ow_aload K X454 (pc' := 272) b1 at_270 rfl rfl ?_
      refine ow_iconst K X454 (pc' := 273) (0 : Int32) at_272 rfl (by decide) ?_
      refine ow_baload K X454 (pc' := 274) ext1 AV1 0 (.int (nar .byte (q1.toInt8.toInt32))) ⟨by decide, by decide⟩ (by decide) rfl at_273 rfl ?_
      refine ow_iconst K X454 (pc' := 275) (1 : Int32) at_274 rfl (by decide) ?_
      refine ow_ixor K X454 (pc' := 276) ((nar .byte (q1.toInt8.toInt32)) ^^^ (1 : Int32)) at_275 rfl rfl ?_
      refine ow_i2b K X454 (pc' := 277) ((((nar .byte (q1.toInt8.toInt32)) ^^^ (1 : Int32))).toInt8.toInt32) at_276 rfl rfl ?_
      refine ow_bastore K X454 (pc' := 278) ext1 AV1 0 [.int (nar .byte (((nar .byte (q1.toInt8.toInt32)) ^^^ (1 : Int32)).toInt8.toInt32)), .int (nar .byte ((XT.ushr q2 (24 : Int32)).toInt8.toInt32)), .int (nar .byte ((XT.ushr q2 (16 : Int32)).toInt8.toInt32)), .int (nar .byte ((XT.ushr q2 (8 : Int32)).toInt8.toInt32)), .int (nar .byte (q2.toInt8.toInt32)), .int (nar .byte (((XT.ushrL (XT.ushrL (XT.ushrL (XT.ushrL (XT.ushrL (XT.ushrL (XT.ushrL q3 (8 : Int32)) (8 : Int32)) (8 : Int32)) (8 : Int32)) (8 : Int32)) (8 : Int32)) (8 : Int32))).toInt32.toInt8.toInt32)), .int (nar .byte (((XT.ushrL (XT.ushrL (XT.ushrL (XT.ushrL (XT.ushrL (XT.ushrL q3 (8 : Int32)) (8 : Int32)) (8 : Int32)) (8 : Int32)) (8 : Int32)) (8 : Int32))).toInt32.toInt8.toInt32)), .int (nar .byte (((XT.ushrL (XT.ushrL (XT.ushrL (XT.ushrL (XT.ushrL q3 (8 : Int32)) (8 : Int32)) (8 : Int32)) (8 : Int32)) (8 : Int32))).toInt32.toInt8.toInt32)), .int (nar .byte (((XT.ushrL (XT.ushrL (XT.ushrL (XT.ushrL q3 (8 : Int32)) (8 : Int32)) (8 : Int32)) (8 : Int32))).toInt32.toInt8.toInt32)), .int (nar .byte (((XT.ushrL (XT.ushrL (XT.ushrL q3 (8 : Int32)) (8 : Int32)) (8 : Int32))).toInt32.toInt8.toInt32)), .int (nar .byte (((XT.ushrL (XT.ushrL q3 (8 : Int32)) (8 : Int32))).toInt32.toInt8.toInt32)), .int (nar .byte (((XT.ushrL q3 (8 : Int32))).toInt32.toInt8.toInt32)), .int (nar .byte ((q3).toInt32.toInt8.toInt32))] ⟨by decide, by decide⟩ (by decide) (by simp) rfl at_277 rfl ?_
      intro T455 h455 X455 e455 W455 F455
      have F456 : Exa Z h455 o1 "com/example/cardinality/cardinality/value/ByteWriter" := Exa.wr W455 F446
      have F457 : Fld Z h455 o1 "com/example/cardinality/cardinality/value/ByteWriter" "bytes" "[B" (.ref r2) := Fld.other W455 F447 (Or.inl ne443)
      have F458 : Fld Z h455 o1 "com/example/cardinality/cardinality/value/ByteWriter" "length" "I" (.int (13 : Int32)) := Fld.other W455 F448 (Or.inl ne443)
      have F459 : Arv Z h455 r2 k2 .byte N2 [.int (nar .byte (q1.toInt8.toInt32)), .int (nar .byte ((XT.ushr q2 (24 : Int32)).toInt8.toInt32)), .int (nar .byte ((XT.ushr q2 (16 : Int32)).toInt8.toInt32)), .int (nar .byte ((XT.ushr q2 (8 : Int32)).toInt8.toInt32)), .int (nar .byte (q2.toInt8.toInt32)), .int (nar .byte (((XT.ushrL (XT.ushrL (XT.ushrL (XT.ushrL (XT.ushrL (XT.ushrL (XT.ushrL q3 (8 : Int32)) (8 : Int32)) (8 : Int32)) (8 : Int32)) (8 : Int32)) (8 : Int32)) (8 : Int32))).toInt32.toInt8.toInt32)), .int (nar .byte (((XT.ushrL (XT.ushrL (XT.ushrL (XT.ushrL (XT.ushrL (XT.ushrL q3 (8 : Int32)) (8 : Int32)) (8 : Int32)) (8 : Int32)) (8 : Int32)) (8 : Int32))).toInt32.toInt8.toInt32)), .int (nar .byte (((XT.ushrL (XT.ushrL (XT.ushrL (XT.ushrL (XT.ushrL q3 (8 : Int32)) (8 : Int32)) (8 : Int32)) (8 : Int32)) (8 : Int32))).toInt32.toInt8.toInt32)), .int (nar .byte (((XT.ushrL (XT.ushrL (XT.ushrL (XT.ushrL q3 (8 : Int32)) (8 : Int32)) (8 : Int32)) (8 : Int32))).toInt32.toInt8.toInt32)), .int (nar .byte (((XT.ushrL (XT.ushrL (XT.ushrL q3 (8 : Int32)) (8 : Int32)) (8 : Int32))).toInt32.toInt8.toInt32)), .int (nar .byte (((XT.ushrL (XT.ushrL q3 (8 : Int32)) (8 : Int32))).toInt32.toInt8.toInt32)), .int (nar .byte (((XT.ushrL q3 (8 : Int32))).toInt32.toInt8.toInt32)), .int (nar .byte ((q3).toInt32.toInt8.toInt32))] (.int 0) := F449.other W455 ne444
      have F460 : Exa Z h455 r2 "[B" := Exa.wr W455 F450
      have F461 : Arv Z h455 a1 k327 .byte (13 : Int32) [.int (nar .byte (q1.toInt8.toInt32)), .int (nar .byte ((XT.ushr q2 (24 : Int32)).toInt8.toInt32)), .int (nar .byte ((XT.ushr q2 (16 : Int32)).toInt8.toInt32)), .int (nar .byte ((XT.ushr q2 (8 : Int32)).toInt8.toInt32)), .int (nar .byte (q2.toInt8.toInt32)), .int (nar .byte (((XT.ushrL (XT.ushrL (XT.ushrL (XT.ushrL (XT.ushrL (XT.ushrL (XT.ushrL q3 (8 : Int32)) (8 : Int32)) (8 : Int32)) (8 : Int32)) (8 : Int32)) (8 : Int32)) (8 : Int32))).toInt32.toInt8.toInt32)), .int (nar .byte (((XT.ushrL (XT.ushrL (XT.ushrL (XT.ushrL (XT.ushrL (XT.ushrL q3 (8 : Int32)) (8 : Int32)) (8 : Int32)) (8 : Int32)) (8 : Int32)) (8 : Int32))).toInt32.toInt8.toInt32)), .int (nar .byte (((XT.ushrL (XT.ushrL (XT.ushrL (XT.ushrL (XT.ushrL q3 (8 : Int32)) (8 : Int32)) (8 : Int32)) (8 : Int32)) (8 : Int32))).toInt32.toInt8.toInt32)), .int (nar .byte (((XT.ushrL (XT.ushrL (XT.ushrL (XT.ushrL q3 (8 : Int32)) (8 : Int32)) (8 : Int32)) (8 : Int32))).toInt32.toInt8.toInt32)), .int (nar .byte (((XT.ushrL (XT.ushrL (XT.ushrL q3 (8 : Int32)) (8 : Int32)) (8 : Int32))).toInt32.toInt8.toInt32)), .int (nar .byte (((XT.ushrL (XT.ushrL q3 (8 : Int32)) (8 : Int32))).toInt32.toInt8.toInt32)), .int (nar .byte (((XT.ushrL q3 (8 : Int32))).toInt32.toInt8.toInt32)), .int (nar .byte ((q3).toInt32.toInt8.toInt32))] (.int 0) := F451.other W455 ne445
      have Z462 : n0 ≤ h455.size := Nat.le_trans Z1 (Nat.le_of_eq W455.size.symm)
      have N463 := Fr.snoc X455 NXt1 g1
      refine ow_aload K X455 (pc' := 280) o1 at_278 rfl rfl ?_
      have own_mn2 : own_min N2 (13 : Int32) = (13 : Int32) := by
        apply Int32.toInt_inj.mp
        have e : ((13 : Int32)).toInt = 13 := by decide
        rw [own_minI, e]; split <;> omega
      refine ow_callV K X455 (pc' := 283) e455 (y := (⟨"com/example/cardinality/cardinality/value/ByteWriter", "toByteArray", "()[B"⟩ : MethodName)) (rm12 l Z a0 hw [] o1 r2 k2 N2 (13 : Int32) [.int (nar .byte (q1.toInt8.toInt32)), .int (nar .byte ((XT.ushr q2 (24 : Int32)).toInt8.toInt32)), .int (nar .byte ((XT.ushr q2 (16 : Int32)).toInt8.toInt32)), .int (nar .byte ((XT.ushr q2 (8 : Int32)).toInt8.toInt32)), .int (nar .byte (q2.toInt8.toInt32)), .int (nar .byte (((XT.ushrL (XT.ushrL (XT.ushrL (XT.ushrL (XT.ushrL (XT.ushrL (XT.ushrL q3 (8 : Int32)) (8 : Int32)) (8 : Int32)) (8 : Int32)) (8 : Int32)) (8 : Int32)) (8 : Int32))).toInt32.toInt8.toInt32)), .int (nar .byte (((XT.ushrL (XT.ushrL (XT.ushrL (XT.ushrL (XT.ushrL (XT.ushrL q3 (8 : Int32)) (8 : Int32)) (8 : Int32)) (8 : Int32)) (8 : Int32)) (8 : Int32))).toInt32.toInt8.toInt32)), .int (nar .byte (((XT.ushrL (XT.ushrL (XT.ushrL (XT.ushrL (XT.ushrL q3 (8 : Int32)) (8 : Int32)) (8 : Int32)) (8 : Int32)) (8 : Int32))).toInt32.toInt8.toInt32)), .int (nar .byte (((XT.ushrL (XT.ushrL (XT.ushrL (XT.ushrL q3 (8 : Int32)) (8 : Int32)) (8 : Int32)) (8 : Int32))).toInt32.toInt8.toInt32)), .int (nar .byte (((XT.ushrL (XT.ushrL (XT.ushrL q3 (8 : Int32)) (8 : Int32)) (8 : Int32))).toInt32.toInt8.toInt32)), .int (nar .byte (((XT.ushrL (XT.ushrL q3 (8 : Int32)) (8 : Int32))).toInt32.toInt8.toInt32)), .int (nar .byte (((XT.ushrL q3 (8 : Int32))).toInt32.toInt8.toInt32)), .int (nar .byte ((q3).toInt32.toInt8.toInt32))] h455 n0 Z462 F456 F457 F458 F459 F460 ge319 gr2 ne2 (by decide) (by decide) (by rw [own_mn2]; decide) (by rw [own_mn2]; show 13 ≤ _; omega) (by rw [own_mn2]; decide) (by rw [own_mn2]; exact (Nat.le_refl 13 : 13 ≤ 13))) F456 (hw _ (List.mem_of_getElem? (i := 41) rfl)) (hw _ (List.mem_of_getElem? (i := 42) rfl)) (hw _ (List.mem_of_getElem? (i := 44) rfl)) (hw _ (List.mem_of_getElem? (i := 43) rfl)) (hw _ (List.mem_of_getElem? (i := 2) rfl)) (hw _ (List.mem_of_getElem? (i := 45) rfl)) (by decide) (st := []) 0 (Nat.le_of_eq rfl) (by decide) (by decide) (by decide) (by decide) rfl [] rfl (lenOf pd_12 rfl) rfl at_280 rfl ?_
      intro v464 T464 L464 X464 hQ464
      obtain ⟨b2, kb2, rfl, NN2, Z2, g2, hc2, Kp2, AV2, AE2⟩ := hQ464
      have NX2 := Fr.app N463 NN2
      have ne465 : o1 ≠ b2 := ow_ne F456.lt hc2
      have ne466 : r2 ≠ b2 := ow_ne F459.lt hc2
      have ne467 : a1 ≠ b2 := ow_ne F461.lt hc2
      have F468 : Exa Z T464.heap o1 "com/example/cardinality/cardinality/value/ByteWriter" := F456.keep Kp2
      have F469 : Fld Z T464.heap o1 "com/example/cardinality/cardinality/value/ByteWriter" "bytes" "[B" (.ref r2) := F457.keep Kp2 nin0
      have F470 : Fld Z T464.heap o1 "com/example/cardinality/cardinality/value/ByteWriter" "length" "I" (.int (13 : Int32)) := F458.keep Kp2 nin0
      have F471 : Arv Z T464.heap r2 k2 .byte N2 [.int (nar .byte (q1.toInt8.toInt32)), .int (nar .byte ((XT.ushr q2 (24 : Int32)).toInt8.toInt32)), .int (nar .byte ((XT.ushr q2 (16 : Int32)).toInt8.toInt32)), .int (nar .byte ((XT.ushr q2 (8 : Int32)).toInt8.toInt32)), .int (nar .byte (q2.toInt8.toInt32)), .int (nar .byte (((XT.ushrL (XT.ushrL (XT.ushrL (XT.ushrL (XT.ushrL (XT.ushrL (XT.ushrL q3 (8 : Int32)) (8 : Int32)) (8 : Int32)) (8 : Int32)) (8 : Int32)) (8 : Int32)) (8 : Int32))).toInt32.toInt8.toInt32)), .int (nar .byte (((XT.ushrL (XT.ushrL (XT.ushrL (XT.ushrL (XT.ushrL (XT.ushrL q3 (8 : Int32)) (8 : Int32)) (8 : Int32)) (8 : Int32)) (8 : Int32)) (8 : Int32))).toInt32.toInt8.toInt32)), .int (nar .byte (((XT.ushrL (XT.ushrL (XT.ushrL (XT.ushrL (XT.ushrL q3 (8 : Int32)) (8 : Int32)) (8 : Int32)) (8 : Int32)) (8 : Int32))).toInt32.toInt8.toInt32)), .int (nar .byte (((XT.ushrL (XT.ushrL (XT.ushrL (XT.ushrL q3 (8 : Int32)) (8 : Int32)) (8 : Int32)) (8 : Int32))).toInt32.toInt8.toInt32)), .int (nar .byte (((XT.ushrL (XT.ushrL (XT.ushrL q3 (8 : Int32)) (8 : Int32)) (8 : Int32))).toInt32.toInt8.toInt32)), .int (nar .byte (((XT.ushrL (XT.ushrL q3 (8 : Int32)) (8 : Int32))).toInt32.toInt8.toInt32)), .int (nar .byte (((XT.ushrL q3 (8 : Int32))).toInt32.toInt8.toInt32)), .int (nar .byte ((q3).toInt32.toInt8.toInt32))] (.int 0) := F459.keep Kp2 nin0
      have F472 : Exa Z T464.heap r2 "[B" := F460.keep Kp2
      have F473 : Arv Z T464.heap a1 k327 .byte (13 : Int32) [.int (nar .byte (q1.toInt8.toInt32)), .int (nar .byte ((XT.ushr q2 (24 : Int32)).toInt8.toInt32)), .int (nar .byte ((XT.ushr q2 (16 : Int32)).toInt8.toInt32)), .int (nar .byte ((XT.ushr q2 (8 : Int32)).toInt8.toInt32)), .int (nar .byte (q2.toInt8.toInt32)), .int (nar .byte (((XT.ushrL (XT.ushrL (XT.ushrL (XT.ushrL (XT.ushrL (XT.ushrL (XT.ushrL q3 (8 : Int32)) (8 : Int32)) (8 : Int32)) (8 : Int32)) (8 : Int32)) (8 : Int32)) (8 : Int32))).toInt32.toInt8.toInt32)), .int (nar .byte (((XT.ushrL (XT.ushrL (XT.ushrL (XT.ushrL (XT.ushrL (XT.ushrL q3 (8 : Int32)) (8 : Int32)) (8 : Int32)) (8 : Int32)) (8 : Int32)) (8 : Int32))).toInt32.toInt8.toInt32)), .int (nar .byte (((XT.ushrL (XT.ushrL (XT.ushrL (XT.ushrL (XT.ushrL q3 (8 : Int32)) (8 : Int32)) (8 : Int32)) (8 : Int32)) (8 : Int32))).toInt32.toInt8.toInt32)), .int (nar .byte (((XT.ushrL (XT.ushrL (XT.ushrL (XT.ushrL q3 (8 : Int32)) (8 : Int32)) (8 : Int32)) (8 : Int32))).toInt32.toInt8.toInt32)), .int (nar .byte (((XT.ushrL (XT.ushrL (XT.ushrL q3 (8 : Int32)) (8 : Int32)) (8 : Int32))).toInt32.toInt8.toInt32)), .int (nar .byte (((XT.ushrL (XT.ushrL q3 (8 : Int32)) (8 : Int32))).toInt32.toInt8.toInt32)), .int (nar .byte (((XT.ushrL q3 (8 : Int32))).toInt32.toInt8.toInt32)), .int (nar .byte ((q3).toInt32.toInt8.toInt32))] (.int 0) := F461.keep Kp2 nin0
      have Z474 : n0 ≤ T464.heap.size := Nat.le_trans Z462 Kp2.1
      refine ow_at (g := (mkF m 283 #[.val (.int q0), .val (.int q1), .val (.int q2), .val (.long q3), .second, .val (.int q4), .val (.int q5), .val (.int (1 : Int32)), .val (.int (0 : Int32)), .val (.ref o1), .val (.int (13 : Int32)), .val (.int q2), .val (.ref a1), .val (.ref b1), .unset] [.ref b2])) ?_
      refine ow_astore K X464 (pc' := 285) (Ls' := #[.val (.int q0), .val (.int q1), .val (.int q2), .val (.long q3), .second, .val (.int q4), .val (.int q5), .val (.int (1 : Int32)), .val (.int (0 : Int32)), .val (.ref o1), .val (.int (13 : Int32)), .val (.int q2), .val (.ref a1), .val (.ref b1), .val (.ref b2)]) at_283 rfl rfl ?_
      refine ow_aload K X464 (pc' := 287) b2 at_285 rfl rfl ?_
      refine ow_aload K X464 (pc' := 289) a1 at_287 rfl rfl ?_
      refine ow_iload K X464 (pc' := 291) (13 : Int32) at_289 rfl rfl ?_
      refine ow_callS K X464 (pc' := 294) (rfl : T464.heap = T464.heap) (y := (⟨"com/example/cardinality/cardinality/value/ByteWriterToByteArrayPinLaw", "same", "([B[BI)Z"⟩ : MethodName)) (rm113 l Z a0 hw [] b2 a1 (13 : Int32) kb2 k327 (nar .byte (q1.toInt8.toInt32)) (nar .byte ((XT.ushr q2 (24 : Int32)).toInt8.toInt32)) (nar .byte ((XT.ushr q2 (16 : Int32)).toInt8.toInt32)) (nar .byte ((XT.ushr q2 (8 : Int32)).toInt8.toInt32)) (nar .byte (q2.toInt8.toInt32)) (nar .byte (((XT.ushrL (XT.ushrL (XT.ushrL (XT.ushrL (XT.ushrL (XT.ushrL (XT.ushrL q3 (8 : Int32)) (8 : Int32)) (8 : Int32)) (8 : Int32)) (8 : Int32)) (8 : Int32)) (8 : Int32))).toInt32.toInt8.toInt32)) (nar .byte (((XT.ushrL (XT.ushrL (XT.ushrL (XT.ushrL (XT.ushrL (XT.ushrL q3 (8 : Int32)) (8 : Int32)) (8 : Int32)) (8 : Int32)) (8 : Int32)) (8 : Int32))).toInt32.toInt8.toInt32)) (nar .byte (((XT.ushrL (XT.ushrL (XT.ushrL (XT.ushrL (XT.ushrL q3 (8 : Int32)) (8 : Int32)) (8 : Int32)) (8 : Int32)) (8 : Int32))).toInt32.toInt8.toInt32)) (nar .byte (((XT.ushrL (XT.ushrL (XT.ushrL (XT.ushrL q3 (8 : Int32)) (8 : Int32)) (8 : Int32)) (8 : Int32))).toInt32.toInt8.toInt32)) (nar .byte (((XT.ushrL (XT.ushrL (XT.ushrL q3 (8 : Int32)) (8 : Int32)) (8 : Int32))).toInt32.toInt8.toInt32)) (nar .byte (((XT.ushrL (XT.ushrL q3 (8 : Int32)) (8 : Int32))).toInt32.toInt8.toInt32)) (nar .byte (((XT.ushrL q3 (8 : Int32))).toInt32.toInt8.toInt32)) (nar .byte ((q3).toInt32.toInt8.toInt32)) T464.heap n0 Z2 rfl AV2 F473) (hw _ (List.mem_of_getElem? (i := 57) rfl)) (hw _ (List.mem_of_getElem? (i := 58) rfl)) (hw _ (List.mem_of_getElem? (i := 59) rfl)) (hw _ (List.mem_of_getElem? (i := 60) rfl)) (by decide) (st := []) 0 (Nat.le_of_eq rfl) (by decide) (by decide) (by decide) (by decide) rfl [.ref b2, .ref a1, .int (13 : Int32)] rfl (lenOf pd_113 rfl) rfl at_291 rfl ?_
      intro v475 T475 L475 X475 hQ475
      obtain ⟨rfl, NNs2, exs2⟩ := hQ475
      have NXs2 := Fr.app NX2 NNs2
      refine ow_at (g := (mkF m 294 #[.val (.int q0), .val (.int q1), .val (.int q2), .val (.long q3), .second, .val (.int q4), .val (.int q5), .val (.int (1 : Int32)), .val (.int (0 : Int32)), .val (.ref o1), .val (.int (13 : Int32)), .val (.int q2), .val (.ref a1), .val (.ref b1), .val (.ref b2)] [.int (1 : Int32)])) ?_
      refine ow_ifN K X475 (pc' := 297) at_294 rfl (XT.i0_eq_f (by decide)) ?_
      refine ow_aload K X475 (pc' := 299) o1 at_297 rfl rfl ?_
      refine ow_callV K X475 (pc' := 302) exs2 (y := (⟨"com/example/cardinality/cardinality/value/ByteWriter", "length", "()I"⟩ : MethodName)) (rm13 l Z a0 hw [] o1 (13 : Int32) T464.heap n0 Z2 F470) F468 (hw _ (List.mem_of_getElem? (i := 61) rfl)) (hw _ (List.mem_of_getElem? (i := 62) rfl)) (hw _ (List.mem_of_getElem? (i := 64) rfl)) (hw _ (List.mem_of_getElem? (i := 63) rfl)) (hw _ (List.mem_of_getElem? (i := 2) rfl)) (hw _ (List.mem_of_getElem? (i := 65) rfl)) (by decide) (st := []) 0 (Nat.le_of_eq rfl) (by decide) (by decide) (by decide) (by decide) rfl [] rfl (lenOf pd_13 rfl) rfl at_299 rfl ?_
      intro v476 T476 L476 X476 hQ476
      obtain ⟨rfl, NNt2, ext2⟩ := hQ476
      have NXt2 := Fr.app NXs2 NNt2
      refine ow_at (g := (mkF m 302 #[.val (.int q0), .val (.int q1), .val (.int q2), .val (.long q3), .second, .val (.int q4), .val (.int q5), .val (.int (1 : Int32)), .val (.int (0 : Int32)), .val (.ref o1), .val (.int (13 : Int32)), .val (.int q2), .val (.ref a1), .val (.ref b1), .val (.ref b2)] [.int (13 : Int32)])) ?_
      refine ow_iload K X476 (pc' := 304) (13 : Int32) at_302 rfl rfl ?_
      refine ow_icmpN K X476 (pc' := 307) at_304 rfl (XT.ii_ne_f rfl) ?_
      refine ow_iconst K X476 (pc' := 308) (1 : Int32) at_307 rfl (by decide) ?_
      refine ow_goto K X476 (pc' := 312) at_308 (by decide) (by decide) ?_
      exact ow_retI K X476 .boolean rfl (by decide) (Or.inr (Or.inl rfl)) at_312 ⟨rfl, NXt2⟩ (by decide) (by decide)
    · refine ow_ifN K X0 (pc' := 21) at_18 rfl (XT.i0_eq_f hO) ?_
      refine ow_iconst K X0 (pc' := 22) (1 : Int32) at_21 rfl (by decide) ?_
      refine ow_goto K X0 (pc' := 26) at_22 (by decide) (by decide) ?_
      refine ow_istore K X0 (pc' := 28) (Ls' := #[.val (.int q0), .val (.int q1), .val (.int q2), .val (.long q3), .second, .val (.int q4), .val (.int q5), .val (.int (1 : Int32)), .val (.int (1 : Int32)), .unset, .unset, .unset, .unset, .unset, .unset]) at_26 rfl rfl ?_
      refine ow_newO K X0 (pc' := 31) e0 (hw _ (List.mem_of_getElem? (i := 0) rfl)) (hw _ (List.mem_of_getElem? (i := 1) rfl)) (hw _ (List.mem_of_getElem? (i := 2) rfl)) (by decide) (by decide) at_28 rfl ?_
      intro T477 h477 o1 X477 e477 E477 g477 A477 D477
      have ge478 : n0 ≤ o1 := Nat.le_trans Z0 (Nat.le_of_eq g477.symm)
      have Z479 : n0 ≤ h477.size := Nat.le_trans Z0 E477.1
      have F480 : Fld Z h477 o1 "com/example/cardinality/cardinality/value/ByteWriter" "bytes" "[B" (.null) := D477 (Or.inl (hw _ (List.mem_of_getElem? (i := 15) rfl))) (ty := (.array .byte)) (by decide)
      have F481 : Fld Z h477 o1 "com/example/cardinality/cardinality/value/ByteWriter" "length" "I" (.int 0) := D477 (Or.inl (hw _ (List.mem_of_getElem? (i := 26) rfl))) (ty := .int) (by decide)
      refine ow_dup K X477 (pc' := 32) at_31 rfl rfl ?_
      refine ow_iloadN K X477 (pc' := 33) q0 at_32 rfl rfl ?_
      refine ow_bipush K X477 (pc' := 35) (31 : Int32) at_33 rfl (by decide) ?_
      refine ow_iand K X477 (pc' := 36) (q0 &&& (31 : Int32)) at_35 rfl rfl ?_
      have hx31 := own_and31 q0
      have e8 : (8 : Int32).toInt = 8 := by decide
      obtain ⟨N, hN, h8, h31⟩ : ∃ N : Int32, own_max (q0 &&& (31 : Int32)) 8 = N ∧ 8 ≤ N.toInt ∧ N.toInt ≤ 31 := ⟨_, rfl, by rw [own_maxI, e8]; split <;> omega, by rw [own_maxI, e8]; split <;> omega⟩
      have nc := own_clamp (x := N) (by omega)
      refine ow_callP K X477 (pc' := 39) e477 (y := (⟨"com/example/cardinality/cardinality/value/ByteWriter", "<init>", "(I)V"⟩ : MethodName)) (rm4 l Z a0 hw [] o1 (q0 &&& (31 : Int32)) N h477 n0 Z479 A477 F480 F481 ge478 hN h8 h31) rfl (hw _ (List.mem_of_getElem? (i := 3) rfl)) (hw _ (List.mem_of_getElem? (i := 4) rfl)) (hw _ (List.mem_of_getElem? (i := 2) rfl)) (hw _ (List.mem_of_getElem? (i := 5) rfl)) (by decide) (st := [.ref o1]) 1 (Nat.le_of_eq rfl) (by decide) (by decide) (by decide) (by decide) rfl [.int (q0 &&& (31 : Int32))] rfl (lenOf pd_4 rfl) rfl at_36 rfl ?_
      intro v482 T482 L482 X482 hQ482
      obtain ⟨rfl, NNi, Zi, r1, k1, gr, ne, Ei, FBi, FLi, AVi, AEi⟩ := hQ482
      have NXi := Fr.app N0 NNi
      refine ow_at (g := (mkF m 39 #[.val (.int q0), .val (.int q1), .val (.int q2), .val (.long q3), .second, .val (.int q4), .val (.int q5), .val (.int (1 : Int32)), .val (.int (1 : Int32)), .unset, .unset, .unset, .unset, .unset, .unset] [.ref o1])) ?_
      refine ow_astore K X482 (pc' := 41) (Ls' := #[.val (.int q0), .val (.int q1), .val (.int q2), .val (.long q3), .second, .val (.int q4), .val (.int q5), .val (.int (1 : Int32)), .val (.int (1 : Int32)), .val (.ref o1), .unset, .unset, .unset, .unset, .unset]) at_39 rfl rfl ?_
      refine ow_aload K X482 (pc' := 43) o1 at_41 rfl rfl ?_
      refine ow_iloadN K X482 (pc' := 44) q1 at_43 rfl rfl ?_
      refine ow_callV K X482 (pc' := 47) (rfl : T482.heap = T482.heap) (y := (⟨"com/example/cardinality/cardinality/value/ByteWriter", "writeByte", "(I)V"⟩ : MethodName)) (rm7 l Z a0 hw [] o1 q1 r1 k1 N T482.heap n0 Zi Ei FBi FLi AVi AEi ge478 gr ne (own_ng (by omega) (by omega) (by decide) (by decide) (by show (1 : Int) ≤ _ - 0; omega)) (by omega)) Ei (hw _ (List.mem_of_getElem? (i := 16) rfl)) (hw _ (List.mem_of_getElem? (i := 17) rfl)) (hw _ (List.mem_of_getElem? (i := 19) rfl)) (hw _ (List.mem_of_getElem? (i := 18) rfl)) (hw _ (List.mem_of_getElem? (i := 2) rfl)) (hw _ (List.mem_of_getElem? (i := 20) rfl)) (by decide) (st := []) 0 (Nat.le_of_eq rfl) (by decide) (by decide) (by decide) (by decide) rfl [.int q1] rfl (lenOf pd_7 rfl) rfl at_44 rfl ?_
      intro v483 T483 L483 X483 hQ483
      obtain ⟨rfl, NNb, Zb, Eb, FBb, FLb, AVb, AEb⟩ := hQ483
      have NXb := Fr.app NXi NNb
      refine ow_at (g := (mkF m 47 #[.val (.int q0), .val (.int q1), .val (.int q2), .val (.long q3), .second, .val (.int q4), .val (.int q5), .val (.int (1 : Int32)), .val (.int (1 : Int32)), .val (.ref o1), .unset, .unset, .unset, .unset, .unset] [])) ?_
      refine ow_aload K X483 (pc' := 49) o1 at_47 rfl rfl ?_
      refine ow_iloadN K X483 (pc' := 50) q2 at_49 rfl rfl ?_
      refine ow_callV K X483 (pc' := 53) (rfl : T483.heap = T483.heap) (y := (⟨"com/example/cardinality/cardinality/value/ByteWriter", "writeInt", "(I)V"⟩ : MethodName)) (rm9 l Z a0 hw [] o1 q2 r1 k1 N (nar .byte (q1.toInt8.toInt32)) T483.heap n0 Zb Eb FBb FLb AVb AEb ge478 gr ne (own_ng (by omega) (by omega) (by decide) (by decide) (by show (4 : Int) ≤ _ - 1; omega)) (by omega)) Eb (hw _ (List.mem_of_getElem? (i := 27) rfl)) (hw _ (List.mem_of_getElem? (i := 28) rfl)) (hw _ (List.mem_of_getElem? (i := 30) rfl)) (hw _ (List.mem_of_getElem? (i := 29) rfl)) (hw _ (List.mem_of_getElem? (i := 2) rfl)) (hw _ (List.mem_of_getElem? (i := 31) rfl)) (by decide) (st := []) 0 (Nat.le_of_eq rfl) (by decide) (by decide) (by decide) (by decide) rfl [.int q2] rfl (lenOf pd_9 rfl) rfl at_50 rfl ?_
      intro v484 T484 L484 X484 hQ484
      obtain ⟨rfl, NNi, Zi, Ei, FBi, FLi, AVi, AEi⟩ := hQ484
      have NXi := Fr.app NXb NNi
      refine ow_at (g := (mkF m 53 #[.val (.int q0), .val (.int q1), .val (.int q2), .val (.long q3), .second, .val (.int q4), .val (.int q5), .val (.int (1 : Int32)), .val (.int (1 : Int32)), .val (.ref o1), .unset, .unset, .unset, .unset, .unset] [])) ?_
      refine ow_iload K X484 (pc' := 55) (1 : Int32) at_53 rfl rfl ?_
      refine ow_ifN K X484 (pc' := 58) at_55 rfl (XT.i0_eq_f (by decide)) ?_
      refine ow_aload K X484 (pc' := 60) o1 at_58 rfl rfl ?_
      refine ow_lloadN K X484 (pc' := 61) q3 at_60 rfl rfl ?_
      refine ow_callV K X484 (pc' := 64) (rfl : T484.heap = T484.heap) (y := (⟨"com/example/cardinality/cardinality/value/ByteWriter", "writeLong", "(J)V"⟩ : MethodName)) (rm11 l Z a0 hw [] o1 q3 r1 k1 N (nar .byte (q1.toInt8.toInt32)) (nar .byte ((XT.ushr q2 (24 : Int32)).toInt8.toInt32)) (nar .byte ((XT.ushr q2 (16 : Int32)).toInt8.toInt32)) (nar .byte ((XT.ushr q2 (8 : Int32)).toInt8.toInt32)) (nar .byte (q2.toInt8.toInt32)) T484.heap n0 Zi Ei FBi FLi AVi AEi ge478 gr ne h8 h31) Ei (hw _ (List.mem_of_getElem? (i := 66) rfl)) (hw _ (List.mem_of_getElem? (i := 67) rfl)) (hw _ (List.mem_of_getElem? (i := 69) rfl)) (hw _ (List.mem_of_getElem? (i := 68) rfl)) (hw _ (List.mem_of_getElem? (i := 2) rfl)) (hw _ (List.mem_of_getElem? (i := 70) rfl)) (by decide) (st := []) 0 (Nat.le_of_eq rfl) (by decide) (by decide) (by decide) (by decide) rfl [.long q3] rfl (lenOf pd_11 rfl) rfl at_61 rfl ?_
      intro v485 T485 L485 X485 hQ485
      obtain ⟨r2, k2, N2, rfl, NNl, Zl, gr2, ne2, h13, h31', El, FBl, FLl, AVl, AEl⟩ := hQ485
      have NXl := Fr.app NXi NNl
      have nc2 := own_clamp (x := N2) (by omega)
      refine ow_at (g := (mkF m 64 #[.val (.int q0), .val (.int q1), .val (.int q2), .val (.long q3), .second, .val (.int q4), .val (.int q5), .val (.int (1 : Int32)), .val (.int (1 : Int32)), .val (.ref o1), .unset, .unset, .unset, .unset, .unset] [])) ?_
      refine ow_iload K X485 (pc' := 66) (1 : Int32) at_64 rfl rfl ?_
      refine ow_ifN K X485 (pc' := 69) at_66 rfl (XT.i0_eq_f (by decide)) ?_
      refine ow_aload K X485 (pc' := 71) o1 at_69 rfl rfl ?_
      refine ow_iconst K X485 (pc' := 72) (1 : Int32) at_71 rfl (by decide) ?_
      refine ow_iload K X485 (pc' := 74) q4 at_72 rfl rfl ?_
      refine ow_callV K X485 (pc' := 77) (rfl : T485.heap = T485.heap) (y := (⟨"com/example/cardinality/cardinality/value/ByteWriter", "writeIntAt", "(II)V"⟩ : MethodName)) (rm10 l Z a0 hw [] o1 (1 : Int32) q4 r2 k2 N2 (13 : Int32) [.int (nar .byte (q1.toInt8.toInt32)), .int (nar .byte ((XT.ushr q2 (24 : Int32)).toInt8.toInt32)), .int (nar .byte ((XT.ushr q2 (16 : Int32)).toInt8.toInt32)), .int (nar .byte ((XT.ushr q2 (8 : Int32)).toInt8.toInt32)), .int (nar .byte (q2.toInt8.toInt32)), .int (nar .byte (((XT.ushrL (XT.ushrL (XT.ushrL (XT.ushrL (XT.ushrL (XT.ushrL (XT.ushrL q3 (8 : Int32)) (8 : Int32)) (8 : Int32)) (8 : Int32)) (8 : Int32)) (8 : Int32)) (8 : Int32))).toInt32.toInt8.toInt32)), .int (nar .byte (((XT.ushrL (XT.ushrL (XT.ushrL (XT.ushrL (XT.ushrL (XT.ushrL q3 (8 : Int32)) (8 : Int32)) (8 : Int32)) (8 : Int32)) (8 : Int32)) (8 : Int32))).toInt32.toInt8.toInt32)), .int (nar .byte (((XT.ushrL (XT.ushrL (XT.ushrL (XT.ushrL (XT.ushrL q3 (8 : Int32)) (8 : Int32)) (8 : Int32)) (8 : Int32)) (8 : Int32))).toInt32.toInt8.toInt32)), .int (nar .byte (((XT.ushrL (XT.ushrL (XT.ushrL (XT.ushrL q3 (8 : Int32)) (8 : Int32)) (8 : Int32)) (8 : Int32))).toInt32.toInt8.toInt32)), .int (nar .byte (((XT.ushrL (XT.ushrL (XT.ushrL q3 (8 : Int32)) (8 : Int32)) (8 : Int32))).toInt32.toInt8.toInt32)), .int (nar .byte (((XT.ushrL (XT.ushrL q3 (8 : Int32)) (8 : Int32))).toInt32.toInt8.toInt32)), .int (nar .byte (((XT.ushrL q3 (8 : Int32))).toInt32.toInt8.toInt32)), .int (nar .byte ((q3).toInt32.toInt8.toInt32))] T485.heap n0 Zl El FBl FLl AVl AEl ge478 gr2 ne2 rfl (by decide) (by omega) (by show 5 ≤ 13; decide)) El (hw _ (List.mem_of_getElem? (i := 36) rfl)) (hw _ (List.mem_of_getElem? (i := 37) rfl)) (hw _ (List.mem_of_getElem? (i := 39) rfl)) (hw _ (List.mem_of_getElem? (i := 38) rfl)) (hw _ (List.mem_of_getElem? (i := 2) rfl)) (hw _ (List.mem_of_getElem? (i := 40) rfl)) (by decide) (st := []) 0 (Nat.le_of_eq rfl) (by decide) (by decide) (by decide) (by decide) rfl [.int (1 : Int32), .int q4] rfl (lenOf pd_10 rfl) rfl at_74 rfl ?_
      intro v486 T486 L486 X486 hQ486
      obtain ⟨rfl, NNw, Zw, Ew, FBw, FLw, AVw', AEw⟩ := hQ486
      have NXw := Fr.app NXl NNw
      have AVw : Arv Z T486.heap r2 k2 .byte N2 [.int (nar .byte (q1.toInt8.toInt32)), .int (nar .byte ((XT.ushr q4 (24 : Int32)).toInt8.toInt32)), .int (nar .byte ((XT.ushr q4 (16 : Int32)).toInt8.toInt32)), .int (nar .byte ((XT.ushr q4 (8 : Int32)).toInt8.toInt32)), .int (nar .byte (q4.toInt8.toInt32)), .int (nar .byte (((XT.ushrL (XT.ushrL (XT.ushrL (XT.ushrL (XT.ushrL (XT.ushrL (XT.ushrL q3 (8 : Int32)) (8 : Int32)) (8 : Int32)) (8 : Int32)) (8 : Int32)) (8 : Int32)) (8 : Int32))).toInt32.toInt8.toInt32)), .int (nar .byte (((XT.ushrL (XT.ushrL (XT.ushrL (XT.ushrL (XT.ushrL (XT.ushrL q3 (8 : Int32)) (8 : Int32)) (8 : Int32)) (8 : Int32)) (8 : Int32)) (8 : Int32))).toInt32.toInt8.toInt32)), .int (nar .byte (((XT.ushrL (XT.ushrL (XT.ushrL (XT.ushrL (XT.ushrL q3 (8 : Int32)) (8 : Int32)) (8 : Int32)) (8 : Int32)) (8 : Int32))).toInt32.toInt8.toInt32)), .int (nar .byte (((XT.ushrL (XT.ushrL (XT.ushrL (XT.ushrL q3 (8 : Int32)) (8 : Int32)) (8 : Int32)) (8 : Int32))).toInt32.toInt8.toInt32)), .int (nar .byte (((XT.ushrL (XT.ushrL (XT.ushrL q3 (8 : Int32)) (8 : Int32)) (8 : Int32))).toInt32.toInt8.toInt32)), .int (nar .byte (((XT.ushrL (XT.ushrL q3 (8 : Int32)) (8 : Int32))).toInt32.toInt8.toInt32)), .int (nar .byte (((XT.ushrL q3 (8 : Int32))).toInt32.toInt8.toInt32)), .int (nar .byte ((q3).toInt32.toInt8.toInt32))] (.int 0) := AVw'
      refine ow_at (g := (mkF m 77 #[.val (.int q0), .val (.int q1), .val (.int q2), .val (.long q3), .second, .val (.int q4), .val (.int q5), .val (.int (1 : Int32)), .val (.int (1 : Int32)), .val (.ref o1), .unset, .unset, .unset, .unset, .unset] [])) ?_
      refine ow_iload K X486 (pc' := 79) (1 : Int32) at_77 rfl rfl ?_
      refine ow_ifN K X486 (pc' := 82) at_79 rfl (XT.i0_eq_f (by decide)) ?_
      refine ow_bipush K X486 (pc' := 84) (13 : Int32) at_82 rfl (by decide) ?_
      refine ow_goto K X486 (pc' := 88) at_84 (by decide) (by decide) ?_
      refine ow_istore K X486 (pc' := 90) (Ls' := #[.val (.int q0), .val (.int q1), .val (.int q2), .val (.long q3), .second, .val (.int q4), .val (.int q5), .val (.int (1 : Int32)), .val (.int (1 : Int32)), .val (.ref o1), .val (.int (13 : Int32)), .unset, .unset, .unset, .unset]) at_88 rfl rfl ?_
      refine ow_iload K X486 (pc' := 92) (1 : Int32) at_90 rfl rfl ?_
      refine ow_ifN K X486 (pc' := 95) at_92 rfl (XT.i0_eq_f (by decide)) ?_
      refine ow_iload K X486 (pc' := 97) q4 at_95 rfl rfl ?_
      refine ow_goto K X486 (pc' := 101) at_97 (by decide) (by decide) ?_
      refine ow_istore K X486 (pc' := 103) (Ls' := #[.val (.int q0), .val (.int q1), .val (.int q2), .val (.long q3), .second, .val (.int q4), .val (.int q5), .val (.int (1 : Int32)), .val (.int (1 : Int32)), .val (.ref o1), .val (.int (13 : Int32)), .val (.int q4), .unset, .unset, .unset]) at_101 rfl rfl ?_
      refine ow_bipush K X486 (pc' := 105) (13 : Int32) at_103 rfl (by decide) ?_
      refine ow_newP K X486 (pc' := 107) (rfl : T486.heap = T486.heap) (hw _ (List.mem_of_getElem? (i := 13) rfl)) (by decide) 13 (by decide) (by decide) (by decide) (by decide) at_105 rfl ?_
      intro T487 h487 k487 a1 X487 e487 E487 g487 A487
      have ne488 : o1 ≠ a1 := ow_ne Ew.lt g487
      have ne489 : r2 ≠ a1 := ow_ne AVw.lt g487
      have ge490 : n0 ≤ a1 := Nat.le_trans Zw (Nat.le_of_eq g487.symm)
      have F491 : Exa Z h487 o1 "com/example/cardinality/cardinality/value/ByteWriter" := Ew.ext E487
      have F492 : Fld Z h487 o1 "com/example/cardinality/cardinality/value/ByteWriter" "bytes" "[B" (.ref r2) := FBw.ext E487
      have F493 : Fld Z h487 o1 "com/example/cardinality/cardinality/value/ByteWriter" "length" "I" (.int (13 : Int32)) := FLw.ext E487
      have F494 : Arv Z h487 r2 k2 .byte N2 [.int (nar .byte (q1.toInt8.toInt32)), .int (nar .byte ((XT.ushr q4 (24 : Int32)).toInt8.toInt32)), .int (nar .byte ((XT.ushr q4 (16 : Int32)).toInt8.toInt32)), .int (nar .byte ((XT.ushr q4 (8 : Int32)).toInt8.toInt32)), .int (nar .byte (q4.toInt8.toInt32)), .int (nar .byte (((XT.ushrL (XT.ushrL (XT.ushrL (XT.ushrL (XT.ushrL (XT.ushrL (XT.ushrL q3 (8 : Int32)) (8 : Int32)) (8 : Int32)) (8 : Int32)) (8 : Int32)) (8 : Int32)) (8 : Int32))).toInt32.toInt8.toInt32)), .int (nar .byte (((XT.ushrL (XT.ushrL (XT.ushrL (XT.ushrL (XT.ushrL (XT.ushrL q3 (8 : Int32)) (8 : Int32)) (8 : Int32)) (8 : Int32)) (8 : Int32)) (8 : Int32))).toInt32.toInt8.toInt32)), .int (nar .byte (((XT.ushrL (XT.ushrL (XT.ushrL (XT.ushrL (XT.ushrL q3 (8 : Int32)) (8 : Int32)) (8 : Int32)) (8 : Int32)) (8 : Int32))).toInt32.toInt8.toInt32)), .int (nar .byte (((XT.ushrL (XT.ushrL (XT.ushrL (XT.ushrL q3 (8 : Int32)) (8 : Int32)) (8 : Int32)) (8 : Int32))).toInt32.toInt8.toInt32)), .int (nar .byte (((XT.ushrL (XT.ushrL (XT.ushrL q3 (8 : Int32)) (8 : Int32)) (8 : Int32))).toInt32.toInt8.toInt32)), .int (nar .byte (((XT.ushrL (XT.ushrL q3 (8 : Int32)) (8 : Int32))).toInt32.toInt8.toInt32)), .int (nar .byte (((XT.ushrL q3 (8 : Int32))).toInt32.toInt8.toInt32)), .int (nar .byte ((q3).toInt32.toInt8.toInt32))] (.int 0) := AVw.ext E487
      have F495 : Exa Z h487 r2 "[B" := AEw.ext E487
      have Z496 : n0 ≤ h487.size := Nat.le_trans Zw E487.1
      have F497 : Arv Z h487 a1 k487 .byte (13 : Int32) [.int 0, .int 0, .int 0, .int 0, .int 0, .int 0, .int 0, .int 0, .int 0, .int 0, .int 0, .int 0, .int 0] (.int 0) := Arv.pad A487 (pad_rep [] (.int 0) 13)
      refine ow_astore K X487 (pc' := 109) (Ls' := #[.val (.int q0), .val (.int q1), .val (.int q2), .val (.long q3), .second, .val (.int q4), .val (.int q5), .val (.int (1 : Int32)), .val (.int (1 : Int32)), .val (.ref o1), .val (.int (13 : Int32)), .val (.int q4), .val (.ref a1), .unset, .unset]) at_107 rfl rfl ?_
      refine ow_aload K X487 (pc' := 111) a1 at_109 rfl rfl ?_
      refine ow_iconst K X487 (pc' := 112) (0 : Int32) at_111 rfl (by decide) ?_
      refine ow_iloadN K X487 (pc' := 113) q1 at_112 rfl rfl ?_
      refine ow_i2b K X487 (pc' := 114) ((q1).toInt8.toInt32) at_113 rfl rfl ?_
      refine ow_bastore K X487 (pc' := 115) e487 F497 0 [.int (nar .byte (q1.toInt8.toInt32)), .int 0, .int 0, .int 0, .int 0, .int 0, .int 0, .int 0, .int 0, .int 0, .int 0, .int 0, .int 0] ⟨by decide, by decide⟩ (by decide) (by simp) rfl at_114 rfl ?_
      intro T498 h498 X498 e498 W498 F498
      have F499 : Exa Z h498 o1 "com/example/cardinality/cardinality/value/ByteWriter" := Exa.wr W498 F491
      have F500 : Fld Z h498 o1 "com/example/cardinality/cardinality/value/ByteWriter" "bytes" "[B" (.ref r2) := Fld.other W498 F492 (Or.inl ne488)
      have F501 : Fld Z h498 o1 "com/example/cardinality/cardinality/value/ByteWriter" "length" "I" (.int (13 : Int32)) := Fld.other W498 F493 (Or.inl ne488)
      have F502 : Arv Z h498 r2 k2 .byte N2 [.int (nar .byte (q1.toInt8.toInt32)), .int (nar .byte ((XT.ushr q4 (24 : Int32)).toInt8.toInt32)), .int (nar .byte ((XT.ushr q4 (16 : Int32)).toInt8.toInt32)), .int (nar .byte ((XT.ushr q4 (8 : Int32)).toInt8.toInt32)), .int (nar .byte (q4.toInt8.toInt32)), .int (nar .byte (((XT.ushrL (XT.ushrL (XT.ushrL (XT.ushrL (XT.ushrL (XT.ushrL (XT.ushrL q3 (8 : Int32)) (8 : Int32)) (8 : Int32)) (8 : Int32)) (8 : Int32)) (8 : Int32)) (8 : Int32))).toInt32.toInt8.toInt32)), .int (nar .byte (((XT.ushrL (XT.ushrL (XT.ushrL (XT.ushrL (XT.ushrL (XT.ushrL q3 (8 : Int32)) (8 : Int32)) (8 : Int32)) (8 : Int32)) (8 : Int32)) (8 : Int32))).toInt32.toInt8.toInt32)), .int (nar .byte (((XT.ushrL (XT.ushrL (XT.ushrL (XT.ushrL (XT.ushrL q3 (8 : Int32)) (8 : Int32)) (8 : Int32)) (8 : Int32)) (8 : Int32))).toInt32.toInt8.toInt32)), .int (nar .byte (((XT.ushrL (XT.ushrL (XT.ushrL (XT.ushrL q3 (8 : Int32)) (8 : Int32)) (8 : Int32)) (8 : Int32))).toInt32.toInt8.toInt32)), .int (nar .byte (((XT.ushrL (XT.ushrL (XT.ushrL q3 (8 : Int32)) (8 : Int32)) (8 : Int32))).toInt32.toInt8.toInt32)), .int (nar .byte (((XT.ushrL (XT.ushrL q3 (8 : Int32)) (8 : Int32))).toInt32.toInt8.toInt32)), .int (nar .byte (((XT.ushrL q3 (8 : Int32))).toInt32.toInt8.toInt32)), .int (nar .byte ((q3).toInt32.toInt8.toInt32))] (.int 0) := F494.other W498 ne489
      have F503 : Exa Z h498 r2 "[B" := Exa.wr W498 F495
      have Z504 : n0 ≤ h498.size := Nat.le_trans Z496 (Nat.le_of_eq W498.size.symm)
      have N505 := Fr.snoc X498 NXw ge490
      refine ow_aload K X498 (pc' := 117) a1 at_115 rfl rfl ?_
      refine ow_iconst K X498 (pc' := 118) (1 : Int32) at_117 rfl (by decide) ?_
      refine ow_iload K X498 (pc' := 120) q4 at_118 rfl rfl ?_
      refine ow_bipush K X498 (pc' := 122) (24 : Int32) at_120 rfl (by decide) ?_
      refine ow_ishr K X498 (pc' := 123) (q4 >>> ((24 : Int32) &&& 31)) at_122 rfl rfl ?_
      refine ow_i2b K X498 (pc' := 124) (((q4 >>> ((24 : Int32) &&& 31))).toInt8.toInt32) at_123 rfl rfl ?_
      refine ow_bastore K X498 (pc' := 125) e498 F498 1 [.int (nar .byte (q1.toInt8.toInt32)), .int (nar .byte ((XT.ushr q4 (24 : Int32)).toInt8.toInt32)), .int 0, .int 0, .int 0, .int 0, .int 0, .int 0, .int 0, .int 0, .int 0, .int 0, .int 0] ⟨by decide, by decide⟩ (by decide) (by simp) (by rw [own_i24]; rfl) at_124 rfl ?_
      intro T506 h506 X506 e506 W506 F506
      have F507 : Exa Z h506 o1 "com/example/cardinality/cardinality/value/ByteWriter" := Exa.wr W506 F499
      have F508 : Fld Z h506 o1 "com/example/cardinality/cardinality/value/ByteWriter" "bytes" "[B" (.ref r2) := Fld.other W506 F500 (Or.inl ne488)
      have F509 : Fld Z h506 o1 "com/example/cardinality/cardinality/value/ByteWriter" "length" "I" (.int (13 : Int32)) := Fld.other W506 F501 (Or.inl ne488)
      have F510 : Arv Z h506 r2 k2 .byte N2 [.int (nar .byte (q1.toInt8.toInt32)), .int (nar .byte ((XT.ushr q4 (24 : Int32)).toInt8.toInt32)), .int (nar .byte ((XT.ushr q4 (16 : Int32)).toInt8.toInt32)), .int (nar .byte ((XT.ushr q4 (8 : Int32)).toInt8.toInt32)), .int (nar .byte (q4.toInt8.toInt32)), .int (nar .byte (((XT.ushrL (XT.ushrL (XT.ushrL (XT.ushrL (XT.ushrL (XT.ushrL (XT.ushrL q3 (8 : Int32)) (8 : Int32)) (8 : Int32)) (8 : Int32)) (8 : Int32)) (8 : Int32)) (8 : Int32))).toInt32.toInt8.toInt32)), .int (nar .byte (((XT.ushrL (XT.ushrL (XT.ushrL (XT.ushrL (XT.ushrL (XT.ushrL q3 (8 : Int32)) (8 : Int32)) (8 : Int32)) (8 : Int32)) (8 : Int32)) (8 : Int32))).toInt32.toInt8.toInt32)), .int (nar .byte (((XT.ushrL (XT.ushrL (XT.ushrL (XT.ushrL (XT.ushrL q3 (8 : Int32)) (8 : Int32)) (8 : Int32)) (8 : Int32)) (8 : Int32))).toInt32.toInt8.toInt32)), .int (nar .byte (((XT.ushrL (XT.ushrL (XT.ushrL (XT.ushrL q3 (8 : Int32)) (8 : Int32)) (8 : Int32)) (8 : Int32))).toInt32.toInt8.toInt32)), .int (nar .byte (((XT.ushrL (XT.ushrL (XT.ushrL q3 (8 : Int32)) (8 : Int32)) (8 : Int32))).toInt32.toInt8.toInt32)), .int (nar .byte (((XT.ushrL (XT.ushrL q3 (8 : Int32)) (8 : Int32))).toInt32.toInt8.toInt32)), .int (nar .byte (((XT.ushrL q3 (8 : Int32))).toInt32.toInt8.toInt32)), .int (nar .byte ((q3).toInt32.toInt8.toInt32))] (.int 0) := F502.other W506 ne489
      have F511 : Exa Z h506 r2 "[B" := Exa.wr W506 F503
      have Z512 : n0 ≤ h506.size := Nat.le_trans Z504 (Nat.le_of_eq W506.size.symm)
      have N513 := Fr.snoc X506 N505 ge490
      refine ow_aload K X506 (pc' := 127) a1 at_125 rfl rfl ?_
      refine ow_iconst K X506 (pc' := 128) (2 : Int32) at_127 rfl (by decide) ?_
      refine ow_iload K X506 (pc' := 130) q4 at_128 rfl rfl ?_
      refine ow_bipush K X506 (pc' := 132) (16 : Int32) at_130 rfl (by decide) ?_
      refine ow_ishr K X506 (pc' := 133) (q4 >>> ((16 : Int32) &&& 31)) at_132 rfl rfl ?_
      refine ow_i2b K X506 (pc' := 134) (((q4 >>> ((16 : Int32) &&& 31))).toInt8.toInt32) at_133 rfl rfl ?_
      refine ow_bastore K X506 (pc' := 135) e506 F506 2 [.int (nar .byte (q1.toInt8.toInt32)), .int (nar .byte ((XT.ushr q4 (24 : Int32)).toInt8.toInt32)), .int (nar .byte ((XT.ushr q4 (16 : Int32)).toInt8.toInt32)), .int 0, .int 0, .int 0, .int 0, .int 0, .int 0, .int 0, .int 0, .int 0, .int 0] ⟨by decide, by decide⟩ (by decide) (by simp) (by rw [own_i16]; rfl) at_134 rfl ?_
      intro T514 h514 X514 e514 W514 F514
      have F515 : Exa Z h514 o1 "com/example/cardinality/cardinality/value/ByteWriter" := Exa.wr W514 F507
      have F516 : Fld Z h514 o1 "com/example/cardinality/cardinality/value/ByteWriter" "bytes" "[B" (.ref r2) := Fld.other W514 F508 (Or.inl ne488)
      have F517 : Fld Z h514 o1 "com/example/cardinality/cardinality/value/ByteWriter" "length" "I" (.int (13 : Int32)) := Fld.other W514 F509 (Or.inl ne488)
      have F518 : Arv Z h514 r2 k2 .byte N2 [.int (nar .byte (q1.toInt8.toInt32)), .int (nar .byte ((XT.ushr q4 (24 : Int32)).toInt8.toInt32)), .int (nar .byte ((XT.ushr q4 (16 : Int32)).toInt8.toInt32)), .int (nar .byte ((XT.ushr q4 (8 : Int32)).toInt8.toInt32)), .int (nar .byte (q4.toInt8.toInt32)), .int (nar .byte (((XT.ushrL (XT.ushrL (XT.ushrL (XT.ushrL (XT.ushrL (XT.ushrL (XT.ushrL q3 (8 : Int32)) (8 : Int32)) (8 : Int32)) (8 : Int32)) (8 : Int32)) (8 : Int32)) (8 : Int32))).toInt32.toInt8.toInt32)), .int (nar .byte (((XT.ushrL (XT.ushrL (XT.ushrL (XT.ushrL (XT.ushrL (XT.ushrL q3 (8 : Int32)) (8 : Int32)) (8 : Int32)) (8 : Int32)) (8 : Int32)) (8 : Int32))).toInt32.toInt8.toInt32)), .int (nar .byte (((XT.ushrL (XT.ushrL (XT.ushrL (XT.ushrL (XT.ushrL q3 (8 : Int32)) (8 : Int32)) (8 : Int32)) (8 : Int32)) (8 : Int32))).toInt32.toInt8.toInt32)), .int (nar .byte (((XT.ushrL (XT.ushrL (XT.ushrL (XT.ushrL q3 (8 : Int32)) (8 : Int32)) (8 : Int32)) (8 : Int32))).toInt32.toInt8.toInt32)), .int (nar .byte (((XT.ushrL (XT.ushrL (XT.ushrL q3 (8 : Int32)) (8 : Int32)) (8 : Int32))).toInt32.toInt8.toInt32)), .int (nar .byte (((XT.ushrL (XT.ushrL q3 (8 : Int32)) (8 : Int32))).toInt32.toInt8.toInt32)), .int (nar .byte (((XT.ushrL q3 (8 : Int32))).toInt32.toInt8.toInt32)), .int (nar .byte ((q3).toInt32.toInt8.toInt32))] (.int 0) := F510.other W514 ne489
      have F519 : Exa Z h514 r2 "[B" := Exa.wr W514 F511
      have Z520 : n0 ≤ h514.size := Nat.le_trans Z512 (Nat.le_of_eq W514.size.symm)
      have N521 := Fr.snoc X514 N513 ge490
      refine ow_aload K X514 (pc' := 137) a1 at_135 rfl rfl ?_
      refine ow_iconst K X514 (pc' := 138) (3 : Int32) at_137 rfl (by decide) ?_
      refine ow_iload K X514 (pc' := 140) q4 at_138 rfl rfl ?_
      refine ow_bipush K X514 (pc' := 142) (8 : Int32) at_140 rfl (by decide) ?_
      refine ow_ishr K X514 (pc' := 143) (q4 >>> ((8 : Int32) &&& 31)) at_142 rfl rfl ?_
      refine ow_i2b K X514 (pc' := 144) (((q4 >>> ((8 : Int32) &&& 31))).toInt8.toInt32) at_143 rfl rfl ?_
      refine ow_bastore K X514 (pc' := 145) e514 F514 3 [.int (nar .byte (q1.toInt8.toInt32)), .int (nar .byte ((XT.ushr q4 (24 : Int32)).toInt8.toInt32)), .int (nar .byte ((XT.ushr q4 (16 : Int32)).toInt8.toInt32)), .int (nar .byte ((XT.ushr q4 (8 : Int32)).toInt8.toInt32)), .int 0, .int 0, .int 0, .int 0, .int 0, .int 0, .int 0, .int 0, .int 0] ⟨by decide, by decide⟩ (by decide) (by simp) (by rw [own_i8]; rfl) at_144 rfl ?_
      intro T522 h522 X522 e522 W522 F522
      have F523 : Exa Z h522 o1 "com/example/cardinality/cardinality/value/ByteWriter" := Exa.wr W522 F515
      have F524 : Fld Z h522 o1 "com/example/cardinality/cardinality/value/ByteWriter" "bytes" "[B" (.ref r2) := Fld.other W522 F516 (Or.inl ne488)
      have F525 : Fld Z h522 o1 "com/example/cardinality/cardinality/value/ByteWriter" "length" "I" (.int (13 : Int32)) := Fld.other W522 F517 (Or.inl ne488)
      have F526 : Arv Z h522 r2 k2 .byte N2 [.int (nar .byte (q1.toInt8.toInt32)), .int (nar .byte ((XT.ushr q4 (24 : Int32)).toInt8.toInt32)), .int (nar .byte ((XT.ushr q4 (16 : Int32)).toInt8.toInt32)), .int (nar .byte ((XT.ushr q4 (8 : Int32)).toInt8.toInt32)), .int (nar .byte (q4.toInt8.toInt32)), .int (nar .byte (((XT.ushrL (XT.ushrL (XT.ushrL (XT.ushrL (XT.ushrL (XT.ushrL (XT.ushrL q3 (8 : Int32)) (8 : Int32)) (8 : Int32)) (8 : Int32)) (8 : Int32)) (8 : Int32)) (8 : Int32))).toInt32.toInt8.toInt32)), .int (nar .byte (((XT.ushrL (XT.ushrL (XT.ushrL (XT.ushrL (XT.ushrL (XT.ushrL q3 (8 : Int32)) (8 : Int32)) (8 : Int32)) (8 : Int32)) (8 : Int32)) (8 : Int32))).toInt32.toInt8.toInt32)), .int (nar .byte (((XT.ushrL (XT.ushrL (XT.ushrL (XT.ushrL (XT.ushrL q3 (8 : Int32)) (8 : Int32)) (8 : Int32)) (8 : Int32)) (8 : Int32))).toInt32.toInt8.toInt32)), .int (nar .byte (((XT.ushrL (XT.ushrL (XT.ushrL (XT.ushrL q3 (8 : Int32)) (8 : Int32)) (8 : Int32)) (8 : Int32))).toInt32.toInt8.toInt32)), .int (nar .byte (((XT.ushrL (XT.ushrL (XT.ushrL q3 (8 : Int32)) (8 : Int32)) (8 : Int32))).toInt32.toInt8.toInt32)), .int (nar .byte (((XT.ushrL (XT.ushrL q3 (8 : Int32)) (8 : Int32))).toInt32.toInt8.toInt32)), .int (nar .byte (((XT.ushrL q3 (8 : Int32))).toInt32.toInt8.toInt32)), .int (nar .byte ((q3).toInt32.toInt8.toInt32))] (.int 0) := F518.other W522 ne489
      have F527 : Exa Z h522 r2 "[B" := Exa.wr W522 F519
      have Z528 : n0 ≤ h522.size := Nat.le_trans Z520 (Nat.le_of_eq W522.size.symm)
      have N529 := Fr.snoc X522 N521 ge490
      refine ow_aload K X522 (pc' := 147) a1 at_145 rfl rfl ?_
      refine ow_iconst K X522 (pc' := 148) (4 : Int32) at_147 rfl (by decide) ?_
      refine ow_iload K X522 (pc' := 150) q4 at_148 rfl rfl ?_
      refine ow_i2b K X522 (pc' := 151) ((q4).toInt8.toInt32) at_150 rfl rfl ?_
      refine ow_bastore K X522 (pc' := 152) e522 F522 4 [.int (nar .byte (q1.toInt8.toInt32)), .int (nar .byte ((XT.ushr q4 (24 : Int32)).toInt8.toInt32)), .int (nar .byte ((XT.ushr q4 (16 : Int32)).toInt8.toInt32)), .int (nar .byte ((XT.ushr q4 (8 : Int32)).toInt8.toInt32)), .int (nar .byte (q4.toInt8.toInt32)), .int 0, .int 0, .int 0, .int 0, .int 0, .int 0, .int 0, .int 0] ⟨by decide, by decide⟩ (by decide) (by simp) rfl at_151 rfl ?_
      intro T530 h530 X530 e530 W530 F530
      have F531 : Exa Z h530 o1 "com/example/cardinality/cardinality/value/ByteWriter" := Exa.wr W530 F523
      have F532 : Fld Z h530 o1 "com/example/cardinality/cardinality/value/ByteWriter" "bytes" "[B" (.ref r2) := Fld.other W530 F524 (Or.inl ne488)
      have F533 : Fld Z h530 o1 "com/example/cardinality/cardinality/value/ByteWriter" "length" "I" (.int (13 : Int32)) := Fld.other W530 F525 (Or.inl ne488)
      have F534 : Arv Z h530 r2 k2 .byte N2 [.int (nar .byte (q1.toInt8.toInt32)), .int (nar .byte ((XT.ushr q4 (24 : Int32)).toInt8.toInt32)), .int (nar .byte ((XT.ushr q4 (16 : Int32)).toInt8.toInt32)), .int (nar .byte ((XT.ushr q4 (8 : Int32)).toInt8.toInt32)), .int (nar .byte (q4.toInt8.toInt32)), .int (nar .byte (((XT.ushrL (XT.ushrL (XT.ushrL (XT.ushrL (XT.ushrL (XT.ushrL (XT.ushrL q3 (8 : Int32)) (8 : Int32)) (8 : Int32)) (8 : Int32)) (8 : Int32)) (8 : Int32)) (8 : Int32))).toInt32.toInt8.toInt32)), .int (nar .byte (((XT.ushrL (XT.ushrL (XT.ushrL (XT.ushrL (XT.ushrL (XT.ushrL q3 (8 : Int32)) (8 : Int32)) (8 : Int32)) (8 : Int32)) (8 : Int32)) (8 : Int32))).toInt32.toInt8.toInt32)), .int (nar .byte (((XT.ushrL (XT.ushrL (XT.ushrL (XT.ushrL (XT.ushrL q3 (8 : Int32)) (8 : Int32)) (8 : Int32)) (8 : Int32)) (8 : Int32))).toInt32.toInt8.toInt32)), .int (nar .byte (((XT.ushrL (XT.ushrL (XT.ushrL (XT.ushrL q3 (8 : Int32)) (8 : Int32)) (8 : Int32)) (8 : Int32))).toInt32.toInt8.toInt32)), .int (nar .byte (((XT.ushrL (XT.ushrL (XT.ushrL q3 (8 : Int32)) (8 : Int32)) (8 : Int32))).toInt32.toInt8.toInt32)), .int (nar .byte (((XT.ushrL (XT.ushrL q3 (8 : Int32)) (8 : Int32))).toInt32.toInt8.toInt32)), .int (nar .byte (((XT.ushrL q3 (8 : Int32))).toInt32.toInt8.toInt32)), .int (nar .byte ((q3).toInt32.toInt8.toInt32))] (.int 0) := F526.other W530 ne489
      have F535 : Exa Z h530 r2 "[B" := Exa.wr W530 F527
      have Z536 : n0 ≤ h530.size := Nat.le_trans Z528 (Nat.le_of_eq W530.size.symm)
      have N537 := Fr.snoc X530 N529 ge490
      refine ow_aload K X530 (pc' := 154) a1 at_152 rfl rfl ?_
      refine ow_iconst K X530 (pc' := 155) (5 : Int32) at_154 rfl (by decide) ?_
      refine ow_lloadN K X530 (pc' := 156) q3 at_155 rfl rfl ?_
      refine ow_bipush K X530 (pc' := 158) (56 : Int32) at_156 rfl (by decide) ?_
      refine ow_lshr K X530 (pc' := 159) (q3 >>> (((56 : Int32)).toInt64 &&& 63)) at_158 rfl rfl ?_
      refine ow_l2i K X530 (pc' := 160) (((q3 >>> (((56 : Int32)).toInt64 &&& 63))).toInt32) at_159 rfl rfl ?_
      refine ow_i2b K X530 (pc' := 161) (((((q3 >>> (((56 : Int32)).toInt64 &&& 63))).toInt32)).toInt8.toInt32) at_160 rfl rfl ?_
      refine ow_bastore K X530 (pc' := 162) e530 F530 5 [.int (nar .byte (q1.toInt8.toInt32)), .int (nar .byte ((XT.ushr q4 (24 : Int32)).toInt8.toInt32)), .int (nar .byte ((XT.ushr q4 (16 : Int32)).toInt8.toInt32)), .int (nar .byte ((XT.ushr q4 (8 : Int32)).toInt8.toInt32)), .int (nar .byte (q4.toInt8.toInt32)), .int (nar .byte (((XT.ushrL (XT.ushrL (XT.ushrL (XT.ushrL (XT.ushrL (XT.ushrL (XT.ushrL q3 (8 : Int32)) (8 : Int32)) (8 : Int32)) (8 : Int32)) (8 : Int32)) (8 : Int32)) (8 : Int32))).toInt32.toInt8.toInt32)), .int 0, .int 0, .int 0, .int 0, .int 0, .int 0, .int 0] ⟨by decide, by decide⟩ (by decide) (by simp) (by rw [own_l7]; rfl) at_161 rfl ?_
      intro T538 h538 X538 e538 W538 F538
      have F539 : Exa Z h538 o1 "com/example/cardinality/cardinality/value/ByteWriter" := Exa.wr W538 F531
      have F540 : Fld Z h538 o1 "com/example/cardinality/cardinality/value/ByteWriter" "bytes" "[B" (.ref r2) := Fld.other W538 F532 (Or.inl ne488)
      have F541 : Fld Z h538 o1 "com/example/cardinality/cardinality/value/ByteWriter" "length" "I" (.int (13 : Int32)) := Fld.other W538 F533 (Or.inl ne488)
      have F542 : Arv Z h538 r2 k2 .byte N2 [.int (nar .byte (q1.toInt8.toInt32)), .int (nar .byte ((XT.ushr q4 (24 : Int32)).toInt8.toInt32)), .int (nar .byte ((XT.ushr q4 (16 : Int32)).toInt8.toInt32)), .int (nar .byte ((XT.ushr q4 (8 : Int32)).toInt8.toInt32)), .int (nar .byte (q4.toInt8.toInt32)), .int (nar .byte (((XT.ushrL (XT.ushrL (XT.ushrL (XT.ushrL (XT.ushrL (XT.ushrL (XT.ushrL q3 (8 : Int32)) (8 : Int32)) (8 : Int32)) (8 : Int32)) (8 : Int32)) (8 : Int32)) (8 : Int32))).toInt32.toInt8.toInt32)), .int (nar .byte (((XT.ushrL (XT.ushrL (XT.ushrL (XT.ushrL (XT.ushrL (XT.ushrL q3 (8 : Int32)) (8 : Int32)) (8 : Int32)) (8 : Int32)) (8 : Int32)) (8 : Int32))).toInt32.toInt8.toInt32)), .int (nar .byte (((XT.ushrL (XT.ushrL (XT.ushrL (XT.ushrL (XT.ushrL q3 (8 : Int32)) (8 : Int32)) (8 : Int32)) (8 : Int32)) (8 : Int32))).toInt32.toInt8.toInt32)), .int (nar .byte (((XT.ushrL (XT.ushrL (XT.ushrL (XT.ushrL q3 (8 : Int32)) (8 : Int32)) (8 : Int32)) (8 : Int32))).toInt32.toInt8.toInt32)), .int (nar .byte (((XT.ushrL (XT.ushrL (XT.ushrL q3 (8 : Int32)) (8 : Int32)) (8 : Int32))).toInt32.toInt8.toInt32)), .int (nar .byte (((XT.ushrL (XT.ushrL q3 (8 : Int32)) (8 : Int32))).toInt32.toInt8.toInt32)), .int (nar .byte (((XT.ushrL q3 (8 : Int32))).toInt32.toInt8.toInt32)), .int (nar .byte ((q3).toInt32.toInt8.toInt32))] (.int 0) := F534.other W538 ne489
      have F543 : Exa Z h538 r2 "[B" := Exa.wr W538 F535
      have Z544 : n0 ≤ h538.size := Nat.le_trans Z536 (Nat.le_of_eq W538.size.symm)
      have N545 := Fr.snoc X538 N537 ge490
      refine ow_aload K X538 (pc' := 164) a1 at_162 rfl rfl ?_
      refine ow_bipush K X538 (pc' := 166) (6 : Int32) at_164 rfl (by decide) ?_
      refine ow_lloadN K X538 (pc' := 167) q3 at_166 rfl rfl ?_
      refine ow_bipush K X538 (pc' := 169) (48 : Int32) at_167 rfl (by decide) ?_
      refine ow_lshr K X538 (pc' := 170) (q3 >>> (((48 : Int32)).toInt64 &&& 63)) at_169 rfl rfl ?_
      refine ow_l2i K X538 (pc' := 171) (((q3 >>> (((48 : Int32)).toInt64 &&& 63))).toInt32) at_170 rfl rfl ?_
      refine ow_i2b K X538 (pc' := 172) (((((q3 >>> (((48 : Int32)).toInt64 &&& 63))).toInt32)).toInt8.toInt32) at_171 rfl rfl ?_
      refine ow_bastore K X538 (pc' := 173) e538 F538 6 [.int (nar .byte (q1.toInt8.toInt32)), .int (nar .byte ((XT.ushr q4 (24 : Int32)).toInt8.toInt32)), .int (nar .byte ((XT.ushr q4 (16 : Int32)).toInt8.toInt32)), .int (nar .byte ((XT.ushr q4 (8 : Int32)).toInt8.toInt32)), .int (nar .byte (q4.toInt8.toInt32)), .int (nar .byte (((XT.ushrL (XT.ushrL (XT.ushrL (XT.ushrL (XT.ushrL (XT.ushrL (XT.ushrL q3 (8 : Int32)) (8 : Int32)) (8 : Int32)) (8 : Int32)) (8 : Int32)) (8 : Int32)) (8 : Int32))).toInt32.toInt8.toInt32)), .int (nar .byte (((XT.ushrL (XT.ushrL (XT.ushrL (XT.ushrL (XT.ushrL (XT.ushrL q3 (8 : Int32)) (8 : Int32)) (8 : Int32)) (8 : Int32)) (8 : Int32)) (8 : Int32))).toInt32.toInt8.toInt32)), .int 0, .int 0, .int 0, .int 0, .int 0, .int 0] ⟨by decide, by decide⟩ (by decide) (by simp) (by rw [own_l6]; rfl) at_172 rfl ?_
      intro T546 h546 X546 e546 W546 F546
      have F547 : Exa Z h546 o1 "com/example/cardinality/cardinality/value/ByteWriter" := Exa.wr W546 F539
      have F548 : Fld Z h546 o1 "com/example/cardinality/cardinality/value/ByteWriter" "bytes" "[B" (.ref r2) := Fld.other W546 F540 (Or.inl ne488)
      have F549 : Fld Z h546 o1 "com/example/cardinality/cardinality/value/ByteWriter" "length" "I" (.int (13 : Int32)) := Fld.other W546 F541 (Or.inl ne488)
      have F550 : Arv Z h546 r2 k2 .byte N2 [.int (nar .byte (q1.toInt8.toInt32)), .int (nar .byte ((XT.ushr q4 (24 : Int32)).toInt8.toInt32)), .int (nar .byte ((XT.ushr q4 (16 : Int32)).toInt8.toInt32)), .int (nar .byte ((XT.ushr q4 (8 : Int32)).toInt8.toInt32)), .int (nar .byte (q4.toInt8.toInt32)), .int (nar .byte (((XT.ushrL (XT.ushrL (XT.ushrL (XT.ushrL (XT.ushrL (XT.ushrL (XT.ushrL q3 (8 : Int32)) (8 : Int32)) (8 : Int32)) (8 : Int32)) (8 : Int32)) (8 : Int32)) (8 : Int32))).toInt32.toInt8.toInt32)), .int (nar .byte (((XT.ushrL (XT.ushrL (XT.ushrL (XT.ushrL (XT.ushrL (XT.ushrL q3 (8 : Int32)) (8 : Int32)) (8 : Int32)) (8 : Int32)) (8 : Int32)) (8 : Int32))).toInt32.toInt8.toInt32)), .int (nar .byte (((XT.ushrL (XT.ushrL (XT.ushrL (XT.ushrL (XT.ushrL q3 (8 : Int32)) (8 : Int32)) (8 : Int32)) (8 : Int32)) (8 : Int32))).toInt32.toInt8.toInt32)), .int (nar .byte (((XT.ushrL (XT.ushrL (XT.ushrL (XT.ushrL q3 (8 : Int32)) (8 : Int32)) (8 : Int32)) (8 : Int32))).toInt32.toInt8.toInt32)), .int (nar .byte (((XT.ushrL (XT.ushrL (XT.ushrL q3 (8 : Int32)) (8 : Int32)) (8 : Int32))).toInt32.toInt8.toInt32)), .int (nar .byte (((XT.ushrL (XT.ushrL q3 (8 : Int32)) (8 : Int32))).toInt32.toInt8.toInt32)), .int (nar .byte (((XT.ushrL q3 (8 : Int32))).toInt32.toInt8.toInt32)), .int (nar .byte ((q3).toInt32.toInt8.toInt32))] (.int 0) := F542.other W546 ne489
      have F551 : Exa Z h546 r2 "[B" := Exa.wr W546 F543
      have Z552 : n0 ≤ h546.size := Nat.le_trans Z544 (Nat.le_of_eq W546.size.symm)
      have N553 := Fr.snoc X546 N545 ge490
      refine ow_aload K X546 (pc' := 175) a1 at_173 rfl rfl ?_
      refine ow_bipush K X546 (pc' := 177) (7 : Int32) at_175 rfl (by decide) ?_
      refine ow_lloadN K X546 (pc' := 178) q3 at_177 rfl rfl ?_
      refine ow_bipush K X546 (pc' := 180) (40 : Int32) at_178 rfl (by decide) ?_
      refine ow_lshr K X546 (pc' := 181) (q3 >>> (((40 : Int32)).toInt64 &&& 63)) at_180 rfl rfl ?_
      refine ow_l2i K X546 (pc' := 182) (((q3 >>> (((40 : Int32)).toInt64 &&& 63))).toInt32) at_181 rfl rfl ?_
      refine ow_i2b K X546 (pc' := 183) (((((q3 >>> (((40 : Int32)).toInt64 &&& 63))).toInt32)).toInt8.toInt32) at_182 rfl rfl ?_
      refine ow_bastore K X546 (pc' := 184) e546 F546 7 [.int (nar .byte (q1.toInt8.toInt32)), .int (nar .byte ((XT.ushr q4 (24 : Int32)).toInt8.toInt32)), .int (nar .byte ((XT.ushr q4 (16 : Int32)).toInt8.toInt32)), .int (nar .byte ((XT.ushr q4 (8 : Int32)).toInt8.toInt32)), .int (nar .byte (q4.toInt8.toInt32)), .int (nar .byte (((XT.ushrL (XT.ushrL (XT.ushrL (XT.ushrL (XT.ushrL (XT.ushrL (XT.ushrL q3 (8 : Int32)) (8 : Int32)) (8 : Int32)) (8 : Int32)) (8 : Int32)) (8 : Int32)) (8 : Int32))).toInt32.toInt8.toInt32)), .int (nar .byte (((XT.ushrL (XT.ushrL (XT.ushrL (XT.ushrL (XT.ushrL (XT.ushrL q3 (8 : Int32)) (8 : Int32)) (8 : Int32)) (8 : Int32)) (8 : Int32)) (8 : Int32))).toInt32.toInt8.toInt32)), .int (nar .byte (((XT.ushrL (XT.ushrL (XT.ushrL (XT.ushrL (XT.ushrL q3 (8 : Int32)) (8 : Int32)) (8 : Int32)) (8 : Int32)) (8 : Int32))).toInt32.toInt8.toInt32)), .int 0, .int 0, .int 0, .int 0, .int 0] ⟨by decide, by decide⟩ (by decide) (by simp) (by rw [own_l5]; rfl) at_183 rfl ?_
      intro T554 h554 X554 e554 W554 F554
      have F555 : Exa Z h554 o1 "com/example/cardinality/cardinality/value/ByteWriter" := Exa.wr W554 F547
      have F556 : Fld Z h554 o1 "com/example/cardinality/cardinality/value/ByteWriter" "bytes" "[B" (.ref r2) := Fld.other W554 F548 (Or.inl ne488)
      have F557 : Fld Z h554 o1 "com/example/cardinality/cardinality/value/ByteWriter" "length" "I" (.int (13 : Int32)) := Fld.other W554 F549 (Or.inl ne488)
      have F558 : Arv Z h554 r2 k2 .byte N2 [.int (nar .byte (q1.toInt8.toInt32)), .int (nar .byte ((XT.ushr q4 (24 : Int32)).toInt8.toInt32)), .int (nar .byte ((XT.ushr q4 (16 : Int32)).toInt8.toInt32)), .int (nar .byte ((XT.ushr q4 (8 : Int32)).toInt8.toInt32)), .int (nar .byte (q4.toInt8.toInt32)), .int (nar .byte (((XT.ushrL (XT.ushrL (XT.ushrL (XT.ushrL (XT.ushrL (XT.ushrL (XT.ushrL q3 (8 : Int32)) (8 : Int32)) (8 : Int32)) (8 : Int32)) (8 : Int32)) (8 : Int32)) (8 : Int32))).toInt32.toInt8.toInt32)), .int (nar .byte (((XT.ushrL (XT.ushrL (XT.ushrL (XT.ushrL (XT.ushrL (XT.ushrL q3 (8 : Int32)) (8 : Int32)) (8 : Int32)) (8 : Int32)) (8 : Int32)) (8 : Int32))).toInt32.toInt8.toInt32)), .int (nar .byte (((XT.ushrL (XT.ushrL (XT.ushrL (XT.ushrL (XT.ushrL q3 (8 : Int32)) (8 : Int32)) (8 : Int32)) (8 : Int32)) (8 : Int32))).toInt32.toInt8.toInt32)), .int (nar .byte (((XT.ushrL (XT.ushrL (XT.ushrL (XT.ushrL q3 (8 : Int32)) (8 : Int32)) (8 : Int32)) (8 : Int32))).toInt32.toInt8.toInt32)), .int (nar .byte (((XT.ushrL (XT.ushrL (XT.ushrL q3 (8 : Int32)) (8 : Int32)) (8 : Int32))).toInt32.toInt8.toInt32)), .int (nar .byte (((XT.ushrL (XT.ushrL q3 (8 : Int32)) (8 : Int32))).toInt32.toInt8.toInt32)), .int (nar .byte (((XT.ushrL q3 (8 : Int32))).toInt32.toInt8.toInt32)), .int (nar .byte ((q3).toInt32.toInt8.toInt32))] (.int 0) := F550.other W554 ne489
      have F559 : Exa Z h554 r2 "[B" := Exa.wr W554 F551
      have Z560 : n0 ≤ h554.size := Nat.le_trans Z552 (Nat.le_of_eq W554.size.symm)
      have N561 := Fr.snoc X554 N553 ge490
      refine ow_aload K X554 (pc' := 186) a1 at_184 rfl rfl ?_
      refine ow_bipush K X554 (pc' := 188) (8 : Int32) at_186 rfl (by decide) ?_
      refine ow_lloadN K X554 (pc' := 189) q3 at_188 rfl rfl ?_
      refine ow_bipush K X554 (pc' := 191) (32 : Int32) at_189 rfl (by decide) ?_
      refine ow_lshr K X554 (pc' := 192) (q3 >>> (((32 : Int32)).toInt64 &&& 63)) at_191 rfl rfl ?_
      refine ow_l2i K X554 (pc' := 193) (((q3 >>> (((32 : Int32)).toInt64 &&& 63))).toInt32) at_192 rfl rfl ?_
      refine ow_i2b K X554 (pc' := 194) (((((q3 >>> (((32 : Int32)).toInt64 &&& 63))).toInt32)).toInt8.toInt32) at_193 rfl rfl ?_
      refine ow_bastore K X554 (pc' := 195) e554 F554 8 [.int (nar .byte (q1.toInt8.toInt32)), .int (nar .byte ((XT.ushr q4 (24 : Int32)).toInt8.toInt32)), .int (nar .byte ((XT.ushr q4 (16 : Int32)).toInt8.toInt32)), .int (nar .byte ((XT.ushr q4 (8 : Int32)).toInt8.toInt32)), .int (nar .byte (q4.toInt8.toInt32)), .int (nar .byte (((XT.ushrL (XT.ushrL (XT.ushrL (XT.ushrL (XT.ushrL (XT.ushrL (XT.ushrL q3 (8 : Int32)) (8 : Int32)) (8 : Int32)) (8 : Int32)) (8 : Int32)) (8 : Int32)) (8 : Int32))).toInt32.toInt8.toInt32)), .int (nar .byte (((XT.ushrL (XT.ushrL (XT.ushrL (XT.ushrL (XT.ushrL (XT.ushrL q3 (8 : Int32)) (8 : Int32)) (8 : Int32)) (8 : Int32)) (8 : Int32)) (8 : Int32))).toInt32.toInt8.toInt32)), .int (nar .byte (((XT.ushrL (XT.ushrL (XT.ushrL (XT.ushrL (XT.ushrL q3 (8 : Int32)) (8 : Int32)) (8 : Int32)) (8 : Int32)) (8 : Int32))).toInt32.toInt8.toInt32)), .int (nar .byte (((XT.ushrL (XT.ushrL (XT.ushrL (XT.ushrL q3 (8 : Int32)) (8 : Int32)) (8 : Int32)) (8 : Int32))).toInt32.toInt8.toInt32)), .int 0, .int 0, .int 0, .int 0] ⟨by decide, by decide⟩ (by decide) (by simp) (by rw [own_l4]; rfl) at_194 rfl ?_
      intro T562 h562 X562 e562 W562 F562
      have F563 : Exa Z h562 o1 "com/example/cardinality/cardinality/value/ByteWriter" := Exa.wr W562 F555
      have F564 : Fld Z h562 o1 "com/example/cardinality/cardinality/value/ByteWriter" "bytes" "[B" (.ref r2) := Fld.other W562 F556 (Or.inl ne488)
      have F565 : Fld Z h562 o1 "com/example/cardinality/cardinality/value/ByteWriter" "length" "I" (.int (13 : Int32)) := Fld.other W562 F557 (Or.inl ne488)
      have F566 : Arv Z h562 r2 k2 .byte N2 [.int (nar .byte (q1.toInt8.toInt32)), .int (nar .byte ((XT.ushr q4 (24 : Int32)).toInt8.toInt32)), .int (nar .byte ((XT.ushr q4 (16 : Int32)).toInt8.toInt32)), .int (nar .byte ((XT.ushr q4 (8 : Int32)).toInt8.toInt32)), .int (nar .byte (q4.toInt8.toInt32)), .int (nar .byte (((XT.ushrL (XT.ushrL (XT.ushrL (XT.ushrL (XT.ushrL (XT.ushrL (XT.ushrL q3 (8 : Int32)) (8 : Int32)) (8 : Int32)) (8 : Int32)) (8 : Int32)) (8 : Int32)) (8 : Int32))).toInt32.toInt8.toInt32)), .int (nar .byte (((XT.ushrL (XT.ushrL (XT.ushrL (XT.ushrL (XT.ushrL (XT.ushrL q3 (8 : Int32)) (8 : Int32)) (8 : Int32)) (8 : Int32)) (8 : Int32)) (8 : Int32))).toInt32.toInt8.toInt32)), .int (nar .byte (((XT.ushrL (XT.ushrL (XT.ushrL (XT.ushrL (XT.ushrL q3 (8 : Int32)) (8 : Int32)) (8 : Int32)) (8 : Int32)) (8 : Int32))).toInt32.toInt8.toInt32)), .int (nar .byte (((XT.ushrL (XT.ushrL (XT.ushrL (XT.ushrL q3 (8 : Int32)) (8 : Int32)) (8 : Int32)) (8 : Int32))).toInt32.toInt8.toInt32)), .int (nar .byte (((XT.ushrL (XT.ushrL (XT.ushrL q3 (8 : Int32)) (8 : Int32)) (8 : Int32))).toInt32.toInt8.toInt32)), .int (nar .byte (((XT.ushrL (XT.ushrL q3 (8 : Int32)) (8 : Int32))).toInt32.toInt8.toInt32)), .int (nar .byte (((XT.ushrL q3 (8 : Int32))).toInt32.toInt8.toInt32)), .int (nar .byte ((q3).toInt32.toInt8.toInt32))] (.int 0) := F558.other W562 ne489
      have F567 : Exa Z h562 r2 "[B" := Exa.wr W562 F559
      have Z568 : n0 ≤ h562.size := Nat.le_trans Z560 (Nat.le_of_eq W562.size.symm)
      have N569 := Fr.snoc X562 N561 ge490
      refine ow_aload K X562 (pc' := 197) a1 at_195 rfl rfl ?_
      refine ow_bipush K X562 (pc' := 199) (9 : Int32) at_197 rfl (by decide) ?_
      refine ow_lloadN K X562 (pc' := 200) q3 at_199 rfl rfl ?_
      refine ow_bipush K X562 (pc' := 202) (24 : Int32) at_200 rfl (by decide) ?_
      refine ow_lshr K X562 (pc' := 203) (q3 >>> (((24 : Int32)).toInt64 &&& 63)) at_202 rfl rfl ?_
      refine ow_l2i K X562 (pc' := 204) (((q3 >>> (((24 : Int32)).toInt64 &&& 63))).toInt32) at_203 rfl rfl ?_
      refine ow_i2b K X562 (pc' := 205) (((((q3 >>> (((24 : Int32)).toInt64 &&& 63))).toInt32)).toInt8.toInt32) at_204 rfl rfl ?_
      refine ow_bastore K X562 (pc' := 206) e562 F562 9 [.int (nar .byte (q1.toInt8.toInt32)), .int (nar .byte ((XT.ushr q4 (24 : Int32)).toInt8.toInt32)), .int (nar .byte ((XT.ushr q4 (16 : Int32)).toInt8.toInt32)), .int (nar .byte ((XT.ushr q4 (8 : Int32)).toInt8.toInt32)), .int (nar .byte (q4.toInt8.toInt32)), .int (nar .byte (((XT.ushrL (XT.ushrL (XT.ushrL (XT.ushrL (XT.ushrL (XT.ushrL (XT.ushrL q3 (8 : Int32)) (8 : Int32)) (8 : Int32)) (8 : Int32)) (8 : Int32)) (8 : Int32)) (8 : Int32))).toInt32.toInt8.toInt32)), .int (nar .byte (((XT.ushrL (XT.ushrL (XT.ushrL (XT.ushrL (XT.ushrL (XT.ushrL q3 (8 : Int32)) (8 : Int32)) (8 : Int32)) (8 : Int32)) (8 : Int32)) (8 : Int32))).toInt32.toInt8.toInt32)), .int (nar .byte (((XT.ushrL (XT.ushrL (XT.ushrL (XT.ushrL (XT.ushrL q3 (8 : Int32)) (8 : Int32)) (8 : Int32)) (8 : Int32)) (8 : Int32))).toInt32.toInt8.toInt32)), .int (nar .byte (((XT.ushrL (XT.ushrL (XT.ushrL (XT.ushrL q3 (8 : Int32)) (8 : Int32)) (8 : Int32)) (8 : Int32))).toInt32.toInt8.toInt32)), .int (nar .byte (((XT.ushrL (XT.ushrL (XT.ushrL q3 (8 : Int32)) (8 : Int32)) (8 : Int32))).toInt32.toInt8.toInt32)), .int 0, .int 0, .int 0] ⟨by decide, by decide⟩ (by decide) (by simp) (by rw [own_l3]; rfl) at_205 rfl ?_
      intro T570 h570 X570 e570 W570 F570
      have F571 : Exa Z h570 o1 "com/example/cardinality/cardinality/value/ByteWriter" := Exa.wr W570 F563
      have F572 : Fld Z h570 o1 "com/example/cardinality/cardinality/value/ByteWriter" "bytes" "[B" (.ref r2) := Fld.other W570 F564 (Or.inl ne488)
      have F573 : Fld Z h570 o1 "com/example/cardinality/cardinality/value/ByteWriter" "length" "I" (.int (13 : Int32)) := Fld.other W570 F565 (Or.inl ne488)
      have F574 : Arv Z h570 r2 k2 .byte N2 [.int (nar .byte (q1.toInt8.toInt32)), .int (nar .byte ((XT.ushr q4 (24 : Int32)).toInt8.toInt32)), .int (nar .byte ((XT.ushr q4 (16 : Int32)).toInt8.toInt32)), .int (nar .byte ((XT.ushr q4 (8 : Int32)).toInt8.toInt32)), .int (nar .byte (q4.toInt8.toInt32)), .int (nar .byte (((XT.ushrL (XT.ushrL (XT.ushrL (XT.ushrL (XT.ushrL (XT.ushrL (XT.ushrL q3 (8 : Int32)) (8 : Int32)) (8 : Int32)) (8 : Int32)) (8 : Int32)) (8 : Int32)) (8 : Int32))).toInt32.toInt8.toInt32)), .int (nar .byte (((XT.ushrL (XT.ushrL (XT.ushrL (XT.ushrL (XT.ushrL (XT.ushrL q3 (8 : Int32)) (8 : Int32)) (8 : Int32)) (8 : Int32)) (8 : Int32)) (8 : Int32))).toInt32.toInt8.toInt32)), .int (nar .byte (((XT.ushrL (XT.ushrL (XT.ushrL (XT.ushrL (XT.ushrL q3 (8 : Int32)) (8 : Int32)) (8 : Int32)) (8 : Int32)) (8 : Int32))).toInt32.toInt8.toInt32)), .int (nar .byte (((XT.ushrL (XT.ushrL (XT.ushrL (XT.ushrL q3 (8 : Int32)) (8 : Int32)) (8 : Int32)) (8 : Int32))).toInt32.toInt8.toInt32)), .int (nar .byte (((XT.ushrL (XT.ushrL (XT.ushrL q3 (8 : Int32)) (8 : Int32)) (8 : Int32))).toInt32.toInt8.toInt32)), .int (nar .byte (((XT.ushrL (XT.ushrL q3 (8 : Int32)) (8 : Int32))).toInt32.toInt8.toInt32)), .int (nar .byte (((XT.ushrL q3 (8 : Int32))).toInt32.toInt8.toInt32)), .int (nar .byte ((q3).toInt32.toInt8.toInt32))] (.int 0) := F566.other W570 ne489
      have F575 : Exa Z h570 r2 "[B" := Exa.wr W570 F567
      have Z576 : n0 ≤ h570.size := Nat.le_trans Z568 (Nat.le_of_eq W570.size.symm)
      have N577 := Fr.snoc X570 N569 ge490
      refine ow_aload K X570 (pc' := 208) a1 at_206 rfl rfl ?_
      refine ow_bipush K X570 (pc' := 210) (10 : Int32) at_208 rfl (by decide) ?_
      refine ow_lloadN K X570 (pc' := 211) q3 at_210 rfl rfl ?_
      refine ow_bipush K X570 (pc' := 213) (16 : Int32) at_211 rfl (by decide) ?_
      refine ow_lshr K X570 (pc' := 214) (q3 >>> (((16 : Int32)).toInt64 &&& 63)) at_213 rfl rfl ?_
      refine ow_l2i K X570 (pc' := 215) (((q3 >>> (((16 : Int32)).toInt64 &&& 63))).toInt32) at_214 rfl rfl ?_
      refine ow_i2b K X570 (pc' := 216) (((((q3 >>> (((16 : Int32)).toInt64 &&& 63))).toInt32)).toInt8.toInt32) at_215 rfl rfl ?_
      refine ow_bastore K X570 (pc' := 217) e570 F570 10 [.int (nar .byte (q1.toInt8.toInt32)), .int (nar .byte ((XT.ushr q4 (24 : Int32)).toInt8.toInt32)), .int (nar .byte ((XT.ushr q4 (16 : Int32)).toInt8.toInt32)), .int (nar .byte ((XT.ushr q4 (8 : Int32)).toInt8.toInt32)), .int (nar .byte (q4.toInt8.toInt32)), .int (nar .byte (((XT.ushrL (XT.ushrL (XT.ushrL (XT.ushrL (XT.ushrL (XT.ushrL (XT.ushrL q3 (8 : Int32)) (8 : Int32)) (8 : Int32)) (8 : Int32)) (8 : Int32)) (8 : Int32)) (8 : Int32))).toInt32.toInt8.toInt32)), .int (nar .byte (((XT.ushrL (XT.ushrL (XT.ushrL (XT.ushrL (XT.ushrL (XT.ushrL q3 (8 : Int32)) (8 : Int32)) (8 : Int32)) (8 : Int32)) (8 : Int32)) (8 : Int32))).toInt32.toInt8.toInt32)), .int (nar .byte (((XT.ushrL (XT.ushrL (XT.ushrL (XT.ushrL (XT.ushrL q3 (8 : Int32)) (8 : Int32)) (8 : Int32)) (8 : Int32)) (8 : Int32))).toInt32.toInt8.toInt32)), .int (nar .byte (((XT.ushrL (XT.ushrL (XT.ushrL (XT.ushrL q3 (8 : Int32)) (8 : Int32)) (8 : Int32)) (8 : Int32))).toInt32.toInt8.toInt32)), .int (nar .byte (((XT.ushrL (XT.ushrL (XT.ushrL q3 (8 : Int32)) (8 : Int32)) (8 : Int32))).toInt32.toInt8.toInt32)), .int (nar .byte (((XT.ushrL (XT.ushrL q3 (8 : Int32)) (8 : Int32))).toInt32.toInt8.toInt32)), .int 0, .int 0] ⟨by decide, by decide⟩ (by decide) (by simp) (by rw [own_l2]; rfl) at_216 rfl ?_
      intro T578 h578 X578 e578 W578 F578
      have F579 : Exa Z h578 o1 "com/example/cardinality/cardinality/value/ByteWriter" := Exa.wr W578 F571
      have F580 : Fld Z h578 o1 "com/example/cardinality/cardinality/value/ByteWriter" "bytes" "[B" (.ref r2) := Fld.other W578 F572 (Or.inl ne488)
      have F581 : Fld Z h578 o1 "com/example/cardinality/cardinality/value/ByteWriter" "length" "I" (.int (13 : Int32)) := Fld.other W578 F573 (Or.inl ne488)
      have F582 : Arv Z h578 r2 k2 .byte N2 [.int (nar .byte (q1.toInt8.toInt32)), .int (nar .byte ((XT.ushr q4 (24 : Int32)).toInt8.toInt32)), .int (nar .byte ((XT.ushr q4 (16 : Int32)).toInt8.toInt32)), .int (nar .byte ((XT.ushr q4 (8 : Int32)).toInt8.toInt32)), .int (nar .byte (q4.toInt8.toInt32)), .int (nar .byte (((XT.ushrL (XT.ushrL (XT.ushrL (XT.ushrL (XT.ushrL (XT.ushrL (XT.ushrL q3 (8 : Int32)) (8 : Int32)) (8 : Int32)) (8 : Int32)) (8 : Int32)) (8 : Int32)) (8 : Int32))).toInt32.toInt8.toInt32)), .int (nar .byte (((XT.ushrL (XT.ushrL (XT.ushrL (XT.ushrL (XT.ushrL (XT.ushrL q3 (8 : Int32)) (8 : Int32)) (8 : Int32)) (8 : Int32)) (8 : Int32)) (8 : Int32))).toInt32.toInt8.toInt32)), .int (nar .byte (((XT.ushrL (XT.ushrL (XT.ushrL (XT.ushrL (XT.ushrL q3 (8 : Int32)) (8 : Int32)) (8 : Int32)) (8 : Int32)) (8 : Int32))).toInt32.toInt8.toInt32)), .int (nar .byte (((XT.ushrL (XT.ushrL (XT.ushrL (XT.ushrL q3 (8 : Int32)) (8 : Int32)) (8 : Int32)) (8 : Int32))).toInt32.toInt8.toInt32)), .int (nar .byte (((XT.ushrL (XT.ushrL (XT.ushrL q3 (8 : Int32)) (8 : Int32)) (8 : Int32))).toInt32.toInt8.toInt32)), .int (nar .byte (((XT.ushrL (XT.ushrL q3 (8 : Int32)) (8 : Int32))).toInt32.toInt8.toInt32)), .int (nar .byte (((XT.ushrL q3 (8 : Int32))).toInt32.toInt8.toInt32)), .int (nar .byte ((q3).toInt32.toInt8.toInt32))] (.int 0) := F574.other W578 ne489
      have F583 : Exa Z h578 r2 "[B" := Exa.wr W578 F575
      have Z584 : n0 ≤ h578.size := Nat.le_trans Z576 (Nat.le_of_eq W578.size.symm)
      have N585 := Fr.snoc X578 N577 ge490
      refine ow_aload K X578 (pc' := 219) a1 at_217 rfl rfl ?_
      refine ow_bipush K X578 (pc' := 221) (11 : Int32) at_219 rfl (by decide) ?_
      refine ow_lloadN K X578 (pc' := 222) q3 at_221 rfl rfl ?_
      refine ow_bipush K X578 (pc' := 224) (8 : Int32) at_222 rfl (by decide) ?_
      refine ow_lshr K X578 (pc' := 225) (q3 >>> (((8 : Int32)).toInt64 &&& 63)) at_224 rfl rfl ?_
      refine ow_l2i K X578 (pc' := 226) (((q3 >>> (((8 : Int32)).toInt64 &&& 63))).toInt32) at_225 rfl rfl ?_
      refine ow_i2b K X578 (pc' := 227) (((((q3 >>> (((8 : Int32)).toInt64 &&& 63))).toInt32)).toInt8.toInt32) at_226 rfl rfl ?_
      refine ow_bastore K X578 (pc' := 228) e578 F578 11 [.int (nar .byte (q1.toInt8.toInt32)), .int (nar .byte ((XT.ushr q4 (24 : Int32)).toInt8.toInt32)), .int (nar .byte ((XT.ushr q4 (16 : Int32)).toInt8.toInt32)), .int (nar .byte ((XT.ushr q4 (8 : Int32)).toInt8.toInt32)), .int (nar .byte (q4.toInt8.toInt32)), .int (nar .byte (((XT.ushrL (XT.ushrL (XT.ushrL (XT.ushrL (XT.ushrL (XT.ushrL (XT.ushrL q3 (8 : Int32)) (8 : Int32)) (8 : Int32)) (8 : Int32)) (8 : Int32)) (8 : Int32)) (8 : Int32))).toInt32.toInt8.toInt32)), .int (nar .byte (((XT.ushrL (XT.ushrL (XT.ushrL (XT.ushrL (XT.ushrL (XT.ushrL q3 (8 : Int32)) (8 : Int32)) (8 : Int32)) (8 : Int32)) (8 : Int32)) (8 : Int32))).toInt32.toInt8.toInt32)), .int (nar .byte (((XT.ushrL (XT.ushrL (XT.ushrL (XT.ushrL (XT.ushrL q3 (8 : Int32)) (8 : Int32)) (8 : Int32)) (8 : Int32)) (8 : Int32))).toInt32.toInt8.toInt32)), .int (nar .byte (((XT.ushrL (XT.ushrL (XT.ushrL (XT.ushrL q3 (8 : Int32)) (8 : Int32)) (8 : Int32)) (8 : Int32))).toInt32.toInt8.toInt32)), .int (nar .byte (((XT.ushrL (XT.ushrL (XT.ushrL q3 (8 : Int32)) (8 : Int32)) (8 : Int32))).toInt32.toInt8.toInt32)), .int (nar .byte (((XT.ushrL (XT.ushrL q3 (8 : Int32)) (8 : Int32))).toInt32.toInt8.toInt32)), .int (nar .byte (((XT.ushrL q3 (8 : Int32))).toInt32.toInt8.toInt32)), .int 0] ⟨by decide, by decide⟩ (by decide) (by simp) (by rw [own_l1]; rfl) at_227 rfl ?_
      intro T586 h586 X586 e586 W586 F586
      have F587 : Exa Z h586 o1 "com/example/cardinality/cardinality/value/ByteWriter" := Exa.wr W586 F579
      have F588 : Fld Z h586 o1 "com/example/cardinality/cardinality/value/ByteWriter" "bytes" "[B" (.ref r2) := Fld.other W586 F580 (Or.inl ne488)
      have F589 : Fld Z h586 o1 "com/example/cardinality/cardinality/value/ByteWriter" "length" "I" (.int (13 : Int32)) := Fld.other W586 F581 (Or.inl ne488)
      have F590 : Arv Z h586 r2 k2 .byte N2 [.int (nar .byte (q1.toInt8.toInt32)), .int (nar .byte ((XT.ushr q4 (24 : Int32)).toInt8.toInt32)), .int (nar .byte ((XT.ushr q4 (16 : Int32)).toInt8.toInt32)), .int (nar .byte ((XT.ushr q4 (8 : Int32)).toInt8.toInt32)), .int (nar .byte (q4.toInt8.toInt32)), .int (nar .byte (((XT.ushrL (XT.ushrL (XT.ushrL (XT.ushrL (XT.ushrL (XT.ushrL (XT.ushrL q3 (8 : Int32)) (8 : Int32)) (8 : Int32)) (8 : Int32)) (8 : Int32)) (8 : Int32)) (8 : Int32))).toInt32.toInt8.toInt32)), .int (nar .byte (((XT.ushrL (XT.ushrL (XT.ushrL (XT.ushrL (XT.ushrL (XT.ushrL q3 (8 : Int32)) (8 : Int32)) (8 : Int32)) (8 : Int32)) (8 : Int32)) (8 : Int32))).toInt32.toInt8.toInt32)), .int (nar .byte (((XT.ushrL (XT.ushrL (XT.ushrL (XT.ushrL (XT.ushrL q3 (8 : Int32)) (8 : Int32)) (8 : Int32)) (8 : Int32)) (8 : Int32))).toInt32.toInt8.toInt32)), .int (nar .byte (((XT.ushrL (XT.ushrL (XT.ushrL (XT.ushrL q3 (8 : Int32)) (8 : Int32)) (8 : Int32)) (8 : Int32))).toInt32.toInt8.toInt32)), .int (nar .byte (((XT.ushrL (XT.ushrL (XT.ushrL q3 (8 : Int32)) (8 : Int32)) (8 : Int32))).toInt32.toInt8.toInt32)), .int (nar .byte (((XT.ushrL (XT.ushrL q3 (8 : Int32)) (8 : Int32))).toInt32.toInt8.toInt32)), .int (nar .byte (((XT.ushrL q3 (8 : Int32))).toInt32.toInt8.toInt32)), .int (nar .byte ((q3).toInt32.toInt8.toInt32))] (.int 0) := F582.other W586 ne489
      have F591 : Exa Z h586 r2 "[B" := Exa.wr W586 F583
      have Z592 : n0 ≤ h586.size := Nat.le_trans Z584 (Nat.le_of_eq W586.size.symm)
      have N593 := Fr.snoc X586 N585 ge490
      refine ow_aload K X586 (pc' := 230) a1 at_228 rfl rfl ?_
      refine ow_bipush K X586 (pc' := 232) (12 : Int32) at_230 rfl (by decide) ?_
      refine ow_lloadN K X586 (pc' := 233) q3 at_232 rfl rfl ?_
      refine ow_l2i K X586 (pc' := 234) ((q3).toInt32) at_233 rfl rfl ?_
      refine ow_i2b K X586 (pc' := 235) ((((q3).toInt32)).toInt8.toInt32) at_234 rfl rfl ?_
      refine ow_bastore K X586 (pc' := 236) e586 F586 12 [.int (nar .byte (q1.toInt8.toInt32)), .int (nar .byte ((XT.ushr q4 (24 : Int32)).toInt8.toInt32)), .int (nar .byte ((XT.ushr q4 (16 : Int32)).toInt8.toInt32)), .int (nar .byte ((XT.ushr q4 (8 : Int32)).toInt8.toInt32)), .int (nar .byte (q4.toInt8.toInt32)), .int (nar .byte (((XT.ushrL (XT.ushrL (XT.ushrL (XT.ushrL (XT.ushrL (XT.ushrL (XT.ushrL q3 (8 : Int32)) (8 : Int32)) (8 : Int32)) (8 : Int32)) (8 : Int32)) (8 : Int32)) (8 : Int32))).toInt32.toInt8.toInt32)), .int (nar .byte (((XT.ushrL (XT.ushrL (XT.ushrL (XT.ushrL (XT.ushrL (XT.ushrL q3 (8 : Int32)) (8 : Int32)) (8 : Int32)) (8 : Int32)) (8 : Int32)) (8 : Int32))).toInt32.toInt8.toInt32)), .int (nar .byte (((XT.ushrL (XT.ushrL (XT.ushrL (XT.ushrL (XT.ushrL q3 (8 : Int32)) (8 : Int32)) (8 : Int32)) (8 : Int32)) (8 : Int32))).toInt32.toInt8.toInt32)), .int (nar .byte (((XT.ushrL (XT.ushrL (XT.ushrL (XT.ushrL q3 (8 : Int32)) (8 : Int32)) (8 : Int32)) (8 : Int32))).toInt32.toInt8.toInt32)), .int (nar .byte (((XT.ushrL (XT.ushrL (XT.ushrL q3 (8 : Int32)) (8 : Int32)) (8 : Int32))).toInt32.toInt8.toInt32)), .int (nar .byte (((XT.ushrL (XT.ushrL q3 (8 : Int32)) (8 : Int32))).toInt32.toInt8.toInt32)), .int (nar .byte (((XT.ushrL q3 (8 : Int32))).toInt32.toInt8.toInt32)), .int (nar .byte ((q3).toInt32.toInt8.toInt32))] ⟨by decide, by decide⟩ (by decide) (by simp) rfl at_235 rfl ?_
      intro T594 h594 X594 e594 W594 F594
      have F595 : Exa Z h594 o1 "com/example/cardinality/cardinality/value/ByteWriter" := Exa.wr W594 F587
      have F596 : Fld Z h594 o1 "com/example/cardinality/cardinality/value/ByteWriter" "bytes" "[B" (.ref r2) := Fld.other W594 F588 (Or.inl ne488)
      have F597 : Fld Z h594 o1 "com/example/cardinality/cardinality/value/ByteWriter" "length" "I" (.int (13 : Int32)) := Fld.other W594 F589 (Or.inl ne488)
      have F598 : Arv Z h594 r2 k2 .byte N2 [.int (nar .byte (q1.toInt8.toInt32)), .int (nar .byte ((XT.ushr q4 (24 : Int32)).toInt8.toInt32)), .int (nar .byte ((XT.ushr q4 (16 : Int32)).toInt8.toInt32)), .int (nar .byte ((XT.ushr q4 (8 : Int32)).toInt8.toInt32)), .int (nar .byte (q4.toInt8.toInt32)), .int (nar .byte (((XT.ushrL (XT.ushrL (XT.ushrL (XT.ushrL (XT.ushrL (XT.ushrL (XT.ushrL q3 (8 : Int32)) (8 : Int32)) (8 : Int32)) (8 : Int32)) (8 : Int32)) (8 : Int32)) (8 : Int32))).toInt32.toInt8.toInt32)), .int (nar .byte (((XT.ushrL (XT.ushrL (XT.ushrL (XT.ushrL (XT.ushrL (XT.ushrL q3 (8 : Int32)) (8 : Int32)) (8 : Int32)) (8 : Int32)) (8 : Int32)) (8 : Int32))).toInt32.toInt8.toInt32)), .int (nar .byte (((XT.ushrL (XT.ushrL (XT.ushrL (XT.ushrL (XT.ushrL q3 (8 : Int32)) (8 : Int32)) (8 : Int32)) (8 : Int32)) (8 : Int32))).toInt32.toInt8.toInt32)), .int (nar .byte (((XT.ushrL (XT.ushrL (XT.ushrL (XT.ushrL q3 (8 : Int32)) (8 : Int32)) (8 : Int32)) (8 : Int32))).toInt32.toInt8.toInt32)), .int (nar .byte (((XT.ushrL (XT.ushrL (XT.ushrL q3 (8 : Int32)) (8 : Int32)) (8 : Int32))).toInt32.toInt8.toInt32)), .int (nar .byte (((XT.ushrL (XT.ushrL q3 (8 : Int32)) (8 : Int32))).toInt32.toInt8.toInt32)), .int (nar .byte (((XT.ushrL q3 (8 : Int32))).toInt32.toInt8.toInt32)), .int (nar .byte ((q3).toInt32.toInt8.toInt32))] (.int 0) := F590.other W594 ne489
      have F599 : Exa Z h594 r2 "[B" := Exa.wr W594 F591
      have Z600 : n0 ≤ h594.size := Nat.le_trans Z592 (Nat.le_of_eq W594.size.symm)
      have N601 := Fr.snoc X594 N593 ge490
      refine ow_aload K X594 (pc' := 238) o1 at_236 rfl rfl ?_
      have own_mn1 : own_min N2 (13 : Int32) = (13 : Int32) := by
        apply Int32.toInt_inj.mp
        have e : ((13 : Int32)).toInt = 13 := by decide
        rw [own_minI, e]; split <;> omega
      refine ow_callV K X594 (pc' := 241) e594 (y := (⟨"com/example/cardinality/cardinality/value/ByteWriter", "toByteArray", "()[B"⟩ : MethodName)) (rm12 l Z a0 hw [] o1 r2 k2 N2 (13 : Int32) [.int (nar .byte (q1.toInt8.toInt32)), .int (nar .byte ((XT.ushr q4 (24 : Int32)).toInt8.toInt32)), .int (nar .byte ((XT.ushr q4 (16 : Int32)).toInt8.toInt32)), .int (nar .byte ((XT.ushr q4 (8 : Int32)).toInt8.toInt32)), .int (nar .byte (q4.toInt8.toInt32)), .int (nar .byte (((XT.ushrL (XT.ushrL (XT.ushrL (XT.ushrL (XT.ushrL (XT.ushrL (XT.ushrL q3 (8 : Int32)) (8 : Int32)) (8 : Int32)) (8 : Int32)) (8 : Int32)) (8 : Int32)) (8 : Int32))).toInt32.toInt8.toInt32)), .int (nar .byte (((XT.ushrL (XT.ushrL (XT.ushrL (XT.ushrL (XT.ushrL (XT.ushrL q3 (8 : Int32)) (8 : Int32)) (8 : Int32)) (8 : Int32)) (8 : Int32)) (8 : Int32))).toInt32.toInt8.toInt32)), .int (nar .byte (((XT.ushrL (XT.ushrL (XT.ushrL (XT.ushrL (XT.ushrL q3 (8 : Int32)) (8 : Int32)) (8 : Int32)) (8 : Int32)) (8 : Int32))).toInt32.toInt8.toInt32)), .int (nar .byte (((XT.ushrL (XT.ushrL (XT.ushrL (XT.ushrL q3 (8 : Int32)) (8 : Int32)) (8 : Int32)) (8 : Int32))).toInt32.toInt8.toInt32)), .int (nar .byte (((XT.ushrL (XT.ushrL (XT.ushrL q3 (8 : Int32)) (8 : Int32)) (8 : Int32))).toInt32.toInt8.toInt32)), .int (nar .byte (((XT.ushrL (XT.ushrL q3 (8 : Int32)) (8 : Int32))).toInt32.toInt8.toInt32)), .int (nar .byte (((XT.ushrL q3 (8 : Int32))).toInt32.toInt8.toInt32)), .int (nar .byte ((q3).toInt32.toInt8.toInt32))] h594 n0 Z600 F595 F596 F597 F598 F599 ge478 gr2 ne2 (by decide) (by decide) (by rw [own_mn1]; decide) (by rw [own_mn1]; show 13 ≤ _; omega) (by rw [own_mn1]; decide) (by rw [own_mn1]; exact (Nat.le_refl 13 : 13 ≤ 13))) F595 (hw _ (List.mem_of_getElem? (i := 41) rfl)) (hw _ (List.mem_of_getElem? (i := 42) rfl)) (hw _ (List.mem_of_getElem? (i := 44) rfl)) (hw _ (List.mem_of_getElem? (i := 43) rfl)) (hw _ (List.mem_of_getElem? (i := 2) rfl)) (hw _ (List.mem_of_getElem? (i := 45) rfl)) (by decide) (st := []) 0 (Nat.le_of_eq rfl) (by decide) (by decide) (by decide) (by decide) rfl [] rfl (lenOf pd_12 rfl) rfl at_238 rfl ?_
      intro v602 T602 L602 X602 hQ602
      obtain ⟨b1, kb1, rfl, NN1, Z1, g1, hc1, Kp1, AV1, AE1⟩ := hQ602
      have NX1 := Fr.app N601 NN1
      have ne603 : o1 ≠ b1 := ow_ne F595.lt hc1
      have ne604 : r2 ≠ b1 := ow_ne F598.lt hc1
      have ne605 : a1 ≠ b1 := ow_ne F594.lt hc1
      have F606 : Exa Z T602.heap o1 "com/example/cardinality/cardinality/value/ByteWriter" := F595.keep Kp1
      have F607 : Fld Z T602.heap o1 "com/example/cardinality/cardinality/value/ByteWriter" "bytes" "[B" (.ref r2) := F596.keep Kp1 nin0
      have F608 : Fld Z T602.heap o1 "com/example/cardinality/cardinality/value/ByteWriter" "length" "I" (.int (13 : Int32)) := F597.keep Kp1 nin0
      have F609 : Arv Z T602.heap r2 k2 .byte N2 [.int (nar .byte (q1.toInt8.toInt32)), .int (nar .byte ((XT.ushr q4 (24 : Int32)).toInt8.toInt32)), .int (nar .byte ((XT.ushr q4 (16 : Int32)).toInt8.toInt32)), .int (nar .byte ((XT.ushr q4 (8 : Int32)).toInt8.toInt32)), .int (nar .byte (q4.toInt8.toInt32)), .int (nar .byte (((XT.ushrL (XT.ushrL (XT.ushrL (XT.ushrL (XT.ushrL (XT.ushrL (XT.ushrL q3 (8 : Int32)) (8 : Int32)) (8 : Int32)) (8 : Int32)) (8 : Int32)) (8 : Int32)) (8 : Int32))).toInt32.toInt8.toInt32)), .int (nar .byte (((XT.ushrL (XT.ushrL (XT.ushrL (XT.ushrL (XT.ushrL (XT.ushrL q3 (8 : Int32)) (8 : Int32)) (8 : Int32)) (8 : Int32)) (8 : Int32)) (8 : Int32))).toInt32.toInt8.toInt32)), .int (nar .byte (((XT.ushrL (XT.ushrL (XT.ushrL (XT.ushrL (XT.ushrL q3 (8 : Int32)) (8 : Int32)) (8 : Int32)) (8 : Int32)) (8 : Int32))).toInt32.toInt8.toInt32)), .int (nar .byte (((XT.ushrL (XT.ushrL (XT.ushrL (XT.ushrL q3 (8 : Int32)) (8 : Int32)) (8 : Int32)) (8 : Int32))).toInt32.toInt8.toInt32)), .int (nar .byte (((XT.ushrL (XT.ushrL (XT.ushrL q3 (8 : Int32)) (8 : Int32)) (8 : Int32))).toInt32.toInt8.toInt32)), .int (nar .byte (((XT.ushrL (XT.ushrL q3 (8 : Int32)) (8 : Int32))).toInt32.toInt8.toInt32)), .int (nar .byte (((XT.ushrL q3 (8 : Int32))).toInt32.toInt8.toInt32)), .int (nar .byte ((q3).toInt32.toInt8.toInt32))] (.int 0) := F598.keep Kp1 nin0
      have F610 : Exa Z T602.heap r2 "[B" := F599.keep Kp1
      have F611 : Arv Z T602.heap a1 k487 .byte (13 : Int32) [.int (nar .byte (q1.toInt8.toInt32)), .int (nar .byte ((XT.ushr q4 (24 : Int32)).toInt8.toInt32)), .int (nar .byte ((XT.ushr q4 (16 : Int32)).toInt8.toInt32)), .int (nar .byte ((XT.ushr q4 (8 : Int32)).toInt8.toInt32)), .int (nar .byte (q4.toInt8.toInt32)), .int (nar .byte (((XT.ushrL (XT.ushrL (XT.ushrL (XT.ushrL (XT.ushrL (XT.ushrL (XT.ushrL q3 (8 : Int32)) (8 : Int32)) (8 : Int32)) (8 : Int32)) (8 : Int32)) (8 : Int32)) (8 : Int32))).toInt32.toInt8.toInt32)), .int (nar .byte (((XT.ushrL (XT.ushrL (XT.ushrL (XT.ushrL (XT.ushrL (XT.ushrL q3 (8 : Int32)) (8 : Int32)) (8 : Int32)) (8 : Int32)) (8 : Int32)) (8 : Int32))).toInt32.toInt8.toInt32)), .int (nar .byte (((XT.ushrL (XT.ushrL (XT.ushrL (XT.ushrL (XT.ushrL q3 (8 : Int32)) (8 : Int32)) (8 : Int32)) (8 : Int32)) (8 : Int32))).toInt32.toInt8.toInt32)), .int (nar .byte (((XT.ushrL (XT.ushrL (XT.ushrL (XT.ushrL q3 (8 : Int32)) (8 : Int32)) (8 : Int32)) (8 : Int32))).toInt32.toInt8.toInt32)), .int (nar .byte (((XT.ushrL (XT.ushrL (XT.ushrL q3 (8 : Int32)) (8 : Int32)) (8 : Int32))).toInt32.toInt8.toInt32)), .int (nar .byte (((XT.ushrL (XT.ushrL q3 (8 : Int32)) (8 : Int32))).toInt32.toInt8.toInt32)), .int (nar .byte (((XT.ushrL q3 (8 : Int32))).toInt32.toInt8.toInt32)), .int (nar .byte ((q3).toInt32.toInt8.toInt32))] (.int 0) := F594.keep Kp1 nin0
      have Z612 : n0 ≤ T602.heap.size := Nat.le_trans Z600 Kp1.1
      refine ow_at (g := (mkF m 241 #[.val (.int q0), .val (.int q1), .val (.int q2), .val (.long q3), .second, .val (.int q4), .val (.int q5), .val (.int (1 : Int32)), .val (.int (1 : Int32)), .val (.ref o1), .val (.int (13 : Int32)), .val (.int q4), .val (.ref a1), .unset, .unset] [.ref b1])) ?_
      refine ow_astore K X602 (pc' := 243) (Ls' := #[.val (.int q0), .val (.int q1), .val (.int q2), .val (.long q3), .second, .val (.int q4), .val (.int q5), .val (.int (1 : Int32)), .val (.int (1 : Int32)), .val (.ref o1), .val (.int (13 : Int32)), .val (.int q4), .val (.ref a1), .val (.ref b1), .unset]) at_241 rfl rfl ?_
      refine ow_aload K X602 (pc' := 245) b1 at_243 rfl rfl ?_
      refine ow_aload K X602 (pc' := 247) a1 at_245 rfl rfl ?_
      refine ow_iload K X602 (pc' := 249) (13 : Int32) at_247 rfl rfl ?_
      refine ow_callS K X602 (pc' := 252) (rfl : T602.heap = T602.heap) (y := (⟨"com/example/cardinality/cardinality/value/ByteWriterToByteArrayPinLaw", "same", "([B[BI)Z"⟩ : MethodName)) (rm113 l Z a0 hw [] b1 a1 (13 : Int32) kb1 k487 (nar .byte (q1.toInt8.toInt32)) (nar .byte ((XT.ushr q4 (24 : Int32)).toInt8.toInt32)) (nar .byte ((XT.ushr q4 (16 : Int32)).toInt8.toInt32)) (nar .byte ((XT.ushr q4 (8 : Int32)).toInt8.toInt32)) (nar .byte (q4.toInt8.toInt32)) (nar .byte (((XT.ushrL (XT.ushrL (XT.ushrL (XT.ushrL (XT.ushrL (XT.ushrL (XT.ushrL q3 (8 : Int32)) (8 : Int32)) (8 : Int32)) (8 : Int32)) (8 : Int32)) (8 : Int32)) (8 : Int32))).toInt32.toInt8.toInt32)) (nar .byte (((XT.ushrL (XT.ushrL (XT.ushrL (XT.ushrL (XT.ushrL (XT.ushrL q3 (8 : Int32)) (8 : Int32)) (8 : Int32)) (8 : Int32)) (8 : Int32)) (8 : Int32))).toInt32.toInt8.toInt32)) (nar .byte (((XT.ushrL (XT.ushrL (XT.ushrL (XT.ushrL (XT.ushrL q3 (8 : Int32)) (8 : Int32)) (8 : Int32)) (8 : Int32)) (8 : Int32))).toInt32.toInt8.toInt32)) (nar .byte (((XT.ushrL (XT.ushrL (XT.ushrL (XT.ushrL q3 (8 : Int32)) (8 : Int32)) (8 : Int32)) (8 : Int32))).toInt32.toInt8.toInt32)) (nar .byte (((XT.ushrL (XT.ushrL (XT.ushrL q3 (8 : Int32)) (8 : Int32)) (8 : Int32))).toInt32.toInt8.toInt32)) (nar .byte (((XT.ushrL (XT.ushrL q3 (8 : Int32)) (8 : Int32))).toInt32.toInt8.toInt32)) (nar .byte (((XT.ushrL q3 (8 : Int32))).toInt32.toInt8.toInt32)) (nar .byte ((q3).toInt32.toInt8.toInt32)) T602.heap n0 Z1 rfl AV1 F611) (hw _ (List.mem_of_getElem? (i := 57) rfl)) (hw _ (List.mem_of_getElem? (i := 58) rfl)) (hw _ (List.mem_of_getElem? (i := 59) rfl)) (hw _ (List.mem_of_getElem? (i := 60) rfl)) (by decide) (st := []) 0 (Nat.le_of_eq rfl) (by decide) (by decide) (by decide) (by decide) rfl [.ref b1, .ref a1, .int (13 : Int32)] rfl (lenOf pd_113 rfl) rfl at_249 rfl ?_
      intro v613 T613 L613 X613 hQ613
      obtain ⟨rfl, NNs1, exs1⟩ := hQ613
      have NXs1 := Fr.app NX1 NNs1
      refine ow_at (g := (mkF m 252 #[.val (.int q0), .val (.int q1), .val (.int q2), .val (.long q3), .second, .val (.int q4), .val (.int q5), .val (.int (1 : Int32)), .val (.int (1 : Int32)), .val (.ref o1), .val (.int (13 : Int32)), .val (.int q4), .val (.ref a1), .val (.ref b1), .unset] [.int (1 : Int32)])) ?_
      refine ow_ifN K X613 (pc' := 255) at_252 rfl (XT.i0_eq_f (by decide)) ?_
      refine ow_aload K X613 (pc' := 257) o1 at_255 rfl rfl ?_
      refine ow_callV K X613 (pc' := 260) exs1 (y := (⟨"com/example/cardinality/cardinality/value/ByteWriter", "length", "()I"⟩ : MethodName)) (rm13 l Z a0 hw [] o1 (13 : Int32) T602.heap n0 Z1 F608) F606 (hw _ (List.mem_of_getElem? (i := 61) rfl)) (hw _ (List.mem_of_getElem? (i := 62) rfl)) (hw _ (List.mem_of_getElem? (i := 64) rfl)) (hw _ (List.mem_of_getElem? (i := 63) rfl)) (hw _ (List.mem_of_getElem? (i := 2) rfl)) (hw _ (List.mem_of_getElem? (i := 65) rfl)) (by decide) (st := []) 0 (Nat.le_of_eq rfl) (by decide) (by decide) (by decide) (by decide) rfl [] rfl (lenOf pd_13 rfl) rfl at_257 rfl ?_
      intro v614 T614 L614 X614 hQ614
      obtain ⟨rfl, NNt1, ext1⟩ := hQ614
      have NXt1 := Fr.app NXs1 NNt1
      refine ow_at (g := (mkF m 260 #[.val (.int q0), .val (.int q1), .val (.int q2), .val (.long q3), .second, .val (.int q4), .val (.int q5), .val (.int (1 : Int32)), .val (.int (1 : Int32)), .val (.ref o1), .val (.int (13 : Int32)), .val (.int q4), .val (.ref a1), .val (.ref b1), .unset] [.int (13 : Int32)])) ?_
      refine ow_iload K X614 (pc' := 262) (13 : Int32) at_260 rfl rfl ?_
      refine ow_icmpY K X614 (pc' := 267) at_262 (XT.ii_eq_t rfl) (by decide) (by decide) ?_
      refine ow_aload K X614 (pc' := 269) b1 at_267 rfl rfl ?_
      refine ow_iconst K X614 (pc' := 270) (0 : Int32) at_269 rfl (by decide) ?_
      refine ow_aload K X614 (pc' := 272) b1 at_270 rfl rfl ?_
      refine ow_iconst K X614 (pc' := 273) (0 : Int32) at_272 rfl (by decide) ?_
      refine ow_baload K X614 (pc' := 274) ext1 AV1 0 (.int (nar .byte (q1.toInt8.toInt32))) ⟨by decide, by decide⟩ (by decide) rfl at_273 rfl ?_
      refine ow_iconst K X614 (pc' := 275) (1 : Int32) at_274 rfl (by decide) ?_
      refine ow_ixor K X614 (pc' := 276) ((nar .byte (q1.toInt8.toInt32)) ^^^ (1 : Int32)) at_275 rfl rfl ?_
      refine ow_i2b K X614 (pc' := 277) ((((nar .byte (q1.toInt8.toInt32)) ^^^ (1 : Int32))).toInt8.toInt32) at_276 rfl rfl ?_
      refine ow_bastore K X614 (pc' := 278) ext1 AV1 0 [.int (nar .byte (((nar .byte (q1.toInt8.toInt32)) ^^^ (1 : Int32)).toInt8.toInt32)), .int (nar .byte ((XT.ushr q4 (24 : Int32)).toInt8.toInt32)), .int (nar .byte ((XT.ushr q4 (16 : Int32)).toInt8.toInt32)), .int (nar .byte ((XT.ushr q4 (8 : Int32)).toInt8.toInt32)), .int (nar .byte (q4.toInt8.toInt32)), .int (nar .byte (((XT.ushrL (XT.ushrL (XT.ushrL (XT.ushrL (XT.ushrL (XT.ushrL (XT.ushrL q3 (8 : Int32)) (8 : Int32)) (8 : Int32)) (8 : Int32)) (8 : Int32)) (8 : Int32)) (8 : Int32))).toInt32.toInt8.toInt32)), .int (nar .byte (((XT.ushrL (XT.ushrL (XT.ushrL (XT.ushrL (XT.ushrL (XT.ushrL q3 (8 : Int32)) (8 : Int32)) (8 : Int32)) (8 : Int32)) (8 : Int32)) (8 : Int32))).toInt32.toInt8.toInt32)), .int (nar .byte (((XT.ushrL (XT.ushrL (XT.ushrL (XT.ushrL (XT.ushrL q3 (8 : Int32)) (8 : Int32)) (8 : Int32)) (8 : Int32)) (8 : Int32))).toInt32.toInt8.toInt32)), .int (nar .byte (((XT.ushrL (XT.ushrL (XT.ushrL (XT.ushrL q3 (8 : Int32)) (8 : Int32)) (8 : Int32)) (8 : Int32))).toInt32.toInt8.toInt32)), .int (nar .byte (((XT.ushrL (XT.ushrL (XT.ushrL q3 (8 : Int32)) (8 : Int32)) (8 : Int32))).toInt32.toInt8.toInt32)), .int (nar .byte (((XT.ushrL (XT.ushrL q3 (8 : Int32)) (8 : Int32))).toInt32.toInt8.toInt32)), .int (nar .byte (((XT.ushrL q3 (8 : Int32))).toInt32.toInt8.toInt32)), .int (nar .byte ((q3).toInt32.toInt8.toInt32))] ⟨by decide, by decide⟩ (by decide) (by simp) rfl at_277 rfl ?_
      intro T615 h615 X615 e615 W615 F615
      have F616 : Exa Z h615 o1 "com/example/cardinality/cardinality/value/ByteWriter" := Exa.wr W615 F606
      have F617 : Fld Z h615 o1 "com/example/cardinality/cardinality/value/ByteWriter" "bytes" "[B" (.ref r2) := Fld.other W615 F607 (Or.inl ne603)
      have F618 : Fld Z h615 o1 "com/example/cardinality/cardinality/value/ByteWriter" "length" "I" (.int (13 : Int32)) := Fld.other W615 F608 (Or.inl ne603)
      have F619 : Arv Z h615 r2 k2 .byte N2 [.int (nar .byte (q1.toInt8.toInt32)), .int (nar .byte ((XT.ushr q4 (24 : Int32)).toInt8.toInt32)), .int (nar .byte ((XT.ushr q4 (16 : Int32)).toInt8.toInt32)), .int (nar .byte ((XT.ushr q4 (8 : Int32)).toInt8.toInt32)), .int (nar .byte (q4.toInt8.toInt32)), .int (nar .byte (((XT.ushrL (XT.ushrL (XT.ushrL (XT.ushrL (XT.ushrL (XT.ushrL (XT.ushrL q3 (8 : Int32)) (8 : Int32)) (8 : Int32)) (8 : Int32)) (8 : Int32)) (8 : Int32)) (8 : Int32))).toInt32.toInt8.toInt32)), .int (nar .byte (((XT.ushrL (XT.ushrL (XT.ushrL (XT.ushrL (XT.ushrL (XT.ushrL q3 (8 : Int32)) (8 : Int32)) (8 : Int32)) (8 : Int32)) (8 : Int32)) (8 : Int32))).toInt32.toInt8.toInt32)), .int (nar .byte (((XT.ushrL (XT.ushrL (XT.ushrL (XT.ushrL (XT.ushrL q3 (8 : Int32)) (8 : Int32)) (8 : Int32)) (8 : Int32)) (8 : Int32))).toInt32.toInt8.toInt32)), .int (nar .byte (((XT.ushrL (XT.ushrL (XT.ushrL (XT.ushrL q3 (8 : Int32)) (8 : Int32)) (8 : Int32)) (8 : Int32))).toInt32.toInt8.toInt32)), .int (nar .byte (((XT.ushrL (XT.ushrL (XT.ushrL q3 (8 : Int32)) (8 : Int32)) (8 : Int32))).toInt32.toInt8.toInt32)), .int (nar .byte (((XT.ushrL (XT.ushrL q3 (8 : Int32)) (8 : Int32))).toInt32.toInt8.toInt32)), .int (nar .byte (((XT.ushrL q3 (8 : Int32))).toInt32.toInt8.toInt32)), .int (nar .byte ((q3).toInt32.toInt8.toInt32))] (.int 0) := F609.other W615 ne604
      have F620 : Exa Z h615 r2 "[B" := Exa.wr W615 F610
      have F621 : Arv Z h615 a1 k487 .byte (13 : Int32) [.int (nar .byte (q1.toInt8.toInt32)), .int (nar .byte ((XT.ushr q4 (24 : Int32)).toInt8.toInt32)), .int (nar .byte ((XT.ushr q4 (16 : Int32)).toInt8.toInt32)), .int (nar .byte ((XT.ushr q4 (8 : Int32)).toInt8.toInt32)), .int (nar .byte (q4.toInt8.toInt32)), .int (nar .byte (((XT.ushrL (XT.ushrL (XT.ushrL (XT.ushrL (XT.ushrL (XT.ushrL (XT.ushrL q3 (8 : Int32)) (8 : Int32)) (8 : Int32)) (8 : Int32)) (8 : Int32)) (8 : Int32)) (8 : Int32))).toInt32.toInt8.toInt32)), .int (nar .byte (((XT.ushrL (XT.ushrL (XT.ushrL (XT.ushrL (XT.ushrL (XT.ushrL q3 (8 : Int32)) (8 : Int32)) (8 : Int32)) (8 : Int32)) (8 : Int32)) (8 : Int32))).toInt32.toInt8.toInt32)), .int (nar .byte (((XT.ushrL (XT.ushrL (XT.ushrL (XT.ushrL (XT.ushrL q3 (8 : Int32)) (8 : Int32)) (8 : Int32)) (8 : Int32)) (8 : Int32))).toInt32.toInt8.toInt32)), .int (nar .byte (((XT.ushrL (XT.ushrL (XT.ushrL (XT.ushrL q3 (8 : Int32)) (8 : Int32)) (8 : Int32)) (8 : Int32))).toInt32.toInt8.toInt32)), .int (nar .byte (((XT.ushrL (XT.ushrL (XT.ushrL q3 (8 : Int32)) (8 : Int32)) (8 : Int32))).toInt32.toInt8.toInt32)), .int (nar .byte (((XT.ushrL (XT.ushrL q3 (8 : Int32)) (8 : Int32))).toInt32.toInt8.toInt32)), .int (nar .byte (((XT.ushrL q3 (8 : Int32))).toInt32.toInt8.toInt32)), .int (nar .byte ((q3).toInt32.toInt8.toInt32))] (.int 0) := F611.other W615 ne605
      have Z622 : n0 ≤ h615.size := Nat.le_trans Z1 (Nat.le_of_eq W615.size.symm)
      have N623 := Fr.snoc X615 NXt1 g1
      refine ow_aload K X615 (pc' := 280) o1 at_278 rfl rfl ?_
      have own_mn2 : own_min N2 (13 : Int32) = (13 : Int32) := by
        apply Int32.toInt_inj.mp
        have e : ((13 : Int32)).toInt = 13 := by decide
        rw [own_minI, e]; split <;> omega
      refine ow_callV K X615 (pc' := 283) e615 (y := (⟨"com/example/cardinality/cardinality/value/ByteWriter", "toByteArray", "()[B"⟩ : MethodName)) (rm12 l Z a0 hw [] o1 r2 k2 N2 (13 : Int32) [.int (nar .byte (q1.toInt8.toInt32)), .int (nar .byte ((XT.ushr q4 (24 : Int32)).toInt8.toInt32)), .int (nar .byte ((XT.ushr q4 (16 : Int32)).toInt8.toInt32)), .int (nar .byte ((XT.ushr q4 (8 : Int32)).toInt8.toInt32)), .int (nar .byte (q4.toInt8.toInt32)), .int (nar .byte (((XT.ushrL (XT.ushrL (XT.ushrL (XT.ushrL (XT.ushrL (XT.ushrL (XT.ushrL q3 (8 : Int32)) (8 : Int32)) (8 : Int32)) (8 : Int32)) (8 : Int32)) (8 : Int32)) (8 : Int32))).toInt32.toInt8.toInt32)), .int (nar .byte (((XT.ushrL (XT.ushrL (XT.ushrL (XT.ushrL (XT.ushrL (XT.ushrL q3 (8 : Int32)) (8 : Int32)) (8 : Int32)) (8 : Int32)) (8 : Int32)) (8 : Int32))).toInt32.toInt8.toInt32)), .int (nar .byte (((XT.ushrL (XT.ushrL (XT.ushrL (XT.ushrL (XT.ushrL q3 (8 : Int32)) (8 : Int32)) (8 : Int32)) (8 : Int32)) (8 : Int32))).toInt32.toInt8.toInt32)), .int (nar .byte (((XT.ushrL (XT.ushrL (XT.ushrL (XT.ushrL q3 (8 : Int32)) (8 : Int32)) (8 : Int32)) (8 : Int32))).toInt32.toInt8.toInt32)), .int (nar .byte (((XT.ushrL (XT.ushrL (XT.ushrL q3 (8 : Int32)) (8 : Int32)) (8 : Int32))).toInt32.toInt8.toInt32)), .int (nar .byte (((XT.ushrL (XT.ushrL q3 (8 : Int32)) (8 : Int32))).toInt32.toInt8.toInt32)), .int (nar .byte (((XT.ushrL q3 (8 : Int32))).toInt32.toInt8.toInt32)), .int (nar .byte ((q3).toInt32.toInt8.toInt32))] h615 n0 Z622 F616 F617 F618 F619 F620 ge478 gr2 ne2 (by decide) (by decide) (by rw [own_mn2]; decide) (by rw [own_mn2]; show 13 ≤ _; omega) (by rw [own_mn2]; decide) (by rw [own_mn2]; exact (Nat.le_refl 13 : 13 ≤ 13))) F616 (hw _ (List.mem_of_getElem? (i := 41) rfl)) (hw _ (List.mem_of_getElem? (i := 42) rfl)) (hw _ (List.mem_of_getElem? (i := 44) rfl)) (hw _ (List.mem_of_getElem? (i := 43) rfl)) (hw _ (List.mem_of_getElem? (i := 2) rfl)) (hw _ (List.mem_of_getElem? (i := 45) rfl)) (by decide) (st := []) 0 (Nat.le_of_eq rfl) (by decide) (by decide) (by decide) (by decide) rfl [] rfl (lenOf pd_12 rfl) rfl at_280 rfl ?_
      intro v624 T624 L624 X624 hQ624
      obtain ⟨b2, kb2, rfl, NN2, Z2, g2, hc2, Kp2, AV2, AE2⟩ := hQ624
      have NX2 := Fr.app N623 NN2
      have ne625 : o1 ≠ b2 := ow_ne F616.lt hc2
      have ne626 : r2 ≠ b2 := ow_ne F619.lt hc2
      have ne627 : a1 ≠ b2 := ow_ne F621.lt hc2
      have F628 : Exa Z T624.heap o1 "com/example/cardinality/cardinality/value/ByteWriter" := F616.keep Kp2
      have F629 : Fld Z T624.heap o1 "com/example/cardinality/cardinality/value/ByteWriter" "bytes" "[B" (.ref r2) := F617.keep Kp2 nin0
      have F630 : Fld Z T624.heap o1 "com/example/cardinality/cardinality/value/ByteWriter" "length" "I" (.int (13 : Int32)) := F618.keep Kp2 nin0
      have F631 : Arv Z T624.heap r2 k2 .byte N2 [.int (nar .byte (q1.toInt8.toInt32)), .int (nar .byte ((XT.ushr q4 (24 : Int32)).toInt8.toInt32)), .int (nar .byte ((XT.ushr q4 (16 : Int32)).toInt8.toInt32)), .int (nar .byte ((XT.ushr q4 (8 : Int32)).toInt8.toInt32)), .int (nar .byte (q4.toInt8.toInt32)), .int (nar .byte (((XT.ushrL (XT.ushrL (XT.ushrL (XT.ushrL (XT.ushrL (XT.ushrL (XT.ushrL q3 (8 : Int32)) (8 : Int32)) (8 : Int32)) (8 : Int32)) (8 : Int32)) (8 : Int32)) (8 : Int32))).toInt32.toInt8.toInt32)), .int (nar .byte (((XT.ushrL (XT.ushrL (XT.ushrL (XT.ushrL (XT.ushrL (XT.ushrL q3 (8 : Int32)) (8 : Int32)) (8 : Int32)) (8 : Int32)) (8 : Int32)) (8 : Int32))).toInt32.toInt8.toInt32)), .int (nar .byte (((XT.ushrL (XT.ushrL (XT.ushrL (XT.ushrL (XT.ushrL q3 (8 : Int32)) (8 : Int32)) (8 : Int32)) (8 : Int32)) (8 : Int32))).toInt32.toInt8.toInt32)), .int (nar .byte (((XT.ushrL (XT.ushrL (XT.ushrL (XT.ushrL q3 (8 : Int32)) (8 : Int32)) (8 : Int32)) (8 : Int32))).toInt32.toInt8.toInt32)), .int (nar .byte (((XT.ushrL (XT.ushrL (XT.ushrL q3 (8 : Int32)) (8 : Int32)) (8 : Int32))).toInt32.toInt8.toInt32)), .int (nar .byte (((XT.ushrL (XT.ushrL q3 (8 : Int32)) (8 : Int32))).toInt32.toInt8.toInt32)), .int (nar .byte (((XT.ushrL q3 (8 : Int32))).toInt32.toInt8.toInt32)), .int (nar .byte ((q3).toInt32.toInt8.toInt32))] (.int 0) := F619.keep Kp2 nin0
      have F632 : Exa Z T624.heap r2 "[B" := F620.keep Kp2
      have F633 : Arv Z T624.heap a1 k487 .byte (13 : Int32) [.int (nar .byte (q1.toInt8.toInt32)), .int (nar .byte ((XT.ushr q4 (24 : Int32)).toInt8.toInt32)), .int (nar .byte ((XT.ushr q4 (16 : Int32)).toInt8.toInt32)), .int (nar .byte ((XT.ushr q4 (8 : Int32)).toInt8.toInt32)), .int (nar .byte (q4.toInt8.toInt32)), .int (nar .byte (((XT.ushrL (XT.ushrL (XT.ushrL (XT.ushrL (XT.ushrL (XT.ushrL (XT.ushrL q3 (8 : Int32)) (8 : Int32)) (8 : Int32)) (8 : Int32)) (8 : Int32)) (8 : Int32)) (8 : Int32))).toInt32.toInt8.toInt32)), .int (nar .byte (((XT.ushrL (XT.ushrL (XT.ushrL (XT.ushrL (XT.ushrL (XT.ushrL q3 (8 : Int32)) (8 : Int32)) (8 : Int32)) (8 : Int32)) (8 : Int32)) (8 : Int32))).toInt32.toInt8.toInt32)), .int (nar .byte (((XT.ushrL (XT.ushrL (XT.ushrL (XT.ushrL (XT.ushrL q3 (8 : Int32)) (8 : Int32)) (8 : Int32)) (8 : Int32)) (8 : Int32))).toInt32.toInt8.toInt32)), .int (nar .byte (((XT.ushrL (XT.ushrL (XT.ushrL (XT.ushrL q3 (8 : Int32)) (8 : Int32)) (8 : Int32)) (8 : Int32))).toInt32.toInt8.toInt32)), .int (nar .byte (((XT.ushrL (XT.ushrL (XT.ushrL q3 (8 : Int32)) (8 : Int32)) (8 : Int32))).toInt32.toInt8.toInt32)), .int (nar .byte (((XT.ushrL (XT.ushrL q3 (8 : Int32)) (8 : Int32))).toInt32.toInt8.toInt32)), .int (nar .byte (((XT.ushrL q3 (8 : Int32))).toInt32.toInt8.toInt32)), .int (nar .byte ((q3).toInt32.toInt8.toInt32))] (.int 0) := F621.keep Kp2 nin0
      have Z634 : n0 ≤ T624.heap.size := Nat.le_trans Z622 Kp2.1
      refine ow_at (g := (mkF m 283 #[.val (.int q0), .val (.int q1), .val (.int q2), .val (.long q3), .second, .val (.int q4), .val (.int q5), .val (.int (1 : Int32)), .val (.int (1 : Int32)), .val (.ref o1), .val (.int (13 : Int32)), .val (.int q4), .val (.ref a1), .val (.ref b1), .unset] [.ref b2])) ?_
      refine ow_astore K X624 (pc' := 285) (Ls' := #[.val (.int q0), .val (.int q1), .val (.int q2), .val (.long q3), .second, .val (.int q4), .val (.int q5), .val (.int (1 : Int32)), .val (.int (1 : Int32)), .val (.ref o1), .val (.int (13 : Int32)), .val (.int q4), .val (.ref a1), .val (.ref b1), .val (.ref b2)]) at_283 rfl rfl ?_
      refine ow_aload K X624 (pc' := 287) b2 at_285 rfl rfl ?_
      refine ow_aload K X624 (pc' := 289) a1 at_287 rfl rfl ?_
      refine ow_iload K X624 (pc' := 291) (13 : Int32) at_289 rfl rfl ?_
      refine ow_callS K X624 (pc' := 294) (rfl : T624.heap = T624.heap) (y := (⟨"com/example/cardinality/cardinality/value/ByteWriterToByteArrayPinLaw", "same", "([B[BI)Z"⟩ : MethodName)) (rm113 l Z a0 hw [] b2 a1 (13 : Int32) kb2 k487 (nar .byte (q1.toInt8.toInt32)) (nar .byte ((XT.ushr q4 (24 : Int32)).toInt8.toInt32)) (nar .byte ((XT.ushr q4 (16 : Int32)).toInt8.toInt32)) (nar .byte ((XT.ushr q4 (8 : Int32)).toInt8.toInt32)) (nar .byte (q4.toInt8.toInt32)) (nar .byte (((XT.ushrL (XT.ushrL (XT.ushrL (XT.ushrL (XT.ushrL (XT.ushrL (XT.ushrL q3 (8 : Int32)) (8 : Int32)) (8 : Int32)) (8 : Int32)) (8 : Int32)) (8 : Int32)) (8 : Int32))).toInt32.toInt8.toInt32)) (nar .byte (((XT.ushrL (XT.ushrL (XT.ushrL (XT.ushrL (XT.ushrL (XT.ushrL q3 (8 : Int32)) (8 : Int32)) (8 : Int32)) (8 : Int32)) (8 : Int32)) (8 : Int32))).toInt32.toInt8.toInt32)) (nar .byte (((XT.ushrL (XT.ushrL (XT.ushrL (XT.ushrL (XT.ushrL q3 (8 : Int32)) (8 : Int32)) (8 : Int32)) (8 : Int32)) (8 : Int32))).toInt32.toInt8.toInt32)) (nar .byte (((XT.ushrL (XT.ushrL (XT.ushrL (XT.ushrL q3 (8 : Int32)) (8 : Int32)) (8 : Int32)) (8 : Int32))).toInt32.toInt8.toInt32)) (nar .byte (((XT.ushrL (XT.ushrL (XT.ushrL q3 (8 : Int32)) (8 : Int32)) (8 : Int32))).toInt32.toInt8.toInt32)) (nar .byte (((XT.ushrL (XT.ushrL q3 (8 : Int32)) (8 : Int32))).toInt32.toInt8.toInt32)) (nar .byte (((XT.ushrL q3 (8 : Int32))).toInt32.toInt8.toInt32)) (nar .byte ((q3).toInt32.toInt8.toInt32)) T624.heap n0 Z2 rfl AV2 F633) (hw _ (List.mem_of_getElem? (i := 57) rfl)) (hw _ (List.mem_of_getElem? (i := 58) rfl)) (hw _ (List.mem_of_getElem? (i := 59) rfl)) (hw _ (List.mem_of_getElem? (i := 60) rfl)) (by decide) (st := []) 0 (Nat.le_of_eq rfl) (by decide) (by decide) (by decide) (by decide) rfl [.ref b2, .ref a1, .int (13 : Int32)] rfl (lenOf pd_113 rfl) rfl at_291 rfl ?_
      intro v635 T635 L635 X635 hQ635
      obtain ⟨rfl, NNs2, exs2⟩ := hQ635
      have NXs2 := Fr.app NX2 NNs2
      refine ow_at (g := (mkF m 294 #[.val (.int q0), .val (.int q1), .val (.int q2), .val (.long q3), .second, .val (.int q4), .val (.int q5), .val (.int (1 : Int32)), .val (.int (1 : Int32)), .val (.ref o1), .val (.int (13 : Int32)), .val (.int q4), .val (.ref a1), .val (.ref b1), .val (.ref b2)] [.int (1 : Int32)])) ?_
      refine ow_ifN K X635 (pc' := 297) at_294 rfl (XT.i0_eq_f (by decide)) ?_
      refine ow_aload K X635 (pc' := 299) o1 at_297 rfl rfl ?_
      refine ow_callV K X635 (pc' := 302) exs2 (y := (⟨"com/example/cardinality/cardinality/value/ByteWriter", "length", "()I"⟩ : MethodName)) (rm13 l Z a0 hw [] o1 (13 : Int32) T624.heap n0 Z2 F630) F628 (hw _ (List.mem_of_getElem? (i := 61) rfl)) (hw _ (List.mem_of_getElem? (i := 62) rfl)) (hw _ (List.mem_of_getElem? (i := 64) rfl)) (hw _ (List.mem_of_getElem? (i := 63) rfl)) (hw _ (List.mem_of_getElem? (i := 2) rfl)) (hw _ (List.mem_of_getElem? (i := 65) rfl)) (by decide) (st := []) 0 (Nat.le_of_eq rfl) (by decide) (by decide) (by decide) (by decide) rfl [] rfl (lenOf pd_13 rfl) rfl at_299 rfl ?_
      intro v636 T636 L636 X636 hQ636
      obtain ⟨rfl, NNt2, ext2⟩ := hQ636
      have NXt2 := Fr.app NXs2 NNt2
      refine ow_at (g := (mkF m 302 #[.val (.int q0), .val (.int q1), .val (.int q2), .val (.long q3), .second, .val (.int q4), .val (.int q5), .val (.int (1 : Int32)), .val (.int (1 : Int32)), .val (.ref o1), .val (.int (13 : Int32)), .val (.int q4), .val (.ref a1), .val (.ref b1), .val (.ref b2)] [.int (13 : Int32)])) ?_
      refine ow_iload K X636 (pc' := 304) (13 : Int32) at_302 rfl rfl ?_
      refine ow_icmpN K X636 (pc' := 307) at_304 rfl (XT.ii_ne_f rfl) ?_
      refine ow_iconst K X636 (pc' := 308) (1 : Int32) at_307 rfl (by decide) ?_
      refine ow_goto K X636 (pc' := 312) at_308 (by decide) (by decide) ?_
      exact ow_retI K X636 .boolean rfl (by decide) (Or.inr (Or.inl rfl)) at_312 ⟨rfl, NXt2⟩ (by decide) (by decide)
set_option maxRecDepth 65536 in
set_option maxHeartbeats 40000000 in
theorem comes_1 {Post : Tables → Env → Array Value → State → Outcome → State → Prop} (hpost : ∀ tb e args s v u, (limb_1_1.after args s (.returned v) u = true ∧ limb_1_2.after args s (.returned v) u = true ∧ True) → FrameEnd s (.returned v) u (Jvm.fieldLocs frame_1_writes args s ++ Jvm.arrayLocs frame_1_arrays args s ++ Jvm.staticLocs frame_1_statics s) 24 256 → Post tb e args s (.returned v) u) :
    ArmFor flags0 classFile x code maxLocals ret World_1 tables_1 room_1 Calls_1 rest_1 Pre_1 Post := by
  intro l hfl _ _ p e ha hc hk s m args below hf hA hF happ hP
  obtain ⟨hcalls, hrest, hpre⟩ := hP
  obtain ⟨-, -, -, hnamed, -, -, -, hat⟩ := (Spec.applies_iff hf).mp happ
  obtain ⟨hg, hn⟩ := and_e (Cond.before_iff.mp (show (Jvm.Cond.and given_1 narrow_1).before args s = true from hpre))
  obtain ⟨hcount, b0⟩ := and_e hg
  obtain ⟨a0, b1⟩ := and_e b0
  obtain ⟨a1, b2⟩ := and_e b1
  obtain ⟨a2, b3⟩ := and_e b2
  obtain ⟨a3, b4⟩ := and_e b3
  obtain ⟨a4, b5⟩ := and_e b4
  obtain ⟨w0, w1, w2, w3, w4, w5, rfl⟩ : ∃ w0 w1 w2 w3 w4 w5 : Value, args = #[w0, w1, w2, w3, w4, w5] := by
    have hs : args.size = 6 := by simpa [Cond.value, given_1] using hcount
    obtain ⟨L⟩ := args
    match L, hs with
    | [w0, w1, w2, w3, w4, w5], _ => exact ⟨w0, w1, w2, w3, w4, w5, rfl⟩
  have hw := fun d (hd : d ∈ tables_1) => atoms_spec (ws := Jvm.Cond.code x code maxLocals ret :: tables_1) hat d (List.mem_cons_of_mem _ hd)
  obtain ⟨i0, f0⟩ := is_v a0
  obtain rfl : w0 = (.int i0) := Option.some.inj f0
  obtain ⟨i1, f1⟩ := is_v a1
  obtain rfl : w1 = (.int i1) := Option.some.inj f1
  obtain ⟨i2, f2⟩ := is_v a2
  obtain rfl : w2 = (.int i2) := Option.some.inj f2
  obtain ⟨i3, f3⟩ := isL_v a3
  obtain rfl : w3 = (.long i3) := Option.some.inj f3
  obtain ⟨i4, f4⟩ := is_v a4
  obtain rfl : w4 = (.int i4) := Option.some.inj f4
  obtain ⟨i5, f5⟩ := is_v b5
  obtain rfl : w5 = (.int i5) := Option.some.inj f5
  obtain ⟨n, o, h1, h2, h3, _, L, rfl, ⟨rfl, N⟩, hq⟩ := rm0 l s _ hw tables_1 i0 i1 i2 i3 i4 i5 s.heap s.heap.size (Nat.le_refl _) p e ha hc hk s m _ below hf ((Spec.applies_iff_loose hf).mp happ).1 ⟨rfl, State.Warmed39.refl s, rfl⟩ trivial
  refine ⟨n, _, h1, h2, h3, hpost _ _ _ _ _ _ ⟨Cond.after_iff.mpr rfl, Cond.after_iff.mpr (eq_i res_at (Term.int_eval (1)) rfl), trivial⟩ ⟨hq.1, hq.2.1, (hq.2.2.sift fun y hy => Or.inr (N y hy)).mono (by decide) (by decide)⟩⟩
theorem main_1_1 : Claimed_1_1 := comes_1 fun _ _ _ _ _ _ h hF => ⟨h.1, hF⟩
theorem main_1_2 : Claimed_1_2 := comes_1 fun _ _ _ _ _ _ h hF => ⟨h.2.1, hF⟩
end Jvm.Pilot.@@N@@
namespace Jvm.Pilot.@@N@@
open Jvm Jvm.ClassFile Sem Op Lib Jvm.Free Jvm.Stand Jvm.Pilot.@@N@@.Jvm.D
/-! MADE BY PROGRAM (witnessworld.py) out of the Statement's table words and the real class files: 12 classes; the members and pool entries that the words name. The judged class is class 1, her method 1. -/
namespace start1
open Jvm.ClassFile
def u (s : String) : CpInfo := .utf8 (stringToUtf16 s)
/-- a pool by its gaps: so many unusable entries, then the entry; so many at the end -/
def gap : Nat → List CpInfo → List CpInfo
  | 0, r => r
  | n + 1, r => .unusable :: gap n r
def poolList (es : List (Nat × CpInfo)) (last : Nat) : List CpInfo := es.foldr (fun e r => gap e.1 (e.2 :: r)) (gap last [])
def pool (es : List (Nat × CpInfo)) (last : Nat) : Array CpInfo := ⟨poolList es last⟩
def fileOf (pool : Array CpInfo) (this : Nat) (attrs : Array Attribute := #[]) (ms : Array MethodInfo := #[]) (fl : Nat := 33) (sup : Nat := 0) (ifs : Array Nat := #[]) (fds : Array FieldInfo := #[]) : ClassFile where
  minorVersion := 0
  majorVersion := 65
  constantPool := pool
  accessFlags := fl
  thisClass := this
  superClass := sup
  interfaces := ifs
  fields := fds
  methods := ms
  attributes := attrs
def plain (name : String) (sup : Option ClassId) : Class where
  name := name
  kind := .ordinary
  loader := none
  accessFlags := 33
  super := sup
  interfaces := #[]
  cf := none
  fields := #[]
  methods := #[]
  instanceTypes := #[]
  staticTypes := #[]
  resolved := #[]
  callSites := []
  init := .initialized
  statics := none
  mirror := none

def pool0 : Array CpInfo := pool [(5, u "<init>"), (0, u "()V"), (1, .class_ 10), (1, u "java/lang/Object"), (85, u "clone"), (0, u "()Ljava/lang/Object;")] 26

def k0c0 : Code := { maxStack := 0, maxLocals := 1, code := object_method_1_code, exceptionTable := #[], attributes := #[] }
def k0m0 : Method := { name := "<init>", desc := "()V", sig := { parameters := [], returnType := none }, accessFlags := 1, code := some k0c0 }
def k0m1 : Method := { name := "clone", desc := "()Ljava/lang/Object;", sig := { parameters := [], returnType := some (.object "java/lang/Object") }, accessFlags := 260, code := none }
/-- java/lang/Object -/
def k0 : Class := { plain "java/lang/Object" none with
  accessFlags := 33
  interfaces := #[]
  cf := some (fileOf pool0 8 #[] #[{ accessFlags := 1, nameIndex := 5, descriptorIndex := 6, attributes := #[] }, { accessFlags := 260, nameIndex := 96, descriptorIndex := 97, attributes := #[] }] 33 0 #[] #[])
  fields := #[]
  methods := #[k0m0, k0m1]
  instanceTypes := #[]
  staticTypes := #[]
  resolved := Array.replicate 124 none
  statics := none }

def pool1 : Array CpInfo := pool [(2, .class_ 4), (1, u "java/lang/Object"), (0, u "<init>"), (0, u "()V"), (0, .class_ 8), (0, u "com/example/cardinality/cardinality/value/ByteWriter"), (0, .methodref 7 10), (0, .nameAndType 5 11), (0, u "(I)V"), (0, .methodref 7 13), (0, .nameAndType 14 11), (0, u "writeByte"), (0, .methodref 7 16), (0, .nameAndType 17 11), (0, u "writeInt"), (0, .methodref 7 19), (0, .nameAndType 20 21), (0, u "writeLong"), (0, u "(J)V"), (0, .methodref 7 23), (0, .nameAndType 24 25), (0, u "writeIntAt"), (0, u "(II)V"), (0, .methodref 7 27), (0, .nameAndType 28 29), (0, u "toByteArray"), (0, u "()[B"), (0, .methodref 31 32), (0, .class_ 33), (0, .nameAndType 34 35), (0, u "com/example/cardinality/cardinality/value/ByteWriterToByteArrayPinLaw"), (0, u "same"), (0, u "([B[BI)Z"), (0, .methodref 7 37), (0, .nameAndType 38 39), (0, u "length"), (0, u "()I"), (2, u "law"), (0, u "(IIIJII)Z")] 5

def k1m0 : Method := { name := "<init>", desc := "()V", sig := { parameters := [], returnType := none }, accessFlags := 1, code := none }
def k1c1 : Code := { maxStack := 5, maxLocals := 15, code := code, exceptionTable := #[], attributes := #[] }
def k1m1 : Method := { name := "law", desc := "(IIIJII)Z", sig := { parameters := [.int, .int, .int, .long, .int, .int], returnType := some .boolean }, accessFlags := 9, code := some k1c1 }
def k1c2 : Code := { maxStack := 3, maxLocals := 4, code := method_3_code, exceptionTable := #[], attributes := #[] }
def k1m2 : Method := { name := "same", desc := "([B[BI)Z", sig := { parameters := [(.array .byte), (.array .byte), .int], returnType := some .boolean }, accessFlags := 10, code := some k1c2 }
/-- com/example/cardinality/cardinality/value/ByteWriterToByteArrayPinLaw -/
def k1 : Class := { plain "com/example/cardinality/cardinality/value/ByteWriterToByteArrayPinLaw" (some 0) with
  accessFlags := 49
  interfaces := #[]
  cf := some (fileOf pool1 31 #[] #[{ accessFlags := 1, nameIndex := 5, descriptorIndex := 6, attributes := #[] }, { accessFlags := 9, nameIndex := 42, descriptorIndex := 43, attributes := #[] }, { accessFlags := 10, nameIndex := 34, descriptorIndex := 35, attributes := #[] }] 49 2 #[] #[])
  fields := #[]
  methods := #[k1m0, k1m1, k1m2]
  instanceTypes := #[]
  staticTypes := #[]
  resolved := Array.replicate 49 none
  statics := none }

def pool2 : Array CpInfo := pool [(1, .methodref 2 3), (0, .class_ 4), (0, .nameAndType 5 6), (0, u "java/lang/Object"), (0, u "<init>"), (0, u "()V"), (2, .methodref 10 11), (0, .class_ 12), (0, .nameAndType 13 14), (0, u "java/lang/Math"), (0, u "max"), (0, u "(II)I"), (0, .fieldref 16 17), (0, .class_ 18), (0, .nameAndType 19 20), (0, u "com/example/cardinality/cardinality/value/ByteWriter"), (0, u "bytes"), (0, u "[B"), (0, .fieldref 16 22), (0, .nameAndType 23 24), (0, u "length"), (0, u "I"), (0, .methodref 16 26), (0, .nameAndType 27 28), (0, u "next"), (0, u "(I)I"), (2, u "writeByte"), (0, u "(I)V"), (2, .methodref 16 36), (0, .nameAndType 37 38), (0, u "putInt"), (0, u "(II)V"), (8, u "writeLong"), (0, u "(J)V"), (15, .methodref 65 66), (0, .class_ 67), (0, .nameAndType 68 69), (0, u "java/util/Arrays"), (0, u "copyOf"), (0, u "([BI)[B"), (2, u "()I"), (3, u "writeInt"), (4, u "writeIntAt"), (0, u "toByteArray"), (0, u "()[B")] 17

def k2c0 : Code := { maxStack := 3, maxLocals := 2, code := prog_22_method_1_code, exceptionTable := #[], attributes := #[] }
def k2m0 : Method := { name := "<init>", desc := "(I)V", sig := { parameters := [.int], returnType := none }, accessFlags := 1, code := some k2c0 }
def k2c1 : Code := { maxStack := 1, maxLocals := 1, code := prog_22_method_2_code, exceptionTable := #[], attributes := #[] }
def k2m1 : Method := { name := "length", desc := "()I", sig := { parameters := [], returnType := some .int }, accessFlags := 1, code := some k2c1 }
def k2c2 : Code := { maxStack := 3, maxLocals := 3, code := prog_22_method_3_code, exceptionTable := #[], attributes := #[] }
def k2m2 : Method := { name := "writeByte", desc := "(I)V", sig := { parameters := [.int], returnType := none }, accessFlags := 1, code := some k2c2 }
def k2c3 : Code := { maxStack := 3, maxLocals := 2, code := prog_22_method_5_code, exceptionTable := #[], attributes := #[] }
def k2m3 : Method := { name := "writeInt", desc := "(I)V", sig := { parameters := [.int], returnType := none }, accessFlags := 1, code := some k2c3 }
def k2c4 : Code := { maxStack := 4, maxLocals := 5, code := prog_22_method_6_code, exceptionTable := #[], attributes := #[] }
def k2m4 : Method := { name := "writeLong", desc := "(J)V", sig := { parameters := [.long], returnType := none }, accessFlags := 1, code := some k2c4 }
def k2c5 : Code := { maxStack := 4, maxLocals := 3, code := prog_22_method_9_code, exceptionTable := #[], attributes := #[] }
def k2m5 : Method := { name := "writeIntAt", desc := "(II)V", sig := { parameters := [.int, .int], returnType := none }, accessFlags := 1, code := some k2c5 }
def k2c6 : Code := { maxStack := 2, maxLocals := 1, code := prog_22_method_10_code, exceptionTable := #[], attributes := #[] }
def k2m6 : Method := { name := "toByteArray", desc := "()[B", sig := { parameters := [], returnType := some (.array .byte) }, accessFlags := 1, code := some k2c6 }
def k2c7 : Code := { maxStack := 4, maxLocals := 3, code := prog_22_method_11_code, exceptionTable := #[], attributes := #[] }
def k2m7 : Method := { name := "putInt", desc := "(II)V", sig := { parameters := [.int, .int], returnType := none }, accessFlags := 2, code := some k2c7 }
def k2c8 : Code := { maxStack := 5, maxLocals := 3, code := prog_22_method_12_code, exceptionTable := #[], attributes := #[] }
def k2m8 : Method := { name := "next", desc := "(I)I", sig := { parameters := [.int], returnType := some .int }, accessFlags := 2, code := some k2c8 }
/-- com/example/cardinality/cardinality/value/ByteWriter -/
def k2 : Class := { plain "com/example/cardinality/cardinality/value/ByteWriter" (some 0) with
  accessFlags := 49
  interfaces := #[]
  cf := some (fileOf pool2 16 #[] #[{ accessFlags := 1, nameIndex := 5, descriptorIndex := 32, attributes := #[] }, { accessFlags := 1, nameIndex := 23, descriptorIndex := 72, attributes := #[] }, { accessFlags := 1, nameIndex := 31, descriptorIndex := 32, attributes := #[] }, { accessFlags := 1, nameIndex := 76, descriptorIndex := 32, attributes := #[] }, { accessFlags := 1, nameIndex := 47, descriptorIndex := 48, attributes := #[] }, { accessFlags := 1, nameIndex := 81, descriptorIndex := 38, attributes := #[] }, { accessFlags := 1, nameIndex := 82, descriptorIndex := 83, attributes := #[] }, { accessFlags := 2, nameIndex := 37, descriptorIndex := 38, attributes := #[] }, { accessFlags := 2, nameIndex := 27, descriptorIndex := 28, attributes := #[] }] 49 2 #[] #[{ accessFlags := 2, nameIndex := 19, descriptorIndex := 20, attributes := #[] }, { accessFlags := 2, nameIndex := 23, descriptorIndex := 24, attributes := #[] }])
  fields := #[{ name := "bytes", type := (.array .byte), accessFlags := 2, slot := 0, constantValue := 0 }, { name := "length", type := .int, accessFlags := 2, slot := 1, constantValue := 0 }]
  methods := #[k2m0, k2m1, k2m2, k2m3, k2m4, k2m5, k2m6, k2m7, k2m8]
  instanceTypes := #[(.array .byte), .int]
  staticTypes := #[]
  resolved := Array.replicate 101 none
  statics := none }

def pool3 : Array CpInfo := pool [(1, .class_ 2), (0, u "java/lang/Math"), (1, .class_ 6), (1, u "java/lang/Object"), (0, u "<init>"), (0, u "()V"), (89, .class_ 100), (1, u "java/lang/Math$RandomNumberGeneratorHolder"), (71, u "negativeZeroFloatBits"), (0, u "J"), (2, u "negativeZeroDoubleBits"), (21, u "max"), (2, u "min"), (43, u "$assertionsDisabled"), (0, u "Z"), (88, u "(II)I"), (2, u "twoToTheDoubleScaleDown"), (0, u "D"), (4, u "twoToTheDoubleScaleUp"), (9, u "E"), (3, u "PI"), (2, u "TAU"), (2, u "DEGREES_TO_RADIANS"), (0, u "RADIANS_TO_DEGREES")] 94

def k3m0 : Method := { name := "<init>", desc := "()V", sig := { parameters := [], returnType := none }, accessFlags := 2, code := none }
def k3c1 : Code := { maxStack := 2, maxLocals := 2, code := jdk_29_method_65_code, exceptionTable := #[], attributes := #[] }
def k3m1 : Method := { name := "max", desc := "(II)I", sig := { parameters := [.int, .int], returnType := some .int }, accessFlags := 9, code := some k3c1 }
def k3c2 : Code := { maxStack := 2, maxLocals := 2, code := jdk_29_method_69_code, exceptionTable := #[], attributes := #[] }
def k3m2 : Method := { name := "min", desc := "(II)I", sig := { parameters := [.int, .int], returnType := some .int }, accessFlags := 9, code := some k3c2 }
/-- java/lang/Math -/
def k3 : Class := { plain "java/lang/Math" (some 0) with
  accessFlags := 49
  interfaces := #[]
  cf := some (fileOf pool3 1 #[.nestMembers #[98]] #[{ accessFlags := 2, nameIndex := 7, descriptorIndex := 8, attributes := #[] }, { accessFlags := 9, nameIndex := 198, descriptorIndex := 335, attributes := #[] }, { accessFlags := 9, nameIndex := 201, descriptorIndex := 335, attributes := #[] }] 49 4 #[] #[{ accessFlags := 25, nameIndex := 354, descriptorIndex := 339, attributes := #[] }, { accessFlags := 25, nameIndex := 358, descriptorIndex := 339, attributes := #[] }, { accessFlags := 25, nameIndex := 361, descriptorIndex := 339, attributes := #[] }, { accessFlags := 26, nameIndex := 364, descriptorIndex := 339, attributes := #[] }, { accessFlags := 26, nameIndex := 365, descriptorIndex := 339, attributes := #[] }, { accessFlags := 26, nameIndex := 172, descriptorIndex := 173, attributes := #[] }, { accessFlags := 26, nameIndex := 176, descriptorIndex := 173, attributes := #[] }, { accessFlags := 8, nameIndex := 344, descriptorIndex := 339, attributes := #[] }, { accessFlags := 8, nameIndex := 338, descriptorIndex := 339, attributes := #[] }, { accessFlags := 4120, nameIndex := 245, descriptorIndex := 246, attributes := #[] }])
  fields := #[{ name := "E", type := .double, accessFlags := 25, slot := 0, constantValue := 0 }, { name := "PI", type := .double, accessFlags := 25, slot := 1, constantValue := 0 }, { name := "TAU", type := .double, accessFlags := 25, slot := 2, constantValue := 0 }, { name := "DEGREES_TO_RADIANS", type := .double, accessFlags := 26, slot := 3, constantValue := 0 }, { name := "RADIANS_TO_DEGREES", type := .double, accessFlags := 26, slot := 4, constantValue := 0 }, { name := "negativeZeroFloatBits", type := .long, accessFlags := 26, slot := 5, constantValue := 0 }, { name := "negativeZeroDoubleBits", type := .long, accessFlags := 26, slot := 6, constantValue := 0 }, { name := "twoToTheDoubleScaleUp", type := .double, accessFlags := 8, slot := 7, constantValue := 0 }, { name := "twoToTheDoubleScaleDown", type := .double, accessFlags := 8, slot := 8, constantValue := 0 }, { name := "$assertionsDisabled", type := .boolean, accessFlags := 4120, slot := 9, constantValue := 0 }]
  methods := #[k3m0, k3m1, k3m2]
  instanceTypes := #[]
  staticTypes := #[.double, .double, .double, .double, .double, .long, .long, .double, .double, .boolean]
  resolved := Array.replicate 460 none
  statics := none }

def pool4 : Array CpInfo := pool [(2, .class_ 4), (1, u "java/lang/Object"), (0, u "<init>"), (0, u "()V"), (7, .class_ 16), (1, u "java/util/Arrays"), (57, .class_ 76), (1, u "java/util/Arrays$NaturalOrder"), (32, u "()Ljava/lang/Object;"), (3, .class_ 115), (1, u "java/util/Arrays$LegacyMergeSort"), (1, u "Z"), (10, .nameAndType 129 109), (0, u "clone"), (20, .methodref 151 152), (0, .class_ 153), (0, .nameAndType 154 155), (0, u "java/lang/System"), (0, u "arraycopy"), (0, u "(Ljava/lang/Object;ILjava/lang/Object;II)V"), (146, u "copyOf"), (1, .methodref 305 306), (0, .class_ 307), (0, .nameAndType 308 309), (0, u "java/lang/Math"), (0, u "min"), (0, u "(II)I"), (0, .methodref 311 128), (0, .class_ 312), (0, u "[B"), (62, .class_ 376), (0, u "java/util/Arrays$ArrayList"), (68, u "$assertionsDisabled"), (269, u "MIN_ARRAY_SORT_GRAN"), (0, u "I"), (2, u "INSERTIONSORT_THRESHOLD"), (149, u "([BI)[B"), (105, .class_ 976), (0, u "java/util/Arrays$ArrayItr")] 52

def k4m0 : Method := { name := "<init>", desc := "()V", sig := { parameters := [], returnType := none }, accessFlags := 2, code := none }
def k4c1 : Code := { maxStack := 6, maxLocals := 3, code := jdk_65_method_121_code, exceptionTable := #[], attributes := #[] }
def k4m1 : Method := { name := "copyOf", desc := "([BI)[B", sig := { parameters := [(.array .byte), .int], returnType := some (.array .byte) }, accessFlags := 9, code := some k4c1 }
/-- java/util/Arrays -/
def k4 : Class := { plain "java/util/Arrays" (some 0) with
  accessFlags := 49
  interfaces := #[]
  cf := some (fileOf pool4 14 #[.nestMembers #[975, 375, 113, 74]] #[{ accessFlags := 2, nameIndex := 5, descriptorIndex := 6, attributes := #[] }, { accessFlags := 9, nameIndex := 302, descriptorIndex := 869, attributes := #[] }] 49 2 #[] #[{ accessFlags := 26, nameIndex := 715, descriptorIndex := 716, attributes := #[] }, { accessFlags := 26, nameIndex := 719, descriptorIndex := 716, attributes := #[] }, { accessFlags := 4120, nameIndex := 445, descriptorIndex := 117, attributes := #[] }])
  fields := #[{ name := "MIN_ARRAY_SORT_GRAN", type := .int, accessFlags := 26, slot := 0, constantValue := 0 }, { name := "INSERTIONSORT_THRESHOLD", type := .int, accessFlags := 26, slot := 1, constantValue := 0 }, { name := "$assertionsDisabled", type := .boolean, accessFlags := 4120, slot := 2, constantValue := 0 }]
  methods := #[k4m0, k4m1]
  instanceTypes := #[]
  staticTypes := #[.int, .int, .boolean]
  resolved := Array.replicate 1029 none
  statics := none }

def pool5 : Array CpInfo := pool [(2, .class_ 4), (1, u "java/lang/Object"), (0, u "<init>"), (0, u "()V"), (1, .class_ 10), (1, u "java/lang/System"), (0, u "allowSecurityManager"), (0, u "I"), (16, u "cons"), (0, u "Ljava/io/Console;"), (77, .class_ 110), (1, u "java/lang/System$CallersHolder"), (43, u "initialErrStream"), (0, u "Ljava/io/PrintStream;"), (19, u "security"), (0, u "Ljava/lang/SecurityManager;"), (31, .class_ 209), (0, u "java/lang/System$1"), (7, u "props"), (0, u "Ljava/util/Properties;"), (2, u "lineSeparator"), (0, u "Ljava/lang/String;"), (96, .class_ 321), (1, u "java/lang/System$LoggerFinder"), (5, .class_ 328), (0, u "java/lang/System$Logger"), (67, u "err"), (2, u "out"), (91, u "notSupportedJnuEncoding"), (15, u "in"), (17, u "initialIn"), (0, u "Ljava/io/InputStream;"), (35, u "bootLayer"), (0, u "Ljava/lang/ModuleLayer;"), (99, .class_ 664), (0, u "java/lang/System$2"), (9, u "NEVER"), (2, u "MAYBE"), (49, u "arraycopy"), (0, u "(Ljava/lang/Object;ILjava/lang/Object;II)V"), (72, .class_ 802), (0, u "java/lang/System$Logger$Level")] 31

def k5m0 : Method := { name := "<init>", desc := "()V", sig := { parameters := [], returnType := none }, accessFlags := 2, code := none }
def k5m1 : Method := { name := "arraycopy", desc := "(Ljava/lang/Object;ILjava/lang/Object;II)V", sig := { parameters := [(.object "java/lang/Object"), .int, (.object "java/lang/Object"), .int, .int], returnType := none }, accessFlags := 265, code := none }
/-- java/lang/System -/
def k5 : Class := { plain "java/lang/System" (some 0) with
  accessFlags := 49
  interfaces := #[]
  cf := some (fileOf pool5 8 #[.nestMembers #[319, 327, 801, 108, 663, 208]] #[{ accessFlags := 2, nameIndex := 5, descriptorIndex := 6, attributes := #[] }, { accessFlags := 265, nameIndex := 727, descriptorIndex := 728, attributes := #[] }] 49 2 #[] #[{ accessFlags := 25, nameIndex := 507, descriptorIndex := 526, attributes := #[] }, { accessFlags := 25, nameIndex := 399, descriptorIndex := 155, attributes := #[] }, { accessFlags := 25, nameIndex := 396, descriptorIndex := 155, attributes := #[] }, { accessFlags := 10, nameIndex := 525, descriptorIndex := 526, attributes := #[] }, { accessFlags := 26, nameIndex := 674, descriptorIndex := 12, attributes := #[] }, { accessFlags := 26, nameIndex := 677, descriptorIndex := 12, attributes := #[] }, { accessFlags := 10, nameIndex := 11, descriptorIndex := 12, attributes := #[] }, { accessFlags := 74, nameIndex := 175, descriptorIndex := 176, attributes := #[] }, { accessFlags := 10, nameIndex := 491, descriptorIndex := 222, attributes := #[] }, { accessFlags := 74, nameIndex := 29, descriptorIndex := 30, attributes := #[] }, { accessFlags := 74, nameIndex := 154, descriptorIndex := 155, attributes := #[] }, { accessFlags := 10, nameIndex := 217, descriptorIndex := 218, attributes := #[] }, { accessFlags := 10, nameIndex := 221, descriptorIndex := 222, attributes := #[] }, { accessFlags := 8, nameIndex := 562, descriptorIndex := 563, attributes := #[] }])
  fields := #[{ name := "in", type := (.object "java/io/InputStream"), accessFlags := 25, slot := 0, constantValue := 0 }, { name := "out", type := (.object "java/io/PrintStream"), accessFlags := 25, slot := 1, constantValue := 0 }, { name := "err", type := (.object "java/io/PrintStream"), accessFlags := 25, slot := 2, constantValue := 0 }, { name := "initialIn", type := (.object "java/io/InputStream"), accessFlags := 10, slot := 3, constantValue := 0 }, { name := "NEVER", type := .int, accessFlags := 26, slot := 4, constantValue := 0 }, { name := "MAYBE", type := .int, accessFlags := 26, slot := 5, constantValue := 0 }, { name := "allowSecurityManager", type := .int, accessFlags := 10, slot := 6, constantValue := 0 }, { name := "security", type := (.object "java/lang/SecurityManager"), accessFlags := 74, slot := 7, constantValue := 0 }, { name := "notSupportedJnuEncoding", type := (.object "java/lang/String"), accessFlags := 10, slot := 8, constantValue := 0 }, { name := "cons", type := (.object "java/io/Console"), accessFlags := 74, slot := 9, constantValue := 0 }, { name := "initialErrStream", type := (.object "java/io/PrintStream"), accessFlags := 74, slot := 10, constantValue := 0 }, { name := "props", type := (.object "java/util/Properties"), accessFlags := 10, slot := 11, constantValue := 0 }, { name := "lineSeparator", type := (.object "java/lang/String"), accessFlags := 10, slot := 12, constantValue := 0 }, { name := "bootLayer", type := (.object "java/lang/ModuleLayer"), accessFlags := 8, slot := 13, constantValue := 0 }]
  methods := #[k5m0, k5m1]
  instanceTypes := #[]
  staticTypes := #[(.object "java/io/InputStream"), (.object "java/io/PrintStream"), (.object "java/io/PrintStream"), (.object "java/io/InputStream"), .int, .int, .int, (.object "java/lang/SecurityManager"), (.object "java/lang/String"), (.object "java/io/Console"), (.object "java/io/PrintStream"), (.object "java/util/Properties"), (.object "java/lang/String"), (.object "java/lang/ModuleLayer")]
  resolved := Array.replicate 834 none
  statics := none }

def pool6 : Array CpInfo := pool [(1, .class_ 2), (0, u "java/lang/Cloneable"), (0, .class_ 4), (0, u "java/lang/Object")] 2

/-- java/lang/Cloneable -/
def k6 : Class := { plain "java/lang/Cloneable" (some 0) with
  accessFlags := 1537
  interfaces := #[]
  cf := some (fileOf pool6 1 #[] #[] 1537 3 #[] #[])
  fields := #[]
  methods := #[]
  instanceTypes := #[]
  staticTypes := #[]
  resolved := Array.replicate 7 none
  statics := none }

def pool7 : Array CpInfo := pool [(1, u "java/io/Serializable"), (0, .class_ 1), (0, u "java/lang/Object"), (0, .class_ 3)] 3

/-- java/io/Serializable -/
def k7 : Class := { plain "java/io/Serializable" (some 0) with
  accessFlags := 1537
  interfaces := #[]
  cf := some (fileOf pool7 2 #[] #[] 1537 4 #[] #[])
  fields := #[]
  methods := #[]
  instanceTypes := #[]
  staticTypes := #[]
  resolved := Array.replicate 8 none
  statics := none }

/-- the primitive byte -/
def k8 : Class := { plain "byte" none with kind := .primitive 'B', accessFlags := 0x411 }
/-- [B -/
def k9 : Class := { plain "[B" (some 0) with kind := .array 8 .byte, interfaces := #[6, 7], accessFlags := 1041 }

/-- the primitive int -/
def k10 : Class := { plain "int" none with kind := .primitive 'I', accessFlags := 0x411 }
/-- [I -/
def k11 : Class := { plain "[I" (some 0) with kind := .array 10 .int, interfaces := #[6, 7], accessFlags := 1041 }

def heap : Heap := #[]
def classes : Array Class := #[k0, k1, k2, k3, k4, k5, k6, k7, k8, k9, k10, k11]
def interned : List (Array UInt16 × Addr) := []
def slotsUsed : Nat := 0
def theMethod : MethodId := ⟨1, 1⟩
def args0 : Array Value := #[.int 7, .int 3, .int 4, .long 6, .int 3, .int 3]
def aboutOver (below : List Frame) : State where
  vm := { classes := classes, interned := interned.toArray }
  heap := heap
  slotsUsed := slotsUsed
  threads := #[{ frames := .invoking theMethod args0 :: below }]
def below0 : List Frame := [.native { method := ⟨0, 0⟩, args := #[] }]
def about1 : State := aboutOver below0
def p0 : Program := .bare "" "" ""
def e0 : Env := launch0.env 0 0 0
theorem w_frames : about1.frames = Frame.invoking theMethod args0 :: below0 := rfl
set_option maxRecDepth 65536 in
theorem w_args : argsFit about1.vm theMethod args0 = true := by decide +kernel
set_option maxRecDepth 65536 in
theorem w_heap : heapFits about1 = true := by decide +kernel
set_option maxRecDepth 65536 in
theorem w_runnable : about1.curStatus? = some .runnable := by decide +kernel
set_option maxRecDepth 65536 in
theorem w_alone : about1.alone = true := by decide +kernel
set_option maxRecDepth 65536 in
theorem w_named : about1.methodNamed? x = some theMethod := by decide +kernel
set_option maxRecDepth 65536 in
theorem w_hears : about1.hears theMethod below0 = true := by decide +kernel
set_option maxRecDepth 65536 in
theorem w_ripe : about1.ripe theMethod args0 below0 = true := by decide +kernel
theorem w_running : about1.status = .running := rfl
set_option maxRecDepth 65536 in
theorem w_room : about1.hasRoom e0.platform room_1 = true :=
  launch0.hasRoom_least _ room_1 (by decide +kernel) (by decide +kernel) (by decide +kernel) (by decide +kernel) (by decide +kernel) (by decide +kernel)
theorem allAtoms_all (ts : List Jvm.Cond) (a : Array Jvm.Value) (st : Jvm.State) : (allAtoms ts).before a st = ts.all (fun c => c.before a st) := by
  induction ts with
  | nil => rfl
  | cons c t ih =>
    show (Jvm.Cond.and c (allAtoms t)).before a st = _
    rw [Jvm.Cond.before_and, ih, List.all_cons]
def words1 : List Jvm.Cond := Jvm.Cond.code x code maxLocals ret :: tables_1
/-- a 'code' word, met by the world's own term for the bytes: nothing is compared byte by byte -/
theorem code_word {y : MethodName} {bytes : ByteArray} {mx : Nat} {rt : Option FieldType} {a : Array Value} {s : State} {m : MethodId} {meth : Method} {c : Code} (h1 : s.methodNamed? y = some m) (h2 : s.vm.method? m = some meth) (h3 : meth.code = some c) (h4 : c.code = bytes)
    (h5 : (c.maxLocals == mx && c.exceptionTable.isEmpty && decide (c.maxStack ≤ mostOperands) && decide (meth.sig.returnType = rt) && !meth.locks && decide (parseMethodDescriptor y.desc = some meth.sig)) = true) : (Jvm.Cond.code y bytes mx rt).before a s = true := by
  simp only [Bool.and_eq_true, beq_iff_eq, Bool.not_eq_true', decide_eq_true_eq] at h5
  obtain ⟨⟨⟨⟨⟨g1, g2⟩, g3⟩, g4⟩, g5⟩, g6⟩ := h5
  simp [Cond.before, Cond.holds, Cond.value, h1, h2, h3, h4, g1, g2, g3, g4, g5, g6]
def isCode : Jvm.Cond → Bool
  | .code _ _ _ _ => true
  | _ => false
theorem all_split {L : List Jvm.Cond} {P : Jvm.Cond → Bool} (h1 : L.all (fun c => isCode c || P c) = true) (h2 : ∀ c ∈ L.filter isCode, P c = true) : L.all P = true := by
  refine List.all_eq_true.mpr fun c hc => ?_
  have h := List.all_eq_true.mp h1 c hc
  rcases Bool.eq_false_or_eq_true (isCode c) with hi | hi
  · exact h2 c (List.mem_filter.mpr ⟨hc, hi⟩)
  · simpa [hi] using h
set_option maxRecDepth 65536 in
theorem w_c0 : (Jvm.Cond.code x code maxLocals ret).before args0 about1 = true := code_word (m := ⟨1, 1⟩) (meth := k1m1) (c := k1c1) (by decide +kernel) rfl rfl rfl (by decide +kernel)
set_option maxRecDepth 65536 in
theorem w_c1 : (Jvm.Cond.code ({ cls := "com/example/cardinality/cardinality/value/ByteWriter", name := "<init>", desc := "(I)V" } : Jvm.MethodName) prog_22_method_1_code (2 : Nat) (Option.none : Option Jvm.ClassFile.FieldType)).before args0 about1 = true := code_word (m := ⟨2, 0⟩) (meth := k2m0) (c := k2c0) (by decide +kernel) rfl rfl rfl (by decide +kernel)
set_option maxRecDepth 65536 in
theorem w_c2 : (Jvm.Cond.code ({ cls := "java/lang/Object", name := "<init>", desc := "()V" } : Jvm.MethodName) object_method_1_code (1 : Nat) (Option.none : Option Jvm.ClassFile.FieldType)).before args0 about1 = true := code_word (m := ⟨0, 0⟩) (meth := k0m0) (c := k0c0) (by decide +kernel) rfl rfl rfl (by decide +kernel)
set_option maxRecDepth 65536 in
theorem w_c3 : (Jvm.Cond.code ({ cls := "java/lang/Math", name := "max", desc := "(II)I" } : Jvm.MethodName) jdk_29_method_65_code (2 : Nat) (Option.some Jvm.ClassFile.FieldType.int)).before args0 about1 = true := code_word (m := ⟨3, 1⟩) (meth := k3m1) (c := k3c1) (by decide +kernel) rfl rfl rfl (by decide +kernel)
set_option maxRecDepth 65536 in
theorem w_c4 : (Jvm.Cond.code ({ cls := "com/example/cardinality/cardinality/value/ByteWriter", name := "writeByte", desc := "(I)V" } : Jvm.MethodName) prog_22_method_3_code (3 : Nat) (Option.none : Option Jvm.ClassFile.FieldType)).before args0 about1 = true := code_word (m := ⟨2, 2⟩) (meth := k2m2) (c := k2c2) (by decide +kernel) rfl rfl rfl (by decide +kernel)
set_option maxRecDepth 65536 in
theorem w_c5 : (Jvm.Cond.code ({ cls := "com/example/cardinality/cardinality/value/ByteWriter", name := "next", desc := "(I)I" } : Jvm.MethodName) prog_22_method_12_code (3 : Nat) (Option.some Jvm.ClassFile.FieldType.int)).before args0 about1 = true := code_word (m := ⟨2, 8⟩) (meth := k2m8) (c := k2c8) (by decide +kernel) rfl rfl rfl (by decide +kernel)
set_option maxRecDepth 65536 in
theorem w_c6 : (Jvm.Cond.code ({ cls := "com/example/cardinality/cardinality/value/ByteWriter", name := "writeInt", desc := "(I)V" } : Jvm.MethodName) prog_22_method_5_code (2 : Nat) (Option.none : Option Jvm.ClassFile.FieldType)).before args0 about1 = true := code_word (m := ⟨2, 3⟩) (meth := k2m3) (c := k2c3) (by decide +kernel) rfl rfl rfl (by decide +kernel)
set_option maxRecDepth 65536 in
theorem w_c7 : (Jvm.Cond.code ({ cls := "com/example/cardinality/cardinality/value/ByteWriter", name := "putInt", desc := "(II)V" } : Jvm.MethodName) prog_22_method_11_code (3 : Nat) (Option.none : Option Jvm.ClassFile.FieldType)).before args0 about1 = true := code_word (m := ⟨2, 7⟩) (meth := k2m7) (c := k2c7) (by decide +kernel) rfl rfl rfl (by decide +kernel)
set_option maxRecDepth 65536 in
theorem w_c8 : (Jvm.Cond.code ({ cls := "com/example/cardinality/cardinality/value/ByteWriter", name := "writeIntAt", desc := "(II)V" } : Jvm.MethodName) prog_22_method_9_code (3 : Nat) (Option.none : Option Jvm.ClassFile.FieldType)).before args0 about1 = true := code_word (m := ⟨2, 5⟩) (meth := k2m5) (c := k2c5) (by decide +kernel) rfl rfl rfl (by decide +kernel)
set_option maxRecDepth 65536 in
theorem w_c9 : (Jvm.Cond.code ({ cls := "com/example/cardinality/cardinality/value/ByteWriter", name := "toByteArray", desc := "()[B" } : Jvm.MethodName) prog_22_method_10_code (1 : Nat) (Option.some (Jvm.ClassFile.FieldType.array Jvm.ClassFile.FieldType.byte))).before args0 about1 = true := code_word (m := ⟨2, 6⟩) (meth := k2m6) (c := k2c6) (by decide +kernel) rfl rfl rfl (by decide +kernel)
set_option maxRecDepth 65536 in
theorem w_c10 : (Jvm.Cond.code ({ cls := "java/util/Arrays", name := "copyOf", desc := "([BI)[B" } : Jvm.MethodName) jdk_65_method_121_code (3 : Nat) (Option.some (Jvm.ClassFile.FieldType.array Jvm.ClassFile.FieldType.byte))).before args0 about1 = true := code_word (m := ⟨4, 1⟩) (meth := k4m1) (c := k4c1) (by decide +kernel) rfl rfl rfl (by decide +kernel)
set_option maxRecDepth 65536 in
theorem w_c11 : (Jvm.Cond.code ({ cls := "java/lang/Math", name := "min", desc := "(II)I" } : Jvm.MethodName) jdk_29_method_69_code (2 : Nat) (Option.some Jvm.ClassFile.FieldType.int)).before args0 about1 = true := code_word (m := ⟨3, 2⟩) (meth := k3m2) (c := k3c2) (by decide +kernel) rfl rfl rfl (by decide +kernel)
set_option maxRecDepth 65536 in
theorem w_c12 : (Jvm.Cond.code ({ cls := "com/example/cardinality/cardinality/value/ByteWriterToByteArrayPinLaw", name := "same", desc := "([B[BI)Z" } : Jvm.MethodName) method_3_code (4 : Nat) (Option.some Jvm.ClassFile.FieldType.boolean)).before args0 about1 = true := code_word (m := ⟨1, 2⟩) (meth := k1m2) (c := k1c2) (by decide +kernel) rfl rfl rfl (by decide +kernel)
set_option maxRecDepth 65536 in
theorem w_c13 : (Jvm.Cond.code ({ cls := "com/example/cardinality/cardinality/value/ByteWriter", name := "length", desc := "()I" } : Jvm.MethodName) prog_22_method_2_code (1 : Nat) (Option.some Jvm.ClassFile.FieldType.int)).before args0 about1 = true := code_word (m := ⟨2, 1⟩) (meth := k2m1) (c := k2c1) (by decide +kernel) rfl rfl rfl (by decide +kernel)
set_option maxRecDepth 65536 in
theorem w_c14 : (Jvm.Cond.code ({ cls := "com/example/cardinality/cardinality/value/ByteWriter", name := "writeLong", desc := "(J)V" } : Jvm.MethodName) prog_22_method_6_code (5 : Nat) (Option.none : Option Jvm.ClassFile.FieldType)).before args0 about1 = true := code_word (m := ⟨2, 4⟩) (meth := k2m4) (c := k2c4) (by decide +kernel) rfl rfl rfl (by decide +kernel)
def codes1 : List Jvm.Cond := [Jvm.Cond.code x code maxLocals ret, Jvm.Cond.code ({ cls := "com/example/cardinality/cardinality/value/ByteWriter", name := "<init>", desc := "(I)V" } : Jvm.MethodName) prog_22_method_1_code (2 : Nat) (Option.none : Option Jvm.ClassFile.FieldType), Jvm.Cond.code ({ cls := "java/lang/Object", name := "<init>", desc := "()V" } : Jvm.MethodName) object_method_1_code (1 : Nat) (Option.none : Option Jvm.ClassFile.FieldType), Jvm.Cond.code ({ cls := "java/lang/Math", name := "max", desc := "(II)I" } : Jvm.MethodName) jdk_29_method_65_code (2 : Nat) (Option.some Jvm.ClassFile.FieldType.int), Jvm.Cond.code ({ cls := "com/example/cardinality/cardinality/value/ByteWriter", name := "writeByte", desc := "(I)V" } : Jvm.MethodName) prog_22_method_3_code (3 : Nat) (Option.none : Option Jvm.ClassFile.FieldType), Jvm.Cond.code ({ cls := "com/example/cardinality/cardinality/value/ByteWriter", name := "next", desc := "(I)I" } : Jvm.MethodName) prog_22_method_12_code (3 : Nat) (Option.some Jvm.ClassFile.FieldType.int), Jvm.Cond.code ({ cls := "com/example/cardinality/cardinality/value/ByteWriter", name := "writeInt", desc := "(I)V" } : Jvm.MethodName) prog_22_method_5_code (2 : Nat) (Option.none : Option Jvm.ClassFile.FieldType), Jvm.Cond.code ({ cls := "com/example/cardinality/cardinality/value/ByteWriter", name := "putInt", desc := "(II)V" } : Jvm.MethodName) prog_22_method_11_code (3 : Nat) (Option.none : Option Jvm.ClassFile.FieldType), Jvm.Cond.code ({ cls := "com/example/cardinality/cardinality/value/ByteWriter", name := "writeIntAt", desc := "(II)V" } : Jvm.MethodName) prog_22_method_9_code (3 : Nat) (Option.none : Option Jvm.ClassFile.FieldType), Jvm.Cond.code ({ cls := "com/example/cardinality/cardinality/value/ByteWriter", name := "toByteArray", desc := "()[B" } : Jvm.MethodName) prog_22_method_10_code (1 : Nat) (Option.some (Jvm.ClassFile.FieldType.array Jvm.ClassFile.FieldType.byte)), Jvm.Cond.code ({ cls := "java/util/Arrays", name := "copyOf", desc := "([BI)[B" } : Jvm.MethodName) jdk_65_method_121_code (3 : Nat) (Option.some (Jvm.ClassFile.FieldType.array Jvm.ClassFile.FieldType.byte)), Jvm.Cond.code ({ cls := "java/lang/Math", name := "min", desc := "(II)I" } : Jvm.MethodName) jdk_29_method_69_code (2 : Nat) (Option.some Jvm.ClassFile.FieldType.int), Jvm.Cond.code ({ cls := "com/example/cardinality/cardinality/value/ByteWriterToByteArrayPinLaw", name := "same", desc := "([B[BI)Z" } : Jvm.MethodName) method_3_code (4 : Nat) (Option.some Jvm.ClassFile.FieldType.boolean), Jvm.Cond.code ({ cls := "com/example/cardinality/cardinality/value/ByteWriter", name := "length", desc := "()I" } : Jvm.MethodName) prog_22_method_2_code (1 : Nat) (Option.some Jvm.ClassFile.FieldType.int), Jvm.Cond.code ({ cls := "com/example/cardinality/cardinality/value/ByteWriter", name := "writeLong", desc := "(J)V" } : Jvm.MethodName) prog_22_method_6_code (5 : Nat) (Option.none : Option Jvm.ClassFile.FieldType)]
set_option maxRecDepth 65536 in
theorem codes_eq : words1.filter isCode = codes1 := rfl
theorem w_codes : ∀ c ∈ words1.filter isCode, c.before args0 about1 = true := by
  rw [codes_eq]
  intro c hc
  simp only [codes1, List.mem_cons, List.not_mem_nil, or_false] at hc
  rcases hc with rfl | rfl | rfl | rfl | rfl | rfl | rfl | rfl | rfl | rfl | rfl | rfl | rfl | rfl | rfl
  · exact w_c0
  · exact w_c1
  · exact w_c2
  · exact w_c3
  · exact w_c4
  · exact w_c5
  · exact w_c6
  · exact w_c7
  · exact w_c8
  · exact w_c9
  · exact w_c10
  · exact w_c11
  · exact w_c12
  · exact w_c13
  · exact w_c14
set_option maxRecDepth 65536 in
theorem w_t1 : (words1.take 24).all (fun c => isCode c || c.before args0 about1) = true := by decide +kernel
set_option maxRecDepth 65536 in
theorem w_t2 : ((words1.drop 24).take 24).all (fun c => isCode c || c.before args0 about1) = true := by decide +kernel
set_option maxRecDepth 65536 in
theorem w_t3 : (((words1.drop 24).drop 24).take 24).all (fun c => isCode c || c.before args0 about1) = true := by decide +kernel
set_option maxRecDepth 65536 in
theorem w_t4 : (((words1.drop 24).drop 24).drop 24).all (fun c => isCode c || c.before args0 about1) = true := by decide +kernel
theorem w_tables : (allAtoms (Jvm.Cond.code x code maxLocals ret :: tables_1)).before args0 about1 = true := by
  rw [allAtoms_all]
  show words1.all (fun c => c.before args0 about1) = true
  refine all_split ?_ w_codes
  rw [← List.take_append_drop 24 words1, List.all_append, w_t1, ← List.take_append_drop 24 (words1.drop 24), List.all_append, w_t2, ← List.take_append_drop 24 ((words1.drop 24).drop 24), List.all_append, w_t3, w_t4]
  rfl
set_option maxRecDepth 65536 in
theorem w_case : (Jvm.Cond.and given_1 narrow_1).before args0 about1 = true := by decide +kernel
theorem w_applies : (headSpec (Jvm.Cond.code x code maxLocals ret :: tables_1) room_1).applies x e0.platform about1 = true :=
  (Spec.applies_iff w_frames).mpr ⟨w_running, w_runnable, w_alone, w_named, w_hears, w_ripe, w_room, w_tables⟩
theorem atStart : AtStart classFile x code maxLocals ret World_1 tables_1 room_1 Calls_1 rest_1 Pre_1 launch0 p0 e0 about1 theMethod args0 below0 :=
  ⟨lists_1, trivial, launch0.admits_env _ _ _, launch0.least_env, fairChoices_fair.cas, fairChoices_fair.clock, w_frames, w_args, w_heap, w_applies, trivial, trivial, w_case⟩
end start1
theorem witness_1 : WitnessClaimed_1 := ⟨start1.p0, start1.e0, start1.about1, start1.theMethod, start1.args0, start1.below0, start1.atStart⟩
end Jvm.Pilot.@@N@@
