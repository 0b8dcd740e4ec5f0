import JvmDerived
import JvmDerived.Pilot.@@N@@Statement
import JvmDerived.Pilot.@@N@@Code
set_option linter.unusedVariables false
set_option linter.unusedSimpArgs false
namespace Jvm.Pilot.@@N@@
open Jvm Jvm.ClassFile Sem Op Lib Jvm.Free Jvm.Stand Jvm.LawKit Jvm.RoadKit Bundle Jvm.Pilot.@@N@@.Jvm.D

section Own
variable {p : Program} {l : Launch} {e : Env} {R : Room} {s : State} {m : MethodId} {args : Array Value} {below : List Frame} {meth : Method} {c : Code} {T : State} {locs : List Loc} {cells slots : Nat} {Z : State} {a0 : Array Value} {h : Heap} {own nm : String} {cd : ByteArray} {mx : Nat} {rt : Option FieldType} {G : State → Prop} {pc pc' : Nat} {Ls Ls' : Array Slot} {st : List Value}
/-- what a walk carries: the goal is closed under steps taken backwards; the body's own facts -/
def ow_K (p : Program) (e : Env) (below : List Frame) (s : State) (m : MethodId) (meth : Method) (c : Code) (Z : State) (own : String) (cd : ByteArray) (mx : Nat) (rt : Option FieldType) (nm : String) (G : State → Prop) : Prop :=
  (∀ A B, (∀ t, Steps p.tables e below B t → Steps p.tables e below A t) → G B → G A) ∧ p.tables.exec = Jvm.exec ∧ c.code = cd ∧ c.maxLocals = mx ∧ s.vm.findClass own = some m.cls ∧ Z.Warmed39 s.vm ∧ meth.sig.returnType = rt ∧ meth.locks = false ∧ meth.name = nm
/-- the goal of a body: it returns, and Q holds of what it returns, of the heap and of the places written -/
def ow_Gl (p : Program) (e : Env) (below : List Frame) (s : State) (Q : Option Value → Heap → List Loc → Prop) (ce sl : Nat) (S : State) : Prop :=
  ∃ s₂ o, Steps p.tables e below S s₂ ∧ s₂.status = .running ∧ Ended s₂ below o ∧ ∃ v L, o = .returned v ∧ Q v s₂.heap L ∧ FrameEnd s o s₂ L ce sl
theorem ow_Gl_bc {Q : Option Value → Heap → List Loc → Prop} {ce sl : Nat} : ∀ A B, (∀ t, Steps p.tables e below B t → Steps p.tables e below A t) → ow_Gl p e below s Q ce sl B → ow_Gl p e below s Q ce sl A := fun A B hs hG => by
  obtain ⟨s₂, o, h1, h2⟩ := hG
  exact ⟨s₂, o, hs _ h1, h2⟩
theorem ow_entry {Q : Option Value → Heap → List Loc → Prop} {ce sl : Nat} {n : Nat} {g : JFrame} (q : entryFrame m args n = g) (hG : ow_Gl p e below s Q ce sl (T.setTop g)) : ow_Gl p e below s Q ce sl (T.setTop (entryFrame m args n)) := q ▸ hG
theorem ow_ne {a b n : Nat} (h : b < n) (g : a = n) : b ≠ a := fun q => by omega
theorem ow_at {g : JFrame} (hG : G (T.setTop g)) : G (T.setTop g) := hG

theorem ow_iload (K : ow_K p e below s m meth c Z own cd mx rt nm G) (X : Stand p l e R s m args below meth c T locs cells slots) {k : Nat} (v : Int32) (hd : decode cd pc = .ok (.iload k, 2)) (hp : pc' = pc + 2) (hl : Ls[k]? = some (.val (.int v))) (hr : G (T.setTop (mkF m pc' Ls (.int v :: st)))) : G (T.setTop (mkF m pc Ls (st))) := by
  subst hp
  exact K.1 _ _ (fun t q => XS.iload X.here K.2.1 rfl (hb K.2.2.1 hd) hl q) hr
theorem ow_iloadN (K : ow_K p e below s m meth c Z own cd mx rt nm G) (X : Stand p l e R s m args below meth c T locs cells slots) {k : Fin 4} (v : Int32) (hd : decode cd pc = .ok (.iload_n k, 1)) (hp : pc' = pc + 1) (hl : Ls[k.val]? = some (.val (.int v))) (hr : G (T.setTop (mkF m pc' Ls (.int v :: st)))) : G (T.setTop (mkF m pc Ls (st))) := by
  subst hp
  exact K.1 _ _ (fun t q => XS.iloadN X.here K.2.1 rfl (hb K.2.2.1 hd) hl q) hr
theorem ow_lload (K : ow_K p e below s m meth c Z own cd mx rt nm G) (X : Stand p l e R s m args below meth c T locs cells slots) {k : Nat} (v : Int64) (hd : decode cd pc = .ok (.lload k, 2)) (hp : pc' = pc + 2) (hl : Ls[k]? = some (.val (.long v))) (hr : G (T.setTop (mkF m pc' Ls (.long v :: st)))) : G (T.setTop (mkF m pc Ls (st))) := by
  subst hp
  exact K.1 _ _ (fun t q => XT.lload X.here K.2.1 rfl (hb K.2.2.1 hd) hl q) hr
theorem ow_lloadN (K : ow_K p e below s m meth c Z own cd mx rt nm G) (X : Stand p l e R s m args below meth c T locs cells slots) {k : Fin 4} (v : Int64) (hd : decode cd pc = .ok (.lload_n k, 1)) (hp : pc' = pc + 1) (hl : Ls[k.val]? = some (.val (.long v))) (hr : G (T.setTop (mkF m pc' Ls (.long v :: st)))) : G (T.setTop (mkF m pc Ls (st))) := by
  subst hp
  exact K.1 _ _ (fun t q => XT.lloadN X.here K.2.1 rfl (hb K.2.2.1 hd) hl q) hr
theorem ow_aload (K : ow_K p e below s m meth c Z own cd mx rt nm G) (X : Stand p l e R s m args below meth c T locs cells slots) {k : Nat} (v : Addr) (hd : decode cd pc = .ok (.aload k, 2)) (hp : pc' = pc + 2) (hl : Ls[k]? = some (.val (.ref v))) (hr : G (T.setTop (mkF m pc' Ls (.ref v :: st)))) : G (T.setTop (mkF m pc Ls (st))) := by
  subst hp
  exact K.1 _ _ (fun t q => XS.aload X.here K.2.1 rfl (hb K.2.2.1 hd) hl rfl q) hr
theorem ow_aloadN (K : ow_K p e below s m meth c Z own cd mx rt nm G) (X : Stand p l e R s m args below meth c T locs cells slots) {k : Fin 4} (v : Addr) (hd : decode cd pc = .ok (.aload_n k, 1)) (hp : pc' = pc + 1) (hl : Ls[k.val]? = some (.val (.ref v))) (hr : G (T.setTop (mkF m pc' Ls (.ref v :: st)))) : G (T.setTop (mkF m pc Ls (st))) := by
  subst hp
  exact K.1 _ _ (fun t q => XS.aloadN X.here K.2.1 rfl (hb K.2.2.1 hd) hl rfl q) hr
theorem ow_istore (K : ow_K p e below s m meth c Z own cd mx rt nm G) (X : Stand p l e R s m args below meth c T locs cells slots) {k : Nat} {v : Int32} (hd : decode cd pc = .ok (.istore k, 2)) (hp : pc' = pc + 2) (hl : storeLocals Ls k (.int v) = some Ls') (hr : G (T.setTop (mkF m pc' Ls' (st)))) : G (T.setTop (mkF m pc Ls (.int v :: st))) := by
  subst hp
  exact K.1 _ _ (fun t q => XS.istore X.here K.2.1 rfl (hb K.2.2.1 hd) rfl hl q) hr
theorem ow_istoreN (K : ow_K p e below s m meth c Z own cd mx rt nm G) (X : Stand p l e R s m args below meth c T locs cells slots) {k : Fin 4} {v : Int32} (hd : decode cd pc = .ok (.istore_n k, 1)) (hp : pc' = pc + 1) (hl : storeLocals Ls k.val (.int v) = some Ls') (hr : G (T.setTop (mkF m pc' Ls' (st)))) : G (T.setTop (mkF m pc Ls (.int v :: st))) := by
  subst hp
  exact K.1 _ _ (fun t q => XS.istoreN X.here K.2.1 rfl (hb K.2.2.1 hd) rfl hl q) hr
theorem ow_lstore (K : ow_K p e below s m meth c Z own cd mx rt nm G) (X : Stand p l e R s m args below meth c T locs cells slots) {k : Nat} {v : Int64} (hd : decode cd pc = .ok (.lstore k, 2)) (hp : pc' = pc + 2) (hl : storeLocals Ls k (.long v) = some Ls') (hr : G (T.setTop (mkF m pc' Ls' (st)))) : G (T.setTop (mkF m pc Ls (.long v :: st))) := by
  subst hp
  exact K.1 _ _ (fun t q => XT.lstore X.here K.2.1 rfl (hb K.2.2.1 hd) rfl hl q) hr
theorem ow_lstoreN (K : ow_K p e below s m meth c Z own cd mx rt nm G) (X : Stand p l e R s m args below meth c T locs cells slots) {k : Fin 4} {v : Int64} (hd : decode cd pc = .ok (.lstore_n k, 1)) (hp : pc' = pc + 1) (hl : storeLocals Ls k.val (.long v) = some Ls') (hr : G (T.setTop (mkF m pc' Ls' (st)))) : G (T.setTop (mkF m pc Ls (.long v :: st))) := by
  subst hp
  exact K.1 _ _ (fun t q => XT.lstoreN X.here K.2.1 rfl (hb K.2.2.1 hd) rfl hl q) hr
theorem ow_astore (K : ow_K p e below s m meth c Z own cd mx rt nm G) (X : Stand p l e R s m args below meth c T locs cells slots) {k : Nat} {v : Addr} (hd : decode cd pc = .ok (.astore k, 2)) (hp : pc' = pc + 2) (hl : storeLocals Ls k (.ref v) = some Ls') (hr : G (T.setTop (mkF m pc' Ls' (st)))) : G (T.setTop (mkF m pc Ls (.ref v :: st))) := by
  subst hp
  exact K.1 _ _ (fun t q => XS.astore X.here K.2.1 rfl (hb K.2.2.1 hd) rfl rfl hl q) hr
theorem ow_astoreN (K : ow_K p e below s m meth c Z own cd mx rt nm G) (X : Stand p l e R s m args below meth c T locs cells slots) {k : Fin 4} {v : Addr} (hd : decode cd pc = .ok (.astore_n k, 1)) (hp : pc' = pc + 1) (hl : storeLocals Ls k.val (.ref v) = some Ls') (hr : G (T.setTop (mkF m pc' Ls' (st)))) : G (T.setTop (mkF m pc Ls (.ref v :: st))) := by
  subst hp
  exact K.1 _ _ (fun t q => XS.astoreN X.here K.2.1 rfl (hb K.2.2.1 hd) rfl rfl hl q) hr
theorem ow_iinc (K : ow_K p e below s m meth c Z own cd mx rt nm G) (X : Stand p l e R s m args below meth c T locs cells slots) {k : Nat} {i : Int} {x : Int32} (y v : Int32) (hd : decode cd pc = .ok (.iinc k i, 3)) (hp : pc' = pc + 3) (hy : Int32.ofInt i = y) (hx : Ls[k]? = some (.val (.int x))) (hv : x + y = v) (hl : storeLocals Ls k (.int v) = some Ls') (hr : G (T.setTop (mkF m pc' Ls' (st)))) : G (T.setTop (mkF m pc Ls (st))) := by
  subst hp
  exact K.1 _ _ (fun t q => XT.iincV X.here K.2.1 rfl y (hb K.2.2.1 hd) hy hx (hv ▸ hl) q) hr
theorem ow_iconst (K : ow_K p e below s m meth c Z own cd mx rt nm G) (X : Stand p l e R s m args below meth c T locs cells slots) {i : Int} (v : Int32) (hd : decode cd pc = .ok (.iconst i, 1)) (hp : pc' = pc + 1) (hv : Int32.ofInt i = v) (hr : G (T.setTop (mkF m pc' Ls (.int v :: st)))) : G (T.setTop (mkF m pc Ls (st))) := by
  subst hp
  exact K.1 _ _ (fun t q => XT.iconstV X.here K.2.1 rfl v (hb K.2.2.1 hd) hv q) hr
theorem ow_bipush (K : ow_K p e below s m meth c Z own cd mx rt nm G) (X : Stand p l e R s m args below meth c T locs cells slots) {i : Int} (v : Int32) (hd : decode cd pc = .ok (.bipush i, 2)) (hp : pc' = pc + 2) (hv : (Int8.ofInt i).toInt32 = v) (hr : G (T.setTop (mkF m pc' Ls (.int v :: st)))) : G (T.setTop (mkF m pc Ls (st))) := by
  subst hp
  exact K.1 _ _ (fun t q => XT.bipushV X.here K.2.1 rfl v (hb K.2.2.1 hd) hv q) hr
theorem ow_sipush (K : ow_K p e below s m meth c Z own cd mx rt nm G) (X : Stand p l e R s m args below meth c T locs cells slots) {i : Int} (v : Int32) (hd : decode cd pc = .ok (.sipush i, 3)) (hp : pc' = pc + 3) (hv : (Int16.ofInt i).toInt32 = v) (hr : G (T.setTop (mkF m pc' Ls (.int v :: st)))) : G (T.setTop (mkF m pc Ls (st))) := by
  subst hp
  exact K.1 _ _ (fun t q => XT.sipushV X.here K.2.1 rfl v (hb K.2.2.1 hd) hv q) hr
theorem ow_lconst (K : ow_K p e below s m meth c Z own cd mx rt nm G) (X : Stand p l e R s m args below meth c T locs cells slots) {k : Fin 2} (v : Int64) (hd : decode cd pc = .ok (.lconst k, 1)) (hp : pc' = pc + 1) (hv : Int64.ofNat k = v) (hr : G (T.setTop (mkF m pc' Ls (.long v :: st)))) : G (T.setTop (mkF m pc Ls (st))) := by
  subst hp
  exact K.1 _ _ (fun t q => XT.lconstV X.here K.2.1 rfl v (hb K.2.2.1 hd) hv q) hr
theorem ow_ldcI (K : ow_K p e below s m meth c Z own cd mx rt nm G) (X : Stand p l e R s m args below meth c T locs cells slots) {i : Nat} (v : Int32) (hd : decode cd pc = .ok (.ldc i, 2)) (hp : pc' = pc + 2) (w : (Jvm.Cond.constant own i v).before a0 Z = true) (hr : G (T.setTop (mkF m pc' Ls (.int v :: st)))) : G (T.setTop (mkF m pc Ls (st))) := by
  subst hp
  exact K.1 _ _ (fun t q => X.ldcI K.2.1 K.2.2.2.2.1 (mvT K.2.2.2.2.2.1 w) rfl (hb K.2.2.1 hd) q) hr
theorem ow_ldcWI (K : ow_K p e below s m meth c Z own cd mx rt nm G) (X : Stand p l e R s m args below meth c T locs cells slots) {i : Nat} (v : Int32) (hd : decode cd pc = .ok (.ldc_w i, 3)) (hp : pc' = pc + 3) (w : (Jvm.Cond.constant own i v).before a0 Z = true) (hr : G (T.setTop (mkF m pc' Ls (.int v :: st)))) : G (T.setTop (mkF m pc Ls (st))) := by
  subst hp
  exact K.1 _ _ (fun t q => X.ldcWI K.2.1 K.2.2.2.2.1 (mvT K.2.2.2.2.2.1 w) rfl (hb K.2.2.1 hd) q) hr
theorem ow_ldc2 (K : ow_K p e below s m meth c Z own cd mx rt nm G) (X : Stand p l e R s m args below meth c T locs cells slots) {i : Nat} (v : Int64) (hd : decode cd pc = .ok (.ldc2_w i, 3)) (hp : pc' = pc + 3) (w : (Jvm.Cond.constantLong own i v).before a0 Z = true) (hr : G (T.setTop (mkF m pc' Ls (.long v :: st)))) : G (T.setTop (mkF m pc Ls (st))) := by
  subst hp
  exact K.1 _ _ (fun t q => X.ldc2J K.2.1 K.2.2.2.2.1 (mvT K.2.2.2.2.2.1 w) rfl (hb K.2.2.1 hd) q) hr
theorem ow_iadd (K : ow_K p e below s m meth c Z own cd mx rt nm G) (X : Stand p l e R s m args below meth c T locs cells slots) {x y : Int32} (v : Int32) (hd : decode cd pc = .ok (.iadd, 1)) (hp : pc' = pc + 1) (hv : x + y = v) (hr : G (T.setTop (mkF m pc' Ls (.int v :: st)))) : G (T.setTop (mkF m pc Ls (.int y :: .int x :: st))) := by
  subst hp
  exact K.1 _ _ (fun t q => XS.iadd X.here K.2.1 rfl (hb K.2.2.1 hd) rfl (hv ▸ q)) hr
theorem ow_isub (K : ow_K p e below s m meth c Z own cd mx rt nm G) (X : Stand p l e R s m args below meth c T locs cells slots) {x y : Int32} (v : Int32) (hd : decode cd pc = .ok (.isub, 1)) (hp : pc' = pc + 1) (hv : x - y = v) (hr : G (T.setTop (mkF m pc' Ls (.int v :: st)))) : G (T.setTop (mkF m pc Ls (.int y :: .int x :: st))) := by
  subst hp
  exact K.1 _ _ (fun t q => XS.isub X.here K.2.1 rfl (hb K.2.2.1 hd) rfl (hv ▸ q)) hr
theorem ow_imul (K : ow_K p e below s m meth c Z own cd mx rt nm G) (X : Stand p l e R s m args below meth c T locs cells slots) {x y : Int32} (v : Int32) (hd : decode cd pc = .ok (.imul, 1)) (hp : pc' = pc + 1) (hv : x * y = v) (hr : G (T.setTop (mkF m pc' Ls (.int v :: st)))) : G (T.setTop (mkF m pc Ls (.int y :: .int x :: st))) := by
  subst hp
  exact K.1 _ _ (fun t q => XS.imul X.here K.2.1 rfl (hb K.2.2.1 hd) rfl (hv ▸ q)) hr
theorem ow_iand (K : ow_K p e below s m meth c Z own cd mx rt nm G) (X : Stand p l e R s m args below meth c T locs cells slots) {x y : Int32} (v : Int32) (hd : decode cd pc = .ok (.iand, 1)) (hp : pc' = pc + 1) (hv : x &&& y = v) (hr : G (T.setTop (mkF m pc' Ls (.int v :: st)))) : G (T.setTop (mkF m pc Ls (.int y :: .int x :: st))) := by
  subst hp
  exact K.1 _ _ (fun t q => XS.iand X.here K.2.1 rfl (hb K.2.2.1 hd) rfl (hv ▸ q)) hr
theorem ow_ixor (K : ow_K p e below s m meth c Z own cd mx rt nm G) (X : Stand p l e R s m args below meth c T locs cells slots) {x y : Int32} (v : Int32) (hd : decode cd pc = .ok (.ixor, 1)) (hp : pc' = pc + 1) (hv : x ^^^ y = v) (hr : G (T.setTop (mkF m pc' Ls (.int v :: st)))) : G (T.setTop (mkF m pc Ls (.int y :: .int x :: st))) := by
  subst hp
  exact K.1 _ _ (fun t q => XT.ixor X.here K.2.1 rfl (hb K.2.2.1 hd) rfl (hv ▸ q)) hr
theorem ow_ior (K : ow_K p e below s m meth c Z own cd mx rt nm G) (X : Stand p l e R s m args below meth c T locs cells slots) {x y : Int32} (v : Int32) (hd : decode cd pc = .ok (.ior, 1)) (hp : pc' = pc + 1) (hv : x ||| y = v) (hr : G (T.setTop (mkF m pc' Ls (.int v :: st)))) : G (T.setTop (mkF m pc Ls (.int y :: .int x :: st))) := by
  subst hp
  exact K.1 _ _ (fun t q => XT.ior X.here K.2.1 rfl (hb K.2.2.1 hd) rfl (hv ▸ q)) hr
theorem ow_ishl (K : ow_K p e below s m meth c Z own cd mx rt nm G) (X : Stand p l e R s m args below meth c T locs cells slots) {x y : Int32} (v : Int32) (hd : decode cd pc = .ok (.ishl, 1)) (hp : pc' = pc + 1) (hv : x <<< (y &&& 31) = v) (hr : G (T.setTop (mkF m pc' Ls (.int v :: st)))) : G (T.setTop (mkF m pc Ls (.int y :: .int x :: st))) := by
  subst hp
  exact K.1 _ _ (fun t q => XT.ishl X.here K.2.1 rfl (hb K.2.2.1 hd) rfl (hv ▸ q)) hr
theorem ow_ishr (K : ow_K p e below s m meth c Z own cd mx rt nm G) (X : Stand p l e R s m args below meth c T locs cells slots) {x y : Int32} (v : Int32) (hd : decode cd pc = .ok (.ishr, 1)) (hp : pc' = pc + 1) (hv : x >>> (y &&& 31) = v) (hr : G (T.setTop (mkF m pc' Ls (.int v :: st)))) : G (T.setTop (mkF m pc Ls (.int y :: .int x :: st))) := by
  subst hp
  exact K.1 _ _ (fun t q => XT.ishr X.here K.2.1 rfl (hb K.2.2.1 hd) rfl (hv ▸ q)) hr
theorem ow_iushr (K : ow_K p e below s m meth c Z own cd mx rt nm G) (X : Stand p l e R s m args below meth c T locs cells slots) {x y : Int32} (v : Int32) (hd : decode cd pc = .ok (.iushr, 1)) (hp : pc' = pc + 1) (hv : XT.ushr x y = v) (hr : G (T.setTop (mkF m pc' Ls (.int v :: st)))) : G (T.setTop (mkF m pc Ls (.int y :: .int x :: st))) := by
  subst hp
  exact K.1 _ _ (fun t q => XT.iushr X.here K.2.1 rfl (hb K.2.2.1 hd) rfl (hv ▸ q)) hr
theorem ow_irem (K : ow_K p e below s m meth c Z own cd mx rt nm G) (X : Stand p l e R s m args below meth c T locs cells slots) {x y : Int32} (v : Int32) (hd : decode cd pc = .ok (.irem, 1)) (hp : pc' = pc + 1) (hy : y ≠ 0) (hv : x - (x / y) * y = v) (hr : G (T.setTop (mkF m pc' Ls (.int v :: st)))) : G (T.setTop (mkF m pc Ls (.int y :: .int x :: st))) := by
  subst hp
  exact K.1 _ _ (fun t q => XS.irem X.here K.2.1 rfl (hb K.2.2.1 hd) rfl hy (hv ▸ q)) hr
theorem ow_ladd (K : ow_K p e below s m meth c Z own cd mx rt nm G) (X : Stand p l e R s m args below meth c T locs cells slots) {x y : Int64} (v : Int64) (hd : decode cd pc = .ok (.ladd, 1)) (hp : pc' = pc + 1) (hv : x + y = v) (hr : G (T.setTop (mkF m pc' Ls (.long v :: st)))) : G (T.setTop (mkF m pc Ls (.long y :: .long x :: st))) := by
  subst hp
  exact K.1 _ _ (fun t q => XT.ladd X.here K.2.1 rfl (hb K.2.2.1 hd) rfl (hv ▸ q)) hr
theorem ow_lsub (K : ow_K p e below s m meth c Z own cd mx rt nm G) (X : Stand p l e R s m args below meth c T locs cells slots) {x y : Int64} (v : Int64) (hd : decode cd pc = .ok (.lsub, 1)) (hp : pc' = pc + 1) (hv : x - y = v) (hr : G (T.setTop (mkF m pc' Ls (.long v :: st)))) : G (T.setTop (mkF m pc Ls (.long y :: .long x :: st))) := by
  subst hp
  exact K.1 _ _ (fun t q => XT.lsub X.here K.2.1 rfl (hb K.2.2.1 hd) rfl (hv ▸ q)) hr
theorem ow_lmul (K : ow_K p e below s m meth c Z own cd mx rt nm G) (X : Stand p l e R s m args below meth c T locs cells slots) {x y : Int64} (v : Int64) (hd : decode cd pc = .ok (.lmul, 1)) (hp : pc' = pc + 1) (hv : x * y = v) (hr : G (T.setTop (mkF m pc' Ls (.long v :: st)))) : G (T.setTop (mkF m pc Ls (.long y :: .long x :: st))) := by
  subst hp
  exact K.1 _ _ (fun t q => XT.lmul X.here K.2.1 rfl (hb K.2.2.1 hd) rfl (hv ▸ q)) hr
theorem ow_land (K : ow_K p e below s m meth c Z own cd mx rt nm G) (X : Stand p l e R s m args below meth c T locs cells slots) {x y : Int64} (v : Int64) (hd : decode cd pc = .ok (.land, 1)) (hp : pc' = pc + 1) (hv : x &&& y = v) (hr : G (T.setTop (mkF m pc' Ls (.long v :: st)))) : G (T.setTop (mkF m pc Ls (.long y :: .long x :: st))) := by
  subst hp
  exact K.1 _ _ (fun t q => XT.land X.here K.2.1 rfl (hb K.2.2.1 hd) rfl (hv ▸ q)) hr
theorem ow_lor (K : ow_K p e below s m meth c Z own cd mx rt nm G) (X : Stand p l e R s m args below meth c T locs cells slots) {x y : Int64} (v : Int64) (hd : decode cd pc = .ok (.lor, 1)) (hp : pc' = pc + 1) (hv : x ||| y = v) (hr : G (T.setTop (mkF m pc' Ls (.long v :: st)))) : G (T.setTop (mkF m pc Ls (.long y :: .long x :: st))) := by
  subst hp
  exact K.1 _ _ (fun t q => XT.lor X.here K.2.1 rfl (hb K.2.2.1 hd) rfl (hv ▸ q)) hr
theorem ow_lxor (K : ow_K p e below s m meth c Z own cd mx rt nm G) (X : Stand p l e R s m args below meth c T locs cells slots) {x y : Int64} (v : Int64) (hd : decode cd pc = .ok (.lxor, 1)) (hp : pc' = pc + 1) (hv : x ^^^ y = v) (hr : G (T.setTop (mkF m pc' Ls (.long v :: st)))) : G (T.setTop (mkF m pc Ls (.long y :: .long x :: st))) := by
  subst hp
  exact K.1 _ _ (fun t q => XT.lxor X.here K.2.1 rfl (hb K.2.2.1 hd) rfl (hv ▸ q)) hr
theorem ow_lrem (K : ow_K p e below s m meth c Z own cd mx rt nm G) (X : Stand p l e R s m args below meth c T locs cells slots) {x y : Int64} (v : Int64) (hd : decode cd pc = .ok (.lrem, 1)) (hp : pc' = pc + 1) (hy : y ≠ 0) (hv : x - (x / y) * y = v) (hr : G (T.setTop (mkF m pc' Ls (.long v :: st)))) : G (T.setTop (mkF m pc Ls (.long y :: .long x :: st))) := by
  subst hp
  exact K.1 _ _ (fun t q => XT.lrem X.here K.2.1 rfl (hb K.2.2.1 hd) rfl hy (hv ▸ q)) hr
theorem ow_lshl (K : ow_K p e below s m meth c Z own cd mx rt nm G) (X : Stand p l e R s m args below meth c T locs cells slots) {x : Int64} {y : Int32} (v : Int64) (hd : decode cd pc = .ok (.lshl, 1)) (hp : pc' = pc + 1) (hv : x <<< (y.toInt64 &&& 63) = v) (hr : G (T.setTop (mkF m pc' Ls (.long v :: st)))) : G (T.setTop (mkF m pc Ls (.int y :: .long x :: st))) := by
  subst hp
  exact K.1 _ _ (fun t q => XT.lshl X.here K.2.1 rfl (hb K.2.2.1 hd) rfl (hv ▸ q)) hr
theorem ow_lshr (K : ow_K p e below s m meth c Z own cd mx rt nm G) (X : Stand p l e R s m args below meth c T locs cells slots) {x : Int64} {y : Int32} (v : Int64) (hd : decode cd pc = .ok (.lshr, 1)) (hp : pc' = pc + 1) (hv : x >>> (y.toInt64 &&& 63) = v) (hr : G (T.setTop (mkF m pc' Ls (.long v :: st)))) : G (T.setTop (mkF m pc Ls (.int y :: .long x :: st))) := by
  subst hp
  exact K.1 _ _ (fun t q => XT.lshr X.here K.2.1 rfl (hb K.2.2.1 hd) rfl (hv ▸ q)) hr
theorem ow_lushr (K : ow_K p e below s m meth c Z own cd mx rt nm G) (X : Stand p l e R s m args below meth c T locs cells slots) {x : Int64} {y : Int32} (v : Int64) (hd : decode cd pc = .ok (.lushr, 1)) (hp : pc' = pc + 1) (hv : XT.ushrL x y = v) (hr : G (T.setTop (mkF m pc' Ls (.long v :: st)))) : G (T.setTop (mkF m pc Ls (.int y :: .long x :: st))) := by
  subst hp
  exact K.1 _ _ (fun t q => XT.lushr X.here K.2.1 rfl (hb K.2.2.1 hd) rfl (hv ▸ q)) hr
theorem ow_lcmp (K : ow_K p e below s m meth c Z own cd mx rt nm G) (X : Stand p l e R s m args below meth c T locs cells slots) {x y : Int64} (v : Int32) (hd : decode cd pc = .ok (.lcmp, 1)) (hp : pc' = pc + 1) (hv : XT.cmpL x y = v) (hr : G (T.setTop (mkF m pc' Ls (.int v :: st)))) : G (T.setTop (mkF m pc Ls (.long y :: .long x :: st))) := by
  subst hp
  exact K.1 _ _ (fun t q => XT.lcmp X.here K.2.1 rfl (hb K.2.2.1 hd) rfl (hv ▸ q)) hr
theorem ow_ineg (K : ow_K p e below s m meth c Z own cd mx rt nm G) (X : Stand p l e R s m args below meth c T locs cells slots) {x : Int32} (v : Int32) (hd : decode cd pc = .ok (.ineg, 1)) (hp : pc' = pc + 1) (hv : -x = v) (hr : G (T.setTop (mkF m pc' Ls (.int v :: st)))) : G (T.setTop (mkF m pc Ls (.int x :: st))) := by
  subst hp
  exact K.1 _ _ (fun t q => XS.ineg X.here K.2.1 rfl (hb K.2.2.1 hd) rfl (hv ▸ q)) hr
theorem ow_i2b (K : ow_K p e below s m meth c Z own cd mx rt nm G) (X : Stand p l e R s m args below meth c T locs cells slots) {x : Int32} (v : Int32) (hd : decode cd pc = .ok (.i2b, 1)) (hp : pc' = pc + 1) (hv : x.toInt8.toInt32 = v) (hr : G (T.setTop (mkF m pc' Ls (.int v :: st)))) : G (T.setTop (mkF m pc Ls (.int x :: st))) := by
  subst hp
  exact K.1 _ _ (fun t q => XT.i2b X.here K.2.1 rfl (hb K.2.2.1 hd) rfl (hv ▸ q)) hr
theorem ow_i2l (K : ow_K p e below s m meth c Z own cd mx rt nm G) (X : Stand p l e R s m args below meth c T locs cells slots) {x : Int32} (v : Int64) (hd : decode cd pc = .ok (.i2l, 1)) (hp : pc' = pc + 1) (hv : x.toInt64 = v) (hr : G (T.setTop (mkF m pc' Ls (.long v :: st)))) : G (T.setTop (mkF m pc Ls (.int x :: st))) := by
  subst hp
  exact K.1 _ _ (fun t q => XT.i2l X.here K.2.1 rfl (hb K.2.2.1 hd) rfl (hv ▸ q)) hr
theorem ow_l2i (K : ow_K p e below s m meth c Z own cd mx rt nm G) (X : Stand p l e R s m args below meth c T locs cells slots) {x : Int64} (v : Int32) (hd : decode cd pc = .ok (.l2i, 1)) (hp : pc' = pc + 1) (hv : x.toInt32 = v) (hr : G (T.setTop (mkF m pc' Ls (.int v :: st)))) : G (T.setTop (mkF m pc Ls (.long x :: st))) := by
  subst hp
  exact K.1 _ _ (fun t q => XT.l2i X.here K.2.1 rfl (hb K.2.2.1 hd) rfl (hv ▸ q)) hr
theorem ow_dup (K : ow_K p e below s m meth c Z own cd mx rt nm G) (X : Stand p l e R s m args below meth c T locs cells slots) {v : Value} (hd : decode cd pc = .ok (.dup, 1)) (hp : pc' = pc + 1) (hc : v.category = 1) (hr : G (T.setTop (mkF m pc' Ls (v :: v :: st)))) : G (T.setTop (mkF m pc Ls (v :: st))) := by
  subst hp
  exact K.1 _ _ (fun t q => XS.dup X.here K.2.1 rfl (hb K.2.2.1 hd) rfl hc q) hr
theorem ow_pop (K : ow_K p e below s m meth c Z own cd mx rt nm G) (X : Stand p l e R s m args below meth c T locs cells slots) {v : Value} (hd : decode cd pc = .ok (.pop, 1)) (hp : pc' = pc + 1) (hc : v.category = 1) (hr : G (T.setTop (mkF m pc' Ls (st)))) : G (T.setTop (mkF m pc Ls (v :: st))) := by
  subst hp
  exact K.1 _ _ (fun t q => XT.pop X.here K.2.1 rfl (hb K.2.2.1 hd) rfl hc q) hr
theorem ow_dupX1 (K : ow_K p e below s m meth c Z own cd mx rt nm G) (X : Stand p l e R s m args below meth c T locs cells slots) {v w : Value} (hd : decode cd pc = .ok (.dup_x1, 1)) (hp : pc' = pc + 1) (hc : v.category = 1) (hc' : w.category = 1) (hr : G (T.setTop (mkF m pc' Ls (v :: w :: v :: st)))) : G (T.setTop (mkF m pc Ls (v :: w :: st))) := by
  subst hp
  exact K.1 _ _ (fun t q => XT.dupX1 X.here K.2.1 rfl (hb K.2.2.1 hd) rfl hc hc' q) hr
theorem ow_dup2 (K : ow_K p e below s m meth c Z own cd mx rt nm G) (X : Stand p l e R s m args below meth c T locs cells slots) {v w : Value} (hd : decode cd pc = .ok (.dup2, 1)) (hp : pc' = pc + 1) (hc : v.category = 1) (hc' : w.category = 1) (hr : G (T.setTop (mkF m pc' Ls (v :: w :: v :: w :: st)))) : G (T.setTop (mkF m pc Ls (v :: w :: st))) := by
  subst hp
  exact K.1 _ _ (fun t q => XT.dup2 X.here K.2.1 rfl (hb K.2.2.1 hd) rfl hc hc' q) hr
theorem ow_goto (K : ow_K p e below s m meth c Z own cd mx rt nm G) (X : Stand p l e R s m args below meth c T locs cells slots)  {o : Int} (hd : decode cd pc = .ok (.goto o, 3))  (ho : 0 ≤ (pc : Int) + o) (hp : ((pc : Int) + o).toNat = pc') (hr : G (T.setTop (mkF m pc' Ls (st)))) : G (T.setTop (mkF m pc Ls (st))) := K.1 _ _ (fun t q => XS.goto X.here K.2.1 rfl (pc0 := pc) rfl (hb K.2.2.1 hd) ho hp q) hr
theorem ow_ifY (K : ow_K p e below s m meth c Z own cd mx rt nm G) (X : Stand p l e R s m args below meth c T locs cells slots) {cc : ClassFile.Cond} {x : Int32} {o : Int} (hd : decode cd pc = .ok (.ifCond cc o, 3)) (hc : ifCond.holds cc x = true) (ho : 0 ≤ (pc : Int) + o) (hp : ((pc : Int) + o).toNat = pc') (hr : G (T.setTop (mkF m pc' Ls (st)))) : G (T.setTop (mkF m pc Ls (.int x :: st))) := K.1 _ _ (fun t q => XS.ifYes X.here K.2.1 rfl (pc0 := pc) rfl (hb K.2.2.1 hd) rfl hc ho hp q) hr
theorem ow_icmpY (K : ow_K p e below s m meth c Z own cd mx rt nm G) (X : Stand p l e R s m args below meth c T locs cells slots) {cc : ClassFile.Cond} {x y : Int32} {o : Int} (hd : decode cd pc = .ok (.if_icmp cc o, 3)) (hc : if_icmp.holds cc x y = true) (ho : 0 ≤ (pc : Int) + o) (hp : ((pc : Int) + o).toNat = pc') (hr : G (T.setTop (mkF m pc' Ls (st)))) : G (T.setTop (mkF m pc Ls (.int y :: .int x :: st))) := K.1 _ _ (fun t q => XS.icmpYes X.here K.2.1 rfl (pc0 := pc) rfl (hb K.2.2.1 hd) rfl hc ho hp q) hr
theorem ow_ifN (K : ow_K p e below s m meth c Z own cd mx rt nm G) (X : Stand p l e R s m args below meth c T locs cells slots) {cc : ClassFile.Cond} {x : Int32} {o : Int} (hd : decode cd pc = .ok (.ifCond cc o, 3)) (hp : pc' = pc + 3) (hc : ifCond.holds cc x = false) (hr : G (T.setTop (mkF m pc' Ls (st)))) : G (T.setTop (mkF m pc Ls (.int x :: st))) := by
  subst hp
  exact K.1 _ _ (fun t q => XS.ifNo X.here K.2.1 rfl (hb K.2.2.1 hd) rfl hc q) hr
theorem ow_icmpN (K : ow_K p e below s m meth c Z own cd mx rt nm G) (X : Stand p l e R s m args below meth c T locs cells slots) {cc : ClassFile.Cond} {x y : Int32} {o : Int} (hd : decode cd pc = .ok (.if_icmp cc o, 3)) (hp : pc' = pc + 3) (hc : if_icmp.holds cc x y = false) (hr : G (T.setTop (mkF m pc' Ls (st)))) : G (T.setTop (mkF m pc Ls (.int y :: .int x :: st))) := by
  subst hp
  exact K.1 _ _ (fun t q => XS.icmpNo X.here K.2.1 rfl (hb K.2.2.1 hd) rfl hc q) hr
/-- an index as an int and as a natural -/
def ow_Ix (j : Int32) (i : Nat) : Prop := ¬ j < 0 ∧ j.toNatClampNeg = i
theorem ow_ix_nat {i : Nat} (hi : i < 2 ^ 31) : ow_Ix (Int32.ofNat i) i := by
  have q : (Int32.ofNat i).toInt = i := Int32.toInt_ofNat_of_lt hi
  refine ⟨?_, ?_⟩
  · rw [Int32.lt_iff_toInt_lt, q]; show ¬ (i : Int) < 0; omega
  · simp only [Int32.toNatClampNeg, q]; rfl
theorem ow_in {cl : Cell} {z j : Int32} {i : Nat} (S : cl.slots.size = z.toNatClampNeg) (J : ow_Ix j i) (hi : i < z.toNatClampNeg) : ¬ (j < 0 ∨ cl.slots.size ≤ j.toNatClampNeg) := fun q => q.elim J.1 fun q => by rw [S, J.2] at q; omega
theorem ow_iaload (K : ow_K p e below s m meth c Z own cd mx rt nm G) (X : Stand p l e R s m args below meth c T locs cells slots) (eT : T.heap = h) {a : Addr} {k : ClassId} {z j : Int32} {vs : List Value} {dv : Value} (F : Arv Z h a k .int z vs dv) (i : Nat) (v : Value) (J : ow_Ix j i) (hi : i < z.toNatClampNeg) (hv : vs.getD i dv = v) (hd : decode cd pc = .ok (.iaload, 1)) (hp : pc' = pc + 1) (hr : G (T.setTop (mkF m pc' Ls (v :: st)))) : G (T.setTop (mkF m pc Ls (.int j :: .ref a :: st))) := by
  subst hp
  obtain ⟨cl, A, -, S, -, H, -⟩ := F
  exact K.1 _ _ (fun t q => X.iaload K.2.1 (j := j) (v := v) (by rw [eT]; exact A.1) (State.isArrayOf_alike K.2.2.2.2.2.1.alike A.2.1) A.2.2 (ow_in S J hi) (Has.at H (ow_in S J hi) (by rw [J.2]; exact hv)) (g := mkF m pc Ls (.int j :: .ref a :: st)) rfl rfl (hb K.2.2.1 hd) t q) hr
theorem ow_baload (K : ow_K p e below s m meth c Z own cd mx rt nm G) (X : Stand p l e R s m args below meth c T locs cells slots) (eT : T.heap = h) {a : Addr} {k : ClassId} {z j : Int32} {vs : List Value} {dv : Value} (F : Arv Z h a k .byte z vs dv) (i : Nat) (v : Value) (J : ow_Ix j i) (hi : i < z.toNatClampNeg) (hv : vs.getD i dv = v) (hd : decode cd pc = .ok (.baload, 1)) (hp : pc' = pc + 1) (hr : G (T.setTop (mkF m pc' Ls (v :: st)))) : G (T.setTop (mkF m pc Ls (.int j :: .ref a :: st))) := by
  subst hp
  obtain ⟨cl, A, -, S, -, H, -⟩ := F
  exact K.1 _ _ (fun t q => X.baloadBytes K.2.1 (j := j) (v := v) (by rw [eT]; exact A.1) (State.isArrayOf_alike K.2.2.2.2.2.1.alike A.2.1) A.2.2 (ow_in S J hi) (Has.at H (ow_in S J hi) (by rw [J.2]; exact hv)) (g := mkF m pc Ls (.int j :: .ref a :: st)) rfl rfl (hb K.2.2.1 hd) t q) hr
theorem ow_laload (K : ow_K p e below s m meth c Z own cd mx rt nm G) (X : Stand p l e R s m args below meth c T locs cells slots) (eT : T.heap = h) {a : Addr} {k : ClassId} {z j : Int32} {vs : List Value} {dv : Value} (F : Arv Z h a k .long z vs dv) (i : Nat) (v : Value) (J : ow_Ix j i) (hi : i < z.toNatClampNeg) (hv : vs.getD i dv = v) (hd : decode cd pc = .ok (.laload, 1)) (hp : pc' = pc + 1) (hr : G (T.setTop (mkF m pc' Ls (v :: st)))) : G (T.setTop (mkF m pc Ls (.int j :: .ref a :: st))) := by
  subst hp
  obtain ⟨cl, A, -, S, -, H, -⟩ := F
  exact K.1 _ _ (fun t q => X.laload K.2.1 (j := j) (v := v) (by rw [eT]; exact A.1) (State.isArrayOf_alike K.2.2.2.2.2.1.alike A.2.1) A.2.2 (ow_in S J hi) (Has.at H (ow_in S J hi) (by rw [J.2]; exact hv)) (g := mkF m pc Ls (.int j :: .ref a :: st)) rfl rfl (hb K.2.2.1 hd) t q) hr
theorem ow_len (K : ow_K p e below s m meth c Z own cd mx rt nm G) (X : Stand p l e R s m args below meth c T locs cells slots) (eT : T.heap = h) {a : Addr} {k : ClassId} {ty : FieldType} {z : Int32} {vs : List Value} {dv : Value} (F : Arv Z h a k ty z vs dv) (hd : decode cd pc = .ok (.arraylength, 1)) (hp : pc' = pc + 1) (hr : G (T.setTop (mkF m pc' Ls (.int z :: st)))) : G (T.setTop (mkF m pc Ls (.ref a :: st))) := by
  subst hp
  obtain ⟨cl, A, -, S, M, -, -⟩ := F
  exact K.1 _ _ (fun t q => X.arraylength K.2.1 (cell := cl) (by rw [eT]; exact A.1) (State.isArrayOf_alike K.2.2.2.2.2.1.alike A.2.1) (g := mkF m pc Ls (.ref a :: st)) rfl (rest := st) rfl (hb K.2.2.1 hd) t (by rw [len_of S M]; exact q)) hr
theorem ow_iastore (K : ow_K p e below s m meth c Z own cd mx rt nm G) (X : Stand p l e R s m args below meth c T locs cells slots) (eT : T.heap = h) {a : Addr} {k : ClassId} {z j : Int32} {vs : List Value} {dv : Value} {x : Int32} (F : Arv Z h a k .int z vs dv) (i : Nat) (vs' : List Value) (J : ow_Ix j i) (hi : i < z.toNatClampNeg) (hi' : i < vs.length) (hs : vs.set i (.int x) = vs') (hd : decode cd pc = .ok (.iastore, 1)) (hp : pc' = pc + 1)
    (hr : ∀ T' h', Stand p l e R s m args below meth c T' (locs ++ [⟨a, i⟩]) cells slots → T'.heap = h' → Wr h h' a i (.int x) → Arv Z h' a k .int z vs' dv → G (T'.setTop (mkF m pc' Ls st))) : G (T.setTop (mkF m pc Ls (.int x :: .int j :: .ref a :: st))) := by
  subst hp hs
  obtain ⟨cl, A, q1, S, q3, H, F⟩ := F
  obtain ⟨T', h', X', e', W', st'⟩ := stI X K.2.1 K.2.2.2.2.2.1 eT A (j := j) (x := x) (ow_in S J hi) (g := mkF m pc Ls (.int x :: .int j :: .ref a :: st)) rfl rfl (hb K.2.2.1 hd)
  have V := Arv.set A q1 S q3 H F (rfl) W' i J.2 hi'
  rw [J.2] at X' W'
  exact K.1 _ _ st' (hr T' h' X' e' W' V)
theorem ow_bastore (K : ow_K p e below s m meth c Z own cd mx rt nm G) (X : Stand p l e R s m args below meth c T locs cells slots) (eT : T.heap = h) {a : Addr} {k : ClassId} {z j : Int32} {vs : List Value} {dv : Value} {x : Int32} (F : Arv Z h a k .byte z vs dv) (i : Nat) (vs' : List Value) (J : ow_Ix j i) (hi : i < z.toNatClampNeg) (hi' : i < vs.length) (hs : vs.set i (.int (nar .byte x)) = vs') (hd : decode cd pc = .ok (.bastore, 1)) (hp : pc' = pc + 1)
    (hr : ∀ T' h', Stand p l e R s m args below meth c T' (locs ++ [⟨a, i⟩]) cells slots → T'.heap = h' → Wr h h' a i (.int (nar .byte x)) → Arv Z h' a k .byte z vs' dv → G (T'.setTop (mkF m pc' Ls st))) : G (T.setTop (mkF m pc Ls (.int x :: .int j :: .ref a :: st))) := by
  subst hp hs
  obtain ⟨cl, A, q1, S, q3, H, F⟩ := F
  obtain ⟨T', h', X', e', W', st'⟩ := stB X K.2.1 K.2.2.2.2.2.1 eT A (j := j) (x := x) (ow_in S J hi) (g := mkF m pc Ls (.int x :: .int j :: .ref a :: st)) rfl rfl (hb K.2.2.1 hd)
  have V := Arv.set A q1 S q3 H F (fits_nar_byte x) W' i J.2 hi'
  rw [J.2] at X' W'
  exact K.1 _ _ st' (hr T' h' X' e' W' V)
theorem ow_lastore (K : ow_K p e below s m meth c Z own cd mx rt nm G) (X : Stand p l e R s m args below meth c T locs cells slots) (eT : T.heap = h) {a : Addr} {k : ClassId} {z j : Int32} {vs : List Value} {dv : Value} {x : Int64} (F : Arv Z h a k .long z vs dv) (i : Nat) (vs' : List Value) (J : ow_Ix j i) (hi : i < z.toNatClampNeg) (hi' : i < vs.length) (hs : vs.set i (.long x) = vs') (hd : decode cd pc = .ok (.lastore, 1)) (hp : pc' = pc + 1)
    (hr : ∀ T' h', Stand p l e R s m args below meth c T' (locs ++ [⟨a, i⟩]) cells slots → T'.heap = h' → Wr h h' a i (.long x) → Arv Z h' a k .long z vs' dv → G (T'.setTop (mkF m pc' Ls st))) : G (T.setTop (mkF m pc Ls (.long x :: .int j :: .ref a :: st))) := by
  subst hp hs
  obtain ⟨cl, A, q1, S, q3, H, F⟩ := F
  obtain ⟨T', h', X', e', W', st'⟩ := stJ X K.2.1 K.2.2.2.2.2.1 eT A (j := j) (x := x) (ow_in S J hi) (g := mkF m pc Ls (.long x :: .int j :: .ref a :: st)) rfl rfl (hb K.2.2.1 hd)
  have V := Arv.set A q1 S q3 H F (rfl) W' i J.2 hi'
  rw [J.2] at X' W'
  exact K.1 _ _ st' (hr T' h' X' e' W' V)
theorem ow_newP (K : ow_K p e below s m meth c Z own cd mx rt nm G) (X : Stand p l e R s m args below meth c T locs cells slots) (eT : T.heap = h) {aty : ArrayType} {n : Int32} (w : (Jvm.Cond.arrayClass (newarray.typeOf aty)).before a0 Z = true) (hn : ¬ n < 0) (cap : Nat) (hcap : n.toNatClampNeg ≤ cap) (hbb : cap * 8 ≤ 536870912) (hc : cells + 1 ≤ R.cells) (hl : slots + cap ≤ R.slots) (hd : decode cd pc = .ok (.newarray aty, 2)) (hp : pc' = pc + 2)
    (hr : ∀ T' h' k a, Stand p l e R s m args below meth c T' locs (cells + 1) (slots + cap) → T'.heap = h' → Ext h h' → a = h.size → Arv Z h' a k (newarray.typeOf aty) n [] (defaultValue (newarray.typeOf aty)) → G (T'.setTop (mkF m pc' Ls (.ref a :: st)))) : G (T.setTop (mkF m pc Ls (.int n :: st))) := by
  subst hp
  obtain ⟨T', h', k, X', e', E, A, st'⟩ := newP X K.2.1 K.2.2.2.2.2.1 w eT (g := mkF m pc Ls (.int n :: st)) rfl (hb K.2.2.1 hd) rfl hn hcap hbb hc hl
  exact K.1 _ _ st' (hr T' h' k _ X' e' E rfl (Arv.new A hn))
theorem ow_newO (K : ow_K p e below s m meth c Z own cd mx rt nm G) (X : Stand p l e R s m args below meth c T locs cells slots) (eT : T.heap = h) {C : String} {i n : Nat} (w : (Jvm.Cond.classLink own i C).before a0 Z = true) (wi : (Jvm.Cond.instantiable C n).before a0 Z = true) (wz : (Jvm.Cond.initialized C).before a0 Z = true) (hc : cells + 1 ≤ R.cells) (hl : slots + n ≤ R.slots) (hd : decode cd pc = .ok (.new i, 3)) (hp : pc' = pc + 3)
    (hr : ∀ T' h' a, Stand p l e R s m args below meth c T' locs (cells + 1) (slots + n) → T'.heap = h' → Ext h h' → a = h.size → Exa Z h' a C → (∀ {O nm d : String} {ty : FieldType}, Laid Z a0 C O nm d → parseFieldDescriptor d = some ty → Fld Z h' a O nm d (defaultValue ty)) → G (T'.setTop (mkF m pc' Ls (.ref a :: st)))) : G (T.setTop (mkF m pc Ls st)) := by
  subst hp
  obtain ⟨T', h', X', e', E, A, D, -, st'⟩ := newO X K.2.1 K.2.2.2.2.2.1 K.2.2.2.2.1 w wi wz eT (g := mkF m pc Ls st) rfl (hb K.2.2.1 hd) hc hl
  exact K.1 _ _ st' (hr T' h' _ X' e' E rfl A D)
theorem ow_getF (K : ow_K p e below s m meth c Z own cd mx rt nm G) (X : Stand p l e R s m args below meth c T locs cells slots) (eT : T.heap = h) {C n d : String} {i : Nat} {a : Addr} {v : Value} (w : (Jvm.Cond.fieldLink own i C n d).before a0 Z = true) (F : Fld Z h a C n d v) (hd : decode cd pc = .ok (.getfield i, 3)) (hp : pc' = pc + 3)
    (hr : ∀ T', Stand p l e R s m args below meth c T' locs cells slots → T'.heap = h → G (T'.setTop (mkF m pc' Ls (v :: st)))) : G (T.setTop (mkF m pc Ls (.ref a :: st))) := by
  subst hp
  obtain ⟨T', X', e', st'⟩ := getF X K.2.1 K.2.2.2.2.2.1 K.2.2.2.2.1 (host := "") (Or.inl w) Via.refl eT F (g := mkF m pc Ls (.ref a :: st)) rfl rfl (hb K.2.2.1 hd)
  exact K.1 _ _ st' (hr T' X' e')
theorem ow_putF (K : ow_K p e below s m meth c Z own cd mx rt nm G) (X : Stand p l e R s m args below meth c T locs cells slots) (eT : T.heap = h) {C n d : String} {i kk : Nat} {a : Addr} {v old : Value} (ty : FieldType) (w : (Jvm.Cond.fieldLink own i C n d).before a0 Z = true) (F : Fld Z h a C n d old) (E : Exa Z h a C) (L : (Jvm.Cond.lays C C n d).before a0 Z = true ∨ ((Jvm.Cond.laysFinal C C n d).before a0 Z = true ∧ own = C ∧ nm = "<init>")) (wi : (Jvm.Cond.instantiable C kk).before a0 Z = true) (hty : parseFieldDescriptor d = some ty) (hn : narrow ty v = v) (hf : fits ty v = true) (hd : decode cd pc = .ok (.putfield i, 3)) (hp : pc' = pc + 3)
    (hr : ∀ T' h', Stand p l e R s m args below meth c T' (locs ++ [⟨a, Jvm.RoadKit.slotOf Z C n d⟩]) cells slots → T'.heap = h' → Wr h h' a (Jvm.RoadKit.slotOf Z C n d) v → Fld Z h' a C n d v → Exa Z h' a C → G (T'.setTop (mkF m pc' Ls st))) : G (T.setTop (mkF m pc Ls (v :: .ref a :: st))) := by
  subst hp
  obtain ⟨T', h', X', e', W, st'⟩ := putF X K.2.1 K.2.2.2.2.2.1 K.2.2.2.2.1 (host := "") (Or.inl w) Via.refl eT F E (L.imp id fun q => ⟨q.1, q.2.1, K.2.2.2.2.2.2.2.2.trans q.2.2⟩) wi hty hn hf (g := mkF m pc Ls (v :: .ref a :: st)) rfl rfl (hb K.2.2.1 hd)
  exact K.1 _ _ st' (hr T' h' X' e' W (F.same W) (E.wr W))
theorem ow_initO (K : ow_K p e below s m meth c Z own cd mx rt nm G) (X : Stand p l e R s m args below meth c T locs cells slots) (eT : T.heap = h) {i : Nat} {a : Addr} (w1 : (Jvm.Cond.methodLink own i Lib.objectInit).before a0 Z = true) (w2 : (Jvm.Cond.instanceMethod Lib.objectInit).before a0 Z = true) (w3 : (Jvm.Cond.code Lib.objectInit ⟨#[0xb1]⟩ 1 none).before a0 Z = true) (hz : Ls.size = mx) (W : Nat) (hW : (st.map fun v => v.category).sum ≤ W) (hf : 1 ≤ R.frames) (hl : W + 12 ≤ R.locals) (hd : decode cd pc = .ok (.invokespecial i, 3)) (hp : pc' = pc + 3)
    (hr : ∀ T', Stand p l e R s m args below meth c T' locs cells slots → T'.heap = h → G (T'.setTop (mkF m pc' Ls st))) : G (T.setTop (mkF m pc Ls (.ref a :: st))) := by
  subst hp
  obtain ⟨T', X', e', st'⟩ := initO X K.2.1 K.2.2.2.2.2.1 K.2.2.2.2.1 w1 w2 w3 eT (g := mkF m pc Ls (.ref a :: st)) rfl (hz.trans K.2.2.2.1.symm) rfl (hb K.2.2.1 hd) hf (W := W) (by show 2 * 0 + _ ≤ _; omega) hl
  exact K.1 _ _ st' (hr T' X' e')
theorem ow_callS (K : ow_K p e below s m meth c Z own cd mx rt nm G) (X : Stand p l e R s m args below meth c T locs cells slots) (eT : T.heap = h) {y : MethodName} {i : Nat} {bytes : ByteArray} {maxL : Nat} {rt' : Option FieldType} {rm : Room} {as : Array Value} {Q : Option Value → Heap → List Loc → Prop} (hM : MetFree l y (head1 [Jvm.Cond.code y bytes maxL rt'] rm) (fun a U => a = as ∧ Z.Warmed39 U.vm ∧ U.heap = h) (fun _ _ _ _ _ => True) (fun _ U o U' => ∃ v L, o = .returned v ∧ Q v U'.heap L ∧ FrameEnd U o U' L rm.cells rm.slots)) (wl : (Jvm.Cond.methodLink own i y).before a0 Z = true) (ws : (Jvm.Cond.static y).before a0 Z = true) (wi : (Jvm.Cond.initialized y.cls).before a0 Z = true) (wc : (Jvm.Cond.code y bytes maxL rt').before a0 Z = true) (hy : y.cls ≠ "java/lang/invoke/MethodHandle" ∧ y.cls ≠ "java/lang/invoke/VarHandle") (W : Nat) (hW : (st.map fun v => v.category).sum ≤ W) (hf : rm.frames + 1 ≤ R.frames) (hl : W + (maxL + 11) + rm.locals ≤ R.locals) (hc : cells + rm.cells ≤ R.cells) (hs : slots + rm.slots ≤ R.slots) (hz : Ls.size = mx) {full : List Value} (argsL : List Value) (has : argsL.toArray = as) (hlen : ∀ sig, parseMethodDescriptor y.desc = some sig → argsL.length = sig.parameters.length) (hst : full = argsL.reverse ++ st) (hd : decode cd pc = .ok (.invokestatic i, 3)) (hp : pc' = pc + 3)
    (hr : ∀ v T' L, Stand p l e R s m args below meth c T' (locs ++ L) (cells + rm.cells) (slots + rm.slots) → Q v T'.heap L → G (T'.setTop (mkF m pc' Ls (v.toList ++ st)))) : G (T.setTop (mkF m pc Ls full)) := by
  subst hp has
  obtain ⟨v, vm₁, ⟨T', L', c', s'⟩, -, X', ⟨L, hQ, l1, l2, l3⟩, st'⟩ := Jvm.LawKit.callS X K.2.1 (y := y) K.2.2.2.2.1 (mvT K.2.2.2.2.2.1 wl) (mvT K.2.2.2.2.2.1 ws) (mvT K.2.2.2.2.2.1 wi) (mvT K.2.2.2.2.2.1 wc) hy (backOf (W := W) hM K.2.2.2.2.2.1 wc wi hf hl) (g := mkF m pc Ls full) rfl (hz.trans K.2.2.2.1.symm) (argsL := argsL) (rest := st) hlen hst (by show 2 * 0 + _ ≤ _; omega) (hb K.2.2.1 hd) (fun _ _ => ⟨rfl, eT, hc, hs⟩)
  dsimp only [Pt.U, Pt.locs, Pt.cells, Pt.slots] at X' l1 l2 l3 st' hQ
  subst l1 l2 l3
  exact K.1 _ _ st' (hr v T' L X' hQ)
theorem ow_callP (K : ow_K p e below s m meth c Z own cd mx rt nm G) (X : Stand p l e R s m args below meth c T locs cells slots) (eT : T.heap = h) {y : MethodName} {i : Nat} {bytes : ByteArray} {maxL : Nat}  {rm : Room} {as : Array Value} {Q : Option Value → Heap → List Loc → Prop} {a : Addr} (hM : MetFree l y (head1 [Jvm.Cond.code y bytes maxL none] rm) (fun a U => a = as ∧ Z.Warmed39 U.vm ∧ U.heap = h) (fun _ _ _ _ _ => True) (fun _ U o U' => ∃ v L, o = .returned v ∧ Q v U'.heap L ∧ FrameEnd U o U' L rm.cells rm.slots)) (hn : y.name = "<init>") (wl : (Jvm.Cond.methodLink own i y).before a0 Z = true) (ws : (Jvm.Cond.instanceMethod y).before a0 Z = true) (wi : (Jvm.Cond.initialized y.cls).before a0 Z = true) (wc : (Jvm.Cond.code y bytes maxL none).before a0 Z = true) (hy : y.cls ≠ "java/lang/invoke/MethodHandle" ∧ y.cls ≠ "java/lang/invoke/VarHandle") (W : Nat) (hW : (st.map fun v => v.category).sum ≤ W) (hf : rm.frames + 1 ≤ R.frames) (hl : W + (maxL + 11) + rm.locals ≤ R.locals) (hc : cells + rm.cells ≤ R.cells) (hs : slots + rm.slots ≤ R.slots) (hz : Ls.size = mx) {full : List Value} (argsL : List Value) (has : (.ref a :: argsL).toArray = as) (hlen : ∀ sig, parseMethodDescriptor y.desc = some sig → argsL.length = sig.parameters.length) (hst : full = argsL.reverse ++ .ref a :: st) (hd : decode cd pc = .ok (.invokespecial i, 3)) (hp : pc' = pc + 3)
    (hr : ∀ v T' L, Stand p l e R s m args below meth c T' (locs ++ L) (cells + rm.cells) (slots + rm.slots) → Q v T'.heap L → G (T'.setTop (mkF m pc' Ls (v.toList ++ st)))) : G (T.setTop (mkF m pc Ls full)) := by
  subst hp has
  obtain ⟨v, vm₁, ⟨T', L', c', s'⟩, -, X', ⟨L, hQ, l1, l2, l3⟩, st'⟩ := X.specialBack K.2.1 (y := y) hn K.2.2.2.2.1 (mvT K.2.2.2.2.2.1 wl) (mvT K.2.2.2.2.2.1 ws) (mvT K.2.2.2.2.2.1 wc) hy (backOf (W := W) hM K.2.2.2.2.2.1 wc wi hf hl) (g := mkF m pc Ls full) rfl (hz.trans K.2.2.2.1.symm) (Steps.refl _) (a := a) (argsL := argsL) (rest := st) hlen hst (by show 2 * 0 + _ ≤ _; omega) (hb K.2.2.1 hd) (fun _ _ => ⟨rfl, eT, hc, hs⟩)
  dsimp only [Pt.U, Pt.locs, Pt.cells, Pt.slots] at X' l1 l2 l3 st' hQ
  subst l1 l2 l3
  exact K.1 _ _ (fun t q => st'.trans q) (hr v T' L X' hQ)
theorem ow_callV (K : ow_K p e below s m meth c Z own cd mx rt nm G) (X : Stand p l e R s m args below meth c T locs cells slots) (eT : T.heap = h) {y : MethodName} {i : Nat} {bytes : ByteArray} {maxL : Nat} {rt' : Option FieldType} {rm : Room} {as : Array Value} {Q : Option Value → Heap → List Loc → Prop} {a : Addr} (hM : MetFree l y (head1 [Jvm.Cond.code y bytes maxL rt'] rm) (fun a U => a = as ∧ Z.Warmed39 U.vm ∧ U.heap = h) (fun _ _ _ _ _ => True) (fun _ U o U' => ∃ v L, o = .returned v ∧ Q v U'.heap L ∧ FrameEnd U o U' L rm.cells rm.slots)) (E : Exa Z h a y.cls) (wl : (Jvm.Cond.methodLink own i y).before a0 Z = true) (wd : (Jvm.Cond.declares y).before a0 Z = true) (wsel : (Jvm.Cond.selects y.cls y y).before a0 Z = true) (ws : (Jvm.Cond.instanceMethod y).before a0 Z = true) (wi : (Jvm.Cond.initialized y.cls).before a0 Z = true) (wc : (Jvm.Cond.code y bytes maxL rt').before a0 Z = true) (hy : y.cls ≠ "java/lang/invoke/MethodHandle" ∧ y.cls ≠ "java/lang/invoke/VarHandle") (W : Nat) (hW : (st.map fun v => v.category).sum ≤ W) (hf : rm.frames + 1 ≤ R.frames) (hl : W + (maxL + 11) + rm.locals ≤ R.locals) (hc : cells + rm.cells ≤ R.cells) (hs : slots + rm.slots ≤ R.slots) (hz : Ls.size = mx) {full : List Value} (argsL : List Value) (has : (.ref a :: argsL).toArray = as) (hlen : ∀ sig, parseMethodDescriptor y.desc = some sig → argsL.length = sig.parameters.length) (hst : full = argsL.reverse ++ .ref a :: st) (hd : decode cd pc = .ok (.invokevirtual i, 3)) (hp : pc' = pc + 3)
    (hr : ∀ v T' L, Stand p l e R s m args below meth c T' (locs ++ L) (cells + rm.cells) (slots + rm.slots) → Q v T'.heap L → G (T'.setTop (mkF m pc' Ls (v.toList ++ st)))) : G (T.setTop (mkF m pc Ls full)) := by
  subst hp has
  obtain ⟨cq, kq, qa, qb, qc⟩ := isOf K.2.2.2.2.2.1 eT E
  obtain ⟨v, vm₁, ⟨T', L', c', s'⟩, -, X', ⟨L, hQ, l1, l2, l3⟩, st'⟩ := X.virtualBack K.2.1 (y := y) (z := y) K.2.2.2.2.1 (mvT K.2.2.2.2.2.1 wl) (mvT K.2.2.2.2.2.1 wd) (notFace_of_selects (args := #[]) (mvT K.2.2.2.2.2.1 wsel)) (mvT K.2.2.2.2.2.1 wsel) (mvT K.2.2.2.2.2.1 ws) hy (backOf (W := W) hM K.2.2.2.2.2.1 wc wi hf hl) qa qc (g := mkF m pc Ls full) rfl (hz.trans K.2.2.2.1.symm) (Steps.refl _) (argsL := argsL) (rest := st) hlen hst (by show 2 * 0 + _ ≤ _; omega) (hb K.2.2.1 hd) (fun _ _ => ⟨rfl, eT, hc, hs⟩)
  dsimp only [Pt.U, Pt.locs, Pt.cells, Pt.slots] at X' l1 l2 l3 st' hQ
  subst l1 l2 l3
  exact K.1 _ _ (fun t q => st'.trans q) (hr v T' L X' hQ)
theorem ow_retI {Q : Option Value → Heap → List Loc → Prop} {ce sl : Nat} (K : ow_K p e below s m meth c Z own cd mx rt nm (ow_Gl p e below s Q ce sl)) (X : Stand p l e R s m args below meth c T locs cells slots) (t : FieldType) {v : Int32} (hrt : rt = some t) (hn : narrow t (.int v) = .int v) (hti : t = .int ∨ t = .boolean ∨ t = .byte ∨ t = .char ∨ t = .short) (hd : decode cd pc = .ok (.ireturn, 1)) (hQ : Q (some (.int v)) T.heap locs) (hc : cells ≤ ce) (hs : slots ≤ sl) : ow_Gl p e below s Q ce sl (T.setTop (mkF m pc Ls [.int v])) := by
  obtain ⟨fs, hr, hrun, hended, hW, hsame⟩ := X.leave (v := some (.int v)) (fun h => by rw [K.2.2.2.2.2.2.1, hrt] at h; cases h) K.2.2.2.2.2.2.2.1
  exact ⟨_, _, X.ireturnOut K.2.1 (K.2.2.2.2.2.2.1.trans hrt) hn hti (hb K.2.2.1 hd) hr, hrun, hended, _, _, rfl, hQ, ⟨_, rfl⟩, hW, hsame.mono hc hs⟩
theorem ow_retJ {Q : Option Value → Heap → List Loc → Prop} {ce sl : Nat} (K : ow_K p e below s m meth c Z own cd mx rt nm (ow_Gl p e below s Q ce sl)) (X : Stand p l e R s m args below meth c T locs cells slots) {v : Int64} (hrt : rt = some .long) (hd : decode cd pc = .ok (.lreturn, 1)) (hQ : Q (some (.long v)) T.heap locs) (hc : cells ≤ ce) (hs : slots ≤ sl) : ow_Gl p e below s Q ce sl (T.setTop (mkF m pc Ls [.long v])) := by
  obtain ⟨fs, hr, hrun, hended, hW, hsame⟩ := X.leave (v := some (.long v)) (fun h => by rw [K.2.2.2.2.2.2.1, hrt] at h; cases h) K.2.2.2.2.2.2.2.1
  exact ⟨_, _, X.lreturnOut K.2.1 (K.2.2.2.2.2.2.1.trans hrt) (hb K.2.2.1 hd) hr, hrun, hended, _, _, rfl, hQ, ⟨_, rfl⟩, hW, hsame.mono hc hs⟩
theorem ow_retA {Q : Option Value → Heap → List Loc → Prop} {ce sl : Nat} (K : ow_K p e below s m meth c Z own cd mx rt nm (ow_Gl p e below s Q ce sl)) (X : Stand p l e R s m args below meth c T locs cells slots) (t : FieldType) {v : Addr} (hrt : rt = some t) (ht : t.isReference = true) (hd : decode cd pc = .ok (.areturn, 1)) (hQ : Q (some (.ref v)) T.heap locs) (hc : cells ≤ ce) (hs : slots ≤ sl) : ow_Gl p e below s Q ce sl (T.setTop (mkF m pc Ls [.ref v])) := by
  obtain ⟨fs, hr, hrun, hended, hW, hsame⟩ := X.leave (v := some (.ref v)) (fun h => by rw [K.2.2.2.2.2.2.1, hrt] at h; cases h) K.2.2.2.2.2.2.2.1
  exact ⟨_, _, X.areturnOut K.2.1 rfl (K.2.2.2.2.2.2.1.trans hrt) ht (hb K.2.2.1 hd) hr, hrun, hended, _, _, rfl, hQ, ⟨_, rfl⟩, hW, hsame.mono hc hs⟩
theorem ow_ret {Q : Option Value → Heap → List Loc → Prop} {ce sl : Nat} (K : ow_K p e below s m meth c Z own cd mx rt nm (ow_Gl p e below s Q ce sl)) (X : Stand p l e R s m args below meth c T locs cells slots) (hrt : rt = none) (hd : decode cd pc = .ok (.return_, 1)) (hQ : Q none T.heap locs) (hc : cells ≤ ce) (hs : slots ≤ sl) : ow_Gl p e below s Q ce sl (T.setTop (mkF m pc Ls [])) := by
  obtain ⟨fs, hr, hrun, hended, hW, hsame⟩ := X.leave (v := none) (fun _ => rfl) K.2.2.2.2.2.2.2.1
  exact ⟨_, _, X.returnOut K.2.1 (K.2.2.2.2.2.2.1.trans hrt) (hb K.2.2.1 hd) hr, hrun, hended, _, _, rfl, hQ, ⟨_, rfl⟩, hW, hsame.mono hc hs⟩
end Own

theorem own_remI (x y : Int32) (hy : 0 < y.toInt) : (x - (x / y) * y).toInt = x.toInt.tmod y.toInt := by
  have hne : y ≠ -1 := fun q => by rw [q] at hy; exact absurd hy (by decide)
  rw [Int32.toInt_sub, Int32.toInt_mul, Int.sub_bmod_bmod, Int32.toInt_div_of_ne_right x y hne]
  have e : x.toInt - x.toInt.tdiv y.toInt * y.toInt = x.toInt.tmod y.toInt := by
    have := Int.tmod_add_tdiv_mul x.toInt y.toInt; omega
  rw [e]
  have b1 := Int.lt_tmod_of_pos x.toInt hy
  have b2 := Int.tmod_lt_of_pos x.toInt hy
  have b3 := y.toInt_lt
  apply Int.bmod_eq_of_le <;> omega
theorem own_and255 (x : Int32) : (x &&& 255).toInt = x.toInt % 256 := by
  have h1 : (x &&& 255).toBitVec = x.toBitVec &&& 255#32 := rfl
  have h2 : (x.toBitVec &&& 255#32).toNat = x.toBitVec.toNat % 256 := by
    rw [BitVec.toNat_and]; exact Nat.and_two_pow_sub_one_eq_mod _ 8
  have h3 : (x &&& 255).toInt = ((x.toBitVec &&& 255#32).toNat : Int) := by
    show ((x &&& 255).toBitVec).toInt = _
    rw [h1, BitVec.toInt_eq_toNat_of_lt]; rw [h2]; omega
  rw [h3, h2]
  have h4 : x.toInt = x.toBitVec.toInt := rfl
  rw [h4, BitVec.toInt_eq_toNat_cond]
  have := x.toBitVec.isLt
  split <;> omega
theorem own_bmod8 (n : Int) : Int.bmod n (2 ^ 8) % 256 = n % 256 := by
  have := Int.bmod_emod (x := n) (m := 2 ^ 8)
  have e : ((2 ^ 8 : Nat) : Int) = 256 := by decide
  rw [e] at this; exact this
theorem own_byte255 (x : Int32) : (nar .byte (x.toInt8.toInt32) &&& 255) = x &&& 255 := by
  apply Int32.toInt_inj.mp
  rw [own_and255, own_and255]
  show (x.toInt8.toInt32.toInt8.toInt32).toInt % 256 = _
  rw [Int8.toInt_toInt32, Int32.toInt_toInt8, Int8.toInt_toInt32, Int32.toInt_toInt8, own_bmod8, own_bmod8]
theorem own_natI {i : Nat} (hi : i < 2 ^ 31) : (Int32.ofNat i).toInt = i := Int32.toInt_ofNat_of_lt hi
theorem own_ltn {i n : Nat} (h : i < n) (hn : n < 2 ^ 31) : Int32.ofNat i < Int32.ofNat n := by
  rw [Int32.lt_iff_toInt_lt, own_natI hn, own_natI (Nat.lt_trans h hn)]; omega
theorem own_gen {i n : Nat} (h : n ≤ i) (hi : i < 2 ^ 31) : ¬ Int32.ofNat i < Int32.ofNat n := by
  rw [Int32.lt_iff_toInt_lt, own_natI hi, own_natI (Nat.lt_of_le_of_lt h hi)]; omega
theorem own_succ {i : Nat} (hi : i + 1 < 2 ^ 31) : Int32.ofNat i + 1 = Int32.ofNat (i + 1) := by
  apply Int32.toInt_inj.mp
  rw [Int32.toInt_add, own_natI hi, own_natI (Nat.lt_of_succ_lt hi)]
  have e : (1 : Int32).toInt = 1 := rfl
  rw [e]
  apply Int.bmod_eq_of_le <;> omega
theorem own_addn {i j : Nat} (hi : i + j < 2 ^ 31) : Int32.ofNat i + Int32.ofNat j = Int32.ofNat (i + j) := by
  apply Int32.toInt_inj.mp
  rw [Int32.toInt_add, own_natI hi, own_natI (by omega), own_natI (by omega)]
  apply Int.bmod_eq_of_le <;> omega
theorem own_nat_of {x : Int32} (h : ¬ x < 0) : x = Int32.ofNat x.toNatClampNeg ∧ (x.toNatClampNeg : Int) = x.toInt := by
  have e : (0 : Int32).toInt = 0 := rfl
  have a2 := x.toInt_lt
  rw [Int32.lt_iff_toInt_lt, e] at h
  have q : (x.toNatClampNeg : Int) = x.toInt := by simp only [Int32.toNatClampNeg]; omega
  refine ⟨Int32.toInt_inj.mp ?_, q⟩
  rw [own_natI (by omega)]; exact q.symm
def own_min (x y : Int32) : Int32 := if y < x then y else x
def own_max (x y : Int32) : Int32 := if x < y then y else x
def own_part (w : Int64) (i lo hi : Int32) : Int32 := if i < lo then 0 else if i < hi then ((XT.ushrL w (8 * i)) &&& 255).toInt32 else 0
def own_acc (f : Nat → Int32) : Nat → Nat → Int32 → Int32
  | _, 0, S => S
  | i, d + 1, S => own_acc f (i + 1) d (S + (f i &&& 255))
def own_B (w : Int64) (i : Nat) : Int32 := ((XT.ushrL w (8 * Int32.ofNat i)) &&& 255).toInt32
theorem own_and255L (x : Int64) : (x &&& 255).toInt = x.toInt % 256 := by
  have h1 : (x &&& 255).toBitVec = x.toBitVec &&& 255#64 := rfl
  have h2 : (x.toBitVec &&& 255#64).toNat = x.toBitVec.toNat % 256 := by
    rw [BitVec.toNat_and]; exact Nat.and_two_pow_sub_one_eq_mod _ 8
  have h3 : (x &&& 255).toInt = ((x.toBitVec &&& 255#64).toNat : Int) := by
    show ((x &&& 255).toBitVec).toInt = _
    rw [h1, BitVec.toInt_eq_toNat_of_lt]; rw [h2]; omega
  rw [h3, h2]
  have h4 : x.toInt = x.toBitVec.toInt := rfl
  rw [h4, BitVec.toInt_eq_toNat_cond]
  have := x.toBitVec.isLt
  split <;> omega
theorem own_bmod32 (n : Int) : Int.bmod n (2 ^ 32) % 256 = n % 256 := by
  have h := Int.bmod_emod (x := n) (m := 2 ^ 32)
  have e : ((2 ^ 32 : Nat) : Int) = 4294967296 := by decide
  rw [e] at h; omega
theorem own_byteL (y : Int64) : (nar .byte (y.toInt32.toInt8.toInt32) &&& 255) = (y &&& 255).toInt32 := by
  rw [own_byte255]
  apply Int32.toInt_inj.mp
  rw [own_and255, Int64.toInt_toInt32, Int64.toInt_toInt32, own_and255L, own_bmod32]
  exact (Int.bmod_eq_of_le (by omega) (by omega)).symm
theorem own_B_nn (w : Int64) (i : Nat) : 0 ≤ (own_B w i).toInt ∧ (own_B w i).toInt ≤ 255 := by
  rw [own_B, ← own_byteL, own_and255]; omega
theorem own_sh0 (w : Int64) : XT.ushrL w 0 = w := by
  apply Int64.toBitVec_inj.mp
  exact BitVec.ushiftRight_zero w.toBitVec
theorem own_partN {w : Int64} {L H i : Nat} (hL : L ≤ 8) (hH : H ≤ 8) (hi : i < 8) : own_part w (Int32.ofNat i) (Int32.ofNat L) (Int32.ofNat H) = if L ≤ i ∧ i < H then own_B w i else 0 := by
  unfold own_part
  by_cases h1 : i < L
  · rw [if_pos (own_ltn h1 (by omega)), if_neg (by omega)]
  · rw [if_neg (own_gen (by omega) (by omega))]
    by_cases h2 : i < H
    · rw [if_pos (own_ltn h2 (by omega)), if_pos (by omega)]; rfl
    · rw [if_neg (own_gen (by omega) (by omega)), if_neg (by omega)]
theorem own_acc_add (f : Nat → Int32) (d : Nat) : ∀ (i : Nat) (S : Int32), own_acc f i d S = S + own_acc f i d 0 := by
  induction d with
  | zero => intro i S; simp [own_acc]
  | succ d ih => intro i S; simp only [own_acc]; rw [ih (i + 1) (S + _), ih (i + 1) (0 + _), Int32.zero_add, Int32.add_assoc]
def own_E (w : Int64) (L H : Nat) : Int32 := own_part w 0 (Int32.ofNat L) (Int32.ofNat H) + own_part w 1 (Int32.ofNat L) (Int32.ofNat H) + own_part w 2 (Int32.ofNat L) (Int32.ofNat H) + own_part w 3 (Int32.ofNat L) (Int32.ofNat H) + own_part w 4 (Int32.ofNat L) (Int32.ofNat H) + own_part w 5 (Int32.ofNat L) (Int32.ofNat H) + own_part w 6 (Int32.ofNat L) (Int32.ofNat H) + own_part w 7 (Int32.ofNat L) (Int32.ofNat H)
theorem own_E_eq (w : Int64) {L H : Nat} (hL : L ≤ 8) (hH : H ≤ 8) (hLH : L ≤ H) (f : Nat → Int32) (hf : ∀ i, i < 8 → f i &&& 255 = own_B w i) : own_E w L H = own_acc f L (H - L) 0 := by
  have q : ∀ i, i < 8 → own_part w (Int32.ofNat i) (Int32.ofNat L) (Int32.ofNat H) = if L ≤ i ∧ i < H then own_B w i else 0 := fun i hi => own_partN hL hH hi
  have e : own_E w L H = (if L ≤ 0 ∧ 0 < H then own_B w 0 else 0) + (if L ≤ 1 ∧ 1 < H then own_B w 1 else 0) + (if L ≤ 2 ∧ 2 < H then own_B w 2 else 0) + (if L ≤ 3 ∧ 3 < H then own_B w 3 else 0) + (if L ≤ 4 ∧ 4 < H then own_B w 4 else 0) + (if L ≤ 5 ∧ 5 < H then own_B w 5 else 0) + (if L ≤ 6 ∧ 6 < H then own_B w 6 else 0) + (if L ≤ 7 ∧ 7 < H then own_B w 7 else 0) := by
    rw [← q 0 (by decide), ← q 1 (by decide), ← q 2 (by decide), ← q 3 (by decide), ← q 4 (by decide), ← q 5 (by decide), ← q 6 (by decide), ← q 7 (by decide)]; rfl
  rw [e]
  have cL : L = 0 ∨ L = 1 ∨ L = 2 ∨ L = 3 ∨ L = 4 ∨ L = 5 ∨ L = 6 ∨ L = 7 ∨ L = 8 := by omega
  have cH : H = 0 ∨ H = 1 ∨ H = 2 ∨ H = 3 ∨ H = 4 ∨ H = 5 ∨ H = 6 ∨ H = 7 ∨ H = 8 := by omega
  have f0 := hf 0 (by decide); have f1 := hf 1 (by decide); have f2 := hf 2 (by decide); have f3 := hf 3 (by decide)
  have f4 := hf 4 (by decide); have f5 := hf 5 (by decide); have f6 := hf 6 (by decide); have f7 := hf 7 (by decide)
  clear q e hf
  rcases cL with rfl | rfl | rfl | rfl | rfl | rfl | rfl | rfl | rfl <;> rcases cH with rfl | rfl | rfl | rfl | rfl | rfl | rfl | rfl | rfl <;> first | (exfalso; omega) | simp [own_acc, f0, f1, f2, f3, f4, f5, f6, f7]
theorem own_E_nn (w : Int64) {L H : Nat} (hL : L ≤ 8) (hH : H ≤ 8) : 0 ≤ (own_E w L H).toInt := by
  have q : ∀ i : Nat, i < 8 → 0 ≤ (own_part w (Int32.ofNat i) (Int32.ofNat L) (Int32.ofNat H)).toInt ∧ (own_part w (Int32.ofNat i) (Int32.ofNat L) (Int32.ofNat H)).toInt ≤ 255 := fun i hi => by
    rw [own_partN hL hH hi]; split
    · exact own_B_nn w i
    · decide
  have add : ∀ (a b : Int32) (n : Int), n ≤ 100000 → (0 ≤ a.toInt ∧ a.toInt ≤ n) → (0 ≤ b.toInt ∧ b.toInt ≤ 255) → 0 ≤ (a + b).toInt ∧ (a + b).toInt ≤ n + 255 := fun a b n hn ha hb => by
    have : (a + b).toInt = a.toInt + b.toInt := by rw [Int32.toInt_add]; apply Int.bmod_eq_of_le <;> omega
    omega
  have r1 := add _ _ 255 (by decide) (q 0 (by decide)) (q 1 (by decide))
  have r2 := add _ _ _ (by decide) r1 (q 2 (by decide))
  have r3 := add _ _ _ (by decide) r2 (q 3 (by decide))
  have r4 := add _ _ _ (by decide) r3 (q 4 (by decide))
  have r5 := add _ _ _ (by decide) r4 (q 5 (by decide))
  have r6 := add _ _ _ (by decide) r5 (q 6 (by decide))
  exact (add _ _ _ (by decide) r6 (q 7 (by decide))).1
theorem own_final (w : Int64) {L H : Nat} (hL : L ≤ 8) (hH : H ≤ 8) (hLH : L ≤ H) (f : Nat → Int32) (hf : ∀ i, i < 8 → f i &&& 255 = own_B w i) : own_acc f L (H - L) 0 &&& 255 = own_E w L H - (own_E w L H / 256) * 256 := by
  rw [← own_E_eq w hL hH hLH f hf]
  apply Int32.toInt_inj.mp
  have e : (256 : Int32).toInt = 256 := by decide
  rw [own_and255, own_remI _ _ (by decide), e, Int.tmod_eq_emod_of_nonneg (own_E_nn w hL hH)]
theorem own_rem9 (q : Int32) : 0 ≤ ((q &&& 2147483647) - ((q &&& 2147483647) / 9) * 9).toInt ∧ ((q &&& 2147483647) - ((q &&& 2147483647) / 9) * 9).toInt ≤ 8 := by
  have h : ¬ (q &&& 2147483647) < 0 := fun q => absurd ((XT.and_neg32 _ _).mp q).2 (by decide)
  have e : (9 : Int32).toInt = 9 := by decide
  have e0 : (0 : Int32).toInt = 0 := rfl
  rw [own_remI _ _ (by decide), e]
  rw [Int32.lt_iff_toInt_lt, e0] at h
  rw [Int.tmod_eq_emod_of_nonneg (by omega)]
  omega
theorem own_lohi {x y : Int32} (hx : 0 ≤ x.toInt ∧ x.toInt ≤ 8) (hy : 0 ≤ y.toInt ∧ y.toInt ≤ 8) : ∃ L H : Nat, own_min x y = Int32.ofNat L ∧ own_max x y = Int32.ofNat H ∧ L ≤ H ∧ H ≤ 8 := by
  have e0 : (0 : Int32).toInt = 0 := rfl
  have nn : ∀ z : Int32, 0 ≤ z.toInt → z = Int32.ofNat z.toNatClampNeg ∧ (z.toNatClampNeg : Int) = z.toInt := fun z hz => own_nat_of (by rw [Int32.lt_iff_toInt_lt, e0]; omega)
  obtain ⟨x1, x2⟩ := nn x hx.1
  obtain ⟨y1, y2⟩ := nn y hy.1
  unfold own_min own_max
  by_cases h : x < y
  · have h' : ¬ y < x := by rw [Int32.lt_iff_toInt_lt] at *; omega
    rw [if_pos h, if_neg h']
    rw [Int32.lt_iff_toInt_lt] at h
    exact ⟨_, _, x1, y1, by omega, by omega⟩
  · by_cases h' : y < x
    · rw [if_neg h, if_pos h']
      rw [Int32.lt_iff_toInt_lt] at h'
      exact ⟨_, _, y1, x1, by omega, by omega⟩
    · rw [if_neg h, if_neg h']
      exact ⟨_, _, x1, x1, by omega, by omega⟩

theorem d1_0 : decode jdk_29_method_69_code 0 = .ok (.iload_n 0, 1) := by decide +kernel
theorem d1_1 : decode jdk_29_method_69_code 1 = .ok (.iload_n 1, 1) := by decide +kernel
theorem d1_2 : decode jdk_29_method_69_code 2 = .ok (.if_icmp .gt 7, 3) := by decide +kernel
theorem d1_5 : decode jdk_29_method_69_code 5 = .ok (.iload_n 0, 1) := by decide +kernel
theorem d1_6 : decode jdk_29_method_69_code 6 = .ok (.goto 4, 3) := by decide +kernel
theorem d1_9 : decode jdk_29_method_69_code 9 = .ok (.iload_n 1, 1) := by decide +kernel
theorem d1_10 : decode jdk_29_method_69_code 10 = .ok (.ireturn, 1) := by decide +kernel
theorem pn_1 : plainFor (⟨"java/lang/Math", "min", "(II)I"⟩ : MethodName) = true := by first | exact plainFor_of_name (by first | (simp [plainName, overriddenIn]; done) | decide +kernel) | decide +kernel
theorem pd_1 : parseMethodDescriptor "(II)I" = some ⟨[.int, .int], some .int⟩ := by decide +kernel
theorem ef_1 (m : MethodId) (x : Int32) (y : Int32) : entryFrame m #[(.int x), (.int y)] 2 = mkF m 0 #[.val (.int x), .val (.int y)] [] := by first | (simp [entryFrame, mkF, argsToLocals, Value.category]; done) | rfl
def Q1 (Z : State) (x : Int32) (y : Int32)  (h0 : Heap) (n0 : Nat) (v : Option Value) (h : Heap) (L : List Loc) : Prop := v = some (.int (own_min x y)) ∧ Fr n0 L ∧ h = h0
set_option maxRecDepth 65536 in
set_option maxHeartbeats 40000000 in
theorem rm1 (l : Launch) (Z : State) (a0 : Array Value) (hw : ∀ d ∈ tables_1, d.before a0 Z = true) (ws : List Jvm.Cond) (x : Int32) (y : Int32)  (h0 : Heap) (n0 : Nat) (Z0 : n0 ≤ h0.size)  :
    MetFree l (⟨"java/lang/Math", "min", "(II)I"⟩ : MethodName) (head1 (Jvm.Cond.code (⟨"java/lang/Math", "min", "(II)I"⟩ : MethodName) jdk_29_method_69_code 2 (some .int) :: ws) ({ frames := 0, cells := 0, slots := 0, locals := 0 } : Room)) (fun as_ U => as_ = #[(.int x), (.int y)] ∧ Z.Warmed39 U.vm ∧ U.heap = h0) (fun _ _ _ _ _ => True) (fun _ U oc U' => ∃ v L, oc = .returned v ∧ Q1 Z x y h0 n0 v U'.heap L ∧ FrameEnd U oc U' L ({ frames := 0, cells := 0, slots := 0, locals := 0 } : Room).cells ({ frames := 0, cells := 0, slots := 0, locals := 0 } : Room).slots) := by
  refine MetFree.of_bodySF pn_1 hisR ?_
  intro p e s m args below meth c s₁ Bd hml0 hP hK
  obtain ⟨rfl, hZ, hh⟩ := hP
  have K : ow_K p e below s m meth c Z "java/lang/Math" jdk_29_method_69_code 2 (some .int) "min" (ow_Gl p e below s (Q1 Z x y h0 n0) 0 0) := ⟨ow_Gl_bc, Bd.exec, Bd.bytes, hml0, findClass_of_methodNamed Bd.named, hZ, Bd.returns, Bd.notSynchronized, (name_of_methodNamed Bd.named Bd.method).1⟩
  have X0 : Stand p l e ({ frames := 0, cells := 0, slots := 0, locals := 0 } : Room) s m #[(.int x), (.int y)] below meth c s₁ [] 0 0 := Stand.of_body Bd
  have e0 : s₁.heap = h0 := by rw [← hh, Bd.state]; rfl
  have N0 := Fr.nil n0
  refine ow_entry (Q := (Q1 Z x y h0 n0)) (ce := 0) (sl := 0) (ef_1 m x y) ?_
  refine ow_iloadN K X0 (pc' := 1) x d1_0 rfl rfl ?_
  refine ow_iloadN K X0 (pc' := 2) y d1_1 rfl rfl ?_
  by_cases hc : y < x
  · refine ow_icmpY K X0 (pc' := 9) d1_2 (XT.ii_gt_t hc) (by decide) (by decide) ?_
    refine ow_iloadN K X0 (pc' := 10) y d1_9 rfl rfl ?_
    exact ow_retI K X0 .int rfl rfl (Or.inl rfl) d1_10 ⟨by rw [own_min, if_pos hc], N0, e0⟩ (by decide) (by decide)
  · refine ow_icmpN K X0 (pc' := 5) d1_2 rfl (XT.ii_gt_f hc) ?_
    refine ow_iloadN K X0 (pc' := 6) x d1_5 rfl rfl ?_
    refine ow_goto K X0 (pc' := 10) d1_6 (by decide) (by decide) ?_
    exact ow_retI K X0 .int rfl rfl (Or.inl rfl) d1_10 ⟨by rw [own_min, if_neg hc], N0, e0⟩ (by decide) (by decide)
theorem d2_0 : decode jdk_29_method_65_code 0 = .ok (.iload_n 0, 1) := by decide +kernel
theorem d2_1 : decode jdk_29_method_65_code 1 = .ok (.iload_n 1, 1) := by decide +kernel
theorem d2_2 : decode jdk_29_method_65_code 2 = .ok (.if_icmp .lt 7, 3) := by decide +kernel
theorem d2_5 : decode jdk_29_method_65_code 5 = .ok (.iload_n 0, 1) := by decide +kernel
theorem d2_6 : decode jdk_29_method_65_code 6 = .ok (.goto 4, 3) := by decide +kernel
theorem d2_9 : decode jdk_29_method_65_code 9 = .ok (.iload_n 1, 1) := by decide +kernel
theorem d2_10 : decode jdk_29_method_65_code 10 = .ok (.ireturn, 1) := by decide +kernel
theorem pn_2 : plainFor (⟨"java/lang/Math", "max", "(II)I"⟩ : MethodName) = true := by first | exact plainFor_of_name (by first | (simp [plainName, overriddenIn]; done) | decide +kernel) | decide +kernel
theorem pd_2 : parseMethodDescriptor "(II)I" = some ⟨[.int, .int], some .int⟩ := by decide +kernel
theorem ef_2 (m : MethodId) (x : Int32) (y : Int32) : entryFrame m #[(.int x), (.int y)] 2 = mkF m 0 #[.val (.int x), .val (.int y)] [] := by first | (simp [entryFrame, mkF, argsToLocals, Value.category]; done) | rfl
def Q2 (Z : State) (x : Int32) (y : Int32)  (h0 : Heap) (n0 : Nat) (v : Option Value) (h : Heap) (L : List Loc) : Prop := v = some (.int (own_max x y)) ∧ Fr n0 L ∧ h = h0
set_option maxRecDepth 65536 in
set_option maxHeartbeats 40000000 in
theorem rm2 (l : Launch) (Z : State) (a0 : Array Value) (hw : ∀ d ∈ tables_1, d.before a0 Z = true) (ws : List Jvm.Cond) (x : Int32) (y : Int32)  (h0 : Heap) (n0 : Nat) (Z0 : n0 ≤ h0.size)  :
    MetFree l (⟨"java/lang/Math", "max", "(II)I"⟩ : MethodName) (head1 (Jvm.Cond.code (⟨"java/lang/Math", "max", "(II)I"⟩ : MethodName) jdk_29_method_65_code 2 (some .int) :: ws) ({ frames := 0, cells := 0, slots := 0, locals := 0 } : Room)) (fun as_ U => as_ = #[(.int x), (.int y)] ∧ Z.Warmed39 U.vm ∧ U.heap = h0) (fun _ _ _ _ _ => True) (fun _ U oc U' => ∃ v L, oc = .returned v ∧ Q2 Z x y h0 n0 v U'.heap L ∧ FrameEnd U oc U' L ({ frames := 0, cells := 0, slots := 0, locals := 0 } : Room).cells ({ frames := 0, cells := 0, slots := 0, locals := 0 } : Room).slots) := by
  refine MetFree.of_bodySF pn_2 hisR ?_
  intro p e s m args below meth c s₁ Bd hml0 hP hK
  obtain ⟨rfl, hZ, hh⟩ := hP
  have K : ow_K p e below s m meth c Z "java/lang/Math" jdk_29_method_65_code 2 (some .int) "max" (ow_Gl p e below s (Q2 Z x y h0 n0) 0 0) := ⟨ow_Gl_bc, Bd.exec, Bd.bytes, hml0, findClass_of_methodNamed Bd.named, hZ, Bd.returns, Bd.notSynchronized, (name_of_methodNamed Bd.named Bd.method).1⟩
  have X0 : Stand p l e ({ frames := 0, cells := 0, slots := 0, locals := 0 } : Room) s m #[(.int x), (.int y)] below meth c s₁ [] 0 0 := Stand.of_body Bd
  have e0 : s₁.heap = h0 := by rw [← hh, Bd.state]; rfl
  have N0 := Fr.nil n0
  refine ow_entry (Q := (Q2 Z x y h0 n0)) (ce := 0) (sl := 0) (ef_2 m x y) ?_
  refine ow_iloadN K X0 (pc' := 1) x d2_0 rfl rfl ?_
  refine ow_iloadN K X0 (pc' := 2) y d2_1 rfl rfl ?_
  by_cases hc : x < y
  · refine ow_icmpY K X0 (pc' := 9) d2_2 (XT.ii_lt_t hc) (by decide) (by decide) ?_
    refine ow_iloadN K X0 (pc' := 10) y d2_9 rfl rfl ?_
    exact ow_retI K X0 .int rfl rfl (Or.inl rfl) d2_10 ⟨by rw [own_max, if_pos hc], N0, e0⟩ (by decide) (by decide)
  · refine ow_icmpN K X0 (pc' := 5) d2_2 rfl (XT.ii_lt_f hc) ?_
    refine ow_iloadN K X0 (pc' := 6) x d2_5 rfl rfl ?_
    refine ow_goto K X0 (pc' := 10) d2_6 (by decide) (by decide) ?_
    exact ow_retI K X0 .int rfl rfl (Or.inl rfl) d2_10 ⟨by rw [own_max, if_neg hc], N0, e0⟩ (by decide) (by decide)
theorem d3_0 : decode method_3_code 0 = .ok (.iload_n 2, 1) := by decide +kernel
theorem d3_1 : decode method_3_code 1 = .ok (.iload_n 3, 1) := by decide +kernel
theorem d3_2 : decode method_3_code 2 = .ok (.if_icmp .lt 9, 3) := by decide +kernel
theorem d3_5 : decode method_3_code 5 = .ok (.iload_n 2, 1) := by decide +kernel
theorem d3_6 : decode method_3_code 6 = .ok (.iload 4, 2) := by decide +kernel
theorem d3_8 : decode method_3_code 8 = .ok (.if_icmp .lt 5, 3) := by decide +kernel
theorem d3_11 : decode method_3_code 11 = .ok (.iconst 0, 1) := by decide +kernel
theorem d3_12 : decode method_3_code 12 = .ok (.ireturn, 1) := by decide +kernel
theorem d3_13 : decode method_3_code 13 = .ok (.lload_n 0, 1) := by decide +kernel
theorem d3_14 : decode method_3_code 14 = .ok (.bipush 8, 2) := by decide +kernel
theorem d3_16 : decode method_3_code 16 = .ok (.iload_n 2, 1) := by decide +kernel
theorem d3_17 : decode method_3_code 17 = .ok (.imul, 1) := by decide +kernel
theorem d3_18 : decode method_3_code 18 = .ok (.lushr, 1) := by decide +kernel
theorem d3_19 : decode method_3_code 19 = .ok (.ldc2_w 29, 3) := by decide +kernel
theorem d3_22 : decode method_3_code 22 = .ok (.land, 1) := by decide +kernel
theorem d3_23 : decode method_3_code 23 = .ok (.l2i, 1) := by decide +kernel
theorem d3_24 : decode method_3_code 24 = .ok (.ireturn, 1) := by decide +kernel
theorem pn_3 : plainFor (⟨"com/example/serialyte/serialyte/link/ChecksumOfPinLaw", "part", "(JIII)I"⟩ : MethodName) = true := by first | exact plainFor_of_name (by first | (simp [plainName, overriddenIn]; done) | decide +kernel) | decide +kernel
theorem pd_3 : parseMethodDescriptor "(JIII)I" = some ⟨[.long, .int, .int, .int], some .int⟩ := by decide +kernel
theorem ef_3 (m : MethodId) (w : Int64) (i : Int32) (lo : Int32) (hi : Int32) : entryFrame m #[(.long w), (.int i), (.int lo), (.int hi)] 5 = mkF m 0 #[.val (.long w), .second, .val (.int i), .val (.int lo), .val (.int hi)] [] := by first | (simp [entryFrame, mkF, argsToLocals, Value.category]; done) | rfl
def Q3 (Z : State) (w : Int64) (i : Int32) (lo : Int32) (hi : Int32)  (h0 : Heap) (n0 : Nat) (v : Option Value) (h : Heap) (L : List Loc) : Prop := v = some (.int (own_part w i lo hi)) ∧ Fr n0 L ∧ h = h0
set_option maxRecDepth 65536 in
set_option maxHeartbeats 40000000 in
theorem rm3 (l : Launch) (Z : State) (a0 : Array Value) (hw : ∀ d ∈ tables_1, d.before a0 Z = true) (ws : List Jvm.Cond) (w : Int64) (i : Int32) (lo : Int32) (hi : Int32)  (h0 : Heap) (n0 : Nat) (Z0 : n0 ≤ h0.size)  :
    MetFree l (⟨"com/example/serialyte/serialyte/link/ChecksumOfPinLaw", "part", "(JIII)I"⟩ : MethodName) (head1 (Jvm.Cond.code (⟨"com/example/serialyte/serialyte/link/ChecksumOfPinLaw", "part", "(JIII)I"⟩ : MethodName) method_3_code 5 (some .int) :: ws) ({ frames := 0, cells := 0, slots := 0, locals := 0 } : Room)) (fun as_ U => as_ = #[(.long w), (.int i), (.int lo), (.int hi)] ∧ Z.Warmed39 U.vm ∧ U.heap = h0) (fun _ _ _ _ _ => True) (fun _ U oc U' => ∃ v L, oc = .returned v ∧ Q3 Z w i lo hi h0 n0 v U'.heap L ∧ FrameEnd U oc U' L ({ frames := 0, cells := 0, slots := 0, locals := 0 } : Room).cells ({ frames := 0, cells := 0, slots := 0, locals := 0 } : Room).slots) := by
  refine MetFree.of_bodySF pn_3 hisR ?_
  intro p e s m args below meth c s₁ Bd hml0 hP hK
  obtain ⟨rfl, hZ, hh⟩ := hP
  have K : ow_K p e below s m meth c Z "com/example/serialyte/serialyte/link/ChecksumOfPinLaw" method_3_code 5 (some .int) "part" (ow_Gl p e below s (Q3 Z w i lo hi h0 n0) 0 0) := ⟨ow_Gl_bc, Bd.exec, Bd.bytes, hml0, findClass_of_methodNamed Bd.named, hZ, Bd.returns, Bd.notSynchronized, (name_of_methodNamed Bd.named Bd.method).1⟩
  have X0 : Stand p l e ({ frames := 0, cells := 0, slots := 0, locals := 0 } : Room) s m #[(.long w), (.int i), (.int lo), (.int hi)] below meth c s₁ [] 0 0 := Stand.of_body Bd
  have e0 : s₁.heap = h0 := by rw [← hh, Bd.state]; rfl
  have N0 := Fr.nil n0
  refine ow_entry (Q := (Q3 Z w i lo hi h0 n0)) (ce := 0) (sl := 0) (ef_3 m w i lo hi) ?_
  refine ow_iloadN K X0 (pc' := 1) i d3_0 rfl rfl ?_
  refine ow_iloadN K X0 (pc' := 2) lo d3_1 rfl rfl ?_
  by_cases h1 : i < lo
  · refine ow_icmpY K X0 (pc' := 11) d3_2 (XT.ii_lt_t h1) (by decide) (by decide) ?_
    refine ow_iconst K X0 (pc' := 12) (0 : Int32) d3_11 rfl (by decide) ?_
    exact ow_retI K X0 .int rfl rfl (Or.inl rfl) d3_12 ⟨by rw [own_part, if_pos h1], N0, e0⟩ (by decide) (by decide)
  · refine ow_icmpN K X0 (pc' := 5) d3_2 rfl (XT.ii_lt_f h1) ?_
    refine ow_iloadN K X0 (pc' := 6) i d3_5 rfl rfl ?_
    refine ow_iload K X0 (pc' := 8) hi d3_6 rfl rfl ?_
    by_cases h2 : i < hi
    · refine ow_icmpY K X0 (pc' := 13) d3_8 (XT.ii_lt_t h2) (by decide) (by decide) ?_
      refine ow_lloadN K X0 (pc' := 14) w d3_13 rfl rfl ?_
      refine ow_bipush K X0 (pc' := 16) (8 : Int32) d3_14 rfl (by decide) ?_
      refine ow_iloadN K X0 (pc' := 17) i d3_16 rfl rfl ?_
      refine ow_imul K X0 (pc' := 18) ((8 : Int32) * i) d3_17 rfl rfl ?_
      refine ow_lushr K X0 (pc' := 19) (XT.ushrL w ((8 : Int32) * i)) d3_18 rfl rfl ?_
      refine ow_ldc2 K X0 (pc' := 22) (255 : Int64) d3_19 rfl (hw _ (List.mem_of_getElem? (i := 13) rfl)) ?_
      refine ow_land K X0 (pc' := 23) ((XT.ushrL w ((8 : Int32) * i)) &&& (255 : Int64)) d3_22 rfl rfl ?_
      refine ow_l2i K X0 (pc' := 24) ((((XT.ushrL w ((8 : Int32) * i)) &&& (255 : Int64))).toInt32) d3_23 rfl rfl ?_
      exact ow_retI K X0 .int rfl rfl (Or.inl rfl) d3_24 ⟨by rw [own_part, if_neg h1, if_pos h2], N0, e0⟩ (by decide) (by decide)
    · refine ow_icmpN K X0 (pc' := 11) d3_8 rfl (XT.ii_lt_f h2) ?_
      refine ow_iconst K X0 (pc' := 12) (0 : Int32) d3_11 rfl (by decide) ?_
      exact ow_retI K X0 .int rfl rfl (Or.inl rfl) d3_12 ⟨by rw [own_part, if_neg h1, if_neg h2], N0, e0⟩ (by decide) (by decide)
theorem d4_0 : decode prog_31_method_2_code 0 = .ok (.iconst 0, 1) := by decide +kernel
theorem d4_1 : decode prog_31_method_2_code 1 = .ok (.istore_n 3, 1) := by decide +kernel
theorem d4_2 : decode prog_31_method_2_code 2 = .ok (.iload_n 1, 1) := by decide +kernel
theorem d4_3 : decode prog_31_method_2_code 3 = .ok (.istore 4, 2) := by decide +kernel
theorem d4_5 : decode prog_31_method_2_code 5 = .ok (.iload 4, 2) := by decide +kernel
theorem d4_7 : decode prog_31_method_2_code 7 = .ok (.iload_n 2, 1) := by decide +kernel
theorem d4_8 : decode prog_31_method_2_code 8 = .ok (.if_icmp .ge 20, 3) := by decide +kernel
theorem d4_11 : decode prog_31_method_2_code 11 = .ok (.iload_n 3, 1) := by decide +kernel
theorem d4_12 : decode prog_31_method_2_code 12 = .ok (.aload_n 0, 1) := by decide +kernel
theorem d4_13 : decode prog_31_method_2_code 13 = .ok (.iload 4, 2) := by decide +kernel
theorem d4_15 : decode prog_31_method_2_code 15 = .ok (.baload, 1) := by decide +kernel
theorem d4_16 : decode prog_31_method_2_code 16 = .ok (.sipush 255, 3) := by decide +kernel
theorem d4_19 : decode prog_31_method_2_code 19 = .ok (.iand, 1) := by decide +kernel
theorem d4_20 : decode prog_31_method_2_code 20 = .ok (.iadd, 1) := by decide +kernel
theorem d4_21 : decode prog_31_method_2_code 21 = .ok (.istore_n 3, 1) := by decide +kernel
theorem d4_22 : decode prog_31_method_2_code 22 = .ok (.iinc 4 1, 3) := by decide +kernel
theorem d4_25 : decode prog_31_method_2_code 25 = .ok (.goto (-20), 3) := by decide +kernel
theorem d4_28 : decode prog_31_method_2_code 28 = .ok (.iload_n 3, 1) := by decide +kernel
theorem d4_29 : decode prog_31_method_2_code 29 = .ok (.sipush 255, 3) := by decide +kernel
theorem d4_32 : decode prog_31_method_2_code 32 = .ok (.iand, 1) := by decide +kernel
theorem d4_33 : decode prog_31_method_2_code 33 = .ok (.ireturn, 1) := by decide +kernel
set_option maxRecDepth 65536 in
set_option maxHeartbeats 40000000 in
theorem lp4 {p : Program} {l : Launch} {e : Env} {R : Room} {s : State} {m : MethodId} {args : Array Value} {below : List Frame} {meth : Method} {c : Code} {T : State} {locs : List Loc} {cells slots : Nat} {Z : State} {h : Heap} {G : State → Prop} (K : ow_K p e below s m meth c Z "com/example/serialyte/serialyte/link/Checksum" prog_31_method_2_code 5 (some .int) "of" G) (X0 : Stand p l e R s m args below meth c T locs cells slots) (e0 : T.heap = h) {a : Addr} {k : ClassId} {vs : List Value} (F : Arv Z h a k .byte (8 : Int32) vs (.int 0)) (f : Nat → Int32) (hf : ∀ i, i < 8 → vs.getD i (.int 0) = .int (f i)) {a1 H : Nat} (hH : H ≤ 8) (d : Nat) : ∀ (i : Nat) (S : Int32), i + d = H → G (T.setTop (mkF m 28 #[.val (.ref a), .val (.int (Int32.ofNat a1)), .val (.int (Int32.ofNat H)), .val (.int (own_acc f i d S)), .val (.int (Int32.ofNat H))] [])) → G (T.setTop (mkF m 5 #[.val (.ref a), .val (.int (Int32.ofNat a1)), .val (.int (Int32.ofNat H)), .val (.int S), .val (.int (Int32.ofNat i))] [])) := by
  induction d with
  | zero =>
    intro i S hi hk
    obtain rfl : i = H := hi
    refine ow_iload K X0 (pc' := 7) (Int32.ofNat i) d4_5 rfl rfl ?_
    refine ow_iloadN K X0 (pc' := 8) (Int32.ofNat i) d4_7 rfl rfl ?_
    refine ow_icmpY K X0 (pc' := 28) d4_8 (XT.ii_ge_t (own_gen (Nat.le_refl i) (by omega))) (by decide) (by decide) ?_
    exact hk
  | succ d ih =>
    intro i S hi hk
    refine ow_iload K X0 (pc' := 7) (Int32.ofNat i) d4_5 rfl rfl ?_
    refine ow_iloadN K X0 (pc' := 8) (Int32.ofNat H) d4_7 rfl rfl ?_
    refine ow_icmpN K X0 (pc' := 11) d4_8 rfl (XT.ii_ge_f (own_ltn (by omega) (by omega))) ?_
    refine ow_iloadN K X0 (pc' := 12) S d4_11 rfl rfl ?_
    refine ow_aloadN K X0 (pc' := 13) a d4_12 rfl rfl ?_
    refine ow_iload K X0 (pc' := 15) (Int32.ofNat i) d4_13 rfl rfl ?_
    refine ow_baload K X0 (pc' := 16) e0 F i (.int (f i)) (ow_ix_nat (by omega)) (by show i < 8; omega) (hf i (by omega)) d4_15 rfl ?_
    refine ow_sipush K X0 (pc' := 19) (255 : Int32) d4_16 rfl (by decide) ?_
    refine ow_iand K X0 (pc' := 20) ((f i) &&& (255 : Int32)) d4_19 rfl rfl ?_
    refine ow_iadd K X0 (pc' := 21) (S + ((f i) &&& (255 : Int32))) d4_20 rfl rfl ?_
    refine ow_istoreN K X0 (pc' := 22) (Ls' := #[.val (.ref a), .val (.int (Int32.ofNat a1)), .val (.int (Int32.ofNat H)), .val (.int (S + ((f i) &&& (255 : Int32)))), .val (.int (Int32.ofNat i))]) d4_21 rfl rfl ?_
    refine ow_iinc K X0 (pc' := 25) (Ls' := #[.val (.ref a), .val (.int (Int32.ofNat a1)), .val (.int (Int32.ofNat H)), .val (.int (S + ((f i) &&& (255 : Int32)))), .val (.int (Int32.ofNat (i + 1)))]) (1 : Int32) (Int32.ofNat (i + 1)) d4_22 rfl (by decide) rfl (own_succ (by omega)) rfl ?_
    refine ow_goto K X0 (pc' := 5) d4_25 (by decide) (by decide) ?_
    exact ih (i + 1) _ (by omega) hk
theorem pn_4 : plainFor (⟨"com/example/serialyte/serialyte/link/Checksum", "of", "([BII)I"⟩ : MethodName) = true := by first | exact plainFor_of_name (by first | (simp [plainName, overriddenIn]; done) | decide +kernel) | decide +kernel
theorem pd_4 : parseMethodDescriptor "([BII)I" = some ⟨[(.array .byte), .int, .int], some .int⟩ := by decide +kernel
theorem ef_4 (m : MethodId) (a : Addr) (x1 : Int32) (x2 : Int32) : entryFrame m #[(.ref a), (.int x1), (.int x2)] 5 = mkF m 0 #[.val (.ref a), .val (.int x1), .val (.int x2), .unset, .unset] [] := by first | (simp [entryFrame, mkF, argsToLocals, Value.category]; done) | rfl
def Q4 (Z : State) (a : Addr) (x1 : Int32) (x2 : Int32) (a1 : Nat) (H : Nat) (k : ClassId) (vs : List Value) (f : Nat → Int32) (h0 : Heap) (n0 : Nat) (v : Option Value) (h : Heap) (L : List Loc) : Prop := v = some (.int ((own_acc f a1 (H - a1) 0) &&& 255)) ∧ Fr n0 L ∧ h = h0
set_option maxRecDepth 65536 in
set_option maxHeartbeats 40000000 in
theorem rm4 (l : Launch) (Z : State) (a0 : Array Value) (hw : ∀ d ∈ tables_1, d.before a0 Z = true) (ws : List Jvm.Cond) (a : Addr) (x1 : Int32) (x2 : Int32) (a1 : Nat) (H : Nat) (k : ClassId) (vs : List Value) (f : Nat → Int32) (h0 : Heap) (n0 : Nat) (Z0 : n0 ≤ h0.size) (hx1 : x1 = Int32.ofNat a1) (hx2 : x2 = Int32.ofNat H) (F : Arv Z h0 a k .byte (8 : Int32) vs (.int 0)) (hf : ∀ i, i < 8 → vs.getD i (.int 0) = .int (f i)) (hH : H ≤ 8) (hLH : a1 ≤ H) :
    MetFree l (⟨"com/example/serialyte/serialyte/link/Checksum", "of", "([BII)I"⟩ : MethodName) (head1 (Jvm.Cond.code (⟨"com/example/serialyte/serialyte/link/Checksum", "of", "([BII)I"⟩ : MethodName) prog_31_method_2_code 5 (some .int) :: ws) ({ frames := 0, cells := 0, slots := 0, locals := 0 } : Room)) (fun as_ U => as_ = #[(.ref a), (.int x1), (.int x2)] ∧ Z.Warmed39 U.vm ∧ U.heap = h0) (fun _ _ _ _ _ => True) (fun _ U oc U' => ∃ v L, oc = .returned v ∧ Q4 Z a x1 x2 a1 H k vs f h0 n0 v U'.heap L ∧ FrameEnd U oc U' L ({ frames := 0, cells := 0, slots := 0, locals := 0 } : Room).cells ({ frames := 0, cells := 0, slots := 0, locals := 0 } : Room).slots) := by
  refine MetFree.of_bodySF pn_4 hisR ?_
  intro p e s m args below meth c s₁ Bd hml0 hP hK
  obtain ⟨rfl, hZ, hh⟩ := hP
  have K : ow_K p e below s m meth c Z "com/example/serialyte/serialyte/link/Checksum" prog_31_method_2_code 5 (some .int) "of" (ow_Gl p e below s (Q4 Z a x1 x2 a1 H k vs f h0 n0) 0 0) := ⟨ow_Gl_bc, Bd.exec, Bd.bytes, hml0, findClass_of_methodNamed Bd.named, hZ, Bd.returns, Bd.notSynchronized, (name_of_methodNamed Bd.named Bd.method).1⟩
  have X0 : Stand p l e ({ frames := 0, cells := 0, slots := 0, locals := 0 } : Room) s m #[(.ref a), (.int x1), (.int x2)] below meth c s₁ [] 0 0 := Stand.of_body Bd
  have e0 : s₁.heap = h0 := by rw [← hh, Bd.state]; rfl
  have N0 := Fr.nil n0
  refine ow_entry (Q := (Q4 Z a x1 x2 a1 H k vs f h0 n0)) (ce := 0) (sl := 0) (ef_4 m a x1 x2) ?_
  subst hx1 hx2
  refine ow_iconst K X0 (pc' := 1) (0 : Int32) d4_0 rfl (by decide) ?_
  refine ow_istoreN K X0 (pc' := 2) (Ls' := #[.val (.ref a), .val (.int (Int32.ofNat a1)), .val (.int (Int32.ofNat H)), .val (.int (0 : Int32)), .unset]) d4_1 rfl rfl ?_
  refine ow_iloadN K X0 (pc' := 3) (Int32.ofNat a1) d4_2 rfl rfl ?_
  refine ow_istore K X0 (pc' := 5) (Ls' := #[.val (.ref a), .val (.int (Int32.ofNat a1)), .val (.int (Int32.ofNat H)), .val (.int (0 : Int32)), .val (.int (Int32.ofNat a1))]) d4_3 rfl rfl ?_
  refine lp4 K X0 e0 F f hf hH (H - a1) a1 0 (by omega) ?_
  refine ow_iloadN K X0 (pc' := 29) (own_acc f a1 (H - a1) 0) d4_28 rfl rfl ?_
  refine ow_sipush K X0 (pc' := 32) (255 : Int32) d4_29 rfl (by decide) ?_
  refine ow_iand K X0 (pc' := 33) ((own_acc f a1 (H - a1) 0) &&& (255 : Int32)) d4_32 rfl rfl ?_
  exact ow_retI K X0 .int rfl rfl (Or.inl rfl) d4_33 ⟨rfl, N0, e0⟩ (by decide) (by decide)
def Q0 (n0 : Nat) (v : Option Value) (h : Heap) (L : List Loc) : Prop := v = some (.int 1) ∧ Fr n0 L
def own_f (q0 : Int64) (i : Nat) : Int32 := nar .byte ((XT.ushrL q0 (8 * Int32.ofNat i)).toInt32.toInt8.toInt32)
theorem own_f_at (q0 : Int64) : ∀ i, i < 8 → ([.int (nar .byte (q0.toInt32.toInt8.toInt32)), .int (nar .byte ((XT.ushrL q0 (8 : Int32)).toInt32.toInt8.toInt32)), .int (nar .byte ((XT.ushrL q0 (16 : Int32)).toInt32.toInt8.toInt32)), .int (nar .byte ((XT.ushrL q0 (24 : Int32)).toInt32.toInt8.toInt32)), .int (nar .byte ((XT.ushrL q0 (32 : Int32)).toInt32.toInt8.toInt32)), .int (nar .byte ((XT.ushrL q0 (40 : Int32)).toInt32.toInt8.toInt32)), .int (nar .byte ((XT.ushrL q0 (48 : Int32)).toInt32.toInt8.toInt32)), .int (nar .byte ((XT.ushrL q0 (56 : Int32)).toInt32.toInt8.toInt32))] : List Value).getD i (.int 0) = .int (own_f q0 i) := fun i hi => by
  have c : i = 0 ∨ i = 1 ∨ i = 2 ∨ i = 3 ∨ i = 4 ∨ i = 5 ∨ i = 6 ∨ i = 7 := by omega
  rcases c with rfl | rfl | rfl | rfl | rfl | rfl | rfl | rfl
  · show Value.int (nar .byte (q0.toInt32.toInt8.toInt32)) = .int (own_f q0 0)
    rw [own_f, show (8 : Int32) * Int32.ofNat 0 = 0 from by decide, own_sh0]
  · show Value.int (nar .byte ((XT.ushrL q0 (8 : Int32)).toInt32.toInt8.toInt32)) = .int (own_f q0 1)
    rw [own_f, show (8 : Int32) * Int32.ofNat 1 = 8 from by decide]
  · show Value.int (nar .byte ((XT.ushrL q0 (16 : Int32)).toInt32.toInt8.toInt32)) = .int (own_f q0 2)
    rw [own_f, show (8 : Int32) * Int32.ofNat 2 = 16 from by decide]
  · show Value.int (nar .byte ((XT.ushrL q0 (24 : Int32)).toInt32.toInt8.toInt32)) = .int (own_f q0 3)
    rw [own_f, show (8 : Int32) * Int32.ofNat 3 = 24 from by decide]
  · show Value.int (nar .byte ((XT.ushrL q0 (32 : Int32)).toInt32.toInt8.toInt32)) = .int (own_f q0 4)
    rw [own_f, show (8 : Int32) * Int32.ofNat 4 = 32 from by decide]
  · show Value.int (nar .byte ((XT.ushrL q0 (40 : Int32)).toInt32.toInt8.toInt32)) = .int (own_f q0 5)
    rw [own_f, show (8 : Int32) * Int32.ofNat 5 = 40 from by decide]
  · show Value.int (nar .byte ((XT.ushrL q0 (48 : Int32)).toInt32.toInt8.toInt32)) = .int (own_f q0 6)
    rw [own_f, show (8 : Int32) * Int32.ofNat 6 = 48 from by decide]
  · show Value.int (nar .byte ((XT.ushrL q0 (56 : Int32)).toInt32.toInt8.toInt32)) = .int (own_f q0 7)
    rw [own_f, show (8 : Int32) * Int32.ofNat 7 = 56 from by decide]
theorem own_f_B (q0 : Int64) : ∀ i, i < 8 → own_f q0 i &&& 255 = own_B q0 i := fun i _ => by rw [own_f, own_byteL]; rfl
set_option maxRecDepth 65536 in
set_option maxHeartbeats 40000000 in
theorem t103 {p : Program} {l : Launch} {e : Env} {s : State} {m : MethodId} {args : Array Value} {below : List Frame} {meth : Method} {c : Code} {T : State} {locs : List Loc} {Z : State} {h : Heap} {a0 : Array Value} (hw : ∀ d ∈ tables_1, d.before a0 Z = true) {n0 : Nat} {q0 : Int64} {q1 q2 x y : Int32} {a : Addr} {k : ClassId} (K : ow_K p e below s m meth c Z "com/example/serialyte/serialyte/link/ChecksumOfPinLaw" code 11 (some .boolean) "law" (ow_Gl p e below s (Q0 n0) 1 8)) (X0 : Stand p l e room_1 s m args below meth c T locs 1 8) (e0 : T.heap = h) (N0 : Fr n0 locs) (Z0 : n0 ≤ h.size) (F : Arv Z h a k .byte (8 : Int32) [.int (nar .byte (q0.toInt32.toInt8.toInt32)), .int (nar .byte ((XT.ushrL q0 (8 : Int32)).toInt32.toInt8.toInt32)), .int (nar .byte ((XT.ushrL q0 (16 : Int32)).toInt32.toInt8.toInt32)), .int (nar .byte ((XT.ushrL q0 (24 : Int32)).toInt32.toInt8.toInt32)), .int (nar .byte ((XT.ushrL q0 (32 : Int32)).toInt32.toInt8.toInt32)), .int (nar .byte ((XT.ushrL q0 (40 : Int32)).toInt32.toInt8.toInt32)), .int (nar .byte ((XT.ushrL q0 (48 : Int32)).toInt32.toInt8.toInt32)), .int (nar .byte ((XT.ushrL q0 (56 : Int32)).toInt32.toInt8.toInt32))] (.int 0)) (hx : 0 ≤ x.toInt ∧ x.toInt ≤ 8) (hy : 0 ≤ y.toInt ∧ y.toInt ≤ 8) :
    ow_Gl p e below s (Q0 n0) 1 8 (T.setTop (mkF m 103 #[.val (.long q0), .second, .val (.int q1), .val (.int q2), .val (.ref a), .val (.int x), .val (.int y), .unset, .unset, .unset, .unset] [])) := by
  obtain ⟨L, H, hL, hH, hLH, h8⟩ := own_lohi hx hy
  refine ow_iload K X0 (pc' := 105) x at_103 rfl rfl ?_
  refine ow_iload K X0 (pc' := 107) y at_105 rfl rfl ?_
  refine ow_callS K X0 (pc' := 110) e0 (y := (⟨"java/lang/Math", "min", "(II)I"⟩ : MethodName)) (rm1 l Z a0 hw [] x y h n0 Z0) (hw _ (List.mem_of_getElem? (i := 2) rfl)) (hw _ (List.mem_of_getElem? (i := 3) rfl)) (hw _ (List.mem_of_getElem? (i := 4) rfl)) (hw _ (List.mem_of_getElem? (i := 5) rfl)) (by decide) (st := []) 0 (Nat.le_of_eq rfl) (by decide) (by decide) (by decide) (by decide) rfl [.int x, .int y] rfl (lenOf pd_1 rfl) rfl at_107 rfl ?_
  intro v1 T1 L1 X1 hQ1
  obtain ⟨rfl, NN1, ex1⟩ := hQ1
  have NX1 := Fr.app N0 NN1
  refine ow_at (g := (mkF m 110 #[.val (.long q0), .second, .val (.int q1), .val (.int q2), .val (.ref a), .val (.int x), .val (.int y), .unset, .unset, .unset, .unset] [.int (own_min x y)])) ?_
  rw [hL]
  refine ow_istore K X1 (pc' := 112) (Ls' := #[.val (.long q0), .second, .val (.int q1), .val (.int q2), .val (.ref a), .val (.int x), .val (.int y), .val (.int (Int32.ofNat L)), .unset, .unset, .unset]) at_110 rfl rfl ?_
  refine ow_iload K X1 (pc' := 114) x at_112 rfl rfl ?_
  refine ow_iload K X1 (pc' := 116) y at_114 rfl rfl ?_
  refine ow_callS K X1 (pc' := 119) ex1 (y := (⟨"java/lang/Math", "max", "(II)I"⟩ : MethodName)) (rm2 l Z a0 hw [] x y h n0 Z0) (hw _ (List.mem_of_getElem? (i := 6) rfl)) (hw _ (List.mem_of_getElem? (i := 7) rfl)) (hw _ (List.mem_of_getElem? (i := 4) rfl)) (hw _ (List.mem_of_getElem? (i := 8) rfl)) (by decide) (st := []) 0 (Nat.le_of_eq rfl) (by decide) (by decide) (by decide) (by decide) rfl [.int x, .int y] rfl (lenOf pd_2 rfl) rfl at_116 rfl ?_
  intro v2 T2 L2 X2 hQ2
  obtain ⟨rfl, NN2, ex2⟩ := hQ2
  have NX2 := Fr.app NX1 NN2
  refine ow_at (g := (mkF m 119 #[.val (.long q0), .second, .val (.int q1), .val (.int q2), .val (.ref a), .val (.int x), .val (.int y), .val (.int (Int32.ofNat L)), .unset, .unset, .unset] [.int (own_max x y)])) ?_
  rw [hH]
  refine ow_istore K X2 (pc' := 121) (Ls' := #[.val (.long q0), .second, .val (.int q1), .val (.int q2), .val (.ref a), .val (.int x), .val (.int y), .val (.int (Int32.ofNat L)), .val (.int (Int32.ofNat H)), .unset, .unset]) at_119 rfl rfl ?_
  refine ow_lloadN K X2 (pc' := 122) q0 at_121 rfl rfl ?_
  refine ow_iconst K X2 (pc' := 123) (0 : Int32) at_122 rfl (by decide) ?_
  refine ow_iload K X2 (pc' := 125) (Int32.ofNat L) at_123 rfl rfl ?_
  refine ow_iload K X2 (pc' := 127) (Int32.ofNat H) at_125 rfl rfl ?_
  refine ow_callS K X2 (pc' := 130) ex2 (y := (⟨"com/example/serialyte/serialyte/link/ChecksumOfPinLaw", "part", "(JIII)I"⟩ : MethodName)) (rm3 l Z a0 hw [] q0 (0 : Int32) (Int32.ofNat L) (Int32.ofNat H) h n0 Z0) (hw _ (List.mem_of_getElem? (i := 9) rfl)) (hw _ (List.mem_of_getElem? (i := 10) rfl)) (hw _ (List.mem_of_getElem? (i := 11) rfl)) (hw _ (List.mem_of_getElem? (i := 12) rfl)) (by decide) (st := []) 0 (Nat.le_of_eq rfl) (by decide) (by decide) (by decide) (by decide) rfl [.long q0, .int (0 : Int32), .int (Int32.ofNat L), .int (Int32.ofNat H)] rfl (lenOf pd_3 rfl) rfl at_127 rfl ?_
  intro v3 T3 L3 X3 hQ3
  obtain ⟨rfl, NN3, ex3⟩ := hQ3
  have NX3 := Fr.app NX2 NN3
  refine ow_at (g := (mkF m 130 #[.val (.long q0), .second, .val (.int q1), .val (.int q2), .val (.ref a), .val (.int x), .val (.int y), .val (.int (Int32.ofNat L)), .val (.int (Int32.ofNat H)), .unset, .unset] [.int (own_part q0 (0 : Int32) (Int32.ofNat L) (Int32.ofNat H))])) ?_
  refine ow_lloadN K X3 (pc' := 131) q0 at_130 rfl rfl ?_
  refine ow_iconst K X3 (pc' := 132) (1 : Int32) at_131 rfl (by decide) ?_
  refine ow_iload K X3 (pc' := 134) (Int32.ofNat L) at_132 rfl rfl ?_
  refine ow_iload K X3 (pc' := 136) (Int32.ofNat H) at_134 rfl rfl ?_
  refine ow_callS K X3 (pc' := 139) ex3 (y := (⟨"com/example/serialyte/serialyte/link/ChecksumOfPinLaw", "part", "(JIII)I"⟩ : MethodName)) (rm3 l Z a0 hw [] q0 (1 : Int32) (Int32.ofNat L) (Int32.ofNat H) h n0 Z0) (hw _ (List.mem_of_getElem? (i := 9) rfl)) (hw _ (List.mem_of_getElem? (i := 10) rfl)) (hw _ (List.mem_of_getElem? (i := 11) rfl)) (hw _ (List.mem_of_getElem? (i := 12) rfl)) (by decide) (st := [.int (own_part q0 (0 : Int32) (Int32.ofNat L) (Int32.ofNat H))]) 1 (Nat.le_of_eq rfl) (by decide) (by decide) (by decide) (by decide) rfl [.long q0, .int (1 : Int32), .int (Int32.ofNat L), .int (Int32.ofNat H)] rfl (lenOf pd_3 rfl) rfl at_136 rfl ?_
  intro v4 T4 L4 X4 hQ4
  obtain ⟨rfl, NN4, ex4⟩ := hQ4
  have NX4 := Fr.app NX3 NN4
  refine ow_at (g := (mkF m 139 #[.val (.long q0), .second, .val (.int q1), .val (.int q2), .val (.ref a), .val (.int x), .val (.int y), .val (.int (Int32.ofNat L)), .val (.int (Int32.ofNat H)), .unset, .unset] [.int (own_part q0 (1 : Int32) (Int32.ofNat L) (Int32.ofNat H)), .int (own_part q0 (0 : Int32) (Int32.ofNat L) (Int32.ofNat H))])) ?_
  refine ow_iadd K X4 (pc' := 140) ((own_part q0 (0 : Int32) (Int32.ofNat L) (Int32.ofNat H)) + (own_part q0 (1 : Int32) (Int32.ofNat L) (Int32.ofNat H))) at_139 rfl rfl ?_
  refine ow_lloadN K X4 (pc' := 141) q0 at_140 rfl rfl ?_
  refine ow_iconst K X4 (pc' := 142) (2 : Int32) at_141 rfl (by decide) ?_
  refine ow_iload K X4 (pc' := 144) (Int32.ofNat L) at_142 rfl rfl ?_
  refine ow_iload K X4 (pc' := 146) (Int32.ofNat H) at_144 rfl rfl ?_
  refine ow_callS K X4 (pc' := 149) ex4 (y := (⟨"com/example/serialyte/serialyte/link/ChecksumOfPinLaw", "part", "(JIII)I"⟩ : MethodName)) (rm3 l Z a0 hw [] q0 (2 : Int32) (Int32.ofNat L) (Int32.ofNat H) h n0 Z0) (hw _ (List.mem_of_getElem? (i := 9) rfl)) (hw _ (List.mem_of_getElem? (i := 10) rfl)) (hw _ (List.mem_of_getElem? (i := 11) rfl)) (hw _ (List.mem_of_getElem? (i := 12) rfl)) (by decide) (st := [.int ((own_part q0 (0 : Int32) (Int32.ofNat L) (Int32.ofNat H)) + (own_part q0 (1 : Int32) (Int32.ofNat L) (Int32.ofNat H)))]) 1 (Nat.le_of_eq rfl) (by decide) (by decide) (by decide) (by decide) rfl [.long q0, .int (2 : Int32), .int (Int32.ofNat L), .int (Int32.ofNat H)] rfl (lenOf pd_3 rfl) rfl at_146 rfl ?_
  intro v5 T5 L5 X5 hQ5
  obtain ⟨rfl, NN5, ex5⟩ := hQ5
  have NX5 := Fr.app NX4 NN5
  refine ow_at (g := (mkF m 149 #[.val (.long q0), .second, .val (.int q1), .val (.int q2), .val (.ref a), .val (.int x), .val (.int y), .val (.int (Int32.ofNat L)), .val (.int (Int32.ofNat H)), .unset, .unset] [.int (own_part q0 (2 : Int32) (Int32.ofNat L) (Int32.ofNat H)), .int ((own_part q0 (0 : Int32) (Int32.ofNat L) (Int32.ofNat H)) + (own_part q0 (1 : Int32) (Int32.ofNat L) (Int32.ofNat H)))])) ?_
  refine ow_iadd K X5 (pc' := 150) (((own_part q0 (0 : Int32) (Int32.ofNat L) (Int32.ofNat H)) + (own_part q0 (1 : Int32) (Int32.ofNat L) (Int32.ofNat H))) + (own_part q0 (2 : Int32) (Int32.ofNat L) (Int32.ofNat H))) at_149 rfl rfl ?_
  refine ow_lloadN K X5 (pc' := 151) q0 at_150 rfl rfl ?_
  refine ow_iconst K X5 (pc' := 152) (3 : Int32) at_151 rfl (by decide) ?_
  refine ow_iload K X5 (pc' := 154) (Int32.ofNat L) at_152 rfl rfl ?_
  refine ow_iload K X5 (pc' := 156) (Int32.ofNat H) at_154 rfl rfl ?_
  refine ow_callS K X5 (pc' := 159) ex5 (y := (⟨"com/example/serialyte/serialyte/link/ChecksumOfPinLaw", "part", "(JIII)I"⟩ : MethodName)) (rm3 l Z a0 hw [] q0 (3 : Int32) (Int32.ofNat L) (Int32.ofNat H) h n0 Z0) (hw _ (List.mem_of_getElem? (i := 9) rfl)) (hw _ (List.mem_of_getElem? (i := 10) rfl)) (hw _ (List.mem_of_getElem? (i := 11) rfl)) (hw _ (List.mem_of_getElem? (i := 12) rfl)) (by decide) (st := [.int (((own_part q0 (0 : Int32) (Int32.ofNat L) (Int32.ofNat H)) + (own_part q0 (1 : Int32) (Int32.ofNat L) (Int32.ofNat H))) + (own_part q0 (2 : Int32) (Int32.ofNat L) (Int32.ofNat H)))]) 1 (Nat.le_of_eq rfl) (by decide) (by decide) (by decide) (by decide) rfl [.long q0, .int (3 : Int32), .int (Int32.ofNat L), .int (Int32.ofNat H)] rfl (lenOf pd_3 rfl) rfl at_156 rfl ?_
  intro v6 T6 L6 X6 hQ6
  obtain ⟨rfl, NN6, ex6⟩ := hQ6
  have NX6 := Fr.app NX5 NN6
  refine ow_at (g := (mkF m 159 #[.val (.long q0), .second, .val (.int q1), .val (.int q2), .val (.ref a), .val (.int x), .val (.int y), .val (.int (Int32.ofNat L)), .val (.int (Int32.ofNat H)), .unset, .unset] [.int (own_part q0 (3 : Int32) (Int32.ofNat L) (Int32.ofNat H)), .int (((own_part q0 (0 : Int32) (Int32.ofNat L) (Int32.ofNat H)) + (own_part q0 (1 : Int32) (Int32.ofNat L) (Int32.ofNat H))) + (own_part q0 (2 : Int32) (Int32.ofNat L) (Int32.ofNat H)))])) ?_
  refine ow_iadd K X6 (pc' := 160) ((((own_part q0 (0 : Int32) (Int32.ofNat L) (Int32.ofNat H)) + (own_part q0 (1 : Int32) (Int32.ofNat L) (Int32.ofNat H))) + (own_part q0 (2 : Int32) (Int32.ofNat L) (Int32.ofNat H))) + (own_part q0 (3 : Int32) (Int32.ofNat L) (Int32.ofNat H))) at_159 rfl rfl ?_
  refine ow_lloadN K X6 (pc' := 161) q0 at_160 rfl rfl ?_
  refine ow_iconst K X6 (pc' := 162) (4 : Int32) at_161 rfl (by decide) ?_
  refine ow_iload K X6 (pc' := 164) (Int32.ofNat L) at_162 rfl rfl ?_
  refine ow_iload K X6 (pc' := 166) (Int32.ofNat H) at_164 rfl rfl ?_
  refine ow_callS K X6 (pc' := 169) ex6 (y := (⟨"com/example/serialyte/serialyte/link/ChecksumOfPinLaw", "part", "(JIII)I"⟩ : MethodName)) (rm3 l Z a0 hw [] q0 (4 : Int32) (Int32.ofNat L) (Int32.ofNat H) h n0 Z0) (hw _ (List.mem_of_getElem? (i := 9) rfl)) (hw _ (List.mem_of_getElem? (i := 10) rfl)) (hw _ (List.mem_of_getElem? (i := 11) rfl)) (hw _ (List.mem_of_getElem? (i := 12) rfl)) (by decide) (st := [.int ((((own_part q0 (0 : Int32) (Int32.ofNat L) (Int32.ofNat H)) + (own_part q0 (1 : Int32) (Int32.ofNat L) (Int32.ofNat H))) + (own_part q0 (2 : Int32) (Int32.ofNat L) (Int32.ofNat H))) + (own_part q0 (3 : Int32) (Int32.ofNat L) (Int32.ofNat H)))]) 1 (Nat.le_of_eq rfl) (by decide) (by decide) (by decide) (by decide) rfl [.long q0, .int (4 : Int32), .int (Int32.ofNat L), .int (Int32.ofNat H)] rfl (lenOf pd_3 rfl) rfl at_166 rfl ?_
  intro v7 T7 L7 X7 hQ7
  obtain ⟨rfl, NN7, ex7⟩ := hQ7
  have NX7 := Fr.app NX6 NN7
  refine ow_at (g := (mkF m 169 #[.val (.long q0), .second, .val (.int q1), .val (.int q2), .val (.ref a), .val (.int x), .val (.int y), .val (.int (Int32.ofNat L)), .val (.int (Int32.ofNat H)), .unset, .unset] [.int (own_part q0 (4 : Int32) (Int32.ofNat L) (Int32.ofNat H)), .int ((((own_part q0 (0 : Int32) (Int32.ofNat L) (Int32.ofNat H)) + (own_part q0 (1 : Int32) (Int32.ofNat L) (Int32.ofNat H))) + (own_part q0 (2 : Int32) (Int32.ofNat L) (Int32.ofNat H))) + (own_part q0 (3 : Int32) (Int32.ofNat L) (Int32.ofNat H)))])) ?_
  refine ow_iadd K X7 (pc' := 170) (((((own_part q0 (0 : Int32) (Int32.ofNat L) (Int32.ofNat H)) + (own_part q0 (1 : Int32) (Int32.ofNat L) (Int32.ofNat H))) + (own_part q0 (2 : Int32) (Int32.ofNat L) (Int32.ofNat H))) + (own_part q0 (3 : Int32) (Int32.ofNat L) (Int32.ofNat H))) + (own_part q0 (4 : Int32) (Int32.ofNat L) (Int32.ofNat H))) at_169 rfl rfl ?_
  refine ow_lloadN K X7 (pc' := 171) q0 at_170 rfl rfl ?_
  refine ow_iconst K X7 (pc' := 172) (5 : Int32) at_171 rfl (by decide) ?_
  refine ow_iload K X7 (pc' := 174) (Int32.ofNat L) at_172 rfl rfl ?_
  refine ow_iload K X7 (pc' := 176) (Int32.ofNat H) at_174 rfl rfl ?_
  refine ow_callS K X7 (pc' := 179) ex7 (y := (⟨"com/example/serialyte/serialyte/link/ChecksumOfPinLaw", "part", "(JIII)I"⟩ : MethodName)) (rm3 l Z a0 hw [] q0 (5 : Int32) (Int32.ofNat L) (Int32.ofNat H) h n0 Z0) (hw _ (List.mem_of_getElem? (i := 9) rfl)) (hw _ (List.mem_of_getElem? (i := 10) rfl)) (hw _ (List.mem_of_getElem? (i := 11) rfl)) (hw _ (List.mem_of_getElem? (i := 12) rfl)) (by decide) (st := [.int (((((own_part q0 (0 : Int32) (Int32.ofNat L) (Int32.ofNat H)) + (own_part q0 (1 : Int32) (Int32.ofNat L) (Int32.ofNat H))) + (own_part q0 (2 : Int32) (Int32.ofNat L) (Int32.ofNat H))) + (own_part q0 (3 : Int32) (Int32.ofNat L) (Int32.ofNat H))) + (own_part q0 (4 : Int32) (Int32.ofNat L) (Int32.ofNat H)))]) 1 (Nat.le_of_eq rfl) (by decide) (by decide) (by decide) (by decide) rfl [.long q0, .int (5 : Int32), .int (Int32.ofNat L), .int (Int32.ofNat H)] rfl (lenOf pd_3 rfl) rfl at_176 rfl ?_
  intro v8 T8 L8 X8 hQ8
  obtain ⟨rfl, NN8, ex8⟩ := hQ8
  have NX8 := Fr.app NX7 NN8
  refine ow_at (g := (mkF m 179 #[.val (.long q0), .second, .val (.int q1), .val (.int q2), .val (.ref a), .val (.int x), .val (.int y), .val (.int (Int32.ofNat L)), .val (.int (Int32.ofNat H)), .unset, .unset] [.int (own_part q0 (5 : Int32) (Int32.ofNat L) (Int32.ofNat H)), .int (((((own_part q0 (0 : Int32) (Int32.ofNat L) (Int32.ofNat H)) + (own_part q0 (1 : Int32) (Int32.ofNat L) (Int32.ofNat H))) + (own_part q0 (2 : Int32) (Int32.ofNat L) (Int32.ofNat H))) + (own_part q0 (3 : Int32) (Int32.ofNat L) (Int32.ofNat H))) + (own_part q0 (4 : Int32) (Int32.ofNat L) (Int32.ofNat H)))])) ?_
  refine ow_iadd K X8 (pc' := 180) ((((((own_part q0 (0 : Int32) (Int32.ofNat L) (Int32.ofNat H)) + (own_part q0 (1 : Int32) (Int32.ofNat L) (Int32.ofNat H))) + (own_part q0 (2 : Int32) (Int32.ofNat L) (Int32.ofNat H))) + (own_part q0 (3 : Int32) (Int32.ofNat L) (Int32.ofNat H))) + (own_part q0 (4 : Int32) (Int32.ofNat L) (Int32.ofNat H))) + (own_part q0 (5 : Int32) (Int32.ofNat L) (Int32.ofNat H))) at_179 rfl rfl ?_
  refine ow_lloadN K X8 (pc' := 181) q0 at_180 rfl rfl ?_
  refine ow_bipush K X8 (pc' := 183) (6 : Int32) at_181 rfl (by decide) ?_
  refine ow_iload K X8 (pc' := 185) (Int32.ofNat L) at_183 rfl rfl ?_
  refine ow_iload K X8 (pc' := 187) (Int32.ofNat H) at_185 rfl rfl ?_
  refine ow_callS K X8 (pc' := 190) ex8 (y := (⟨"com/example/serialyte/serialyte/link/ChecksumOfPinLaw", "part", "(JIII)I"⟩ : MethodName)) (rm3 l Z a0 hw [] q0 (6 : Int32) (Int32.ofNat L) (Int32.ofNat H) h n0 Z0) (hw _ (List.mem_of_getElem? (i := 9) rfl)) (hw _ (List.mem_of_getElem? (i := 10) rfl)) (hw _ (List.mem_of_getElem? (i := 11) rfl)) (hw _ (List.mem_of_getElem? (i := 12) rfl)) (by decide) (st := [.int ((((((own_part q0 (0 : Int32) (Int32.ofNat L) (Int32.ofNat H)) + (own_part q0 (1 : Int32) (Int32.ofNat L) (Int32.ofNat H))) + (own_part q0 (2 : Int32) (Int32.ofNat L) (Int32.ofNat H))) + (own_part q0 (3 : Int32) (Int32.ofNat L) (Int32.ofNat H))) + (own_part q0 (4 : Int32) (Int32.ofNat L) (Int32.ofNat H))) + (own_part q0 (5 : Int32) (Int32.ofNat L) (Int32.ofNat H)))]) 1 (Nat.le_of_eq rfl) (by decide) (by decide) (by decide) (by decide) rfl [.long q0, .int (6 : Int32), .int (Int32.ofNat L), .int (Int32.ofNat H)] rfl (lenOf pd_3 rfl) rfl at_187 rfl ?_
  intro v9 T9 L9 X9 hQ9
  obtain ⟨rfl, NN9, ex9⟩ := hQ9
  have NX9 := Fr.app NX8 NN9
  refine ow_at (g := (mkF m 190 #[.val (.long q0), .second, .val (.int q1), .val (.int q2), .val (.ref a), .val (.int x), .val (.int y), .val (.int (Int32.ofNat L)), .val (.int (Int32.ofNat H)), .unset, .unset] [.int (own_part q0 (6 : Int32) (Int32.ofNat L) (Int32.ofNat H)), .int ((((((own_part q0 (0 : Int32) (Int32.ofNat L) (Int32.ofNat H)) + (own_part q0 (1 : Int32) (Int32.ofNat L) (Int32.ofNat H))) + (own_part q0 (2 : Int32) (Int32.ofNat L) (Int32.ofNat H))) + (own_part q0 (3 : Int32) (Int32.ofNat L) (Int32.ofNat H))) + (own_part q0 (4 : Int32) (Int32.ofNat L) (Int32.ofNat H))) + (own_part q0 (5 : Int32) (Int32.ofNat L) (Int32.ofNat H)))])) ?_
  refine ow_iadd K X9 (pc' := 191) (((((((own_part q0 (0 : Int32) (Int32.ofNat L) (Int32.ofNat H)) + (own_part q0 (1 : Int32) (Int32.ofNat L) (Int32.ofNat H))) + (own_part q0 (2 : Int32) (Int32.ofNat L) (Int32.ofNat H))) + (own_part q0 (3 : Int32) (Int32.ofNat L) (Int32.ofNat H))) + (own_part q0 (4 : Int32) (Int32.ofNat L) (Int32.ofNat H))) + (own_part q0 (5 : Int32) (Int32.ofNat L) (Int32.ofNat H))) + (own_part q0 (6 : Int32) (Int32.ofNat L) (Int32.ofNat H))) at_190 rfl rfl ?_
  refine ow_lloadN K X9 (pc' := 192) q0 at_191 rfl rfl ?_
  refine ow_bipush K X9 (pc' := 194) (7 : Int32) at_192 rfl (by decide) ?_
  refine ow_iload K X9 (pc' := 196) (Int32.ofNat L) at_194 rfl rfl ?_
  refine ow_iload K X9 (pc' := 198) (Int32.ofNat H) at_196 rfl rfl ?_
  refine ow_callS K X9 (pc' := 201) ex9 (y := (⟨"com/example/serialyte/serialyte/link/ChecksumOfPinLaw", "part", "(JIII)I"⟩ : MethodName)) (rm3 l Z a0 hw [] q0 (7 : Int32) (Int32.ofNat L) (Int32.ofNat H) h n0 Z0) (hw _ (List.mem_of_getElem? (i := 9) rfl)) (hw _ (List.mem_of_getElem? (i := 10) rfl)) (hw _ (List.mem_of_getElem? (i := 11) rfl)) (hw _ (List.mem_of_getElem? (i := 12) rfl)) (by decide) (st := [.int (((((((own_part q0 (0 : Int32) (Int32.ofNat L) (Int32.ofNat H)) + (own_part q0 (1 : Int32) (Int32.ofNat L) (Int32.ofNat H))) + (own_part q0 (2 : Int32) (Int32.ofNat L) (Int32.ofNat H))) + (own_part q0 (3 : Int32) (Int32.ofNat L) (Int32.ofNat H))) + (own_part q0 (4 : Int32) (Int32.ofNat L) (Int32.ofNat H))) + (own_part q0 (5 : Int32) (Int32.ofNat L) (Int32.ofNat H))) + (own_part q0 (6 : Int32) (Int32.ofNat L) (Int32.ofNat H)))]) 1 (Nat.le_of_eq rfl) (by decide) (by decide) (by decide) (by decide) rfl [.long q0, .int (7 : Int32), .int (Int32.ofNat L), .int (Int32.ofNat H)] rfl (lenOf pd_3 rfl) rfl at_198 rfl ?_
  intro v10 T10 L10 X10 hQ10
  obtain ⟨rfl, NN10, ex10⟩ := hQ10
  have NX10 := Fr.app NX9 NN10
  refine ow_at (g := (mkF m 201 #[.val (.long q0), .second, .val (.int q1), .val (.int q2), .val (.ref a), .val (.int x), .val (.int y), .val (.int (Int32.ofNat L)), .val (.int (Int32.ofNat H)), .unset, .unset] [.int (own_part q0 (7 : Int32) (Int32.ofNat L) (Int32.ofNat H)), .int (((((((own_part q0 (0 : Int32) (Int32.ofNat L) (Int32.ofNat H)) + (own_part q0 (1 : Int32) (Int32.ofNat L) (Int32.ofNat H))) + (own_part q0 (2 : Int32) (Int32.ofNat L) (Int32.ofNat H))) + (own_part q0 (3 : Int32) (Int32.ofNat L) (Int32.ofNat H))) + (own_part q0 (4 : Int32) (Int32.ofNat L) (Int32.ofNat H))) + (own_part q0 (5 : Int32) (Int32.ofNat L) (Int32.ofNat H))) + (own_part q0 (6 : Int32) (Int32.ofNat L) (Int32.ofNat H)))])) ?_
  refine ow_iadd K X10 (pc' := 202) ((((((((own_part q0 (0 : Int32) (Int32.ofNat L) (Int32.ofNat H)) + (own_part q0 (1 : Int32) (Int32.ofNat L) (Int32.ofNat H))) + (own_part q0 (2 : Int32) (Int32.ofNat L) (Int32.ofNat H))) + (own_part q0 (3 : Int32) (Int32.ofNat L) (Int32.ofNat H))) + (own_part q0 (4 : Int32) (Int32.ofNat L) (Int32.ofNat H))) + (own_part q0 (5 : Int32) (Int32.ofNat L) (Int32.ofNat H))) + (own_part q0 (6 : Int32) (Int32.ofNat L) (Int32.ofNat H))) + (own_part q0 (7 : Int32) (Int32.ofNat L) (Int32.ofNat H))) at_201 rfl rfl ?_
  refine ow_sipush K X10 (pc' := 205) (256 : Int32) at_202 rfl (by decide) ?_
  refine ow_irem K X10 (pc' := 206) (own_E q0 L H - (own_E q0 L H / 256) * 256) at_205 rfl (by decide) rfl ?_
  refine ow_istore K X10 (pc' := 208) (Ls' := #[.val (.long q0), .second, .val (.int q1), .val (.int q2), .val (.ref a), .val (.int x), .val (.int y), .val (.int (Int32.ofNat L)), .val (.int (Int32.ofNat H)), .val (.int (own_E q0 L H - (own_E q0 L H / 256) * 256)), .unset]) at_206 rfl rfl ?_
  refine ow_aload K X10 (pc' := 210) a at_208 rfl rfl ?_
  refine ow_iload K X10 (pc' := 212) (Int32.ofNat L) at_210 rfl rfl ?_
  refine ow_iload K X10 (pc' := 214) (Int32.ofNat H) at_212 rfl rfl ?_
  refine ow_callS K X10 (pc' := 217) ex10 (y := (⟨"com/example/serialyte/serialyte/link/Checksum", "of", "([BII)I"⟩ : MethodName)) (rm4 l Z a0 hw [] a (Int32.ofNat L) (Int32.ofNat H) L H k _ (own_f q0) h n0 Z0 rfl rfl F (own_f_at q0) h8 hLH) (hw _ (List.mem_of_getElem? (i := 14) rfl)) (hw _ (List.mem_of_getElem? (i := 15) rfl)) (hw _ (List.mem_of_getElem? (i := 16) rfl)) (hw _ (List.mem_of_getElem? (i := 17) rfl)) (by decide) (st := []) 0 (Nat.le_of_eq rfl) (by decide) (by decide) (by decide) (by decide) rfl [.ref a, .int (Int32.ofNat L), .int (Int32.ofNat H)] rfl (lenOf pd_4 rfl) rfl at_214 rfl ?_
  intro v11 T11 L11 X11 hQ11
  obtain ⟨rfl, NN11, ex11⟩ := hQ11
  have NX11 := Fr.app NX10 NN11
  refine ow_at (g := (mkF m 217 #[.val (.long q0), .second, .val (.int q1), .val (.int q2), .val (.ref a), .val (.int x), .val (.int y), .val (.int (Int32.ofNat L)), .val (.int (Int32.ofNat H)), .val (.int (own_E q0 L H - (own_E q0 L H / 256) * 256)), .unset] [.int ((own_acc (own_f q0) L (H - L) 0) &&& 255)])) ?_
  refine ow_istore K X11 (pc' := 219) (Ls' := #[.val (.long q0), .second, .val (.int q1), .val (.int q2), .val (.ref a), .val (.int x), .val (.int y), .val (.int (Int32.ofNat L)), .val (.int (Int32.ofNat H)), .val (.int (own_E q0 L H - (own_E q0 L H / 256) * 256)), .val (.int ((own_acc (own_f q0) L (H - L) 0) &&& 255))]) at_217 rfl rfl ?_
  refine ow_iload K X11 (pc' := 221) ((own_acc (own_f q0) L (H - L) 0) &&& 255) at_219 rfl rfl ?_
  refine ow_iload K X11 (pc' := 223) (own_E q0 L H - (own_E q0 L H / 256) * 256) at_221 rfl rfl ?_
  refine ow_icmpN K X11 (pc' := 226) at_223 rfl (XT.ii_ne_f (own_final q0 (by omega) h8 hLH (own_f q0) (own_f_B q0))) ?_
  refine ow_iconst K X11 (pc' := 227) (1 : Int32) at_226 rfl (by decide) ?_
  refine ow_goto K X11 (pc' := 231) at_227 (by decide) (by decide) ?_
  exact ow_retI K X11 .boolean rfl (by decide) (Or.inr (Or.inl rfl)) at_231 ⟨rfl, NX11⟩ (by decide) (by decide)
theorem pn_0 : plainName "com/example/serialyte/serialyte/link/ChecksumOfPinLaw" = true := by first | (simp [plainName, overriddenIn]; done) | decide +kernel
theorem ef_0 (m : MethodId) (q0 : Int64) (q1 : Int32) (q2 : Int32) : entryFrame m #[(.long q0), (.int q1), (.int q2)] maxLocals = mkF m 0 #[.val (.long q0), .second, .val (.int q1), .val (.int q2), .unset, .unset, .unset, .unset, .unset, .unset, .unset] [] := by first | (simp [entryFrame, mkF, argsToLocals, Value.category, maxLocals]; done) | rfl
set_option maxRecDepth 65536 in
set_option maxHeartbeats 40000000 in
theorem rm0 (l : Launch) (Z : State) (a0 : Array Value) (hw : ∀ d ∈ tables_1, d.before a0 Z = true) (ws : List Jvm.Cond) (q0 : Int64) (q1 : Int32) (q2 : Int32) (h0 : Heap) (n0 : Nat) (Z0 : n0 ≤ h0.size) :
    MetFree l x (head1 (Jvm.Cond.code x code maxLocals ret :: ws) room_1) (fun as_ U => as_ = #[(.long q0), (.int q1), (.int q2)] ∧ Z.Warmed39 U.vm ∧ U.heap = h0) (fun _ _ _ _ _ => True) (fun _ U o U' => ∃ v L, o = .returned v ∧ Q0 n0 v U'.heap L ∧ FrameEnd U o U' L 1 8) := by
  refine MetFree.of_bodySF (plainFor_of_name pn_0) hisR ?_
  intro p e s m args below meth c s₁ Bd hml0 hP hK
  obtain ⟨rfl, hZ, hh⟩ := hP
  have K : ow_K p e below s m meth c Z "com/example/serialyte/serialyte/link/ChecksumOfPinLaw" code 11 (some .boolean) "law" (ow_Gl p e below s (Q0 n0) 1 8) := ⟨ow_Gl_bc, Bd.exec, Bd.bytes, hml0, findClass_of_methodNamed Bd.named, hZ, Bd.returns, Bd.notSynchronized, (name_of_methodNamed Bd.named Bd.method).1⟩
  have X0 : Stand p l e room_1 s m #[(.long q0), (.int q1), (.int q2)] below meth c s₁ [] 0 0 := Stand.of_body Bd
  have e0 : s₁.heap = h0 := by rw [← hh, Bd.state]; rfl
  have N0 := Fr.nil n0
  refine ow_entry (Q := (Q0 n0)) (ce := 1) (sl := 8) (ef_0 m q0 q1 q2) ?_
  refine ow_bipush K X0 (pc' := 2) (8 : Int32) at_0 rfl (by decide) ?_
  refine ow_newP K X0 (pc' := 4) e0 (hw _ (List.mem_of_getElem? (i := 0) rfl)) (by decide) 8 (by decide) (by decide) (by decide) (by decide) at_2 rfl ?_
  intro T1 h1 k1 a1 X1 e1 E1 g1 A1
  have ge2 : n0 ≤ a1 := Nat.le_trans Z0 (Nat.le_of_eq g1.symm)
  have Z3 : n0 ≤ h1.size := Nat.le_trans Z0 E1.1
  have F4 : Arv Z h1 a1 k1 .byte (8 : Int32) [.int 0, .int 0, .int 0, .int 0, .int 0, .int 0, .int 0, .int 0] (.int 0) := Arv.pad A1 (pad_rep [] (.int 0) 8)
  refine ow_astore K X1 (pc' := 6) (Ls' := #[.val (.long q0), .second, .val (.int q1), .val (.int q2), .val (.ref a1), .unset, .unset, .unset, .unset, .unset, .unset]) at_4 rfl rfl ?_
  refine ow_aload K X1 (pc' := 8) a1 at_6 rfl rfl ?_
  refine ow_iconst K X1 (pc' := 9) (0 : Int32) at_8 rfl (by decide) ?_
  refine ow_lloadN K X1 (pc' := 10) q0 at_9 rfl rfl ?_
  refine ow_l2i K X1 (pc' := 11) ((q0).toInt32) at_10 rfl rfl ?_
  refine ow_i2b K X1 (pc' := 12) ((((q0).toInt32)).toInt8.toInt32) at_11 rfl rfl ?_
  refine ow_bastore K X1 (pc' := 13) e1 F4 0 [.int (nar .byte (q0.toInt32.toInt8.toInt32)), .int 0, .int 0, .int 0, .int 0, .int 0, .int 0, .int 0] ⟨by decide, by decide⟩ (by decide) (by simp) rfl at_12 rfl ?_
  intro T5 h5 X5 e5 W5 F5
  have Z6 : n0 ≤ h5.size := Nat.le_trans Z3 (Nat.le_of_eq W5.size.symm)
  have N7 := Fr.snoc X5 N0 ge2
  refine ow_aload K X5 (pc' := 15) a1 at_13 rfl rfl ?_
  refine ow_iconst K X5 (pc' := 16) (1 : Int32) at_15 rfl (by decide) ?_
  refine ow_lloadN K X5 (pc' := 17) q0 at_16 rfl rfl ?_
  refine ow_bipush K X5 (pc' := 19) (8 : Int32) at_17 rfl (by decide) ?_
  refine ow_lushr K X5 (pc' := 20) (XT.ushrL q0 (8 : Int32)) at_19 rfl rfl ?_
  refine ow_l2i K X5 (pc' := 21) (((XT.ushrL q0 (8 : Int32))).toInt32) at_20 rfl rfl ?_
  refine ow_i2b K X5 (pc' := 22) (((((XT.ushrL q0 (8 : Int32))).toInt32)).toInt8.toInt32) at_21 rfl rfl ?_
  refine ow_bastore K X5 (pc' := 23) e5 F5 1 [.int (nar .byte (q0.toInt32.toInt8.toInt32)), .int (nar .byte ((XT.ushrL q0 (8 : Int32)).toInt32.toInt8.toInt32)), .int 0, .int 0, .int 0, .int 0, .int 0, .int 0] ⟨by decide, by decide⟩ (by decide) (by simp) rfl at_22 rfl ?_
  intro T8 h8 X8 e8 W8 F8
  have Z9 : n0 ≤ h8.size := Nat.le_trans Z6 (Nat.le_of_eq W8.size.symm)
  have N10 := Fr.snoc X8 N7 ge2
  refine ow_aload K X8 (pc' := 25) a1 at_23 rfl rfl ?_
  refine ow_iconst K X8 (pc' := 26) (2 : Int32) at_25 rfl (by decide) ?_
  refine ow_lloadN K X8 (pc' := 27) q0 at_26 rfl rfl ?_
  refine ow_bipush K X8 (pc' := 29) (16 : Int32) at_27 rfl (by decide) ?_
  refine ow_lushr K X8 (pc' := 30) (XT.ushrL q0 (16 : Int32)) at_29 rfl rfl ?_
  refine ow_l2i K X8 (pc' := 31) (((XT.ushrL q0 (16 : Int32))).toInt32) at_30 rfl rfl ?_
  refine ow_i2b K X8 (pc' := 32) (((((XT.ushrL q0 (16 : Int32))).toInt32)).toInt8.toInt32) at_31 rfl rfl ?_
  refine ow_bastore K X8 (pc' := 33) e8 F8 2 [.int (nar .byte (q0.toInt32.toInt8.toInt32)), .int (nar .byte ((XT.ushrL q0 (8 : Int32)).toInt32.toInt8.toInt32)), .int (nar .byte ((XT.ushrL q0 (16 : Int32)).toInt32.toInt8.toInt32)), .int 0, .int 0, .int 0, .int 0, .int 0] ⟨by decide, by decide⟩ (by decide) (by simp) rfl at_32 rfl ?_
  intro T11 h11 X11 e11 W11 F11
  have Z12 : n0 ≤ h11.size := Nat.le_trans Z9 (Nat.le_of_eq W11.size.symm)
  have N13 := Fr.snoc X11 N10 ge2
  refine ow_aload K X11 (pc' := 35) a1 at_33 rfl rfl ?_
  refine ow_iconst K X11 (pc' := 36) (3 : Int32) at_35 rfl (by decide) ?_
  refine ow_lloadN K X11 (pc' := 37) q0 at_36 rfl rfl ?_
  refine ow_bipush K X11 (pc' := 39) (24 : Int32) at_37 rfl (by decide) ?_
  refine ow_lushr K X11 (pc' := 40) (XT.ushrL q0 (24 : Int32)) at_39 rfl rfl ?_
  refine ow_l2i K X11 (pc' := 41) (((XT.ushrL q0 (24 : Int32))).toInt32) at_40 rfl rfl ?_
  refine ow_i2b K X11 (pc' := 42) (((((XT.ushrL q0 (24 : Int32))).toInt32)).toInt8.toInt32) at_41 rfl rfl ?_
  refine ow_bastore K X11 (pc' := 43) e11 F11 3 [.int (nar .byte (q0.toInt32.toInt8.toInt32)), .int (nar .byte ((XT.ushrL q0 (8 : Int32)).toInt32.toInt8.toInt32)), .int (nar .byte ((XT.ushrL q0 (16 : Int32)).toInt32.toInt8.toInt32)), .int (nar .byte ((XT.ushrL q0 (24 : Int32)).toInt32.toInt8.toInt32)), .int 0, .int 0, .int 0, .int 0] ⟨by decide, by decide⟩ (by decide) (by simp) rfl at_42 rfl ?_
  intro T14 h14 X14 e14 W14 F14
  have Z15 : n0 ≤ h14.size := Nat.le_trans Z12 (Nat.le_of_eq W14.size.symm)
  have N16 := Fr.snoc X14 N13 ge2
  refine ow_aload K X14 (pc' := 45) a1 at_43 rfl rfl ?_
  refine ow_iconst K X14 (pc' := 46) (4 : Int32) at_45 rfl (by decide) ?_
  refine ow_lloadN K X14 (pc' := 47) q0 at_46 rfl rfl ?_
  refine ow_bipush K X14 (pc' := 49) (32 : Int32) at_47 rfl (by decide) ?_
  refine ow_lushr K X14 (pc' := 50) (XT.ushrL q0 (32 : Int32)) at_49 rfl rfl ?_
  refine ow_l2i K X14 (pc' := 51) (((XT.ushrL q0 (32 : Int32))).toInt32) at_50 rfl rfl ?_
  refine ow_i2b K X14 (pc' := 52) (((((XT.ushrL q0 (32 : Int32))).toInt32)).toInt8.toInt32) at_51 rfl rfl ?_
  refine ow_bastore K X14 (pc' := 53) e14 F14 4 [.int (nar .byte (q0.toInt32.toInt8.toInt32)), .int (nar .byte ((XT.ushrL q0 (8 : Int32)).toInt32.toInt8.toInt32)), .int (nar .byte ((XT.ushrL q0 (16 : Int32)).toInt32.toInt8.toInt32)), .int (nar .byte ((XT.ushrL q0 (24 : Int32)).toInt32.toInt8.toInt32)), .int (nar .byte ((XT.ushrL q0 (32 : Int32)).toInt32.toInt8.toInt32)), .int 0, .int 0, .int 0] ⟨by decide, by decide⟩ (by decide) (by simp) rfl at_52 rfl ?_
  intro T17 h17 X17 e17 W17 F17
  have Z18 : n0 ≤ h17.size := Nat.le_trans Z15 (Nat.le_of_eq W17.size.symm)
  have N19 := Fr.snoc X17 N16 ge2
  refine ow_aload K X17 (pc' := 55) a1 at_53 rfl rfl ?_
  refine ow_iconst K X17 (pc' := 56) (5 : Int32) at_55 rfl (by decide) ?_
  refine ow_lloadN K X17 (pc' := 57) q0 at_56 rfl rfl ?_
  refine ow_bipush K X17 (pc' := 59) (40 : Int32) at_57 rfl (by decide) ?_
  refine ow_lushr K X17 (pc' := 60) (XT.ushrL q0 (40 : Int32)) at_59 rfl rfl ?_
  refine ow_l2i K X17 (pc' := 61) (((XT.ushrL q0 (40 : Int32))).toInt32) at_60 rfl rfl ?_
  refine ow_i2b K X17 (pc' := 62) (((((XT.ushrL q0 (40 : Int32))).toInt32)).toInt8.toInt32) at_61 rfl rfl ?_
  refine ow_bastore K X17 (pc' := 63) e17 F17 5 [.int (nar .byte (q0.toInt32.toInt8.toInt32)), .int (nar .byte ((XT.ushrL q0 (8 : Int32)).toInt32.toInt8.toInt32)), .int (nar .byte ((XT.ushrL q0 (16 : Int32)).toInt32.toInt8.toInt32)), .int (nar .byte ((XT.ushrL q0 (24 : Int32)).toInt32.toInt8.toInt32)), .int (nar .byte ((XT.ushrL q0 (32 : Int32)).toInt32.toInt8.toInt32)), .int (nar .byte ((XT.ushrL q0 (40 : Int32)).toInt32.toInt8.toInt32)), .int 0, .int 0] ⟨by decide, by decide⟩ (by decide) (by simp) rfl at_62 rfl ?_
  intro T20 h20 X20 e20 W20 F20
  have Z21 : n0 ≤ h20.size := Nat.le_trans Z18 (Nat.le_of_eq W20.size.symm)
  have N22 := Fr.snoc X20 N19 ge2
  refine ow_aload K X20 (pc' := 65) a1 at_63 rfl rfl ?_
  refine ow_bipush K X20 (pc' := 67) (6 : Int32) at_65 rfl (by decide) ?_
  refine ow_lloadN K X20 (pc' := 68) q0 at_67 rfl rfl ?_
  refine ow_bipush K X20 (pc' := 70) (48 : Int32) at_68 rfl (by decide) ?_
  refine ow_lushr K X20 (pc' := 71) (XT.ushrL q0 (48 : Int32)) at_70 rfl rfl ?_
  refine ow_l2i K X20 (pc' := 72) (((XT.ushrL q0 (48 : Int32))).toInt32) at_71 rfl rfl ?_
  refine ow_i2b K X20 (pc' := 73) (((((XT.ushrL q0 (48 : Int32))).toInt32)).toInt8.toInt32) at_72 rfl rfl ?_
  refine ow_bastore K X20 (pc' := 74) e20 F20 6 [.int (nar .byte (q0.toInt32.toInt8.toInt32)), .int (nar .byte ((XT.ushrL q0 (8 : Int32)).toInt32.toInt8.toInt32)), .int (nar .byte ((XT.ushrL q0 (16 : Int32)).toInt32.toInt8.toInt32)), .int (nar .byte ((XT.ushrL q0 (24 : Int32)).toInt32.toInt8.toInt32)), .int (nar .byte ((XT.ushrL q0 (32 : Int32)).toInt32.toInt8.toInt32)), .int (nar .byte ((XT.ushrL q0 (40 : Int32)).toInt32.toInt8.toInt32)), .int (nar .byte ((XT.ushrL q0 (48 : Int32)).toInt32.toInt8.toInt32)), .int 0] ⟨by decide, by decide⟩ (by decide) (by simp) rfl at_73 rfl ?_
  intro T23 h23 X23 e23 W23 F23
  have Z24 : n0 ≤ h23.size := Nat.le_trans Z21 (Nat.le_of_eq W23.size.symm)
  have N25 := Fr.snoc X23 N22 ge2
  refine ow_aload K X23 (pc' := 76) a1 at_74 rfl rfl ?_
  refine ow_bipush K X23 (pc' := 78) (7 : Int32) at_76 rfl (by decide) ?_
  refine ow_lloadN K X23 (pc' := 79) q0 at_78 rfl rfl ?_
  refine ow_bipush K X23 (pc' := 81) (56 : Int32) at_79 rfl (by decide) ?_
  refine ow_lushr K X23 (pc' := 82) (XT.ushrL q0 (56 : Int32)) at_81 rfl rfl ?_
  refine ow_l2i K X23 (pc' := 83) (((XT.ushrL q0 (56 : Int32))).toInt32) at_82 rfl rfl ?_
  refine ow_i2b K X23 (pc' := 84) (((((XT.ushrL q0 (56 : Int32))).toInt32)).toInt8.toInt32) at_83 rfl rfl ?_
  refine ow_bastore K X23 (pc' := 85) e23 F23 7 [.int (nar .byte (q0.toInt32.toInt8.toInt32)), .int (nar .byte ((XT.ushrL q0 (8 : Int32)).toInt32.toInt8.toInt32)), .int (nar .byte ((XT.ushrL q0 (16 : Int32)).toInt32.toInt8.toInt32)), .int (nar .byte ((XT.ushrL q0 (24 : Int32)).toInt32.toInt8.toInt32)), .int (nar .byte ((XT.ushrL q0 (32 : Int32)).toInt32.toInt8.toInt32)), .int (nar .byte ((XT.ushrL q0 (40 : Int32)).toInt32.toInt8.toInt32)), .int (nar .byte ((XT.ushrL q0 (48 : Int32)).toInt32.toInt8.toInt32)), .int (nar .byte ((XT.ushrL q0 (56 : Int32)).toInt32.toInt8.toInt32))] ⟨by decide, by decide⟩ (by decide) (by simp) rfl at_84 rfl ?_
  intro T26 h26 X26 e26 W26 F26
  have Z27 : n0 ≤ h26.size := Nat.le_trans Z24 (Nat.le_of_eq W26.size.symm)
  have N28 := Fr.snoc X26 N25 ge2
  refine ow_iloadN K X26 (pc' := 86) q1 at_85 rfl rfl ?_
  refine ow_ldcI K X26 (pc' := 88) (2147483647 : Int32) at_86 rfl (hw _ (List.mem_of_getElem? (i := 1) rfl)) ?_
  refine ow_iand K X26 (pc' := 89) (q1 &&& (2147483647 : Int32)) at_88 rfl rfl ?_
  refine ow_bipush K X26 (pc' := 91) (9 : Int32) at_89 rfl (by decide) ?_
  refine ow_irem K X26 (pc' := 92) ((q1 &&& (2147483647 : Int32)) - ((q1 &&& (2147483647 : Int32)) / (9 : Int32)) * (9 : Int32)) at_91 rfl (by decide) rfl ?_
  refine ow_istore K X26 (pc' := 94) (Ls' := #[.val (.long q0), .second, .val (.int q1), .val (.int q2), .val (.ref a1), .val (.int ((q1 &&& (2147483647 : Int32)) - ((q1 &&& (2147483647 : Int32)) / (9 : Int32)) * (9 : Int32))), .unset, .unset, .unset, .unset, .unset]) at_92 rfl rfl ?_
  refine ow_iloadN K X26 (pc' := 95) q2 at_94 rfl rfl ?_
  refine ow_ldcI K X26 (pc' := 97) (2147483647 : Int32) at_95 rfl (hw _ (List.mem_of_getElem? (i := 1) rfl)) ?_
  refine ow_iand K X26 (pc' := 98) (q2 &&& (2147483647 : Int32)) at_97 rfl rfl ?_
  refine ow_bipush K X26 (pc' := 100) (9 : Int32) at_98 rfl (by decide) ?_
  refine ow_irem K X26 (pc' := 101) ((q2 &&& (2147483647 : Int32)) - ((q2 &&& (2147483647 : Int32)) / (9 : Int32)) * (9 : Int32)) at_100 rfl (by decide) rfl ?_
  refine ow_istore K X26 (pc' := 103) (Ls' := #[.val (.long q0), .second, .val (.int q1), .val (.int q2), .val (.ref a1), .val (.int ((q1 &&& (2147483647 : Int32)) - ((q1 &&& (2147483647 : Int32)) / (9 : Int32)) * (9 : Int32))), .val (.int ((q2 &&& (2147483647 : Int32)) - ((q2 &&& (2147483647 : Int32)) / (9 : Int32)) * (9 : Int32))), .unset, .unset, .unset, .unset]) at_101 rfl rfl ?_
  exact t103 hw K X26 e26 N28 Z27 F26 (own_rem9 q1) (own_rem9 q2)
set_option maxRecDepth 65536 in
set_option maxHeartbeats 40000000 in
theorem comes_1 {Post : Tables → Env → Array Value → State → Outcome → State → Prop} (hpost : ∀ tb e args s v u, (limb_1_1.after args s (.returned v) u = true ∧ limb_1_2.after args s (.returned v) u = true ∧ True) → FrameEnd s (.returned v) u (Jvm.fieldLocs frame_1_writes args s ++ Jvm.arrayLocs frame_1_arrays args s ++ Jvm.staticLocs frame_1_statics s) 16 128 → Post tb e args s (.returned v) u) :
    ArmFor flags0 classFile x code maxLocals ret World_1 tables_1 room_1 Calls_1 rest_1 Pre_1 Post := by
  intro l hfl _ _ p e ha hc hk s m args below hf hA hF happ hP
  obtain ⟨hcalls, hrest, hpre⟩ := hP
  obtain ⟨-, -, -, hnamed, -, -, -, hat⟩ := (Spec.applies_iff hf).mp happ
  obtain ⟨hg, hn⟩ := and_e (Cond.before_iff.mp (show (Jvm.Cond.and given_1 narrow_1).before args s = true from hpre))
  obtain ⟨hcount, b0⟩ := and_e hg
  obtain ⟨a0, b1⟩ := and_e b0
  obtain ⟨a1, b2⟩ := and_e b1
  obtain ⟨w0, w1, w2, rfl⟩ : ∃ w0 w1 w2 : Value, args = #[w0, w1, w2] := by
    have hs : args.size = 3 := by simpa [Cond.value, given_1] using hcount
    obtain ⟨L⟩ := args
    match L, hs with
    | [w0, w1, w2], _ => exact ⟨w0, w1, w2, rfl⟩
  have hw := fun d (hd : d ∈ tables_1) => atoms_spec (ws := Jvm.Cond.code x code maxLocals ret :: tables_1) hat d (List.mem_cons_of_mem _ hd)
  obtain ⟨i0, f0⟩ := isL_v a0
  obtain rfl : w0 = (.long i0) := Option.some.inj f0
  obtain ⟨i1, f1⟩ := is_v a1
  obtain rfl : w1 = (.int i1) := Option.some.inj f1
  obtain ⟨i2, f2⟩ := is_v b2
  obtain rfl : w2 = (.int i2) := Option.some.inj f2
  obtain ⟨n, o, h1, h2, h3, _, L, rfl, ⟨rfl, N⟩, hq⟩ := rm0 l s _ hw tables_1 i0 i1 i2 s.heap s.heap.size (Nat.le_refl _) p e ha hc hk s m _ below hf ((Spec.applies_iff_loose hf).mp happ).1 ⟨rfl, State.Warmed39.refl s, rfl⟩ trivial
  refine ⟨n, _, h1, h2, h3, hpost _ _ _ _ _ _ ⟨Cond.after_iff.mpr rfl, Cond.after_iff.mpr (eq_i res_at (Term.int_eval (1)) rfl), trivial⟩ ⟨hq.1, hq.2.1, (hq.2.2.sift fun y hy => Or.inr (N y hy)).mono (by decide) (by decide)⟩⟩
theorem main_1_1 : Claimed_1_1 := comes_1 fun _ _ _ _ _ _ h hF => ⟨h.1, hF⟩
theorem main_1_2 : Claimed_1_2 := comes_1 fun _ _ _ _ _ _ h hF => ⟨h.2.1, hF⟩
end Jvm.Pilot.@@N@@
namespace Jvm.Pilot.@@N@@
open Jvm Jvm.ClassFile Sem Op Lib Jvm.Free Jvm.Stand Jvm.Pilot.@@N@@.Jvm.D
/-! MADE BY PROGRAM (witnessworld.py) out of the Statement's table words and the real class files: 10 classes; the members and pool entries that the words name. The judged class is class 1, her method 1. -/
namespace start1
open Jvm.ClassFile
def u (s : String) : CpInfo := .utf8 (stringToUtf16 s)
/-- a pool by its gaps: so many unusable entries, then the entry; so many at the end -/
def gap : Nat → List CpInfo → List CpInfo
  | 0, r => r
  | n + 1, r => .unusable :: gap n r
def poolList (es : List (Nat × CpInfo)) (last : Nat) : List CpInfo := es.foldr (fun e r => gap e.1 (e.2 :: r)) (gap last [])
def pool (es : List (Nat × CpInfo)) (last : Nat) : Array CpInfo := ⟨poolList es last⟩
def fileOf (pool : Array CpInfo) (this : Nat) (attrs : Array Attribute := #[]) (ms : Array MethodInfo := #[]) (fl : Nat := 33) (sup : Nat := 0) (ifs : Array Nat := #[]) (fds : Array FieldInfo := #[]) : ClassFile where
  minorVersion := 0
  majorVersion := 65
  constantPool := pool
  accessFlags := fl
  thisClass := this
  superClass := sup
  interfaces := ifs
  fields := fds
  methods := ms
  attributes := attrs
def plain (name : String) (sup : Option ClassId) : Class where
  name := name
  kind := .ordinary
  loader := none
  accessFlags := 33
  super := sup
  interfaces := #[]
  cf := none
  fields := #[]
  methods := #[]
  instanceTypes := #[]
  staticTypes := #[]
  resolved := #[]
  callSites := []
  init := .initialized
  statics := none
  mirror := none

def pool0 : Array CpInfo := pool [(5, u "<init>"), (0, u "()V"), (1, .class_ 10), (1, u "java/lang/Object")] 113

def k0m0 : Method := { name := "<init>", desc := "()V", sig := { parameters := [], returnType := none }, accessFlags := 1, code := none }
/-- java/lang/Object -/
def k0 : Class := { plain "java/lang/Object" none with
  accessFlags := 33
  interfaces := #[]
  cf := some (fileOf pool0 8 #[] #[{ accessFlags := 1, nameIndex := 5, descriptorIndex := 6, attributes := #[] }] 33 0 #[] #[])
  fields := #[]
  methods := #[k0m0]
  instanceTypes := #[]
  staticTypes := #[]
  resolved := Array.replicate 124 none
  statics := none }

def pool1 : Array CpInfo := pool [(2, .class_ 4), (1, u "java/lang/Object"), (0, u "<init>"), (0, u "()V"), (0, .integer 2147483647), (0, .methodref 9 10), (0, .class_ 11), (0, .nameAndType 12 13), (0, u "java/lang/Math"), (0, u "min"), (0, u "(II)I"), (0, .methodref 9 15), (0, .nameAndType 16 13), (0, u "max"), (0, .methodref 18 19), (0, .class_ 20), (0, .nameAndType 21 22), (0, u "com/example/serialyte/serialyte/link/ChecksumOfPinLaw"), (0, u "part"), (0, u "(JIII)I"), (0, .methodref 24 25), (0, .class_ 26), (0, .nameAndType 27 28), (0, u "com/example/serialyte/serialyte/link/Checksum"), (0, u "of"), (0, u "([BII)I"), (0, .long 255), (3, u "law"), (0, u "(JII)Z")] 5

def k1m0 : Method := { name := "<init>", desc := "()V", sig := { parameters := [], returnType := none }, accessFlags := 1, code := none }
def k1c1 : Code := { maxStack := 6, maxLocals := 11, code := code, exceptionTable := #[], attributes := #[] }
def k1m1 : Method := { name := "law", desc := "(JII)Z", sig := { parameters := [.long, .int, .int], returnType := some .boolean }, accessFlags := 9, code := some k1c1 }
def k1c2 : Code := { maxStack := 4, maxLocals := 5, code := method_3_code, exceptionTable := #[], attributes := #[] }
def k1m2 : Method := { name := "part", desc := "(JIII)I", sig := { parameters := [.long, .int, .int, .int], returnType := some .int }, accessFlags := 10, code := some k1c2 }
/-- com/example/serialyte/serialyte/link/ChecksumOfPinLaw -/
def k1 : Class := { plain "com/example/serialyte/serialyte/link/ChecksumOfPinLaw" (some 0) with
  accessFlags := 49
  interfaces := #[]
  cf := some (fileOf pool1 18 #[] #[{ accessFlags := 1, nameIndex := 5, descriptorIndex := 6, attributes := #[] }, { accessFlags := 9, nameIndex := 33, descriptorIndex := 34, attributes := #[] }, { accessFlags := 10, nameIndex := 21, descriptorIndex := 22, attributes := #[] }] 49 2 #[] #[])
  fields := #[]
  methods := #[k1m0, k1m1, k1m2]
  instanceTypes := #[]
  staticTypes := #[]
  resolved := Array.replicate 40 none
  statics := none }

def pool2 : Array CpInfo := pool [(1, .class_ 2), (0, u "java/lang/Math"), (1, .class_ 6), (1, u "java/lang/Object"), (0, u "<init>"), (0, u "()V"), (89, .class_ 100), (1, u "java/lang/Math$RandomNumberGeneratorHolder"), (71, u "negativeZeroFloatBits"), (0, u "J"), (2, u "negativeZeroDoubleBits"), (21, u "max"), (2, u "min"), (43, u "$assertionsDisabled"), (0, u "Z"), (88, u "(II)I"), (2, u "twoToTheDoubleScaleDown"), (0, u "D"), (4, u "twoToTheDoubleScaleUp"), (9, u "E"), (3, u "PI"), (2, u "TAU"), (2, u "DEGREES_TO_RADIANS"), (0, u "RADIANS_TO_DEGREES")] 94

def k2m0 : Method := { name := "<init>", desc := "()V", sig := { parameters := [], returnType := none }, accessFlags := 2, code := none }
def k2c1 : Code := { maxStack := 2, maxLocals := 2, code := jdk_29_method_65_code, exceptionTable := #[], attributes := #[] }
def k2m1 : Method := { name := "max", desc := "(II)I", sig := { parameters := [.int, .int], returnType := some .int }, accessFlags := 9, code := some k2c1 }
def k2c2 : Code := { maxStack := 2, maxLocals := 2, code := jdk_29_method_69_code, exceptionTable := #[], attributes := #[] }
def k2m2 : Method := { name := "min", desc := "(II)I", sig := { parameters := [.int, .int], returnType := some .int }, accessFlags := 9, code := some k2c2 }
/-- java/lang/Math -/
def k2 : Class := { plain "java/lang/Math" (some 0) with
  accessFlags := 49
  interfaces := #[]
  cf := some (fileOf pool2 1 #[.nestMembers #[98]] #[{ accessFlags := 2, nameIndex := 7, descriptorIndex := 8, attributes := #[] }, { accessFlags := 9, nameIndex := 198, descriptorIndex := 335, attributes := #[] }, { accessFlags := 9, nameIndex := 201, descriptorIndex := 335, attributes := #[] }] 49 4 #[] #[{ accessFlags := 25, nameIndex := 354, descriptorIndex := 339, attributes := #[] }, { accessFlags := 25, nameIndex := 358, descriptorIndex := 339, attributes := #[] }, { accessFlags := 25, nameIndex := 361, descriptorIndex := 339, attributes := #[] }, { accessFlags := 26, nameIndex := 364, descriptorIndex := 339, attributes := #[] }, { accessFlags := 26, nameIndex := 365, descriptorIndex := 339, attributes := #[] }, { accessFlags := 26, nameIndex := 172, descriptorIndex := 173, attributes := #[] }, { accessFlags := 26, nameIndex := 176, descriptorIndex := 173, attributes := #[] }, { accessFlags := 8, nameIndex := 344, descriptorIndex := 339, attributes := #[] }, { accessFlags := 8, nameIndex := 338, descriptorIndex := 339, attributes := #[] }, { accessFlags := 4120, nameIndex := 245, descriptorIndex := 246, attributes := #[] }])
  fields := #[{ name := "E", type := .double, accessFlags := 25, slot := 0, constantValue := 0 }, { name := "PI", type := .double, accessFlags := 25, slot := 1, constantValue := 0 }, { name := "TAU", type := .double, accessFlags := 25, slot := 2, constantValue := 0 }, { name := "DEGREES_TO_RADIANS", type := .double, accessFlags := 26, slot := 3, constantValue := 0 }, { name := "RADIANS_TO_DEGREES", type := .double, accessFlags := 26, slot := 4, constantValue := 0 }, { name := "negativeZeroFloatBits", type := .long, accessFlags := 26, slot := 5, constantValue := 0 }, { name := "negativeZeroDoubleBits", type := .long, accessFlags := 26, slot := 6, constantValue := 0 }, { name := "twoToTheDoubleScaleUp", type := .double, accessFlags := 8, slot := 7, constantValue := 0 }, { name := "twoToTheDoubleScaleDown", type := .double, accessFlags := 8, slot := 8, constantValue := 0 }, { name := "$assertionsDisabled", type := .boolean, accessFlags := 4120, slot := 9, constantValue := 0 }]
  methods := #[k2m0, k2m1, k2m2]
  instanceTypes := #[]
  staticTypes := #[.double, .double, .double, .double, .double, .long, .long, .double, .double, .boolean]
  resolved := Array.replicate 460 none
  statics := none }

def pool3 : Array CpInfo := pool [(2, .class_ 4), (1, u "java/lang/Object"), (0, u "<init>"), (0, u "()V"), (1, .class_ 10), (1, u "com/example/serialyte/serialyte/link/Checksum"), (0, u "HEX_DIGITS"), (0, u "[B"), (14, u "of"), (0, u "([BII)I")] 6

def k3m0 : Method := { name := "<init>", desc := "()V", sig := { parameters := [], returnType := none }, accessFlags := 2, code := none }
def k3c1 : Code := { maxStack := 3, maxLocals := 5, code := prog_31_method_2_code, exceptionTable := #[], attributes := #[] }
def k3m1 : Method := { name := "of", desc := "([BII)I", sig := { parameters := [(.array .byte), .int, .int], returnType := some .int }, accessFlags := 9, code := some k3c1 }
/-- com/example/serialyte/serialyte/link/Checksum -/
def k3 : Class := { plain "com/example/serialyte/serialyte/link/Checksum" (some 0) with
  accessFlags := 49
  interfaces := #[]
  cf := some (fileOf pool3 8 #[] #[{ accessFlags := 2, nameIndex := 5, descriptorIndex := 6, attributes := #[] }, { accessFlags := 9, nameIndex := 27, descriptorIndex := 28, attributes := #[] }] 49 2 #[] #[{ accessFlags := 26, nameIndex := 11, descriptorIndex := 12, attributes := #[] }])
  fields := #[{ name := "HEX_DIGITS", type := (.array .byte), accessFlags := 26, slot := 0, constantValue := 0 }]
  methods := #[k3m0, k3m1]
  instanceTypes := #[]
  staticTypes := #[(.array .byte)]
  resolved := Array.replicate 35 none
  statics := none }

def pool4 : Array CpInfo := pool [(1, u "java/lang/Cloneable"), (0, .class_ 1), (0, u "java/lang/Object"), (0, .class_ 3)] 3

/-- java/lang/Cloneable -/
def k4 : Class := { plain "java/lang/Cloneable" (some 0) with
  accessFlags := 1537
  interfaces := #[]
  cf := some (fileOf pool4 2 #[] #[] 1537 4 #[] #[])
  fields := #[]
  methods := #[]
  instanceTypes := #[]
  staticTypes := #[]
  resolved := Array.replicate 8 none
  statics := none }

def pool5 : Array CpInfo := pool [(1, u "java/io/Serializable"), (0, .class_ 1), (0, u "java/lang/Object"), (0, .class_ 3)] 3

/-- java/io/Serializable -/
def k5 : Class := { plain "java/io/Serializable" (some 0) with
  accessFlags := 1537
  interfaces := #[]
  cf := some (fileOf pool5 2 #[] #[] 1537 4 #[] #[])
  fields := #[]
  methods := #[]
  instanceTypes := #[]
  staticTypes := #[]
  resolved := Array.replicate 8 none
  statics := none }

/-- the primitive byte -/
def k6 : Class := { plain "byte" none with kind := .primitive 'B', accessFlags := 0x411 }
/-- [B -/
def k7 : Class := { plain "[B" (some 0) with kind := .array 6 .byte, interfaces := #[4, 5], accessFlags := 1041 }

/-- the primitive int -/
def k8 : Class := { plain "int" none with kind := .primitive 'I', accessFlags := 0x411 }
/-- [I -/
def k9 : Class := { plain "[I" (some 0) with kind := .array 8 .int, interfaces := #[4, 5], accessFlags := 1041 }

def heap : Heap := #[]
def classes : Array Class := #[k0, k1, k2, k3, k4, k5, k6, k7, k8, k9]
def interned : List (Array UInt16 × Addr) := []
def slotsUsed : Nat := 0
def theMethod : MethodId := ⟨1, 1⟩
def args0 : Array Value := #[.long 5, .int 2, .int 3]
def aboutOver (below : List Frame) : State where
  vm := { classes := classes, interned := interned.toArray }
  heap := heap
  slotsUsed := slotsUsed
  threads := #[{ frames := .invoking theMethod args0 :: below }]
def below0 : List Frame := [.native { method := ⟨0, 0⟩, args := #[] }]
def about1 : State := aboutOver below0
def p0 : Program := .bare "" "" ""
def e0 : Env := launch0.env 0 0 0
theorem w_frames : about1.frames = Frame.invoking theMethod args0 :: below0 := rfl
set_option maxRecDepth 65536 in
theorem w_args : argsFit about1.vm theMethod args0 = true := by decide +kernel
set_option maxRecDepth 65536 in
theorem w_heap : heapFits about1 = true := by decide +kernel
set_option maxRecDepth 65536 in
theorem w_runnable : about1.curStatus? = some .runnable := by decide +kernel
set_option maxRecDepth 65536 in
theorem w_alone : about1.alone = true := by decide +kernel
set_option maxRecDepth 65536 in
theorem w_named : about1.methodNamed? x = some theMethod := by decide +kernel
set_option maxRecDepth 65536 in
theorem w_hears : about1.hears theMethod below0 = true := by decide +kernel
set_option maxRecDepth 65536 in
theorem w_ripe : about1.ripe theMethod args0 below0 = true := by decide +kernel
theorem w_running : about1.status = .running := rfl
set_option maxRecDepth 65536 in
theorem w_room : about1.hasRoom e0.platform room_1 = true :=
  launch0.hasRoom_least _ room_1 (by decide +kernel) (by decide +kernel) (by decide +kernel) (by decide +kernel) (by decide +kernel) (by decide +kernel)
theorem allAtoms_all (ts : List Jvm.Cond) (a : Array Jvm.Value) (st : Jvm.State) : (allAtoms ts).before a st = ts.all (fun c => c.before a st) := by
  induction ts with
  | nil => rfl
  | cons c t ih =>
    show (Jvm.Cond.and c (allAtoms t)).before a st = _
    rw [Jvm.Cond.before_and, ih, List.all_cons]
def words1 : List Jvm.Cond := Jvm.Cond.code x code maxLocals ret :: tables_1
/-- a 'code' word, met by the world's own term for the bytes: nothing is compared byte by byte -/
theorem code_word {y : MethodName} {bytes : ByteArray} {mx : Nat} {rt : Option FieldType} {a : Array Value} {s : State} {m : MethodId} {meth : Method} {c : Code} (h1 : s.methodNamed? y = some m) (h2 : s.vm.method? m = some meth) (h3 : meth.code = some c) (h4 : c.code = bytes)
    (h5 : (c.maxLocals == mx && c.exceptionTable.isEmpty && decide (c.maxStack ≤ mostOperands) && decide (meth.sig.returnType = rt) && !meth.locks && decide (parseMethodDescriptor y.desc = some meth.sig)) = true) : (Jvm.Cond.code y bytes mx rt).before a s = true := by
  simp only [Bool.and_eq_true, beq_iff_eq, Bool.not_eq_true', decide_eq_true_eq] at h5
  obtain ⟨⟨⟨⟨⟨g1, g2⟩, g3⟩, g4⟩, g5⟩, g6⟩ := h5
  simp [Cond.before, Cond.holds, Cond.value, h1, h2, h3, h4, g1, g2, g3, g4, g5, g6]
def isCode : Jvm.Cond → Bool
  | .code _ _ _ _ => true
  | _ => false
theorem all_split {L : List Jvm.Cond} {P : Jvm.Cond → Bool} (h1 : L.all (fun c => isCode c || P c) = true) (h2 : ∀ c ∈ L.filter isCode, P c = true) : L.all P = true := by
  refine List.all_eq_true.mpr fun c hc => ?_
  have h := List.all_eq_true.mp h1 c hc
  rcases Bool.eq_false_or_eq_true (isCode c) with hi | hi
  · exact h2 c (List.mem_filter.mpr ⟨hc, hi⟩)
  · simpa [hi] using h
set_option maxRecDepth 65536 in
theorem w_c0 : (Jvm.Cond.code x code maxLocals ret).before args0 about1 = true := code_word (m := ⟨1, 1⟩) (meth := k1m1) (c := k1c1) (by decide +kernel) rfl rfl rfl (by decide +kernel)
set_option maxRecDepth 65536 in
theorem w_c1 : (Jvm.Cond.code ({ cls := "java/lang/Math", name := "min", desc := "(II)I" } : Jvm.MethodName) jdk_29_method_69_code (2 : Nat) (Option.some Jvm.ClassFile.FieldType.int)).before args0 about1 = true := code_word (m := ⟨2, 2⟩) (meth := k2m2) (c := k2c2) (by decide +kernel) rfl rfl rfl (by decide +kernel)
set_option maxRecDepth 65536 in
theorem w_c2 : (Jvm.Cond.code ({ cls := "java/lang/Math", name := "max", desc := "(II)I" } : Jvm.MethodName) jdk_29_method_65_code (2 : Nat) (Option.some Jvm.ClassFile.FieldType.int)).before args0 about1 = true := code_word (m := ⟨2, 1⟩) (meth := k2m1) (c := k2c1) (by decide +kernel) rfl rfl rfl (by decide +kernel)
set_option maxRecDepth 65536 in
theorem w_c3 : (Jvm.Cond.code ({ cls := "com/example/serialyte/serialyte/link/ChecksumOfPinLaw", name := "part", desc := "(JIII)I" } : Jvm.MethodName) method_3_code (5 : Nat) (Option.some Jvm.ClassFile.FieldType.int)).before args0 about1 = true := code_word (m := ⟨1, 2⟩) (meth := k1m2) (c := k1c2) (by decide +kernel) rfl rfl rfl (by decide +kernel)
set_option maxRecDepth 65536 in
theorem w_c4 : (Jvm.Cond.code ({ cls := "com/example/serialyte/serialyte/link/Checksum", name := "of", desc := "([BII)I" } : Jvm.MethodName) prog_31_method_2_code (5 : Nat) (Option.some Jvm.ClassFile.FieldType.int)).before args0 about1 = true := code_word (m := ⟨3, 1⟩) (meth := k3m1) (c := k3c1) (by decide +kernel) rfl rfl rfl (by decide +kernel)
def codes1 : List Jvm.Cond := [Jvm.Cond.code x code maxLocals ret, Jvm.Cond.code ({ cls := "java/lang/Math", name := "min", desc := "(II)I" } : Jvm.MethodName) jdk_29_method_69_code (2 : Nat) (Option.some Jvm.ClassFile.FieldType.int), Jvm.Cond.code ({ cls := "java/lang/Math", name := "max", desc := "(II)I" } : Jvm.MethodName) jdk_29_method_65_code (2 : Nat) (Option.some Jvm.ClassFile.FieldType.int), Jvm.Cond.code ({ cls := "com/example/serialyte/serialyte/link/ChecksumOfPinLaw", name := "part", desc := "(JIII)I" } : Jvm.MethodName) method_3_code (5 : Nat) (Option.some Jvm.ClassFile.FieldType.int), Jvm.Cond.code ({ cls := "com/example/serialyte/serialyte/link/Checksum", name := "of", desc := "([BII)I" } : Jvm.MethodName) prog_31_method_2_code (5 : Nat) (Option.some Jvm.ClassFile.FieldType.int)]
set_option maxRecDepth 65536 in
theorem codes_eq : words1.filter isCode = codes1 := rfl
theorem w_codes : ∀ c ∈ words1.filter isCode, c.before args0 about1 = true := by
  rw [codes_eq]
  intro c hc
  simp only [codes1, List.mem_cons, List.not_mem_nil, or_false] at hc
  rcases hc with rfl | rfl | rfl | rfl | rfl
  · exact w_c0
  · exact w_c1
  · exact w_c2
  · exact w_c3
  · exact w_c4
set_option maxRecDepth 65536 in
theorem w_t1 : words1.all (fun c => isCode c || c.before args0 about1) = true := by decide +kernel
theorem w_tables : (allAtoms (Jvm.Cond.code x code maxLocals ret :: tables_1)).before args0 about1 = true := by
  rw [allAtoms_all]
  show words1.all (fun c => c.before args0 about1) = true
  refine all_split ?_ w_codes
  rw [w_t1]
set_option maxRecDepth 65536 in
theorem w_case : (Jvm.Cond.and given_1 narrow_1).before args0 about1 = true := by decide +kernel
theorem w_applies : (headSpec (Jvm.Cond.code x code maxLocals ret :: tables_1) room_1).applies x e0.platform about1 = true :=
  (Spec.applies_iff w_frames).mpr ⟨w_running, w_runnable, w_alone, w_named, w_hears, w_ripe, w_room, w_tables⟩
theorem atStart : AtStart classFile x code maxLocals ret World_1 tables_1 room_1 Calls_1 rest_1 Pre_1 launch0 p0 e0 about1 theMethod args0 below0 :=
  ⟨lists_1, trivial, launch0.admits_env _ _ _, launch0.least_env, fairChoices_fair.cas, fairChoices_fair.clock, w_frames, w_args, w_heap, w_applies, trivial, trivial, w_case⟩
end start1
theorem witness_1 : WitnessClaimed_1 := ⟨start1.p0, start1.e0, start1.about1, start1.theMethod, start1.args0, start1.below0, start1.atStart⟩
end Jvm.Pilot.@@N@@
