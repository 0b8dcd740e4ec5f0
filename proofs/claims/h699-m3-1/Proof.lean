import JvmDerived
import JvmDerived.Pilot.@@N@@Statement
import JvmDerived.Pilot.@@N@@Code
set_option linter.unusedVariables false
set_option linter.unusedSimpArgs false
namespace Jvm.Pilot.@@N@@
open Jvm Jvm.ClassFile Sem Op Lib Jvm.Free Jvm.Stand Jvm.LawKit Jvm.RoadKit Bundle Jvm.Pilot.@@N@@.Jvm.D

section Own
variable {p : Program} {l : Launch} {e : Env} {R : Room} {s : State} {m : MethodId} {args : Array Value} {below : List Frame} {meth : Method} {c : Code} {T : State} {locs : List Loc} {cells slots : Nat} {Z : State} {a0 : Array Value} {h : Heap} {own nm : String} {cd : ByteArray} {mx : Nat} {rt : Option FieldType} {G : State → Prop} {pc pc' : Nat} {Ls Ls' : Array Slot} {st : List Value}
/-- what a walk carries: the goal is closed under steps taken backwards; the body's own facts -/
def ow_K (p : Program) (e : Env) (below : List Frame) (s : State) (m : MethodId) (meth : Method) (c : Code) (Z : State) (own : String) (cd : ByteArray) (mx : Nat) (rt : Option FieldType) (nm : String) (G : State → Prop) : Prop :=
  (∀ A B, (∀ t, Steps p.tables e below B t → Steps p.tables e below A t) → G B → G A) ∧ p.tables.exec = Jvm.exec ∧ c.code = cd ∧ c.maxLocals = mx ∧ s.vm.findClass own = some m.cls ∧ Z.Warmed39 s.vm ∧ meth.sig.returnType = rt ∧ meth.locks = false ∧ meth.name = nm
/-- the goal of a body: it returns, and Q holds of what it returns, of the heap and of the places written -/
def ow_Gl (p : Program) (e : Env) (below : List Frame) (s : State) (Q : Option Value → Heap → List Loc → Prop) (ce sl : Nat) (S : State) : Prop :=
  ∃ s₂ o, Steps p.tables e below S s₂ ∧ s₂.status = .running ∧ Ended s₂ below o ∧ ∃ v L, o = .returned v ∧ Q v s₂.heap L ∧ FrameEnd s o s₂ L ce sl
theorem ow_Gl_bc {Q : Option Value → Heap → List Loc → Prop} {ce sl : Nat} : ∀ A B, (∀ t, Steps p.tables e below B t → Steps p.tables e below A t) → ow_Gl p e below s Q ce sl B → ow_Gl p e below s Q ce sl A := fun A B hs hG => by
  obtain ⟨s₂, o, h1, h2⟩ := hG
  exact ⟨s₂, o, hs _ h1, h2⟩
theorem ow_entry {Q : Option Value → Heap → List Loc → Prop} {ce sl : Nat} {n : Nat} {g : JFrame} (q : entryFrame m args n = g) (hG : ow_Gl p e below s Q ce sl (T.setTop g)) : ow_Gl p e below s Q ce sl (T.setTop (entryFrame m args n)) := q ▸ hG
theorem ow_ne {a b n : Nat} (h : b < n) (g : a = n) : b ≠ a := fun q => by omega
theorem ow_at {g : JFrame} (hG : G (T.setTop g)) : G (T.setTop g) := hG

theorem ow_iload (K : ow_K p e below s m meth c Z own cd mx rt nm G) (X : Stand p l e R s m args below meth c T locs cells slots) {k : Nat} (v : Int32) (hd : decode cd pc = .ok (.iload k, 2)) (hp : pc' = pc + 2) (hl : Ls[k]? = some (.val (.int v))) (hr : G (T.setTop (mkF m pc' Ls (.int v :: st)))) : G (T.setTop (mkF m pc Ls (st))) := by
  subst hp
  exact K.1 _ _ (fun t q => XS.iload X.here K.2.1 rfl (hb K.2.2.1 hd) hl q) hr
theorem ow_iloadN (K : ow_K p e below s m meth c Z own cd mx rt nm G) (X : Stand p l e R s m args below meth c T locs cells slots) {k : Fin 4} (v : Int32) (hd : decode cd pc = .ok (.iload_n k, 1)) (hp : pc' = pc + 1) (hl : Ls[k.val]? = some (.val (.int v))) (hr : G (T.setTop (mkF m pc' Ls (.int v :: st)))) : G (T.setTop (mkF m pc Ls (st))) := by
  subst hp
  exact K.1 _ _ (fun t q => XS.iloadN X.here K.2.1 rfl (hb K.2.2.1 hd) hl q) hr
theorem ow_lload (K : ow_K p e below s m meth c Z own cd mx rt nm G) (X : Stand p l e R s m args below meth c T locs cells slots) {k : Nat} (v : Int64) (hd : decode cd pc = .ok (.lload k, 2)) (hp : pc' = pc + 2) (hl : Ls[k]? = some (.val (.long v))) (hr : G (T.setTop (mkF m pc' Ls (.long v :: st)))) : G (T.setTop (mkF m pc Ls (st))) := by
  subst hp
  exact K.1 _ _ (fun t q => XT.lload X.here K.2.1 rfl (hb K.2.2.1 hd) hl q) hr
theorem ow_lloadN (K : ow_K p e below s m meth c Z own cd mx rt nm G) (X : Stand p l e R s m args below meth c T locs cells slots) {k : Fin 4} (v : Int64) (hd : decode cd pc = .ok (.lload_n k, 1)) (hp : pc' = pc + 1) (hl : Ls[k.val]? = some (.val (.long v))) (hr : G (T.setTop (mkF m pc' Ls (.long v :: st)))) : G (T.setTop (mkF m pc Ls (st))) := by
  subst hp
  exact K.1 _ _ (fun t q => XT.lloadN X.here K.2.1 rfl (hb K.2.2.1 hd) hl q) hr
theorem ow_aload (K : ow_K p e below s m meth c Z own cd mx rt nm G) (X : Stand p l e R s m args below meth c T locs cells slots) {k : Nat} (v : Addr) (hd : decode cd pc = .ok (.aload k, 2)) (hp : pc' = pc + 2) (hl : Ls[k]? = some (.val (.ref v))) (hr : G (T.setTop (mkF m pc' Ls (.ref v :: st)))) : G (T.setTop (mkF m pc Ls (st))) := by
  subst hp
  exact K.1 _ _ (fun t q => XS.aload X.here K.2.1 rfl (hb K.2.2.1 hd) hl rfl q) hr
theorem ow_aloadN (K : ow_K p e below s m meth c Z own cd mx rt nm G) (X : Stand p l e R s m args below meth c T locs cells slots) {k : Fin 4} (v : Addr) (hd : decode cd pc = .ok (.aload_n k, 1)) (hp : pc' = pc + 1) (hl : Ls[k.val]? = some (.val (.ref v))) (hr : G (T.setTop (mkF m pc' Ls (.ref v :: st)))) : G (T.setTop (mkF m pc Ls (st))) := by
  subst hp
  exact K.1 _ _ (fun t q => XS.aloadN X.here K.2.1 rfl (hb K.2.2.1 hd) hl rfl q) hr
theorem ow_istore (K : ow_K p e below s m meth c Z own cd mx rt nm G) (X : Stand p l e R s m args below meth c T locs cells slots) {k : Nat} {v : Int32} (hd : decode cd pc = .ok (.istore k, 2)) (hp : pc' = pc + 2) (hl : storeLocals Ls k (.int v) = some Ls') (hr : G (T.setTop (mkF m pc' Ls' (st)))) : G (T.setTop (mkF m pc Ls (.int v :: st))) := by
  subst hp
  exact K.1 _ _ (fun t q => XS.istore X.here K.2.1 rfl (hb K.2.2.1 hd) rfl hl q) hr
theorem ow_istoreN (K : ow_K p e below s m meth c Z own cd mx rt nm G) (X : Stand p l e R s m args below meth c T locs cells slots) {k : Fin 4} {v : Int32} (hd : decode cd pc = .ok (.istore_n k, 1)) (hp : pc' = pc + 1) (hl : storeLocals Ls k.val (.int v) = some Ls') (hr : G (T.setTop (mkF m pc' Ls' (st)))) : G (T.setTop (mkF m pc Ls (.int v :: st))) := by
  subst hp
  exact K.1 _ _ (fun t q => XS.istoreN X.here K.2.1 rfl (hb K.2.2.1 hd) rfl hl q) hr
theorem ow_lstore (K : ow_K p e below s m meth c Z own cd mx rt nm G) (X : Stand p l e R s m args below meth c T locs cells slots) {k : Nat} {v : Int64} (hd : decode cd pc = .ok (.lstore k, 2)) (hp : pc' = pc + 2) (hl : storeLocals Ls k (.long v) = some Ls') (hr : G (T.setTop (mkF m pc' Ls' (st)))) : G (T.setTop (mkF m pc Ls (.long v :: st))) := by
  subst hp
  exact K.1 _ _ (fun t q => XT.lstore X.here K.2.1 rfl (hb K.2.2.1 hd) rfl hl q) hr
theorem ow_lstoreN (K : ow_K p e below s m meth c Z own cd mx rt nm G) (X : Stand p l e R s m args below meth c T locs cells slots) {k : Fin 4} {v : Int64} (hd : decode cd pc = .ok (.lstore_n k, 1)) (hp : pc' = pc + 1) (hl : storeLocals Ls k.val (.long v) = some Ls') (hr : G (T.setTop (mkF m pc' Ls' (st)))) : G (T.setTop (mkF m pc Ls (.long v :: st))) := by
  subst hp
  exact K.1 _ _ (fun t q => XT.lstoreN X.here K.2.1 rfl (hb K.2.2.1 hd) rfl hl q) hr
theorem ow_astore (K : ow_K p e below s m meth c Z own cd mx rt nm G) (X : Stand p l e R s m args below meth c T locs cells slots) {k : Nat} {v : Addr} (hd : decode cd pc = .ok (.astore k, 2)) (hp : pc' = pc + 2) (hl : storeLocals Ls k (.ref v) = some Ls') (hr : G (T.setTop (mkF m pc' Ls' (st)))) : G (T.setTop (mkF m pc Ls (.ref v :: st))) := by
  subst hp
  exact K.1 _ _ (fun t q => XS.astore X.here K.2.1 rfl (hb K.2.2.1 hd) rfl rfl hl q) hr
theorem ow_astoreN (K : ow_K p e below s m meth c Z own cd mx rt nm G) (X : Stand p l e R s m args below meth c T locs cells slots) {k : Fin 4} {v : Addr} (hd : decode cd pc = .ok (.astore_n k, 1)) (hp : pc' = pc + 1) (hl : storeLocals Ls k.val (.ref v) = some Ls') (hr : G (T.setTop (mkF m pc' Ls' (st)))) : G (T.setTop (mkF m pc Ls (.ref v :: st))) := by
  subst hp
  exact K.1 _ _ (fun t q => XS.astoreN X.here K.2.1 rfl (hb K.2.2.1 hd) rfl rfl hl q) hr
theorem ow_iinc (K : ow_K p e below s m meth c Z own cd mx rt nm G) (X : Stand p l e R s m args below meth c T locs cells slots) {k : Nat} {i : Int} {x : Int32} (y v : Int32) (hd : decode cd pc = .ok (.iinc k i, 3)) (hp : pc' = pc + 3) (hy : Int32.ofInt i = y) (hx : Ls[k]? = some (.val (.int x))) (hv : x + y = v) (hl : storeLocals Ls k (.int v) = some Ls') (hr : G (T.setTop (mkF m pc' Ls' (st)))) : G (T.setTop (mkF m pc Ls (st))) := by
  subst hp
  exact K.1 _ _ (fun t q => XT.iincV X.here K.2.1 rfl y (hb K.2.2.1 hd) hy hx (hv ▸ hl) q) hr
theorem ow_iconst (K : ow_K p e below s m meth c Z own cd mx rt nm G) (X : Stand p l e R s m args below meth c T locs cells slots) {i : Int} (v : Int32) (hd : decode cd pc = .ok (.iconst i, 1)) (hp : pc' = pc + 1) (hv : Int32.ofInt i = v) (hr : G (T.setTop (mkF m pc' Ls (.int v :: st)))) : G (T.setTop (mkF m pc Ls (st))) := by
  subst hp
  exact K.1 _ _ (fun t q => XT.iconstV X.here K.2.1 rfl v (hb K.2.2.1 hd) hv q) hr
theorem ow_bipush (K : ow_K p e below s m meth c Z own cd mx rt nm G) (X : Stand p l e R s m args below meth c T locs cells slots) {i : Int} (v : Int32) (hd : decode cd pc = .ok (.bipush i, 2)) (hp : pc' = pc + 2) (hv : (Int8.ofInt i).toInt32 = v) (hr : G (T.setTop (mkF m pc' Ls (.int v :: st)))) : G (T.setTop (mkF m pc Ls (st))) := by
  subst hp
  exact K.1 _ _ (fun t q => XT.bipushV X.here K.2.1 rfl v (hb K.2.2.1 hd) hv q) hr
theorem ow_sipush (K : ow_K p e below s m meth c Z own cd mx rt nm G) (X : Stand p l e R s m args below meth c T locs cells slots) {i : Int} (v : Int32) (hd : decode cd pc = .ok (.sipush i, 3)) (hp : pc' = pc + 3) (hv : (Int16.ofInt i).toInt32 = v) (hr : G (T.setTop (mkF m pc' Ls (.int v :: st)))) : G (T.setTop (mkF m pc Ls (st))) := by
  subst hp
  exact K.1 _ _ (fun t q => XT.sipushV X.here K.2.1 rfl v (hb K.2.2.1 hd) hv q) hr
theorem ow_lconst (K : ow_K p e below s m meth c Z own cd mx rt nm G) (X : Stand p l e R s m args below meth c T locs cells slots) {k : Fin 2} (v : Int64) (hd : decode cd pc = .ok (.lconst k, 1)) (hp : pc' = pc + 1) (hv : Int64.ofNat k = v) (hr : G (T.setTop (mkF m pc' Ls (.long v :: st)))) : G (T.setTop (mkF m pc Ls (st))) := by
  subst hp
  exact K.1 _ _ (fun t q => XT.lconstV X.here K.2.1 rfl v (hb K.2.2.1 hd) hv q) hr
theorem ow_ldcI (K : ow_K p e below s m meth c Z own cd mx rt nm G) (X : Stand p l e R s m args below meth c T locs cells slots) {i : Nat} (v : Int32) (hd : decode cd pc = .ok (.ldc i, 2)) (hp : pc' = pc + 2) (w : (Jvm.Cond.constant own i v).before a0 Z = true) (hr : G (T.setTop (mkF m pc' Ls (.int v :: st)))) : G (T.setTop (mkF m pc Ls (st))) := by
  subst hp
  exact K.1 _ _ (fun t q => X.ldcI K.2.1 K.2.2.2.2.1 (mvT K.2.2.2.2.2.1 w) rfl (hb K.2.2.1 hd) q) hr
theorem ow_ldcWI (K : ow_K p e below s m meth c Z own cd mx rt nm G) (X : Stand p l e R s m args below meth c T locs cells slots) {i : Nat} (v : Int32) (hd : decode cd pc = .ok (.ldc_w i, 3)) (hp : pc' = pc + 3) (w : (Jvm.Cond.constant own i v).before a0 Z = true) (hr : G (T.setTop (mkF m pc' Ls (.int v :: st)))) : G (T.setTop (mkF m pc Ls (st))) := by
  subst hp
  exact K.1 _ _ (fun t q => X.ldcWI K.2.1 K.2.2.2.2.1 (mvT K.2.2.2.2.2.1 w) rfl (hb K.2.2.1 hd) q) hr
theorem ow_ldc2 (K : ow_K p e below s m meth c Z own cd mx rt nm G) (X : Stand p l e R s m args below meth c T locs cells slots) {i : Nat} (v : Int64) (hd : decode cd pc = .ok (.ldc2_w i, 3)) (hp : pc' = pc + 3) (w : (Jvm.Cond.constantLong own i v).before a0 Z = true) (hr : G (T.setTop (mkF m pc' Ls (.long v :: st)))) : G (T.setTop (mkF m pc Ls (st))) := by
  subst hp
  exact K.1 _ _ (fun t q => X.ldc2J K.2.1 K.2.2.2.2.1 (mvT K.2.2.2.2.2.1 w) rfl (hb K.2.2.1 hd) q) hr
theorem ow_iadd (K : ow_K p e below s m meth c Z own cd mx rt nm G) (X : Stand p l e R s m args below meth c T locs cells slots) {x y : Int32} (v : Int32) (hd : decode cd pc = .ok (.iadd, 1)) (hp : pc' = pc + 1) (hv : x + y = v) (hr : G (T.setTop (mkF m pc' Ls (.int v :: st)))) : G (T.setTop (mkF m pc Ls (.int y :: .int x :: st))) := by
  subst hp
  exact K.1 _ _ (fun t q => XS.iadd X.here K.2.1 rfl (hb K.2.2.1 hd) rfl (hv ▸ q)) hr
theorem ow_isub (K : ow_K p e below s m meth c Z own cd mx rt nm G) (X : Stand p l e R s m args below meth c T locs cells slots) {x y : Int32} (v : Int32) (hd : decode cd pc = .ok (.isub, 1)) (hp : pc' = pc + 1) (hv : x - y = v) (hr : G (T.setTop (mkF m pc' Ls (.int v :: st)))) : G (T.setTop (mkF m pc Ls (.int y :: .int x :: st))) := by
  subst hp
  exact K.1 _ _ (fun t q => XS.isub X.here K.2.1 rfl (hb K.2.2.1 hd) rfl (hv ▸ q)) hr
theorem ow_imul (K : ow_K p e below s m meth c Z own cd mx rt nm G) (X : Stand p l e R s m args below meth c T locs cells slots) {x y : Int32} (v : Int32) (hd : decode cd pc = .ok (.imul, 1)) (hp : pc' = pc + 1) (hv : x * y = v) (hr : G (T.setTop (mkF m pc' Ls (.int v :: st)))) : G (T.setTop (mkF m pc Ls (.int y :: .int x :: st))) := by
  subst hp
  exact K.1 _ _ (fun t q => XS.imul X.here K.2.1 rfl (hb K.2.2.1 hd) rfl (hv ▸ q)) hr
theorem ow_iand (K : ow_K p e below s m meth c Z own cd mx rt nm G) (X : Stand p l e R s m args below meth c T locs cells slots) {x y : Int32} (v : Int32) (hd : decode cd pc = .ok (.iand, 1)) (hp : pc' = pc + 1) (hv : x &&& y = v) (hr : G (T.setTop (mkF m pc' Ls (.int v :: st)))) : G (T.setTop (mkF m pc Ls (.int y :: .int x :: st))) := by
  subst hp
  exact K.1 _ _ (fun t q => XS.iand X.here K.2.1 rfl (hb K.2.2.1 hd) rfl (hv ▸ q)) hr
theorem ow_ixor (K : ow_K p e below s m meth c Z own cd mx rt nm G) (X : Stand p l e R s m args below meth c T locs cells slots) {x y : Int32} (v : Int32) (hd : decode cd pc = .ok (.ixor, 1)) (hp : pc' = pc + 1) (hv : x ^^^ y = v) (hr : G (T.setTop (mkF m pc' Ls (.int v :: st)))) : G (T.setTop (mkF m pc Ls (.int y :: .int x :: st))) := by
  subst hp
  exact K.1 _ _ (fun t q => XT.ixor X.here K.2.1 rfl (hb K.2.2.1 hd) rfl (hv ▸ q)) hr
theorem ow_ior (K : ow_K p e below s m meth c Z own cd mx rt nm G) (X : Stand p l e R s m args below meth c T locs cells slots) {x y : Int32} (v : Int32) (hd : decode cd pc = .ok (.ior, 1)) (hp : pc' = pc + 1) (hv : x ||| y = v) (hr : G (T.setTop (mkF m pc' Ls (.int v :: st)))) : G (T.setTop (mkF m pc Ls (.int y :: .int x :: st))) := by
  subst hp
  exact K.1 _ _ (fun t q => XT.ior X.here K.2.1 rfl (hb K.2.2.1 hd) rfl (hv ▸ q)) hr
theorem ow_ishl (K : ow_K p e below s m meth c Z own cd mx rt nm G) (X : Stand p l e R s m args below meth c T locs cells slots) {x y : Int32} (v : Int32) (hd : decode cd pc = .ok (.ishl, 1)) (hp : pc' = pc + 1) (hv : x <<< (y &&& 31) = v) (hr : G (T.setTop (mkF m pc' Ls (.int v :: st)))) : G (T.setTop (mkF m pc Ls (.int y :: .int x :: st))) := by
  subst hp
  exact K.1 _ _ (fun t q => XT.ishl X.here K.2.1 rfl (hb K.2.2.1 hd) rfl (hv ▸ q)) hr
theorem ow_ishr (K : ow_K p e below s m meth c Z own cd mx rt nm G) (X : Stand p l e R s m args below meth c T locs cells slots) {x y : Int32} (v : Int32) (hd : decode cd pc = .ok (.ishr, 1)) (hp : pc' = pc + 1) (hv : x >>> (y &&& 31) = v) (hr : G (T.setTop (mkF m pc' Ls (.int v :: st)))) : G (T.setTop (mkF m pc Ls (.int y :: .int x :: st))) := by
  subst hp
  exact K.1 _ _ (fun t q => XT.ishr X.here K.2.1 rfl (hb K.2.2.1 hd) rfl (hv ▸ q)) hr
theorem ow_iushr (K : ow_K p e below s m meth c Z own cd mx rt nm G) (X : Stand p l e R s m args below meth c T locs cells slots) {x y : Int32} (v : Int32) (hd : decode cd pc = .ok (.iushr, 1)) (hp : pc' = pc + 1) (hv : XT.ushr x y = v) (hr : G (T.setTop (mkF m pc' Ls (.int v :: st)))) : G (T.setTop (mkF m pc Ls (.int y :: .int x :: st))) := by
  subst hp
  exact K.1 _ _ (fun t q => XT.iushr X.here K.2.1 rfl (hb K.2.2.1 hd) rfl (hv ▸ q)) hr
theorem ow_irem (K : ow_K p e below s m meth c Z own cd mx rt nm G) (X : Stand p l e R s m args below meth c T locs cells slots) {x y : Int32} (v : Int32) (hd : decode cd pc = .ok (.irem, 1)) (hp : pc' = pc + 1) (hy : y ≠ 0) (hv : x - (x / y) * y = v) (hr : G (T.setTop (mkF m pc' Ls (.int v :: st)))) : G (T.setTop (mkF m pc Ls (.int y :: .int x :: st))) := by
  subst hp
  exact K.1 _ _ (fun t q => XS.irem X.here K.2.1 rfl (hb K.2.2.1 hd) rfl hy (hv ▸ q)) hr
theorem ow_ladd (K : ow_K p e below s m meth c Z own cd mx rt nm G) (X : Stand p l e R s m args below meth c T locs cells slots) {x y : Int64} (v : Int64) (hd : decode cd pc = .ok (.ladd, 1)) (hp : pc' = pc + 1) (hv : x + y = v) (hr : G (T.setTop (mkF m pc' Ls (.long v :: st)))) : G (T.setTop (mkF m pc Ls (.long y :: .long x :: st))) := by
  subst hp
  exact K.1 _ _ (fun t q => XT.ladd X.here K.2.1 rfl (hb K.2.2.1 hd) rfl (hv ▸ q)) hr
theorem ow_lsub (K : ow_K p e below s m meth c Z own cd mx rt nm G) (X : Stand p l e R s m args below meth c T locs cells slots) {x y : Int64} (v : Int64) (hd : decode cd pc = .ok (.lsub, 1)) (hp : pc' = pc + 1) (hv : x - y = v) (hr : G (T.setTop (mkF m pc' Ls (.long v :: st)))) : G (T.setTop (mkF m pc Ls (.long y :: .long x :: st))) := by
  subst hp
  exact K.1 _ _ (fun t q => XT.lsub X.here K.2.1 rfl (hb K.2.2.1 hd) rfl (hv ▸ q)) hr
theorem ow_lmul (K : ow_K p e below s m meth c Z own cd mx rt nm G) (X : Stand p l e R s m args below meth c T locs cells slots) {x y : Int64} (v : Int64) (hd : decode cd pc = .ok (.lmul, 1)) (hp : pc' = pc + 1) (hv : x * y = v) (hr : G (T.setTop (mkF m pc' Ls (.long v :: st)))) : G (T.setTop (mkF m pc Ls (.long y :: .long x :: st))) := by
  subst hp
  exact K.1 _ _ (fun t q => XT.lmul X.here K.2.1 rfl (hb K.2.2.1 hd) rfl (hv ▸ q)) hr
theorem ow_land (K : ow_K p e below s m meth c Z own cd mx rt nm G) (X : Stand p l e R s m args below meth c T locs cells slots) {x y : Int64} (v : Int64) (hd : decode cd pc = .ok (.land, 1)) (hp : pc' = pc + 1) (hv : x &&& y = v) (hr : G (T.setTop (mkF m pc' Ls (.long v :: st)))) : G (T.setTop (mkF m pc Ls (.long y :: .long x :: st))) := by
  subst hp
  exact K.1 _ _ (fun t q => XT.land X.here K.2.1 rfl (hb K.2.2.1 hd) rfl (hv ▸ q)) hr
theorem ow_lor (K : ow_K p e below s m meth c Z own cd mx rt nm G) (X : Stand p l e R s m args below meth c T locs cells slots) {x y : Int64} (v : Int64) (hd : decode cd pc = .ok (.lor, 1)) (hp : pc' = pc + 1) (hv : x ||| y = v) (hr : G (T.setTop (mkF m pc' Ls (.long v :: st)))) : G (T.setTop (mkF m pc Ls (.long y :: .long x :: st))) := by
  subst hp
  exact K.1 _ _ (fun t q => XT.lor X.here K.2.1 rfl (hb K.2.2.1 hd) rfl (hv ▸ q)) hr
theorem ow_lxor (K : ow_K p e below s m meth c Z own cd mx rt nm G) (X : Stand p l e R s m args below meth c T locs cells slots) {x y : Int64} (v : Int64) (hd : decode cd pc = .ok (.lxor, 1)) (hp : pc' = pc + 1) (hv : x ^^^ y = v) (hr : G (T.setTop (mkF m pc' Ls (.long v :: st)))) : G (T.setTop (mkF m pc Ls (.long y :: .long x :: st))) := by
  subst hp
  exact K.1 _ _ (fun t q => XT.lxor X.here K.2.1 rfl (hb K.2.2.1 hd) rfl (hv ▸ q)) hr
theorem ow_lrem (K : ow_K p e below s m meth c Z own cd mx rt nm G) (X : Stand p l e R s m args below meth c T locs cells slots) {x y : Int64} (v : Int64) (hd : decode cd pc = .ok (.lrem, 1)) (hp : pc' = pc + 1) (hy : y ≠ 0) (hv : x - (x / y) * y = v) (hr : G (T.setTop (mkF m pc' Ls (.long v :: st)))) : G (T.setTop (mkF m pc Ls (.long y :: .long x :: st))) := by
  subst hp
  exact K.1 _ _ (fun t q => XT.lrem X.here K.2.1 rfl (hb K.2.2.1 hd) rfl hy (hv ▸ q)) hr
theorem ow_lshl (K : ow_K p e below s m meth c Z own cd mx rt nm G) (X : Stand p l e R s m args below meth c T locs cells slots) {x : Int64} {y : Int32} (v : Int64) (hd : decode cd pc = .ok (.lshl, 1)) (hp : pc' = pc + 1) (hv : x <<< (y.toInt64 &&& 63) = v) (hr : G (T.setTop (mkF m pc' Ls (.long v :: st)))) : G (T.setTop (mkF m pc Ls (.int y :: .long x :: st))) := by
  subst hp
  exact K.1 _ _ (fun t q => XT.lshl X.here K.2.1 rfl (hb K.2.2.1 hd) rfl (hv ▸ q)) hr
theorem ow_lshr (K : ow_K p e below s m meth c Z own cd mx rt nm G) (X : Stand p l e R s m args below meth c T locs cells slots) {x : Int64} {y : Int32} (v : Int64) (hd : decode cd pc = .ok (.lshr, 1)) (hp : pc' = pc + 1) (hv : x >>> (y.toInt64 &&& 63) = v) (hr : G (T.setTop (mkF m pc' Ls (.long v :: st)))) : G (T.setTop (mkF m pc Ls (.int y :: .long x :: st))) := by
  subst hp
  exact K.1 _ _ (fun t q => XT.lshr X.here K.2.1 rfl (hb K.2.2.1 hd) rfl (hv ▸ q)) hr
theorem ow_lushr (K : ow_K p e below s m meth c Z own cd mx rt nm G) (X : Stand p l e R s m args below meth c T locs cells slots) {x : Int64} {y : Int32} (v : Int64) (hd : decode cd pc = .ok (.lushr, 1)) (hp : pc' = pc + 1) (hv : XT.ushrL x y = v) (hr : G (T.setTop (mkF m pc' Ls (.long v :: st)))) : G (T.setTop (mkF m pc Ls (.int y :: .long x :: st))) := by
  subst hp
  exact K.1 _ _ (fun t q => XT.lushr X.here K.2.1 rfl (hb K.2.2.1 hd) rfl (hv ▸ q)) hr
theorem ow_lcmp (K : ow_K p e below s m meth c Z own cd mx rt nm G) (X : Stand p l e R s m args below meth c T locs cells slots) {x y : Int64} (v : Int32) (hd : decode cd pc = .ok (.lcmp, 1)) (hp : pc' = pc + 1) (hv : XT.cmpL x y = v) (hr : G (T.setTop (mkF m pc' Ls (.int v :: st)))) : G (T.setTop (mkF m pc Ls (.long y :: .long x :: st))) := by
  subst hp
  exact K.1 _ _ (fun t q => XT.lcmp X.here K.2.1 rfl (hb K.2.2.1 hd) rfl (hv ▸ q)) hr
theorem ow_ineg (K : ow_K p e below s m meth c Z own cd mx rt nm G) (X : Stand p l e R s m args below meth c T locs cells slots) {x : Int32} (v : Int32) (hd : decode cd pc = .ok (.ineg, 1)) (hp : pc' = pc + 1) (hv : -x = v) (hr : G (T.setTop (mkF m pc' Ls (.int v :: st)))) : G (T.setTop (mkF m pc Ls (.int x :: st))) := by
  subst hp
  exact K.1 _ _ (fun t q => XS.ineg X.here K.2.1 rfl (hb K.2.2.1 hd) rfl (hv ▸ q)) hr
theorem ow_i2b (K : ow_K p e below s m meth c Z own cd mx rt nm G) (X : Stand p l e R s m args below meth c T locs cells slots) {x : Int32} (v : Int32) (hd : decode cd pc = .ok (.i2b, 1)) (hp : pc' = pc + 1) (hv : x.toInt8.toInt32 = v) (hr : G (T.setTop (mkF m pc' Ls (.int v :: st)))) : G (T.setTop (mkF m pc Ls (.int x :: st))) := by
  subst hp
  exact K.1 _ _ (fun t q => XT.i2b X.here K.2.1 rfl (hb K.2.2.1 hd) rfl (hv ▸ q)) hr
theorem ow_i2l (K : ow_K p e below s m meth c Z own cd mx rt nm G) (X : Stand p l e R s m args below meth c T locs cells slots) {x : Int32} (v : Int64) (hd : decode cd pc = .ok (.i2l, 1)) (hp : pc' = pc + 1) (hv : x.toInt64 = v) (hr : G (T.setTop (mkF m pc' Ls (.long v :: st)))) : G (T.setTop (mkF m pc Ls (.int x :: st))) := by
  subst hp
  exact K.1 _ _ (fun t q => XT.i2l X.here K.2.1 rfl (hb K.2.2.1 hd) rfl (hv ▸ q)) hr
theorem ow_l2i (K : ow_K p e below s m meth c Z own cd mx rt nm G) (X : Stand p l e R s m args below meth c T locs cells slots) {x : Int64} (v : Int32) (hd : decode cd pc = .ok (.l2i, 1)) (hp : pc' = pc + 1) (hv : x.toInt32 = v) (hr : G (T.setTop (mkF m pc' Ls (.int v :: st)))) : G (T.setTop (mkF m pc Ls (.long x :: st))) := by
  subst hp
  exact K.1 _ _ (fun t q => XT.l2i X.here K.2.1 rfl (hb K.2.2.1 hd) rfl (hv ▸ q)) hr
theorem ow_dup (K : ow_K p e below s m meth c Z own cd mx rt nm G) (X : Stand p l e R s m args below meth c T locs cells slots) {v : Value} (hd : decode cd pc = .ok (.dup, 1)) (hp : pc' = pc + 1) (hc : v.category = 1) (hr : G (T.setTop (mkF m pc' Ls (v :: v :: st)))) : G (T.setTop (mkF m pc Ls (v :: st))) := by
  subst hp
  exact K.1 _ _ (fun t q => XS.dup X.here K.2.1 rfl (hb K.2.2.1 hd) rfl hc q) hr
theorem ow_pop (K : ow_K p e below s m meth c Z own cd mx rt nm G) (X : Stand p l e R s m args below meth c T locs cells slots) {v : Value} (hd : decode cd pc = .ok (.pop, 1)) (hp : pc' = pc + 1) (hc : v.category = 1) (hr : G (T.setTop (mkF m pc' Ls (st)))) : G (T.setTop (mkF m pc Ls (v :: st))) := by
  subst hp
  exact K.1 _ _ (fun t q => XT.pop X.here K.2.1 rfl (hb K.2.2.1 hd) rfl hc q) hr
theorem ow_dupX1 (K : ow_K p e below s m meth c Z own cd mx rt nm G) (X : Stand p l e R s m args below meth c T locs cells slots) {v w : Value} (hd : decode cd pc = .ok (.dup_x1, 1)) (hp : pc' = pc + 1) (hc : v.category = 1) (hc' : w.category = 1) (hr : G (T.setTop (mkF m pc' Ls (v :: w :: v :: st)))) : G (T.setTop (mkF m pc Ls (v :: w :: st))) := by
  subst hp
  exact K.1 _ _ (fun t q => XT.dupX1 X.here K.2.1 rfl (hb K.2.2.1 hd) rfl hc hc' q) hr
theorem ow_dup2 (K : ow_K p e below s m meth c Z own cd mx rt nm G) (X : Stand p l e R s m args below meth c T locs cells slots) {v w : Value} (hd : decode cd pc = .ok (.dup2, 1)) (hp : pc' = pc + 1) (hc : v.category = 1) (hc' : w.category = 1) (hr : G (T.setTop (mkF m pc' Ls (v :: w :: v :: w :: st)))) : G (T.setTop (mkF m pc Ls (v :: w :: st))) := by
  subst hp
  exact K.1 _ _ (fun t q => XT.dup2 X.here K.2.1 rfl (hb K.2.2.1 hd) rfl hc hc' q) hr
theorem ow_goto (K : ow_K p e below s m meth c Z own cd mx rt nm G) (X : Stand p l e R s m args below meth c T locs cells slots)  {o : Int} (hd : decode cd pc = .ok (.goto o, 3))  (ho : 0 ≤ (pc : Int) + o) (hp : ((pc : Int) + o).toNat = pc') (hr : G (T.setTop (mkF m pc' Ls (st)))) : G (T.setTop (mkF m pc Ls (st))) := K.1 _ _ (fun t q => XS.goto X.here K.2.1 rfl (pc0 := pc) rfl (hb K.2.2.1 hd) ho hp q) hr
theorem ow_ifY (K : ow_K p e below s m meth c Z own cd mx rt nm G) (X : Stand p l e R s m args below meth c T locs cells slots) {cc : ClassFile.Cond} {x : Int32} {o : Int} (hd : decode cd pc = .ok (.ifCond cc o, 3)) (hc : ifCond.holds cc x = true) (ho : 0 ≤ (pc : Int) + o) (hp : ((pc : Int) + o).toNat = pc') (hr : G (T.setTop (mkF m pc' Ls (st)))) : G (T.setTop (mkF m pc Ls (.int x :: st))) := K.1 _ _ (fun t q => XS.ifYes X.here K.2.1 rfl (pc0 := pc) rfl (hb K.2.2.1 hd) rfl hc ho hp q) hr
theorem ow_icmpY (K : ow_K p e below s m meth c Z own cd mx rt nm G) (X : Stand p l e R s m args below meth c T locs cells slots) {cc : ClassFile.Cond} {x y : Int32} {o : Int} (hd : decode cd pc = .ok (.if_icmp cc o, 3)) (hc : if_icmp.holds cc x y = true) (ho : 0 ≤ (pc : Int) + o) (hp : ((pc : Int) + o).toNat = pc') (hr : G (T.setTop (mkF m pc' Ls (st)))) : G (T.setTop (mkF m pc Ls (.int y :: .int x :: st))) := K.1 _ _ (fun t q => XS.icmpYes X.here K.2.1 rfl (pc0 := pc) rfl (hb K.2.2.1 hd) rfl hc ho hp q) hr
theorem ow_ifN (K : ow_K p e below s m meth c Z own cd mx rt nm G) (X : Stand p l e R s m args below meth c T locs cells slots) {cc : ClassFile.Cond} {x : Int32} {o : Int} (hd : decode cd pc = .ok (.ifCond cc o, 3)) (hp : pc' = pc + 3) (hc : ifCond.holds cc x = false) (hr : G (T.setTop (mkF m pc' Ls (st)))) : G (T.setTop (mkF m pc Ls (.int x :: st))) := by
  subst hp
  exact K.1 _ _ (fun t q => XS.ifNo X.here K.2.1 rfl (hb K.2.2.1 hd) rfl hc q) hr
theorem ow_icmpN (K : ow_K p e below s m meth c Z own cd mx rt nm G) (X : Stand p l e R s m args below meth c T locs cells slots) {cc : ClassFile.Cond} {x y : Int32} {o : Int} (hd : decode cd pc = .ok (.if_icmp cc o, 3)) (hp : pc' = pc + 3) (hc : if_icmp.holds cc x y = false) (hr : G (T.setTop (mkF m pc' Ls (st)))) : G (T.setTop (mkF m pc Ls (.int y :: .int x :: st))) := by
  subst hp
  exact K.1 _ _ (fun t q => XS.icmpNo X.here K.2.1 rfl (hb K.2.2.1 hd) rfl hc q) hr
/-- an index as an int and as a natural -/
def ow_Ix (j : Int32) (i : Nat) : Prop := ¬ j < 0 ∧ j.toNatClampNeg = i
theorem ow_ix_nat {i : Nat} (hi : i < 2 ^ 31) : ow_Ix (Int32.ofNat i) i := by
  have q : (Int32.ofNat i).toInt = i := Int32.toInt_ofNat_of_lt hi
  refine ⟨?_, ?_⟩
  · rw [Int32.lt_iff_toInt_lt, q]; show ¬ (i : Int) < 0; omega
  · simp only [Int32.toNatClampNeg, q]; rfl
theorem ow_in {cl : Cell} {z j : Int32} {i : Nat} (S : cl.slots.size = z.toNatClampNeg) (J : ow_Ix j i) (hi : i < z.toNatClampNeg) : ¬ (j < 0 ∨ cl.slots.size ≤ j.toNatClampNeg) := fun q => q.elim J.1 fun q => by rw [S, J.2] at q; omega
theorem ow_iaload (K : ow_K p e below s m meth c Z own cd mx rt nm G) (X : Stand p l e R s m args below meth c T locs cells slots) (eT : T.heap = h) {a : Addr} {k : ClassId} {z j : Int32} {vs : List Value} {dv : Value} (F : Arv Z h a k .int z vs dv) (i : Nat) (v : Value) (J : ow_Ix j i) (hi : i < z.toNatClampNeg) (hv : vs.getD i dv = v) (hd : decode cd pc = .ok (.iaload, 1)) (hp : pc' = pc + 1) (hr : G (T.setTop (mkF m pc' Ls (v :: st)))) : G (T.setTop (mkF m pc Ls (.int j :: .ref a :: st))) := by
  subst hp
  obtain ⟨cl, A, -, S, -, H, -⟩ := F
  exact K.1 _ _ (fun t q => X.iaload K.2.1 (j := j) (v := v) (by rw [eT]; exact A.1) (State.isArrayOf_alike K.2.2.2.2.2.1.alike A.2.1) A.2.2 (ow_in S J hi) (Has.at H (ow_in S J hi) (by rw [J.2]; exact hv)) (g := mkF m pc Ls (.int j :: .ref a :: st)) rfl rfl (hb K.2.2.1 hd) t q) hr
theorem ow_baload (K : ow_K p e below s m meth c Z own cd mx rt nm G) (X : Stand p l e R s m args below meth c T locs cells slots) (eT : T.heap = h) {a : Addr} {k : ClassId} {z j : Int32} {vs : List Value} {dv : Value} (F : Arv Z h a k .byte z vs dv) (i : Nat) (v : Value) (J : ow_Ix j i) (hi : i < z.toNatClampNeg) (hv : vs.getD i dv = v) (hd : decode cd pc = .ok (.baload, 1)) (hp : pc' = pc + 1) (hr : G (T.setTop (mkF m pc' Ls (v :: st)))) : G (T.setTop (mkF m pc Ls (.int j :: .ref a :: st))) := by
  subst hp
  obtain ⟨cl, A, -, S, -, H, -⟩ := F
  exact K.1 _ _ (fun t q => X.baloadBytes K.2.1 (j := j) (v := v) (by rw [eT]; exact A.1) (State.isArrayOf_alike K.2.2.2.2.2.1.alike A.2.1) A.2.2 (ow_in S J hi) (Has.at H (ow_in S J hi) (by rw [J.2]; exact hv)) (g := mkF m pc Ls (.int j :: .ref a :: st)) rfl rfl (hb K.2.2.1 hd) t q) hr
theorem ow_laload (K : ow_K p e below s m meth c Z own cd mx rt nm G) (X : Stand p l e R s m args below meth c T locs cells slots) (eT : T.heap = h) {a : Addr} {k : ClassId} {z j : Int32} {vs : List Value} {dv : Value} (F : Arv Z h a k .long z vs dv) (i : Nat) (v : Value) (J : ow_Ix j i) (hi : i < z.toNatClampNeg) (hv : vs.getD i dv = v) (hd : decode cd pc = .ok (.laload, 1)) (hp : pc' = pc + 1) (hr : G (T.setTop (mkF m pc' Ls (v :: st)))) : G (T.setTop (mkF m pc Ls (.int j :: .ref a :: st))) := by
  subst hp
  obtain ⟨cl, A, -, S, -, H, -⟩ := F
  exact K.1 _ _ (fun t q => X.laload K.2.1 (j := j) (v := v) (by rw [eT]; exact A.1) (State.isArrayOf_alike K.2.2.2.2.2.1.alike A.2.1) A.2.2 (ow_in S J hi) (Has.at H (ow_in S J hi) (by rw [J.2]; exact hv)) (g := mkF m pc Ls (.int j :: .ref a :: st)) rfl rfl (hb K.2.2.1 hd) t q) hr
theorem ow_len (K : ow_K p e below s m meth c Z own cd mx rt nm G) (X : Stand p l e R s m args below meth c T locs cells slots) (eT : T.heap = h) {a : Addr} {k : ClassId} {ty : FieldType} {z : Int32} {vs : List Value} {dv : Value} (F : Arv Z h a k ty z vs dv) (hd : decode cd pc = .ok (.arraylength, 1)) (hp : pc' = pc + 1) (hr : G (T.setTop (mkF m pc' Ls (.int z :: st)))) : G (T.setTop (mkF m pc Ls (.ref a :: st))) := by
  subst hp
  obtain ⟨cl, A, -, S, M, -, -⟩ := F
  exact K.1 _ _ (fun t q => X.arraylength K.2.1 (cell := cl) (by rw [eT]; exact A.1) (State.isArrayOf_alike K.2.2.2.2.2.1.alike A.2.1) (g := mkF m pc Ls (.ref a :: st)) rfl (rest := st) rfl (hb K.2.2.1 hd) t (by rw [len_of S M]; exact q)) hr
theorem ow_iastore (K : ow_K p e below s m meth c Z own cd mx rt nm G) (X : Stand p l e R s m args below meth c T locs cells slots) (eT : T.heap = h) {a : Addr} {k : ClassId} {z j : Int32} {vs : List Value} {dv : Value} {x : Int32} (F : Arv Z h a k .int z vs dv) (i : Nat) (vs' : List Value) (J : ow_Ix j i) (hi : i < z.toNatClampNeg) (hi' : i < vs.length) (hs : vs.set i (.int x) = vs') (hd : decode cd pc = .ok (.iastore, 1)) (hp : pc' = pc + 1)
    (hr : ∀ T' h', Stand p l e R s m args below meth c T' (locs ++ [⟨a, i⟩]) cells slots → T'.heap = h' → Wr h h' a i (.int x) → Arv Z h' a k .int z vs' dv → G (T'.setTop (mkF m pc' Ls st))) : G (T.setTop (mkF m pc Ls (.int x :: .int j :: .ref a :: st))) := by
  subst hp hs
  obtain ⟨cl, A, q1, S, q3, H, F⟩ := F
  obtain ⟨T', h', X', e', W', st'⟩ := stI X K.2.1 K.2.2.2.2.2.1 eT A (j := j) (x := x) (ow_in S J hi) (g := mkF m pc Ls (.int x :: .int j :: .ref a :: st)) rfl rfl (hb K.2.2.1 hd)
  have V := Arv.set A q1 S q3 H F (rfl) W' i J.2 hi'
  rw [J.2] at X' W'
  exact K.1 _ _ st' (hr T' h' X' e' W' V)
theorem ow_bastore (K : ow_K p e below s m meth c Z own cd mx rt nm G) (X : Stand p l e R s m args below meth c T locs cells slots) (eT : T.heap = h) {a : Addr} {k : ClassId} {z j : Int32} {vs : List Value} {dv : Value} {x : Int32} (F : Arv Z h a k .byte z vs dv) (i : Nat) (vs' : List Value) (J : ow_Ix j i) (hi : i < z.toNatClampNeg) (hi' : i < vs.length) (hs : vs.set i (.int (nar .byte x)) = vs') (hd : decode cd pc = .ok (.bastore, 1)) (hp : pc' = pc + 1)
    (hr : ∀ T' h', Stand p l e R s m args below meth c T' (locs ++ [⟨a, i⟩]) cells slots → T'.heap = h' → Wr h h' a i (.int (nar .byte x)) → Arv Z h' a k .byte z vs' dv → G (T'.setTop (mkF m pc' Ls st))) : G (T.setTop (mkF m pc Ls (.int x :: .int j :: .ref a :: st))) := by
  subst hp hs
  obtain ⟨cl, A, q1, S, q3, H, F⟩ := F
  obtain ⟨T', h', X', e', W', st'⟩ := stB X K.2.1 K.2.2.2.2.2.1 eT A (j := j) (x := x) (ow_in S J hi) (g := mkF m pc Ls (.int x :: .int j :: .ref a :: st)) rfl rfl (hb K.2.2.1 hd)
  have V := Arv.set A q1 S q3 H F (fits_nar_byte x) W' i J.2 hi'
  rw [J.2] at X' W'
  exact K.1 _ _ st' (hr T' h' X' e' W' V)
theorem ow_lastore (K : ow_K p e below s m meth c Z own cd mx rt nm G) (X : Stand p l e R s m args below meth c T locs cells slots) (eT : T.heap = h) {a : Addr} {k : ClassId} {z j : Int32} {vs : List Value} {dv : Value} {x : Int64} (F : Arv Z h a k .long z vs dv) (i : Nat) (vs' : List Value) (J : ow_Ix j i) (hi : i < z.toNatClampNeg) (hi' : i < vs.length) (hs : vs.set i (.long x) = vs') (hd : decode cd pc = .ok (.lastore, 1)) (hp : pc' = pc + 1)
    (hr : ∀ T' h', Stand p l e R s m args below meth c T' (locs ++ [⟨a, i⟩]) cells slots → T'.heap = h' → Wr h h' a i (.long x) → Arv Z h' a k .long z vs' dv → G (T'.setTop (mkF m pc' Ls st))) : G (T.setTop (mkF m pc Ls (.long x :: .int j :: .ref a :: st))) := by
  subst hp hs
  obtain ⟨cl, A, q1, S, q3, H, F⟩ := F
  obtain ⟨T', h', X', e', W', st'⟩ := stJ X K.2.1 K.2.2.2.2.2.1 eT A (j := j) (x := x) (ow_in S J hi) (g := mkF m pc Ls (.long x :: .int j :: .ref a :: st)) rfl rfl (hb K.2.2.1 hd)
  have V := Arv.set A q1 S q3 H F (rfl) W' i J.2 hi'
  rw [J.2] at X' W'
  exact K.1 _ _ st' (hr T' h' X' e' W' V)
theorem ow_newP (K : ow_K p e below s m meth c Z own cd mx rt nm G) (X : Stand p l e R s m args below meth c T locs cells slots) (eT : T.heap = h) {aty : ArrayType} {n : Int32} (w : (Jvm.Cond.arrayClass (newarray.typeOf aty)).before a0 Z = true) (hn : ¬ n < 0) (cap : Nat) (hcap : n.toNatClampNeg ≤ cap) (hbb : cap * 8 ≤ 536870912) (hc : cells + 1 ≤ R.cells) (hl : slots + cap ≤ R.slots) (hd : decode cd pc = .ok (.newarray aty, 2)) (hp : pc' = pc + 2)
    (hr : ∀ T' h' k a, Stand p l e R s m args below meth c T' locs (cells + 1) (slots + cap) → T'.heap = h' → Ext h h' → a = h.size → Arv Z h' a k (newarray.typeOf aty) n [] (defaultValue (newarray.typeOf aty)) → G (T'.setTop (mkF m pc' Ls (.ref a :: st)))) : G (T.setTop (mkF m pc Ls (.int n :: st))) := by
  subst hp
  obtain ⟨T', h', k, X', e', E, A, st'⟩ := newP X K.2.1 K.2.2.2.2.2.1 w eT (g := mkF m pc Ls (.int n :: st)) rfl (hb K.2.2.1 hd) rfl hn hcap hbb hc hl
  exact K.1 _ _ st' (hr T' h' k _ X' e' E rfl (Arv.new A hn))
theorem ow_newO (K : ow_K p e below s m meth c Z own cd mx rt nm G) (X : Stand p l e R s m args below meth c T locs cells slots) (eT : T.heap = h) {C : String} {i n : Nat} (w : (Jvm.Cond.classLink own i C).before a0 Z = true) (wi : (Jvm.Cond.instantiable C n).before a0 Z = true) (wz : (Jvm.Cond.initialized C).before a0 Z = true) (hc : cells + 1 ≤ R.cells) (hl : slots + n ≤ R.slots) (hd : decode cd pc = .ok (.new i, 3)) (hp : pc' = pc + 3)
    (hr : ∀ T' h' a, Stand p l e R s m args below meth c T' locs (cells + 1) (slots + n) → T'.heap = h' → Ext h h' → a = h.size → Exa Z h' a C → (∀ {O nm d : String} {ty : FieldType}, Laid Z a0 C O nm d → parseFieldDescriptor d = some ty → Fld Z h' a O nm d (defaultValue ty)) → G (T'.setTop (mkF m pc' Ls (.ref a :: st)))) : G (T.setTop (mkF m pc Ls st)) := by
  subst hp
  obtain ⟨T', h', X', e', E, A, D, -, st'⟩ := newO X K.2.1 K.2.2.2.2.2.1 K.2.2.2.2.1 w wi wz eT (g := mkF m pc Ls st) rfl (hb K.2.2.1 hd) hc hl
  exact K.1 _ _ st' (hr T' h' _ X' e' E rfl A D)
theorem ow_getF (K : ow_K p e below s m meth c Z own cd mx rt nm G) (X : Stand p l e R s m args below meth c T locs cells slots) (eT : T.heap = h) {C n d : String} {i : Nat} {a : Addr} {v : Value} (w : (Jvm.Cond.fieldLink own i C n d).before a0 Z = true) (F : Fld Z h a C n d v) (hd : decode cd pc = .ok (.getfield i, 3)) (hp : pc' = pc + 3)
    (hr : ∀ T', Stand p l e R s m args below meth c T' locs cells slots → T'.heap = h → G (T'.setTop (mkF m pc' Ls (v :: st)))) : G (T.setTop (mkF m pc Ls (.ref a :: st))) := by
  subst hp
  obtain ⟨T', X', e', st'⟩ := getF X K.2.1 K.2.2.2.2.2.1 K.2.2.2.2.1 (host := "") (Or.inl w) Via.refl eT F (g := mkF m pc Ls (.ref a :: st)) rfl rfl (hb K.2.2.1 hd)
  exact K.1 _ _ st' (hr T' X' e')
theorem ow_putF (K : ow_K p e below s m meth c Z own cd mx rt nm G) (X : Stand p l e R s m args below meth c T locs cells slots) (eT : T.heap = h) {C n d : String} {i kk : Nat} {a : Addr} {v old : Value} (ty : FieldType) (w : (Jvm.Cond.fieldLink own i C n d).before a0 Z = true) (F : Fld Z h a C n d old) (E : Exa Z h a C) (L : (Jvm.Cond.lays C C n d).before a0 Z = true ∨ ((Jvm.Cond.laysFinal C C n d).before a0 Z = true ∧ own = C ∧ nm = "<init>")) (wi : (Jvm.Cond.instantiable C kk).before a0 Z = true) (hty : parseFieldDescriptor d = some ty) (hn : narrow ty v = v) (hf : fits ty v = true) (hd : decode cd pc = .ok (.putfield i, 3)) (hp : pc' = pc + 3)
    (hr : ∀ T' h', Stand p l e R s m args below meth c T' (locs ++ [⟨a, Jvm.RoadKit.slotOf Z C n d⟩]) cells slots → T'.heap = h' → Wr h h' a (Jvm.RoadKit.slotOf Z C n d) v → Fld Z h' a C n d v → Exa Z h' a C → G (T'.setTop (mkF m pc' Ls st))) : G (T.setTop (mkF m pc Ls (v :: .ref a :: st))) := by
  subst hp
  obtain ⟨T', h', X', e', W, st'⟩ := putF X K.2.1 K.2.2.2.2.2.1 K.2.2.2.2.1 (host := "") (Or.inl w) Via.refl eT F E (L.imp id fun q => ⟨q.1, q.2.1, K.2.2.2.2.2.2.2.2.trans q.2.2⟩) wi hty hn hf (g := mkF m pc Ls (v :: .ref a :: st)) rfl rfl (hb K.2.2.1 hd)
  exact K.1 _ _ st' (hr T' h' X' e' W (F.same W) (E.wr W))
theorem ow_initO (K : ow_K p e below s m meth c Z own cd mx rt nm G) (X : Stand p l e R s m args below meth c T locs cells slots) (eT : T.heap = h) {i : Nat} {a : Addr} (w1 : (Jvm.Cond.methodLink own i Lib.objectInit).before a0 Z = true) (w2 : (Jvm.Cond.instanceMethod Lib.objectInit).before a0 Z = true) (w3 : (Jvm.Cond.code Lib.objectInit ⟨#[0xb1]⟩ 1 none).before a0 Z = true) (hz : Ls.size = mx) (W : Nat) (hW : (st.map fun v => v.category).sum ≤ W) (hf : 1 ≤ R.frames) (hl : W + 12 ≤ R.locals) (hd : decode cd pc = .ok (.invokespecial i, 3)) (hp : pc' = pc + 3)
    (hr : ∀ T', Stand p l e R s m args below meth c T' locs cells slots → T'.heap = h → G (T'.setTop (mkF m pc' Ls st))) : G (T.setTop (mkF m pc Ls (.ref a :: st))) := by
  subst hp
  obtain ⟨T', X', e', st'⟩ := initO X K.2.1 K.2.2.2.2.2.1 K.2.2.2.2.1 w1 w2 w3 eT (g := mkF m pc Ls (.ref a :: st)) rfl (hz.trans K.2.2.2.1.symm) rfl (hb K.2.2.1 hd) hf (W := W) (by show 2 * 0 + _ ≤ _; omega) hl
  exact K.1 _ _ st' (hr T' X' e')
theorem ow_callS (K : ow_K p e below s m meth c Z own cd mx rt nm G) (X : Stand p l e R s m args below meth c T locs cells slots) (eT : T.heap = h) {y : MethodName} {i : Nat} {bytes : ByteArray} {maxL : Nat} {rt' : Option FieldType} {rm : Room} {as : Array Value} {Q : Option Value → Heap → List Loc → Prop} (hM : MetFree l y (head1 [Jvm.Cond.code y bytes maxL rt'] rm) (fun a U => a = as ∧ Z.Warmed39 U.vm ∧ U.heap = h) (fun _ _ _ _ _ => True) (fun _ U o U' => ∃ v L, o = .returned v ∧ Q v U'.heap L ∧ FrameEnd U o U' L rm.cells rm.slots)) (wl : (Jvm.Cond.methodLink own i y).before a0 Z = true) (ws : (Jvm.Cond.static y).before a0 Z = true) (wi : (Jvm.Cond.initialized y.cls).before a0 Z = true) (wc : (Jvm.Cond.code y bytes maxL rt').before a0 Z = true) (hy : y.cls ≠ "java/lang/invoke/MethodHandle" ∧ y.cls ≠ "java/lang/invoke/VarHandle") (W : Nat) (hW : (st.map fun v => v.category).sum ≤ W) (hf : rm.frames + 1 ≤ R.frames) (hl : W + (maxL + 11) + rm.locals ≤ R.locals) (hc : cells + rm.cells ≤ R.cells) (hs : slots + rm.slots ≤ R.slots) (hz : Ls.size = mx) {full : List Value} (argsL : List Value) (has : argsL.toArray = as) (hlen : ∀ sig, parseMethodDescriptor y.desc = some sig → argsL.length = sig.parameters.length) (hst : full = argsL.reverse ++ st) (hd : decode cd pc = .ok (.invokestatic i, 3)) (hp : pc' = pc + 3)
    (hr : ∀ v T' L, Stand p l e R s m args below meth c T' (locs ++ L) (cells + rm.cells) (slots + rm.slots) → Q v T'.heap L → G (T'.setTop (mkF m pc' Ls (v.toList ++ st)))) : G (T.setTop (mkF m pc Ls full)) := by
  subst hp has
  obtain ⟨v, vm₁, ⟨T', L', c', s'⟩, -, X', ⟨L, hQ, l1, l2, l3⟩, st'⟩ := Jvm.LawKit.callS X K.2.1 (y := y) K.2.2.2.2.1 (mvT K.2.2.2.2.2.1 wl) (mvT K.2.2.2.2.2.1 ws) (mvT K.2.2.2.2.2.1 wi) (mvT K.2.2.2.2.2.1 wc) hy (backOf (W := W) hM K.2.2.2.2.2.1 wc wi hf hl) (g := mkF m pc Ls full) rfl (hz.trans K.2.2.2.1.symm) (argsL := argsL) (rest := st) hlen hst (by show 2 * 0 + _ ≤ _; omega) (hb K.2.2.1 hd) (fun _ _ => ⟨rfl, eT, hc, hs⟩)
  dsimp only [Pt.U, Pt.locs, Pt.cells, Pt.slots] at X' l1 l2 l3 st' hQ
  subst l1 l2 l3
  exact K.1 _ _ st' (hr v T' L X' hQ)
theorem ow_callP (K : ow_K p e below s m meth c Z own cd mx rt nm G) (X : Stand p l e R s m args below meth c T locs cells slots) (eT : T.heap = h) {y : MethodName} {i : Nat} {bytes : ByteArray} {maxL : Nat}  {rm : Room} {as : Array Value} {Q : Option Value → Heap → List Loc → Prop} {a : Addr} (hM : MetFree l y (head1 [Jvm.Cond.code y bytes maxL none] rm) (fun a U => a = as ∧ Z.Warmed39 U.vm ∧ U.heap = h) (fun _ _ _ _ _ => True) (fun _ U o U' => ∃ v L, o = .returned v ∧ Q v U'.heap L ∧ FrameEnd U o U' L rm.cells rm.slots)) (hn : y.name = "<init>") (wl : (Jvm.Cond.methodLink own i y).before a0 Z = true) (ws : (Jvm.Cond.instanceMethod y).before a0 Z = true) (wi : (Jvm.Cond.initialized y.cls).before a0 Z = true) (wc : (Jvm.Cond.code y bytes maxL none).before a0 Z = true) (hy : y.cls ≠ "java/lang/invoke/MethodHandle" ∧ y.cls ≠ "java/lang/invoke/VarHandle") (W : Nat) (hW : (st.map fun v => v.category).sum ≤ W) (hf : rm.frames + 1 ≤ R.frames) (hl : W + (maxL + 11) + rm.locals ≤ R.locals) (hc : cells + rm.cells ≤ R.cells) (hs : slots + rm.slots ≤ R.slots) (hz : Ls.size = mx) {full : List Value} (argsL : List Value) (has : (.ref a :: argsL).toArray = as) (hlen : ∀ sig, parseMethodDescriptor y.desc = some sig → argsL.length = sig.parameters.length) (hst : full = argsL.reverse ++ .ref a :: st) (hd : decode cd pc = .ok (.invokespecial i, 3)) (hp : pc' = pc + 3)
    (hr : ∀ v T' L, Stand p l e R s m args below meth c T' (locs ++ L) (cells + rm.cells) (slots + rm.slots) → Q v T'.heap L → G (T'.setTop (mkF m pc' Ls (v.toList ++ st)))) : G (T.setTop (mkF m pc Ls full)) := by
  subst hp has
  obtain ⟨v, vm₁, ⟨T', L', c', s'⟩, -, X', ⟨L, hQ, l1, l2, l3⟩, st'⟩ := X.specialBack K.2.1 (y := y) hn K.2.2.2.2.1 (mvT K.2.2.2.2.2.1 wl) (mvT K.2.2.2.2.2.1 ws) (mvT K.2.2.2.2.2.1 wc) hy (backOf (W := W) hM K.2.2.2.2.2.1 wc wi hf hl) (g := mkF m pc Ls full) rfl (hz.trans K.2.2.2.1.symm) (Steps.refl _) (a := a) (argsL := argsL) (rest := st) hlen hst (by show 2 * 0 + _ ≤ _; omega) (hb K.2.2.1 hd) (fun _ _ => ⟨rfl, eT, hc, hs⟩)
  dsimp only [Pt.U, Pt.locs, Pt.cells, Pt.slots] at X' l1 l2 l3 st' hQ
  subst l1 l2 l3
  exact K.1 _ _ (fun t q => st'.trans q) (hr v T' L X' hQ)
theorem ow_callV (K : ow_K p e below s m meth c Z own cd mx rt nm G) (X : Stand p l e R s m args below meth c T locs cells slots) (eT : T.heap = h) {y : MethodName} {i : Nat} {bytes : ByteArray} {maxL : Nat} {rt' : Option FieldType} {rm : Room} {as : Array Value} {Q : Option Value → Heap → List Loc → Prop} {a : Addr} (hM : MetFree l y (head1 [Jvm.Cond.code y bytes maxL rt'] rm) (fun a U => a = as ∧ Z.Warmed39 U.vm ∧ U.heap = h) (fun _ _ _ _ _ => True) (fun _ U o U' => ∃ v L, o = .returned v ∧ Q v U'.heap L ∧ FrameEnd U o U' L rm.cells rm.slots)) (E : Exa Z h a y.cls) (wl : (Jvm.Cond.methodLink own i y).before a0 Z = true) (wd : (Jvm.Cond.declares y).before a0 Z = true) (wsel : (Jvm.Cond.selects y.cls y y).before a0 Z = true) (ws : (Jvm.Cond.instanceMethod y).before a0 Z = true) (wi : (Jvm.Cond.initialized y.cls).before a0 Z = true) (wc : (Jvm.Cond.code y bytes maxL rt').before a0 Z = true) (hy : y.cls ≠ "java/lang/invoke/MethodHandle" ∧ y.cls ≠ "java/lang/invoke/VarHandle") (W : Nat) (hW : (st.map fun v => v.category).sum ≤ W) (hf : rm.frames + 1 ≤ R.frames) (hl : W + (maxL + 11) + rm.locals ≤ R.locals) (hc : cells + rm.cells ≤ R.cells) (hs : slots + rm.slots ≤ R.slots) (hz : Ls.size = mx) {full : List Value} (argsL : List Value) (has : (.ref a :: argsL).toArray = as) (hlen : ∀ sig, parseMethodDescriptor y.desc = some sig → argsL.length = sig.parameters.length) (hst : full = argsL.reverse ++ .ref a :: st) (hd : decode cd pc = .ok (.invokevirtual i, 3)) (hp : pc' = pc + 3)
    (hr : ∀ v T' L, Stand p l e R s m args below meth c T' (locs ++ L) (cells + rm.cells) (slots + rm.slots) → Q v T'.heap L → G (T'.setTop (mkF m pc' Ls (v.toList ++ st)))) : G (T.setTop (mkF m pc Ls full)) := by
  subst hp has
  obtain ⟨cq, kq, qa, qb, qc⟩ := isOf K.2.2.2.2.2.1 eT E
  obtain ⟨v, vm₁, ⟨T', L', c', s'⟩, -, X', ⟨L, hQ, l1, l2, l3⟩, st'⟩ := X.virtualBack K.2.1 (y := y) (z := y) K.2.2.2.2.1 (mvT K.2.2.2.2.2.1 wl) (mvT K.2.2.2.2.2.1 wd) (notFace_of_selects (args := #[]) (mvT K.2.2.2.2.2.1 wsel)) (mvT K.2.2.2.2.2.1 wsel) (mvT K.2.2.2.2.2.1 ws) hy (backOf (W := W) hM K.2.2.2.2.2.1 wc wi hf hl) qa qc (g := mkF m pc Ls full) rfl (hz.trans K.2.2.2.1.symm) (Steps.refl _) (argsL := argsL) (rest := st) hlen hst (by show 2 * 0 + _ ≤ _; omega) (hb K.2.2.1 hd) (fun _ _ => ⟨rfl, eT, hc, hs⟩)
  dsimp only [Pt.U, Pt.locs, Pt.cells, Pt.slots] at X' l1 l2 l3 st' hQ
  subst l1 l2 l3
  exact K.1 _ _ (fun t q => st'.trans q) (hr v T' L X' hQ)
theorem ow_retI {Q : Option Value → Heap → List Loc → Prop} {ce sl : Nat} (K : ow_K p e below s m meth c Z own cd mx rt nm (ow_Gl p e below s Q ce sl)) (X : Stand p l e R s m args below meth c T locs cells slots) (t : FieldType) {v : Int32} (hrt : rt = some t) (hn : narrow t (.int v) = .int v) (hti : t = .int ∨ t = .boolean ∨ t = .byte ∨ t = .char ∨ t = .short) (hd : decode cd pc = .ok (.ireturn, 1)) (hQ : Q (some (.int v)) T.heap locs) (hc : cells ≤ ce) (hs : slots ≤ sl) : ow_Gl p e below s Q ce sl (T.setTop (mkF m pc Ls [.int v])) := by
  obtain ⟨fs, hr, hrun, hended, hW, hsame⟩ := X.leave (v := some (.int v)) (fun h => by rw [K.2.2.2.2.2.2.1, hrt] at h; cases h) K.2.2.2.2.2.2.2.1
  exact ⟨_, _, X.ireturnOut K.2.1 (K.2.2.2.2.2.2.1.trans hrt) hn hti (hb K.2.2.1 hd) hr, hrun, hended, _, _, rfl, hQ, ⟨_, rfl⟩, hW, hsame.mono hc hs⟩
theorem ow_retJ {Q : Option Value → Heap → List Loc → Prop} {ce sl : Nat} (K : ow_K p e below s m meth c Z own cd mx rt nm (ow_Gl p e below s Q ce sl)) (X : Stand p l e R s m args below meth c T locs cells slots) {v : Int64} (hrt : rt = some .long) (hd : decode cd pc = .ok (.lreturn, 1)) (hQ : Q (some (.long v)) T.heap locs) (hc : cells ≤ ce) (hs : slots ≤ sl) : ow_Gl p e below s Q ce sl (T.setTop (mkF m pc Ls [.long v])) := by
  obtain ⟨fs, hr, hrun, hended, hW, hsame⟩ := X.leave (v := some (.long v)) (fun h => by rw [K.2.2.2.2.2.2.1, hrt] at h; cases h) K.2.2.2.2.2.2.2.1
  exact ⟨_, _, X.lreturnOut K.2.1 (K.2.2.2.2.2.2.1.trans hrt) (hb K.2.2.1 hd) hr, hrun, hended, _, _, rfl, hQ, ⟨_, rfl⟩, hW, hsame.mono hc hs⟩
theorem ow_retA {Q : Option Value → Heap → List Loc → Prop} {ce sl : Nat} (K : ow_K p e below s m meth c Z own cd mx rt nm (ow_Gl p e below s Q ce sl)) (X : Stand p l e R s m args below meth c T locs cells slots) (t : FieldType) {v : Addr} (hrt : rt = some t) (ht : t.isReference = true) (hd : decode cd pc = .ok (.areturn, 1)) (hQ : Q (some (.ref v)) T.heap locs) (hc : cells ≤ ce) (hs : slots ≤ sl) : ow_Gl p e below s Q ce sl (T.setTop (mkF m pc Ls [.ref v])) := by
  obtain ⟨fs, hr, hrun, hended, hW, hsame⟩ := X.leave (v := some (.ref v)) (fun h => by rw [K.2.2.2.2.2.2.1, hrt] at h; cases h) K.2.2.2.2.2.2.2.1
  exact ⟨_, _, X.areturnOut K.2.1 rfl (K.2.2.2.2.2.2.1.trans hrt) ht (hb K.2.2.1 hd) hr, hrun, hended, _, _, rfl, hQ, ⟨_, rfl⟩, hW, hsame.mono hc hs⟩
theorem ow_ret {Q : Option Value → Heap → List Loc → Prop} {ce sl : Nat} (K : ow_K p e below s m meth c Z own cd mx rt nm (ow_Gl p e below s Q ce sl)) (X : Stand p l e R s m args below meth c T locs cells slots) (hrt : rt = none) (hd : decode cd pc = .ok (.return_, 1)) (hQ : Q none T.heap locs) (hc : cells ≤ ce) (hs : slots ≤ sl) : ow_Gl p e below s Q ce sl (T.setTop (mkF m pc Ls [])) := by
  obtain ⟨fs, hr, hrun, hended, hW, hsame⟩ := X.leave (v := none) (fun _ => rfl) K.2.2.2.2.2.2.2.1
  exact ⟨_, _, X.returnOut K.2.1 (K.2.2.2.2.2.2.1.trans hrt) (hb K.2.2.1 hd) hr, hrun, hended, _, _, rfl, hQ, ⟨_, rfl⟩, hW, hsame.mono hc hs⟩
theorem ow_selPriv {s : State} {args : Array Value} {y y' : MethodName} (hc : y'.cls = y.cls) (wsel : (Jvm.Cond.selects y'.cls y' y').before args s = true) (hpriv : (Jvm.Cond.privateMethod y).before args s = true) (hinst : (Jvm.Cond.instanceMethod y).before args s = true) (hy : y.cls ≠ "java/lang/invoke/MethodHandle" ∧ y.cls ≠ "java/lang/invoke/VarHandle") : (Jvm.Cond.selects y.cls y y).before args s = true := by
  obtain ⟨_, _, m, -, -, h3, -, k, h5, h6⟩ := Cond.selects_spec wsel
  exact selects_self_of_private (c := m.cls) (k := k) (hc ▸ findClass_of_methodNamed h3) h5 h6 (Cond.privateMethod_at hpriv) hinst hy
theorem ow_callR (K : ow_K p e below s m meth c Z own cd mx rt nm G) (X : Stand p l e R s m args below meth c T locs cells slots) (eT : T.heap = h) {y : MethodName} {i : Nat} {bytes : ByteArray} {maxL : Nat} {rt' : Option FieldType} {rm : Room} {as : Array Value} {Q : Option Value → Heap → List Loc → Prop} {y' : MethodName} {a : Addr} (hM : MetFree l y (head1 [Jvm.Cond.code y bytes maxL rt'] rm) (fun a U => a = as ∧ Z.Warmed39 U.vm ∧ U.heap = h) (fun _ _ _ _ _ => True) (fun _ U o U' => ∃ v L, o = .returned v ∧ Q v U'.heap L ∧ FrameEnd U o U' L rm.cells rm.slots)) (E : Exa Z h a y.cls) (hcl : y'.cls = y.cls) (wsel : (Jvm.Cond.selects y'.cls y' y').before a0 Z = true) (wp : (Jvm.Cond.privateMethod y).before a0 Z = true) (wl : (Jvm.Cond.methodLink own i y).before a0 Z = true) (ws : (Jvm.Cond.instanceMethod y).before a0 Z = true) (wi : (Jvm.Cond.initialized y.cls).before a0 Z = true) (wc : (Jvm.Cond.code y bytes maxL rt').before a0 Z = true) (hy : y.cls ≠ "java/lang/invoke/MethodHandle" ∧ y.cls ≠ "java/lang/invoke/VarHandle") (W : Nat) (hW : (st.map fun v => v.category).sum ≤ W) (hf : rm.frames + 1 ≤ R.frames) (hl : W + (maxL + 11) + rm.locals ≤ R.locals) (hc : cells + rm.cells ≤ R.cells) (hs : slots + rm.slots ≤ R.slots) (hz : Ls.size = mx) {full : List Value} (argsL : List Value) (has : (.ref a :: argsL).toArray = as) (hlen : ∀ sig, parseMethodDescriptor y.desc = some sig → argsL.length = sig.parameters.length) (hst : full = argsL.reverse ++ .ref a :: st) (hd : decode cd pc = .ok (.invokevirtual i, 3)) (hp : pc' = pc + 3)
    (hr : ∀ v T' L, Stand p l e R s m args below meth c T' (locs ++ L) (cells + rm.cells) (slots + rm.slots) → Q v T'.heap L → G (T'.setTop (mkF m pc' Ls (v.toList ++ st)))) : G (T.setTop (mkF m pc Ls full)) := by
  subst hp has
  obtain ⟨cq, q1, q2⟩ := E.cell
  have hpv : (Jvm.Cond.privateMethod y).before args s = true := mvP K.2.2.2.2.2.1 wp
  have hin : (Jvm.Cond.instanceMethod y).before args s = true := mvT K.2.2.2.2.2.1 ws
  obtain ⟨v, vm₁, ⟨T', L', c', s'⟩, -, X', ⟨L, hQ, l1, l2, l3⟩, st'⟩ := X.privateBack K.2.1 (y := y) K.2.2.2.2.1 (mvT K.2.2.2.2.2.1 wl) hin (ow_selPriv hcl (mvT K.2.2.2.2.2.1 wsel) hpv hin hy) (Cond.privateMethod_at hpv) (mvT K.2.2.2.2.2.1 wc) hy (backOf (W := W) hM K.2.2.2.2.2.1 wc wi hf hl) (g := mkF m pc Ls full) rfl (hz.trans K.2.2.2.1.symm) (Steps.refl _) (a := a) (by rw [eT]; exact q1) q2 (argsL := argsL) (rest := st) hlen hst (by show 2 * 0 + _ ≤ _; omega) (hb K.2.2.1 hd) (fun _ _ => ⟨rfl, eT, hc, hs⟩)
  dsimp only [Pt.U, Pt.locs, Pt.cells, Pt.slots] at X' l1 l2 l3 st' hQ
  subst l1 l2 l3
  exact K.1 _ _ (fun t q => st'.trans q) (hr v T' L X' hQ)
theorem ow_newPE (K : ow_K p e below s m meth c Z own cd mx rt nm G) (X : Stand p l e R s m args below meth c T locs cells slots) (eT : T.heap = h) {aty : ArrayType} {n : Int32} {C : String} (hC : "[" ++ (newarray.typeOf aty).toString = C) (w : (Jvm.Cond.arrayClass (newarray.typeOf aty)).before a0 Z = true) (hn : ¬ n < 0) (cap : Nat) (hcap : n.toNatClampNeg ≤ cap) (hbb : cap * 8 ≤ 536870912) (hc : cells + 1 ≤ R.cells) (hl : slots + cap ≤ R.slots) (hd : decode cd pc = .ok (.newarray aty, 2)) (hp : pc' = pc + 2)
    (hr : ∀ T' h' k a, Stand p l e R s m args below meth c T' locs (cells + 1) (slots + cap) → T'.heap = h' → Ext h h' → a = h.size → Arv Z h' a k (newarray.typeOf aty) n [] (defaultValue (newarray.typeOf aty)) → Exa Z h' a C → G (T'.setTop (mkF m pc' Ls (.ref a :: st)))) : G (T.setTop (mkF m pc Ls (.int n :: st))) := by
  have hcb : componentBytes (newarray.typeOf aty) ≤ 8 := by cases aty <;> decide
  obtain ⟨cA, kA, comp, h1, h2, h3, X', st'⟩ := X.newarrayPrim K.2.1 (mvA K.2.2.2.2.2.1 w) (g := mkF m pc Ls (.int n :: st)) rfl (hb K.2.2.1 hd) rfl hn (Nat.le_trans (Nat.mul_le_mul hcap hcb) hbb) hc (by omega)
  subst hp eT hC
  rw [K.2.2.2.2.2.1.alike.findClass] at h1
  obtain ⟨kZ, z1, -⟩ := Vm.findClass_spec h1
  obtain ⟨k', z2, z3⟩ := K.2.2.2.2.2.1.alike.2.2 _ _ z1
  cases h2.symm.trans z2
  have hk : kZ.kind = .array comp (newarray.typeOf aty) := by rw [← h3, z3]
  have hN : (T.heap.push (newA cA (newarray.typeOf aty) n))[T.heap.size]? = some (newA cA (newarray.typeOf aty) n) := by simp
  have A : Arr Z (T.heap.push (newA cA (newarray.typeOf aty) n)) T.heap.size (newA cA (newarray.typeOf aty) n) (newarray.typeOf aty) := ⟨hN, ⟨by simp [newA], kZ, z1, comp, hk⟩, by simp [newA]⟩
  refine K.1 _ _ st' (hr _ _ cA _ (X'.more (Nat.le_refl _) (by omega)) rfl ⟨by show T.heap.size ≤ (T.heap.push _).size; simp, fun a c h => ?_⟩ rfl (Arv.new A hn) ⟨_, kZ, hN, h1, z1, rfl, fun q => by rw [hk] at q; cases q⟩)
  show (T.heap.push _)[a]? = _
  rw [Array.getElem?_push_lt (Array.getElem?_eq_some_iff.mp h).1]; exact (Array.getElem?_eq_getElem _).symm.trans h
theorem ow_copy (K : ow_K p e below s m meth c Z own cd mx rt nm G) (X : Stand p l e R s m args below meth c T locs cells slots) (eT : T.heap = h) {i : Nat} (w1 : (Jvm.Cond.methodLink own i Jvm.Stand.acN).before a0 Z = true) (w2 : (Jvm.Cond.native Jvm.Stand.acN).before a0 Z = true) (w3 : (Jvm.Cond.static Jvm.Stand.acN).before a0 Z = true) (w4 : (Jvm.Cond.initialized "java/lang/System").before a0 Z = true) {a b : Addr} {k k' : ClassId} {ty : FieldType} {z z' sp dp nn : Int32} {vs vd us : List Value} {dv dd : Value} (A : Arv Z h a k ty z vs dv) (B : Arv Z h b k' ty z' vd dd) (hty : refKind ty = false) (h1 : ¬ sp < 0) (h2 : ¬ dp < 0) (h3 : ¬ nn < 0) (h4 : sp.toNatClampNeg + nn.toNatClampNeg ≤ z.toNatClampNeg) (h5 : dp.toNatClampNeg + nn.toNatClampNeg ≤ z'.toNatClampNeg) (hus : us = (List.range nn.toNatClampNeg).map fun i => vs.getD (sp.toNatClampNeg + i) dv) (hll : dp.toNatClampNeg + nn.toNatClampNeg ≤ vd.length) {n0 : Nat} (N : Fr n0 locs) (ge : n0 ≤ b) (hz : Ls.size = mx) (W : Nat) (hW : (st.map fun v => v.category).sum ≤ W) (hf : 1 ≤ R.frames) (hl : W + (nativeFrameWords "java/lang/System" "arraycopy" 5 + 11) ≤ R.locals) (hd : decode cd pc = .ok (.invokestatic i, 3)) (hp : pc' = pc + 3)
    (hr : ∀ T' h' L, Stand p l e R s m args below meth c T' L cells slots → T'.heap = h' → Fr n0 L → Keep h h' [b] → Arv Z h' b k' ty z' (vd.take dp.toNatClampNeg ++ us ++ vd.drop (dp.toNatClampNeg + nn.toNatClampNeg)) dd → G (T'.setTop (mkF m pc' Ls st))) : G (T.setTop (mkF m pc Ls (.int nn :: .int dp :: .ref b :: .int sp :: .ref a :: st))) := by
  subst hp
  obtain ⟨T', h', L, X', e', N', K', V', st'⟩ := cpA X K.2.1 K.2.2.2.2.2.1 K.2.2.2.2.1 w1 w2 w3 w4 eT A B (Or.inl ⟨rfl, hty⟩) h1 h2 h3 h4 h5 hus hll N ge (g := mkF m pc Ls (.int nn :: .int dp :: .ref b :: .int sp :: .ref a :: st)) rfl (hz.trans K.2.2.2.1.symm) rfl (hb K.2.2.1 hd) hf (W := W) (by show 2 * 0 + _ ≤ _; omega) hl
  exact K.1 _ _ st' (hr T' h' L X' e' N' K' V')
theorem ow_clone (K : ow_K p e below s m meth c Z own cd mx rt nm G) (X : Stand p l e R s m args below meth c T locs cells slots) (eT : T.heap = h) {i : Nat} {ad : String} (w1 : (Jvm.Cond.methodLink own i ⟨ad, "clone", "()Ljava/lang/Object;"⟩).before a0 Z = true) (w2 : (Jvm.Cond.sameMethod ad "java/lang/Object" "clone" "()Ljava/lang/Object;").before a0 Z = true) (w3 : (Jvm.Cond.native ⟨"java/lang/Object", "clone", "()Ljava/lang/Object;"⟩).before a0 Z = true) (w4 : (Jvm.Cond.instanceMethod ⟨"java/lang/Object", "clone", "()Ljava/lang/Object;"⟩).before a0 Z = true) (w5 : (Jvm.Cond.selects ad ⟨ad, "clone", "()Ljava/lang/Object;"⟩ ⟨"java/lang/Object", "clone", "()Ljava/lang/Object;"⟩).before a0 Z = true) (w6 : (Jvm.Cond.castable ad "java/lang/Cloneable").before a0 Z = true) {a : Addr} {k : ClassId} {ty : FieldType} {z : Int32} {vs : List Value} {dv : Value} (F : Arv Z h a k ty z vs dv) (E : Exa Z h a ad) (hz : Ls.size = mx) (W cap : Nat) (hW : (st.map fun v => v.category).sum ≤ W) (hf : 1 ≤ R.frames) (hl : W + 14 ≤ R.locals) (hcap : z.toNatClampNeg ≤ cap) (hc : cells + 1 ≤ R.cells) (hs : slots + cap ≤ R.slots) (hd : decode cd pc = .ok (.invokevirtual i, 3)) (hp : pc' = pc + 3)
    (hr : ∀ T' h' b, Stand p l e R s m args below meth c T' locs (cells + 1) (slots + cap) → T'.heap = h' → Ext h h' → b = h.size → Arv Z h' b k ty z vs dv → Exa Z h' b ad → G (T'.setTop (mkF m pc' Ls (.ref b :: st)))) : G (T.setTop (mkF m pc Ls (.ref a :: st))) := by
  subst hp
  obtain ⟨T', h', X', e', E', F', A', st'⟩ := cloneH X K.2.1 K.2.2.2.2.2.1 K.2.2.2.2.1 w1 w2 w3 w4 w5 w6 eT F.arh E (g := mkF m pc Ls (.ref a :: st)) rfl (hz.trans K.2.2.2.1.symm) rfl (hb K.2.2.1 hd) hf (W := W) (by show 2 * 0 + _ ≤ _; omega) hl hcap hc hs
  exact K.1 _ _ st' (hr T' h' _ X' e' E' rfl F' A')
theorem ow_cast (K : ow_K p e below s m meth c Z own cd mx rt nm G) (X : Stand p l e R s m args below meth c T locs cells slots) (eT : T.heap = h) {i : Nat} {C : String} {a : Addr} (w : (Jvm.Cond.classLink own i C).before a0 Z = true) (E : Exa Z h a C) (hd : decode cd pc = .ok (.checkcast i, 3)) (hp : pc' = pc + 3)
    (hr : ∀ T', Stand p l e R s m args below meth c T' locs cells slots → T'.heap = h → G (T'.setTop (mkF m pc' Ls (.ref a :: st)))) : G (T.setTop (mkF m pc Ls (.ref a :: st))) := by
  subst hp
  obtain ⟨T', X', e', st'⟩ := castY X K.2.1 K.2.2.2.2.2.1 K.2.2.2.2.1 w eT (Ins.self E) (g := mkF m pc Ls (.ref a :: st)) rfl rfl (hb K.2.2.1 hd)
  exact K.1 _ _ st' (hr T' X' e')
end Own

theorem own_natI {i : Nat} (hi : i < 2 ^ 31) : (Int32.ofNat i).toInt = i := Int32.toInt_ofNat_of_lt hi
theorem own_ltn {i n : Nat} (h : i < n) (hn : n < 2 ^ 31) : Int32.ofNat i < Int32.ofNat n := by
  rw [Int32.lt_iff_toInt_lt, own_natI hn, own_natI (Nat.lt_trans h hn)]; omega
theorem own_gen {i n : Nat} (h : n ≤ i) (hi : i < 2 ^ 31) : ¬ Int32.ofNat i < Int32.ofNat n := by
  rw [Int32.lt_iff_toInt_lt, own_natI hi, own_natI (Nat.lt_of_le_of_lt h hi)]; omega
theorem own_succ {i : Nat} (hi : i + 1 < 2 ^ 31) : Int32.ofNat i + 1 = Int32.ofNat (i + 1) := by
  apply Int32.toInt_inj.mp
  rw [Int32.toInt_add, own_natI hi, own_natI (Nat.lt_of_succ_lt hi)]
  have e : (1 : Int32).toInt = 1 := rfl
  rw [e]
  apply Int.bmod_eq_of_le <;> omega
theorem own_addn {i j : Nat} (hi : i + j < 2 ^ 31) : Int32.ofNat i + Int32.ofNat j = Int32.ofNat (i + j) := by
  apply Int32.toInt_inj.mp
  rw [Int32.toInt_add, own_natI hi, own_natI (by omega), own_natI (by omega)]
  apply Int.bmod_eq_of_le <;> omega
theorem own_nat_of {x : Int32} (h : ¬ x < 0) : x = Int32.ofNat x.toNatClampNeg ∧ (x.toNatClampNeg : Int) = x.toInt := by
  have e : (0 : Int32).toInt = 0 := rfl
  have a2 := x.toInt_lt
  rw [Int32.lt_iff_toInt_lt, e] at h
  have q : (x.toNatClampNeg : Int) = x.toInt := by simp only [Int32.toNatClampNeg]; omega
  refine ⟨Int32.toInt_inj.mp ?_, q⟩
  rw [own_natI (by omega)]; exact q.symm
def own_gi (es : List Nat) (j : Nat) : Int32 := Int32.ofNat (es.getD j 0)
def own_li (es : List Nat) : List Value := es.map fun x => Value.int (Int32.ofNat x)
theorem own_li_len (es : List Nat) : (own_li es).length = es.length := by simp [own_li]
theorem own_li_at (es : List Nat) (j : Nat) : (own_li es).getD j (.int 0) = .int (own_gi es j) := by
  simp only [own_li, own_gi, List.getD_eq_getElem?_getD, List.getElem?_map]
  cases es[j]? <;> rfl
def own_St (es : List Nat) (i : Nat) : Prop := es.length ≤ 8 ∧ es.Pairwise (· < ·) ∧ ∀ x ∈ es, x < i
theorem own_St.up {es : List Nat} {i : Nat} (h : own_St es i) : own_St es (i + 1) := ⟨h.1, h.2.1, fun x hx => Nat.lt_succ_of_lt (h.2.2 x hx)⟩
theorem own_St.app {es : List Nat} {i : Nat} (h : own_St es i) (h8 : es.length < 8) : own_St (es ++ [i]) (i + 1) := by
  refine ⟨by simp; omega, ?_, ?_⟩
  · rw [List.pairwise_append]
    refine ⟨h.2.1, List.pairwise_singleton _ _, fun a ha b hb => ?_⟩
    cases List.mem_singleton.mp hb; exact h.2.2 a ha
  · intro x hx
    rcases List.mem_append.mp hx with q | q
    · exact Nat.lt_succ_of_lt (h.2.2 x q)
    · cases List.mem_singleton.mp q; exact Nat.lt_succ_self _
theorem own_li_app (es : List Nat) (i : Nat) : (own_li es ++ [Value.int 0]).set es.length (.int (Int32.ofNat i)) = own_li (es ++ [i]) := by
  simp [own_li, List.set_append, List.map_append]
theorem own_len1 {es : List Nat} (i : Nat) (h : es.length < 8) : Int32.ofNat es.length + 1 = Int32.ofNat (es ++ [i]).length := by
  rw [List.length_append]; exact own_succ (by omega)
theorem own_lt8 {n k : Nat} (hn : n < 2 ^ 31) (hk : k < 2 ^ 31) (h : Int32.ofNat n < Int32.ofNat k) : n < k := by
  rw [Int32.lt_iff_toInt_lt, own_natI hn, own_natI hk] at h; omega
theorem own_eqn {n k : Nat} (hn : n < 2 ^ 31) (hk : k < 2 ^ 31) (h : Int32.ofNat n = Int32.ofNat k) : n = k := by
  have := congrArg Int32.toInt h
  rw [own_natI hn, own_natI hk] at this; omega
theorem own_get_lt {es : List Nat} {i j : Nat} (h : own_St es i) (hi : 0 < i) : es.getD j 0 < i := by
  rw [List.getD_eq_getElem?_getD]
  cases q : es[j]? with
  | none => exact hi
  | some x => exact h.2.2 x (List.mem_of_getElem? q)
theorem own_get_mono {es : List Nat} {i j : Nat} (h : own_St es i) (hj : j + 1 < es.length) : es.getD j 0 < es.getD (j + 1) 0 := by
  rw [List.getD_eq_getElem?_getD, List.getD_eq_getElem?_getD, List.getElem?_eq_getElem hj, List.getElem?_eq_getElem (Nat.lt_of_succ_lt hj)]
  exact List.pairwise_iff_getElem.mp h.2.1 j (j + 1) _ _ (Nat.lt_succ_self _)
theorem own_gi_mono {es : List Nat} {j : Nat} (h : own_St es 13) (hj : j + 1 < es.length) : own_gi es j < own_gi es (j + 1) := own_ltn (own_get_mono h hj) (Nat.lt_trans (own_get_lt h (by decide)) (by decide))
theorem own_gi_12 {es : List Nat} {j : Nat} (h : own_St es 13) : ¬ (12 : Int32) < own_gi es j := own_gen (i := 12) (Nat.lt_succ_iff.mp (own_get_lt h (by decide))) (by decide)
theorem own_gi_m1 {es : List Nat} {j : Nat} (h : own_St es 13) : (-1 : Int32) < own_gi es j := by
  have q := own_get_lt (j := j) h (by decide)
  rw [Int32.lt_iff_toInt_lt, own_gi, own_natI (by omega)]
  show (-1 : Int) < _; omega
def own_F (es : List Nat) : Nat → Nat
  | 0 => 0
  | j + 1 => own_F es j + (if j = 0 then 2 ^ (es.getD 0 0) else 2 ^ (es.getD j 0) - 1)
def own_cap (es : List Nat) (j : Nat) : Int32 := if j = 0 then (1 : Int32) <<< (own_gi es 0 &&& 31) else ((1 : Int32) <<< (own_gi es j &&& 31)) - 1
theorem own_pw : ∀ x : Fin 13, ((1 : Int32) <<< (Int32.ofNat x.val &&& 31)).toInt64 = Int64.ofNat (2 ^ x.val) ∧ (((1 : Int32) <<< (Int32.ofNat x.val &&& 31)) - 1).toInt64 = Int64.ofNat (2 ^ x.val - 1) ∧ (1 : Int64) <<< ((Int32.ofNat x.val).toInt64 &&& 63) = Int64.ofNat (2 ^ x.val) := by decide
theorem own_capL {es : List Nat} (h : own_St es 13) (j : Nat) : (own_cap es j).toInt64 = Int64.ofNat (if j = 0 then 2 ^ (es.getD 0 0) else 2 ^ (es.getD j 0) - 1) := by
  unfold own_cap own_gi
  split
  · exact (own_pw ⟨es.getD 0 0, own_get_lt h (by decide)⟩).1
  · exact (own_pw ⟨es.getD j 0, own_get_lt h (by decide)⟩).2.1
theorem own_Fadd {es : List Nat} (h : own_St es 13) (j : Nat) : Int64.ofNat (own_F es j) + (own_cap es j).toInt64 = Int64.ofNat (own_F es (j + 1)) := by
  rw [own_capL h, ← Int64.ofNat_add]; rfl
theorem own_shl {es : List Nat} (h : own_St es 13) (j : Nat) : (1 : Int64) <<< ((own_gi es j).toInt64 &&& 63) = Int64.ofNat (2 ^ es.getD j 0) := (own_pw ⟨es.getD j 0, own_get_lt h (by decide)⟩).2.2
theorem own_F1 (es : List Nat) : Int64.ofNat (2 ^ es.getD 0 0) = Int64.ofNat (own_F es 1) := by simp [own_F]
theorem own_Fstep (es : List Nat) (j : Nat) : Int64.ofNat (own_F es (j + 1)) + Int64.ofNat (2 ^ es.getD (j + 1) 0) - 1 = Int64.ofNat (own_F es (j + 2)) := by
  have e : own_F es (j + 2) = own_F es (j + 1) + (2 ^ es.getD (j + 1) 0 - 1) := by simp [own_F]
  have p : 0 < 2 ^ es.getD (j + 1) 0 := Nat.pow_pos (by decide)
  have q : own_F es (j + 1) + 2 ^ es.getD (j + 1) 0 = own_F es (j + 2) + 1 := by omega
  rw [← Int64.ofNat_add, q, Int64.ofNat_add]
  show Int64.ofNat _ + 1 - 1 = _
  exact Int64.add_sub_cancel _ _
theorem own_F_lt {es : List Nat} (h : own_St es 13) : ∀ j, own_F es j ≤ 4096 * j
  | 0 => Nat.le_refl _
  | j + 1 => by
    have ih := own_F_lt h j
    have q : ∀ k, 2 ^ (es.getD k 0) ≤ 2 ^ 12 := fun k => Nat.pow_le_pow_right (by decide) (Nat.lt_succ_iff.mp (own_get_lt h (by decide)))
    have q0 := q 0; have qj := q j
    show own_F es j + _ ≤ _
    split <;> omega
theorem own_F_mono (es : List Nat) (j : Nat) : own_F es j ≤ own_F es (j + 1) := by show _ ≤ own_F es j + _; omega
theorem own_F_le (es : List Nat) {i j : Nat} (h : i ≤ j) : own_F es i ≤ own_F es j := by
  induction h with
  | refl => exact Nat.le_refl _
  | step _ ih => exact Nat.le_trans ih (own_F_mono es _)
theorem own_ltF {es : List Nat} (h : own_St es 13) {p : Int64} {j : Nat} (hj : j ≤ 8) : p < Int64.ofNat (own_F es j) ↔ p.toInt < own_F es j := by
  have := own_F_lt h j
  rw [Int64.lt_iff_toInt_lt, Int64.toInt_ofNat_of_lt (by omega)]
def own_pool (es : List Nat) (p : Int64) : Nat → Nat → Nat
  | 0, i => i
  | d + 1, i => if p < Int64.ofNat (own_F es (i + 1)) then i else own_pool es p d (i + 1)
def own_ex (es : List Nat) (p : Int64) : Nat → Nat
  | 0 => 0
  | j + 1 => if j + 1 < es.length ∧ ¬ p < Int64.ofNat (own_F es (j + 1)) then j + 1 else own_ex es p j
theorem own_ex_stay {es : List Nat} {p : Int64} {i : Nat} (hs : ∀ j, i < j → j ≤ 7 → ¬ (j < es.length ∧ ¬ p < Int64.ofNat (own_F es j))) : ∀ d, i + d ≤ 7 → own_ex es p (i + d) = own_ex es p i
  | 0, _ => rfl
  | d + 1, hd => by
    have e : own_ex es p (i + (d + 1)) = own_ex es p (i + d) := if_neg (hs (i + d + 1) (by omega) hd)
    rw [e]; exact own_ex_stay hs d (by omega)
theorem own_fin {es : List Nat} (h : own_St es 13) (p : Int64) : ∀ (d i : Nat), i + d + 1 = es.length → own_ex es p i = i → own_pool es p d i = own_ex es p 7
  | 0, i, hi, he => by
    show i = _
    have q := own_ex_stay (es := es) (p := p) (i := i) (fun j h1 h2 => fun q => by omega) (7 - i) (by have := h.1; omega)
    rw [show i + (7 - i) = 7 by have := h.1; omega] at q
    rw [q, he]
  | d + 1, i, hi, he => by
    have h8 := h.1
    show (if _ then _ else _) = _
    by_cases c : p < Int64.ofNat (own_F es (i + 1))
    · rw [if_pos c]
      have c' := (own_ltF h (by omega)).mp c
      have q := own_ex_stay (es := es) (p := p) (i := i) (fun j h1 h2 => fun q => q.2 ((own_ltF h (by omega)).mpr (by have := own_F_le es (i := i + 1) (j := j) (by omega); omega))) (7 - i) (by omega)
      rw [show i + (7 - i) = 7 by omega] at q
      rw [q, he]
    · rw [if_neg c]
      refine own_fin h p d (i + 1) (by omega) ?_
      show (if _ then _ else _) = _
      rw [if_pos ⟨by omega, c⟩]
def own_fpl (es : List Nat) (n : Nat) : List Value := (List.range n).map fun t => Value.long (Int64.ofNat (own_F es t))
theorem own_fpl_len (es : List Nat) (n : Nat) : (own_fpl es n).length = n := by simp [own_fpl]
theorem own_fpl_at {es : List Nat} {n j : Nat} (h : j < n) : (own_fpl es n).getD j (.long 0) = .long (Int64.ofNat (own_F es j)) := by
  simp [own_fpl, List.getD_eq_getElem?_getD, h]
theorem own_fpl_app (es : List Nat) (n : Nat) : (own_fpl es n ++ [Value.long 0]).set n (.long (Int64.ofNat (own_F es n))) = own_fpl es (n + 1) := by
  have e : (own_fpl es n).length = n := own_fpl_len es n
  rw [List.set_append_right _ _ (by omega), e, Nat.sub_self]
  simp [own_fpl, List.range_succ]
theorem own_fpl1 (es : List Nat) : ∀ i, (own_fpl es 1).getD i (.long 0) = ([] : List Value).getD i (.long 0) := fun i => by
  cases i <;> simp [own_fpl, own_F]
theorem ow_cut {P Q : Prop} (f : P → Q) (q : P) : Q := f q
theorem own_nz {i : Nat} (h0 : 0 < i) (hi : i < 2 ^ 31) : ¬ Int32.ofNat i = 0 := fun q => by
  have := congrArg Int32.toInt q
  rw [own_natI hi] at this
  have e : (0 : Int32).toInt = 0 := rfl
  omega
theorem own_pred {j : Nat} (hj : j + 1 < 2 ^ 31) : Int32.ofNat (j + 1) - 1 = Int32.ofNat j := by
  rw [← own_succ hj]; exact Int32.add_sub_cancel _ _
theorem own_clamp8 {n : Nat} (h : n ≤ 8) : (Int32.ofNat n).toNatClampNeg = n := (ow_ix_nat (i := n) (by omega)).2
theorem own_nn8 {n : Nat} (h : n ≤ 8) : ¬ Int32.ofNat n < 0 := (ow_ix_nat (i := n) (by omega)).1
theorem own_ls2 {es : List Nat} (h : es.length = 2) : ∃ x0 x1, es = [x0, x1] := by
  match es, h with
  | [x0, x1], _ => exact ⟨x0, x1, rfl⟩
theorem own_ls3 {es : List Nat} (h : es.length = 3) : ∃ x0 x1 x2, es = [x0, x1, x2] := by
  match es, h with
  | [x0, x1, x2], _ => exact ⟨x0, x1, x2, rfl⟩
theorem own_ls4 {es : List Nat} (h : es.length = 4) : ∃ x0 x1 x2 x3, es = [x0, x1, x2, x3] := by
  match es, h with
  | [x0, x1, x2, x3], _ => exact ⟨x0, x1, x2, x3, rfl⟩
theorem own_ls5 {es : List Nat} (h : es.length = 5) : ∃ x0 x1 x2 x3 x4, es = [x0, x1, x2, x3, x4] := by
  match es, h with
  | [x0, x1, x2, x3, x4], _ => exact ⟨x0, x1, x2, x3, x4, rfl⟩
theorem own_ls6 {es : List Nat} (h : es.length = 6) : ∃ x0 x1 x2 x3 x4 x5, es = [x0, x1, x2, x3, x4, x5] := by
  match es, h with
  | [x0, x1, x2, x3, x4, x5], _ => exact ⟨x0, x1, x2, x3, x4, x5, rfl⟩
theorem own_ls7 {es : List Nat} (h : es.length = 7) : ∃ x0 x1 x2 x3 x4 x5 x6, es = [x0, x1, x2, x3, x4, x5, x6] := by
  match es, h with
  | [x0, x1, x2, x3, x4, x5, x6], _ => exact ⟨x0, x1, x2, x3, x4, x5, x6, rfl⟩
theorem own_ls8 {es : List Nat} (h : es.length = 8) : ∃ x0 x1 x2 x3 x4 x5 x6 x7, es = [x0, x1, x2, x3, x4, x5, x6, x7] := by
  match es, h with
  | [x0, x1, x2, x3, x4, x5, x6, x7], _ => exact ⟨x0, x1, x2, x3, x4, x5, x6, x7, rfl⟩

theorem d1_0 : decode method_3_code 0 = .ok (.iload_n 1, 1) := by decide +kernel
theorem d1_1 : decode method_3_code 1 = .ok (.iconst 2, 1) := by decide +kernel
theorem d1_2 : decode method_3_code 2 = .ok (.if_icmp .ne 19, 3) := by decide +kernel
theorem d1_5 : decode method_3_code 5 = .ok (.iconst 2, 1) := by decide +kernel
theorem d1_6 : decode method_3_code 6 = .ok (.newarray .int, 2) := by decide +kernel
theorem d1_8 : decode method_3_code 8 = .ok (.dup, 1) := by decide +kernel
theorem d1_9 : decode method_3_code 9 = .ok (.iconst 0, 1) := by decide +kernel
theorem d1_10 : decode method_3_code 10 = .ok (.aload_n 0, 1) := by decide +kernel
theorem d1_11 : decode method_3_code 11 = .ok (.iconst 0, 1) := by decide +kernel
theorem d1_12 : decode method_3_code 12 = .ok (.iaload, 1) := by decide +kernel
theorem d1_13 : decode method_3_code 13 = .ok (.iastore, 1) := by decide +kernel
theorem d1_14 : decode method_3_code 14 = .ok (.dup, 1) := by decide +kernel
theorem d1_15 : decode method_3_code 15 = .ok (.iconst 1, 1) := by decide +kernel
theorem d1_16 : decode method_3_code 16 = .ok (.aload_n 0, 1) := by decide +kernel
theorem d1_17 : decode method_3_code 17 = .ok (.iconst 1, 1) := by decide +kernel
theorem d1_18 : decode method_3_code 18 = .ok (.iaload, 1) := by decide +kernel
theorem d1_19 : decode method_3_code 19 = .ok (.iastore, 1) := by decide +kernel
theorem d1_20 : decode method_3_code 20 = .ok (.areturn, 1) := by decide +kernel
theorem d1_21 : decode method_3_code 21 = .ok (.iload_n 1, 1) := by decide +kernel
theorem d1_22 : decode method_3_code 22 = .ok (.iconst 3, 1) := by decide +kernel
theorem d1_23 : decode method_3_code 23 = .ok (.if_icmp .ne 25, 3) := by decide +kernel
theorem d1_26 : decode method_3_code 26 = .ok (.iconst 3, 1) := by decide +kernel
theorem d1_27 : decode method_3_code 27 = .ok (.newarray .int, 2) := by decide +kernel
theorem d1_29 : decode method_3_code 29 = .ok (.dup, 1) := by decide +kernel
theorem d1_30 : decode method_3_code 30 = .ok (.iconst 0, 1) := by decide +kernel
theorem d1_31 : decode method_3_code 31 = .ok (.aload_n 0, 1) := by decide +kernel
theorem d1_32 : decode method_3_code 32 = .ok (.iconst 0, 1) := by decide +kernel
theorem d1_33 : decode method_3_code 33 = .ok (.iaload, 1) := by decide +kernel
theorem d1_34 : decode method_3_code 34 = .ok (.iastore, 1) := by decide +kernel
theorem d1_35 : decode method_3_code 35 = .ok (.dup, 1) := by decide +kernel
theorem d1_36 : decode method_3_code 36 = .ok (.iconst 1, 1) := by decide +kernel
theorem d1_37 : decode method_3_code 37 = .ok (.aload_n 0, 1) := by decide +kernel
theorem d1_38 : decode method_3_code 38 = .ok (.iconst 1, 1) := by decide +kernel
theorem d1_39 : decode method_3_code 39 = .ok (.iaload, 1) := by decide +kernel
theorem d1_40 : decode method_3_code 40 = .ok (.iastore, 1) := by decide +kernel
theorem d1_41 : decode method_3_code 41 = .ok (.dup, 1) := by decide +kernel
theorem d1_42 : decode method_3_code 42 = .ok (.iconst 2, 1) := by decide +kernel
theorem d1_43 : decode method_3_code 43 = .ok (.aload_n 0, 1) := by decide +kernel
theorem d1_44 : decode method_3_code 44 = .ok (.iconst 2, 1) := by decide +kernel
theorem d1_45 : decode method_3_code 45 = .ok (.iaload, 1) := by decide +kernel
theorem d1_46 : decode method_3_code 46 = .ok (.iastore, 1) := by decide +kernel
theorem d1_47 : decode method_3_code 47 = .ok (.areturn, 1) := by decide +kernel
theorem d1_48 : decode method_3_code 48 = .ok (.iload_n 1, 1) := by decide +kernel
theorem d1_49 : decode method_3_code 49 = .ok (.iconst 4, 1) := by decide +kernel
theorem d1_50 : decode method_3_code 50 = .ok (.if_icmp .ne 31, 3) := by decide +kernel
theorem d1_53 : decode method_3_code 53 = .ok (.iconst 4, 1) := by decide +kernel
theorem d1_54 : decode method_3_code 54 = .ok (.newarray .int, 2) := by decide +kernel
theorem d1_56 : decode method_3_code 56 = .ok (.dup, 1) := by decide +kernel
theorem d1_57 : decode method_3_code 57 = .ok (.iconst 0, 1) := by decide +kernel
theorem d1_58 : decode method_3_code 58 = .ok (.aload_n 0, 1) := by decide +kernel
theorem d1_59 : decode method_3_code 59 = .ok (.iconst 0, 1) := by decide +kernel
theorem d1_60 : decode method_3_code 60 = .ok (.iaload, 1) := by decide +kernel
theorem d1_61 : decode method_3_code 61 = .ok (.iastore, 1) := by decide +kernel
theorem d1_62 : decode method_3_code 62 = .ok (.dup, 1) := by decide +kernel
theorem d1_63 : decode method_3_code 63 = .ok (.iconst 1, 1) := by decide +kernel
theorem d1_64 : decode method_3_code 64 = .ok (.aload_n 0, 1) := by decide +kernel
theorem d1_65 : decode method_3_code 65 = .ok (.iconst 1, 1) := by decide +kernel
theorem d1_66 : decode method_3_code 66 = .ok (.iaload, 1) := by decide +kernel
theorem d1_67 : decode method_3_code 67 = .ok (.iastore, 1) := by decide +kernel
theorem d1_68 : decode method_3_code 68 = .ok (.dup, 1) := by decide +kernel
theorem d1_69 : decode method_3_code 69 = .ok (.iconst 2, 1) := by decide +kernel
theorem d1_70 : decode method_3_code 70 = .ok (.aload_n 0, 1) := by decide +kernel
theorem d1_71 : decode method_3_code 71 = .ok (.iconst 2, 1) := by decide +kernel
theorem d1_72 : decode method_3_code 72 = .ok (.iaload, 1) := by decide +kernel
theorem d1_73 : decode method_3_code 73 = .ok (.iastore, 1) := by decide +kernel
theorem d1_74 : decode method_3_code 74 = .ok (.dup, 1) := by decide +kernel
theorem d1_75 : decode method_3_code 75 = .ok (.iconst 3, 1) := by decide +kernel
theorem d1_76 : decode method_3_code 76 = .ok (.aload_n 0, 1) := by decide +kernel
theorem d1_77 : decode method_3_code 77 = .ok (.iconst 3, 1) := by decide +kernel
theorem d1_78 : decode method_3_code 78 = .ok (.iaload, 1) := by decide +kernel
theorem d1_79 : decode method_3_code 79 = .ok (.iastore, 1) := by decide +kernel
theorem d1_80 : decode method_3_code 80 = .ok (.areturn, 1) := by decide +kernel
theorem d1_81 : decode method_3_code 81 = .ok (.iload_n 1, 1) := by decide +kernel
theorem d1_82 : decode method_3_code 82 = .ok (.iconst 5, 1) := by decide +kernel
theorem d1_83 : decode method_3_code 83 = .ok (.if_icmp .ne 37, 3) := by decide +kernel
theorem d1_86 : decode method_3_code 86 = .ok (.iconst 5, 1) := by decide +kernel
theorem d1_87 : decode method_3_code 87 = .ok (.newarray .int, 2) := by decide +kernel
theorem d1_89 : decode method_3_code 89 = .ok (.dup, 1) := by decide +kernel
theorem d1_90 : decode method_3_code 90 = .ok (.iconst 0, 1) := by decide +kernel
theorem d1_91 : decode method_3_code 91 = .ok (.aload_n 0, 1) := by decide +kernel
theorem d1_92 : decode method_3_code 92 = .ok (.iconst 0, 1) := by decide +kernel
theorem d1_93 : decode method_3_code 93 = .ok (.iaload, 1) := by decide +kernel
theorem d1_94 : decode method_3_code 94 = .ok (.iastore, 1) := by decide +kernel
theorem d1_95 : decode method_3_code 95 = .ok (.dup, 1) := by decide +kernel
theorem d1_96 : decode method_3_code 96 = .ok (.iconst 1, 1) := by decide +kernel
theorem d1_97 : decode method_3_code 97 = .ok (.aload_n 0, 1) := by decide +kernel
theorem d1_98 : decode method_3_code 98 = .ok (.iconst 1, 1) := by decide +kernel
theorem d1_99 : decode method_3_code 99 = .ok (.iaload, 1) := by decide +kernel
theorem d1_100 : decode method_3_code 100 = .ok (.iastore, 1) := by decide +kernel
theorem d1_101 : decode method_3_code 101 = .ok (.dup, 1) := by decide +kernel
theorem d1_102 : decode method_3_code 102 = .ok (.iconst 2, 1) := by decide +kernel
theorem d1_103 : decode method_3_code 103 = .ok (.aload_n 0, 1) := by decide +kernel
theorem d1_104 : decode method_3_code 104 = .ok (.iconst 2, 1) := by decide +kernel
theorem d1_105 : decode method_3_code 105 = .ok (.iaload, 1) := by decide +kernel
theorem d1_106 : decode method_3_code 106 = .ok (.iastore, 1) := by decide +kernel
theorem d1_107 : decode method_3_code 107 = .ok (.dup, 1) := by decide +kernel
theorem d1_108 : decode method_3_code 108 = .ok (.iconst 3, 1) := by decide +kernel
theorem d1_109 : decode method_3_code 109 = .ok (.aload_n 0, 1) := by decide +kernel
theorem d1_110 : decode method_3_code 110 = .ok (.iconst 3, 1) := by decide +kernel
theorem d1_111 : decode method_3_code 111 = .ok (.iaload, 1) := by decide +kernel
theorem d1_112 : decode method_3_code 112 = .ok (.iastore, 1) := by decide +kernel
theorem d1_113 : decode method_3_code 113 = .ok (.dup, 1) := by decide +kernel
theorem d1_114 : decode method_3_code 114 = .ok (.iconst 4, 1) := by decide +kernel
theorem d1_115 : decode method_3_code 115 = .ok (.aload_n 0, 1) := by decide +kernel
theorem d1_116 : decode method_3_code 116 = .ok (.iconst 4, 1) := by decide +kernel
theorem d1_117 : decode method_3_code 117 = .ok (.iaload, 1) := by decide +kernel
theorem d1_118 : decode method_3_code 118 = .ok (.iastore, 1) := by decide +kernel
theorem d1_119 : decode method_3_code 119 = .ok (.areturn, 1) := by decide +kernel
theorem d1_120 : decode method_3_code 120 = .ok (.iload_n 1, 1) := by decide +kernel
theorem d1_121 : decode method_3_code 121 = .ok (.bipush 6, 2) := by decide +kernel
theorem d1_123 : decode method_3_code 123 = .ok (.if_icmp .ne 44, 3) := by decide +kernel
theorem d1_126 : decode method_3_code 126 = .ok (.bipush 6, 2) := by decide +kernel
theorem d1_128 : decode method_3_code 128 = .ok (.newarray .int, 2) := by decide +kernel
theorem d1_130 : decode method_3_code 130 = .ok (.dup, 1) := by decide +kernel
theorem d1_131 : decode method_3_code 131 = .ok (.iconst 0, 1) := by decide +kernel
theorem d1_132 : decode method_3_code 132 = .ok (.aload_n 0, 1) := by decide +kernel
theorem d1_133 : decode method_3_code 133 = .ok (.iconst 0, 1) := by decide +kernel
theorem d1_134 : decode method_3_code 134 = .ok (.iaload, 1) := by decide +kernel
theorem d1_135 : decode method_3_code 135 = .ok (.iastore, 1) := by decide +kernel
theorem d1_136 : decode method_3_code 136 = .ok (.dup, 1) := by decide +kernel
theorem d1_137 : decode method_3_code 137 = .ok (.iconst 1, 1) := by decide +kernel
theorem d1_138 : decode method_3_code 138 = .ok (.aload_n 0, 1) := by decide +kernel
theorem d1_139 : decode method_3_code 139 = .ok (.iconst 1, 1) := by decide +kernel
theorem d1_140 : decode method_3_code 140 = .ok (.iaload, 1) := by decide +kernel
theorem d1_141 : decode method_3_code 141 = .ok (.iastore, 1) := by decide +kernel
theorem d1_142 : decode method_3_code 142 = .ok (.dup, 1) := by decide +kernel
theorem d1_143 : decode method_3_code 143 = .ok (.iconst 2, 1) := by decide +kernel
theorem d1_144 : decode method_3_code 144 = .ok (.aload_n 0, 1) := by decide +kernel
theorem d1_145 : decode method_3_code 145 = .ok (.iconst 2, 1) := by decide +kernel
theorem d1_146 : decode method_3_code 146 = .ok (.iaload, 1) := by decide +kernel
theorem d1_147 : decode method_3_code 147 = .ok (.iastore, 1) := by decide +kernel
theorem d1_148 : decode method_3_code 148 = .ok (.dup, 1) := by decide +kernel
theorem d1_149 : decode method_3_code 149 = .ok (.iconst 3, 1) := by decide +kernel
theorem d1_150 : decode method_3_code 150 = .ok (.aload_n 0, 1) := by decide +kernel
theorem d1_151 : decode method_3_code 151 = .ok (.iconst 3, 1) := by decide +kernel
theorem d1_152 : decode method_3_code 152 = .ok (.iaload, 1) := by decide +kernel
theorem d1_153 : decode method_3_code 153 = .ok (.iastore, 1) := by decide +kernel
theorem d1_154 : decode method_3_code 154 = .ok (.dup, 1) := by decide +kernel
theorem d1_155 : decode method_3_code 155 = .ok (.iconst 4, 1) := by decide +kernel
theorem d1_156 : decode method_3_code 156 = .ok (.aload_n 0, 1) := by decide +kernel
theorem d1_157 : decode method_3_code 157 = .ok (.iconst 4, 1) := by decide +kernel
theorem d1_158 : decode method_3_code 158 = .ok (.iaload, 1) := by decide +kernel
theorem d1_159 : decode method_3_code 159 = .ok (.iastore, 1) := by decide +kernel
theorem d1_160 : decode method_3_code 160 = .ok (.dup, 1) := by decide +kernel
theorem d1_161 : decode method_3_code 161 = .ok (.iconst 5, 1) := by decide +kernel
theorem d1_162 : decode method_3_code 162 = .ok (.aload_n 0, 1) := by decide +kernel
theorem d1_163 : decode method_3_code 163 = .ok (.iconst 5, 1) := by decide +kernel
theorem d1_164 : decode method_3_code 164 = .ok (.iaload, 1) := by decide +kernel
theorem d1_165 : decode method_3_code 165 = .ok (.iastore, 1) := by decide +kernel
theorem d1_166 : decode method_3_code 166 = .ok (.areturn, 1) := by decide +kernel
theorem d1_167 : decode method_3_code 167 = .ok (.iload_n 1, 1) := by decide +kernel
theorem d1_168 : decode method_3_code 168 = .ok (.bipush 7, 2) := by decide +kernel
theorem d1_170 : decode method_3_code 170 = .ok (.if_icmp .ne 52, 3) := by decide +kernel
theorem d1_173 : decode method_3_code 173 = .ok (.bipush 7, 2) := by decide +kernel
theorem d1_175 : decode method_3_code 175 = .ok (.newarray .int, 2) := by decide +kernel
theorem d1_177 : decode method_3_code 177 = .ok (.dup, 1) := by decide +kernel
theorem d1_178 : decode method_3_code 178 = .ok (.iconst 0, 1) := by decide +kernel
theorem d1_179 : decode method_3_code 179 = .ok (.aload_n 0, 1) := by decide +kernel
theorem d1_180 : decode method_3_code 180 = .ok (.iconst 0, 1) := by decide +kernel
theorem d1_181 : decode method_3_code 181 = .ok (.iaload, 1) := by decide +kernel
theorem d1_182 : decode method_3_code 182 = .ok (.iastore, 1) := by decide +kernel
theorem d1_183 : decode method_3_code 183 = .ok (.dup, 1) := by decide +kernel
theorem d1_184 : decode method_3_code 184 = .ok (.iconst 1, 1) := by decide +kernel
theorem d1_185 : decode method_3_code 185 = .ok (.aload_n 0, 1) := by decide +kernel
theorem d1_186 : decode method_3_code 186 = .ok (.iconst 1, 1) := by decide +kernel
theorem d1_187 : decode method_3_code 187 = .ok (.iaload, 1) := by decide +kernel
theorem d1_188 : decode method_3_code 188 = .ok (.iastore, 1) := by decide +kernel
theorem d1_189 : decode method_3_code 189 = .ok (.dup, 1) := by decide +kernel
theorem d1_190 : decode method_3_code 190 = .ok (.iconst 2, 1) := by decide +kernel
theorem d1_191 : decode method_3_code 191 = .ok (.aload_n 0, 1) := by decide +kernel
theorem d1_192 : decode method_3_code 192 = .ok (.iconst 2, 1) := by decide +kernel
theorem d1_193 : decode method_3_code 193 = .ok (.iaload, 1) := by decide +kernel
theorem d1_194 : decode method_3_code 194 = .ok (.iastore, 1) := by decide +kernel
theorem d1_195 : decode method_3_code 195 = .ok (.dup, 1) := by decide +kernel
theorem d1_196 : decode method_3_code 196 = .ok (.iconst 3, 1) := by decide +kernel
theorem d1_197 : decode method_3_code 197 = .ok (.aload_n 0, 1) := by decide +kernel
theorem d1_198 : decode method_3_code 198 = .ok (.iconst 3, 1) := by decide +kernel
theorem d1_199 : decode method_3_code 199 = .ok (.iaload, 1) := by decide +kernel
theorem d1_200 : decode method_3_code 200 = .ok (.iastore, 1) := by decide +kernel
theorem d1_201 : decode method_3_code 201 = .ok (.dup, 1) := by decide +kernel
theorem d1_202 : decode method_3_code 202 = .ok (.iconst 4, 1) := by decide +kernel
theorem d1_203 : decode method_3_code 203 = .ok (.aload_n 0, 1) := by decide +kernel
theorem d1_204 : decode method_3_code 204 = .ok (.iconst 4, 1) := by decide +kernel
theorem d1_205 : decode method_3_code 205 = .ok (.iaload, 1) := by decide +kernel
theorem d1_206 : decode method_3_code 206 = .ok (.iastore, 1) := by decide +kernel
theorem d1_207 : decode method_3_code 207 = .ok (.dup, 1) := by decide +kernel
theorem d1_208 : decode method_3_code 208 = .ok (.iconst 5, 1) := by decide +kernel
theorem d1_209 : decode method_3_code 209 = .ok (.aload_n 0, 1) := by decide +kernel
theorem d1_210 : decode method_3_code 210 = .ok (.iconst 5, 1) := by decide +kernel
theorem d1_211 : decode method_3_code 211 = .ok (.iaload, 1) := by decide +kernel
theorem d1_212 : decode method_3_code 212 = .ok (.iastore, 1) := by decide +kernel
theorem d1_213 : decode method_3_code 213 = .ok (.dup, 1) := by decide +kernel
theorem d1_214 : decode method_3_code 214 = .ok (.bipush 6, 2) := by decide +kernel
theorem d1_216 : decode method_3_code 216 = .ok (.aload_n 0, 1) := by decide +kernel
theorem d1_217 : decode method_3_code 217 = .ok (.bipush 6, 2) := by decide +kernel
theorem d1_219 : decode method_3_code 219 = .ok (.iaload, 1) := by decide +kernel
theorem d1_220 : decode method_3_code 220 = .ok (.iastore, 1) := by decide +kernel
theorem d1_221 : decode method_3_code 221 = .ok (.areturn, 1) := by decide +kernel
theorem d1_222 : decode method_3_code 222 = .ok (.bipush 8, 2) := by decide +kernel
theorem d1_224 : decode method_3_code 224 = .ok (.newarray .int, 2) := by decide +kernel
theorem d1_226 : decode method_3_code 226 = .ok (.dup, 1) := by decide +kernel
theorem d1_227 : decode method_3_code 227 = .ok (.iconst 0, 1) := by decide +kernel
theorem d1_228 : decode method_3_code 228 = .ok (.aload_n 0, 1) := by decide +kernel
theorem d1_229 : decode method_3_code 229 = .ok (.iconst 0, 1) := by decide +kernel
theorem d1_230 : decode method_3_code 230 = .ok (.iaload, 1) := by decide +kernel
theorem d1_231 : decode method_3_code 231 = .ok (.iastore, 1) := by decide +kernel
theorem d1_232 : decode method_3_code 232 = .ok (.dup, 1) := by decide +kernel
theorem d1_233 : decode method_3_code 233 = .ok (.iconst 1, 1) := by decide +kernel
theorem d1_234 : decode method_3_code 234 = .ok (.aload_n 0, 1) := by decide +kernel
theorem d1_235 : decode method_3_code 235 = .ok (.iconst 1, 1) := by decide +kernel
theorem d1_236 : decode method_3_code 236 = .ok (.iaload, 1) := by decide +kernel
theorem d1_237 : decode method_3_code 237 = .ok (.iastore, 1) := by decide +kernel
theorem d1_238 : decode method_3_code 238 = .ok (.dup, 1) := by decide +kernel
theorem d1_239 : decode method_3_code 239 = .ok (.iconst 2, 1) := by decide +kernel
theorem d1_240 : decode method_3_code 240 = .ok (.aload_n 0, 1) := by decide +kernel
theorem d1_241 : decode method_3_code 241 = .ok (.iconst 2, 1) := by decide +kernel
theorem d1_242 : decode method_3_code 242 = .ok (.iaload, 1) := by decide +kernel
theorem d1_243 : decode method_3_code 243 = .ok (.iastore, 1) := by decide +kernel
theorem d1_244 : decode method_3_code 244 = .ok (.dup, 1) := by decide +kernel
theorem d1_245 : decode method_3_code 245 = .ok (.iconst 3, 1) := by decide +kernel
theorem d1_246 : decode method_3_code 246 = .ok (.aload_n 0, 1) := by decide +kernel
theorem d1_247 : decode method_3_code 247 = .ok (.iconst 3, 1) := by decide +kernel
theorem d1_248 : decode method_3_code 248 = .ok (.iaload, 1) := by decide +kernel
theorem d1_249 : decode method_3_code 249 = .ok (.iastore, 1) := by decide +kernel
theorem d1_250 : decode method_3_code 250 = .ok (.dup, 1) := by decide +kernel
theorem d1_251 : decode method_3_code 251 = .ok (.iconst 4, 1) := by decide +kernel
theorem d1_252 : decode method_3_code 252 = .ok (.aload_n 0, 1) := by decide +kernel
theorem d1_253 : decode method_3_code 253 = .ok (.iconst 4, 1) := by decide +kernel
theorem d1_254 : decode method_3_code 254 = .ok (.iaload, 1) := by decide +kernel
theorem d1_255 : decode method_3_code 255 = .ok (.iastore, 1) := by decide +kernel
theorem d1_256 : decode method_3_code 256 = .ok (.dup, 1) := by decide +kernel
theorem d1_257 : decode method_3_code 257 = .ok (.iconst 5, 1) := by decide +kernel
theorem d1_258 : decode method_3_code 258 = .ok (.aload_n 0, 1) := by decide +kernel
theorem d1_259 : decode method_3_code 259 = .ok (.iconst 5, 1) := by decide +kernel
theorem d1_260 : decode method_3_code 260 = .ok (.iaload, 1) := by decide +kernel
theorem d1_261 : decode method_3_code 261 = .ok (.iastore, 1) := by decide +kernel
theorem d1_262 : decode method_3_code 262 = .ok (.dup, 1) := by decide +kernel
theorem d1_263 : decode method_3_code 263 = .ok (.bipush 6, 2) := by decide +kernel
theorem d1_265 : decode method_3_code 265 = .ok (.aload_n 0, 1) := by decide +kernel
theorem d1_266 : decode method_3_code 266 = .ok (.bipush 6, 2) := by decide +kernel
theorem d1_268 : decode method_3_code 268 = .ok (.iaload, 1) := by decide +kernel
theorem d1_269 : decode method_3_code 269 = .ok (.iastore, 1) := by decide +kernel
theorem d1_270 : decode method_3_code 270 = .ok (.dup, 1) := by decide +kernel
theorem d1_271 : decode method_3_code 271 = .ok (.bipush 7, 2) := by decide +kernel
theorem d1_273 : decode method_3_code 273 = .ok (.aload_n 0, 1) := by decide +kernel
theorem d1_274 : decode method_3_code 274 = .ok (.bipush 7, 2) := by decide +kernel
theorem d1_276 : decode method_3_code 276 = .ok (.iaload, 1) := by decide +kernel
theorem d1_277 : decode method_3_code 277 = .ok (.iastore, 1) := by decide +kernel
theorem d1_278 : decode method_3_code 278 = .ok (.areturn, 1) := by decide +kernel
theorem pn_1 : plainFor (⟨"com/example/matins/matins/engine/PoolLayoutPoolOfPinLaw", "build", "([II)[I"⟩ : MethodName) = true := by first | exact plainFor_of_name (by first | (simp [plainName, overriddenIn]; done) | decide +kernel) | decide +kernel
theorem pd_1 : parseMethodDescriptor "([II)[I" = some ⟨[(.array .int), .int], some (.array .int)⟩ := by decide +kernel
theorem ef_1 (m : MethodId) (a : Addr) (n : Int32) : entryFrame m #[(.ref a), (.int n)] 2 = mkF m 0 #[.val (.ref a), .val (.int n)] [] := by first | (simp [entryFrame, mkF, argsToLocals, Value.category]; done) | rfl
def Q1 (Z : State) (a : Addr) (n : Int32) (k : ClassId) (es : List Nat) (h0 : Heap) (n0 : Nat) (v : Option Value) (h : Heap) (L : List Loc) : Prop := ∃ (b : Addr) (k' : ClassId), v = some (.ref b) ∧ Fr n0 L ∧ n0 ≤ h.size ∧ n0 ≤ b ∧ b = h0.size ∧ Keep h0 h [] ∧ Arv Z h b k' .int (Int32.ofNat es.length) (own_li es) (.int 0) ∧ Exa Z h b "[I"
set_option maxRecDepth 65536 in
set_option maxHeartbeats 40000000 in
theorem rm1 (l : Launch) (Z : State) (a0 : Array Value) (hw : ∀ d ∈ tables_1, d.before a0 Z = true) (ws : List Jvm.Cond) (a : Addr) (n : Int32) (k : ClassId) (es : List Nat) (h0 : Heap) (n0 : Nat) (Z0 : n0 ≤ h0.size) (hn : n = Int32.ofNat es.length) (F : Arv Z h0 a k .int (8 : Int32) (own_li es) (.int 0)) (hS : own_St es 13) (h2 : 2 ≤ es.length) :
    MetFree l (⟨"com/example/matins/matins/engine/PoolLayoutPoolOfPinLaw", "build", "([II)[I"⟩ : MethodName) (head1 (Jvm.Cond.code (⟨"com/example/matins/matins/engine/PoolLayoutPoolOfPinLaw", "build", "([II)[I"⟩ : MethodName) method_3_code 2 (some (.array .int)) :: ws) ({ frames := 0, cells := 1, slots := 8, locals := 0 } : Room)) (fun as_ U => as_ = #[(.ref a), (.int n)] ∧ Z.Warmed39 U.vm ∧ U.heap = h0) (fun _ _ _ _ _ => True) (fun _ U oc U' => ∃ v L, oc = .returned v ∧ Q1 Z a n k es h0 n0 v U'.heap L ∧ FrameEnd U oc U' L ({ frames := 0, cells := 1, slots := 8, locals := 0 } : Room).cells ({ frames := 0, cells := 1, slots := 8, locals := 0 } : Room).slots) := by
  refine MetFree.of_bodySF pn_1 hisR ?_
  intro p e s m args below meth c s₁ Bd hml0 hP hK
  obtain ⟨rfl, hZ, hh⟩ := hP
  have K : ow_K p e below s m meth c Z "com/example/matins/matins/engine/PoolLayoutPoolOfPinLaw" method_3_code 2 (some (.array .int)) "build" (ow_Gl p e below s (Q1 Z a n k es h0 n0) 1 8) := ⟨ow_Gl_bc, Bd.exec, Bd.bytes, hml0, findClass_of_methodNamed Bd.named, hZ, Bd.returns, Bd.notSynchronized, (name_of_methodNamed Bd.named Bd.method).1⟩
  have X0 : Stand p l e ({ frames := 0, cells := 1, slots := 8, locals := 0 } : Room) s m #[(.ref a), (.int n)] below meth c s₁ [] 0 0 := Stand.of_body Bd
  have e0 : s₁.heap = h0 := by rw [← hh, Bd.state]; rfl
  have N0 := Fr.nil n0
  refine ow_entry (Q := (Q1 Z a n k es h0 n0)) (ce := 1) (sl := 8) (ef_1 m a n) ?_
  subst hn
  have h8 := hS.1
  refine ow_iloadN K X0 (pc' := 1) (Int32.ofNat es.length) d1_0 rfl rfl ?_
  refine ow_iconst K X0 (pc' := 2) (2 : Int32) d1_1 rfl (by decide) ?_
  by_cases c2 : (Int32.ofNat es.length) = (2 : Int32)
  · refine ow_icmpN K X0 (pc' := 5) d1_2 rfl (XT.ii_ne_f c2) ?_
    have hl : es.length = 2 := own_eqn (by omega) (by decide) c2
    obtain ⟨x0, x1, rfl⟩ := own_ls2 hl
    have F1 : Arv Z h0 a k .int (8 : Int32) [.int (Int32.ofNat x0), .int (Int32.ofNat x1)] (.int 0) := F
    refine ow_iconst K X0 (pc' := 6) (2 : Int32) d1_5 rfl (by decide) ?_
    refine ow_newPE K X0 (pc' := 8) e0 (C := "[I") (by decide) (hw _ (List.mem_of_getElem? (i := 0) rfl)) (by decide) 8 (by decide) (by decide) (by decide) (by decide) d1_6 rfl ?_
    intro T1 h1 k1 b1 X1 e1 E1 g1 A1 B1
    have ne2 : a ≠ b1 := ow_ne F1.lt g1
    have ge3 : n0 ≤ b1 := Nat.le_trans Z0 (Nat.le_of_eq g1.symm)
    have F4 : Arv Z h1 a k .int (8 : Int32) [.int (Int32.ofNat x0), .int (Int32.ofNat x1)] (.int 0) := F1.ext E1
    have Z5 : n0 ≤ h1.size := Nat.le_trans Z0 E1.1
    have P6 := (Keep.refl h0 []).ext E1
    have F7 : Arv Z h1 b1 k1 .int (2 : Int32) [.int 0, .int 0] (.int 0) := Arv.pad A1 (pad_rep [] (.int 0) 2)
    refine ow_dup K X1 (pc' := 9) d1_8 rfl rfl ?_
    refine ow_iconst K X1 (pc' := 10) (0 : Int32) d1_9 rfl (by decide) ?_
    refine ow_aloadN K X1 (pc' := 11) a d1_10 rfl rfl ?_
    refine ow_iconst K X1 (pc' := 12) (0 : Int32) d1_11 rfl (by decide) ?_
    refine ow_iaload K X1 (pc' := 13) e1 F4 0 (.int (Int32.ofNat x0)) ⟨by decide, by decide⟩ (by decide) rfl d1_12 rfl ?_
    refine ow_iastore K X1 (pc' := 14) e1 F7 0 [.int (Int32.ofNat x0), .int 0] ⟨by decide, by decide⟩ (by decide) (by simp) rfl d1_13 rfl ?_
    intro T8 h8 X8 e8 W8 F8
    have F9 : Arv Z h8 a k .int (8 : Int32) [.int (Int32.ofNat x0), .int (Int32.ofNat x1)] (.int 0) := F4.other W8 ne2
    have F10 : Exa Z h8 b1 "[I" := Exa.wr W8 B1
    have Z11 : n0 ≤ h8.size := Nat.le_trans Z5 (Nat.le_of_eq W8.size.symm)
    have N12 := Fr.snoc X8 N0 ge3
    have P13 := P6.wr W8 (Or.inr (Nat.le_of_eq g1.symm))
    refine ow_dup K X8 (pc' := 15) d1_14 rfl rfl ?_
    refine ow_iconst K X8 (pc' := 16) (1 : Int32) d1_15 rfl (by decide) ?_
    refine ow_aloadN K X8 (pc' := 17) a d1_16 rfl rfl ?_
    refine ow_iconst K X8 (pc' := 18) (1 : Int32) d1_17 rfl (by decide) ?_
    refine ow_iaload K X8 (pc' := 19) e8 F9 1 (.int (Int32.ofNat x1)) ⟨by decide, by decide⟩ (by decide) rfl d1_18 rfl ?_
    refine ow_iastore K X8 (pc' := 20) e8 F8 1 [.int (Int32.ofNat x0), .int (Int32.ofNat x1)] ⟨by decide, by decide⟩ (by decide) (by simp) rfl d1_19 rfl ?_
    intro T14 h14 X14 e14 W14 F14
    have F15 : Arv Z h14 a k .int (8 : Int32) [.int (Int32.ofNat x0), .int (Int32.ofNat x1)] (.int 0) := F9.other W14 ne2
    have F16 : Exa Z h14 b1 "[I" := Exa.wr W14 F10
    have Z17 : n0 ≤ h14.size := Nat.le_trans Z11 (Nat.le_of_eq W14.size.symm)
    have N18 := Fr.snoc X14 N12 ge3
    have P19 := P13.wr W14 (Or.inr (Nat.le_of_eq g1.symm))
    refine ow_retA K X14 (.array .int) rfl rfl d1_20 ?_ (by decide) (by decide)
    rw [e14]
    exact ⟨b1, _, rfl, N18, Z17, ge3, g1, P19, F14, F16⟩
  · refine ow_icmpY K X0 (pc' := 21) d1_2 (XT.ii_ne_t c2) (by decide) (by decide) ?_
    refine ow_iloadN K X0 (pc' := 22) (Int32.ofNat es.length) d1_21 rfl rfl ?_
    refine ow_iconst K X0 (pc' := 23) (3 : Int32) d1_22 rfl (by decide) ?_
    by_cases c3 : (Int32.ofNat es.length) = (3 : Int32)
    · refine ow_icmpN K X0 (pc' := 26) d1_23 rfl (XT.ii_ne_f c3) ?_
      have hl : es.length = 3 := own_eqn (by omega) (by decide) c3
      obtain ⟨x0, x1, x2, rfl⟩ := own_ls3 hl
      have F1 : Arv Z h0 a k .int (8 : Int32) [.int (Int32.ofNat x0), .int (Int32.ofNat x1), .int (Int32.ofNat x2)] (.int 0) := F
      refine ow_iconst K X0 (pc' := 27) (3 : Int32) d1_26 rfl (by decide) ?_
      refine ow_newPE K X0 (pc' := 29) e0 (C := "[I") (by decide) (hw _ (List.mem_of_getElem? (i := 0) rfl)) (by decide) 8 (by decide) (by decide) (by decide) (by decide) d1_27 rfl ?_
      intro T20 h20 k20 b1 X20 e20 E20 g20 A20 B20
      have ne21 : a ≠ b1 := ow_ne F1.lt g20
      have ge22 : n0 ≤ b1 := Nat.le_trans Z0 (Nat.le_of_eq g20.symm)
      have F23 : Arv Z h20 a k .int (8 : Int32) [.int (Int32.ofNat x0), .int (Int32.ofNat x1), .int (Int32.ofNat x2)] (.int 0) := F1.ext E20
      have Z24 : n0 ≤ h20.size := Nat.le_trans Z0 E20.1
      have P25 := (Keep.refl h0 []).ext E20
      have F26 : Arv Z h20 b1 k20 .int (3 : Int32) [.int 0, .int 0, .int 0] (.int 0) := Arv.pad A20 (pad_rep [] (.int 0) 3)
      refine ow_dup K X20 (pc' := 30) d1_29 rfl rfl ?_
      refine ow_iconst K X20 (pc' := 31) (0 : Int32) d1_30 rfl (by decide) ?_
      refine ow_aloadN K X20 (pc' := 32) a d1_31 rfl rfl ?_
      refine ow_iconst K X20 (pc' := 33) (0 : Int32) d1_32 rfl (by decide) ?_
      refine ow_iaload K X20 (pc' := 34) e20 F23 0 (.int (Int32.ofNat x0)) ⟨by decide, by decide⟩ (by decide) rfl d1_33 rfl ?_
      refine ow_iastore K X20 (pc' := 35) e20 F26 0 [.int (Int32.ofNat x0), .int 0, .int 0] ⟨by decide, by decide⟩ (by decide) (by simp) rfl d1_34 rfl ?_
      intro T27 h27 X27 e27 W27 F27
      have F28 : Arv Z h27 a k .int (8 : Int32) [.int (Int32.ofNat x0), .int (Int32.ofNat x1), .int (Int32.ofNat x2)] (.int 0) := F23.other W27 ne21
      have F29 : Exa Z h27 b1 "[I" := Exa.wr W27 B20
      have Z30 : n0 ≤ h27.size := Nat.le_trans Z24 (Nat.le_of_eq W27.size.symm)
      have N31 := Fr.snoc X27 N0 ge22
      have P32 := P25.wr W27 (Or.inr (Nat.le_of_eq g20.symm))
      refine ow_dup K X27 (pc' := 36) d1_35 rfl rfl ?_
      refine ow_iconst K X27 (pc' := 37) (1 : Int32) d1_36 rfl (by decide) ?_
      refine ow_aloadN K X27 (pc' := 38) a d1_37 rfl rfl ?_
      refine ow_iconst K X27 (pc' := 39) (1 : Int32) d1_38 rfl (by decide) ?_
      refine ow_iaload K X27 (pc' := 40) e27 F28 1 (.int (Int32.ofNat x1)) ⟨by decide, by decide⟩ (by decide) rfl d1_39 rfl ?_
      refine ow_iastore K X27 (pc' := 41) e27 F27 1 [.int (Int32.ofNat x0), .int (Int32.ofNat x1), .int 0] ⟨by decide, by decide⟩ (by decide) (by simp) rfl d1_40 rfl ?_
      intro T33 h33 X33 e33 W33 F33
      have F34 : Arv Z h33 a k .int (8 : Int32) [.int (Int32.ofNat x0), .int (Int32.ofNat x1), .int (Int32.ofNat x2)] (.int 0) := F28.other W33 ne21
      have F35 : Exa Z h33 b1 "[I" := Exa.wr W33 F29
      have Z36 : n0 ≤ h33.size := Nat.le_trans Z30 (Nat.le_of_eq W33.size.symm)
      have N37 := Fr.snoc X33 N31 ge22
      have P38 := P32.wr W33 (Or.inr (Nat.le_of_eq g20.symm))
      refine ow_dup K X33 (pc' := 42) d1_41 rfl rfl ?_
      refine ow_iconst K X33 (pc' := 43) (2 : Int32) d1_42 rfl (by decide) ?_
      refine ow_aloadN K X33 (pc' := 44) a d1_43 rfl rfl ?_
      refine ow_iconst K X33 (pc' := 45) (2 : Int32) d1_44 rfl (by decide) ?_
      refine ow_iaload K X33 (pc' := 46) e33 F34 2 (.int (Int32.ofNat x2)) ⟨by decide, by decide⟩ (by decide) rfl d1_45 rfl ?_
      refine ow_iastore K X33 (pc' := 47) e33 F33 2 [.int (Int32.ofNat x0), .int (Int32.ofNat x1), .int (Int32.ofNat x2)] ⟨by decide, by decide⟩ (by decide) (by simp) rfl d1_46 rfl ?_
      intro T39 h39 X39 e39 W39 F39
      have F40 : Arv Z h39 a k .int (8 : Int32) [.int (Int32.ofNat x0), .int (Int32.ofNat x1), .int (Int32.ofNat x2)] (.int 0) := F34.other W39 ne21
      have F41 : Exa Z h39 b1 "[I" := Exa.wr W39 F35
      have Z42 : n0 ≤ h39.size := Nat.le_trans Z36 (Nat.le_of_eq W39.size.symm)
      have N43 := Fr.snoc X39 N37 ge22
      have P44 := P38.wr W39 (Or.inr (Nat.le_of_eq g20.symm))
      refine ow_retA K X39 (.array .int) rfl rfl d1_47 ?_ (by decide) (by decide)
      rw [e39]
      exact ⟨b1, _, rfl, N43, Z42, ge22, g20, P44, F39, F41⟩
    · refine ow_icmpY K X0 (pc' := 48) d1_23 (XT.ii_ne_t c3) (by decide) (by decide) ?_
      refine ow_iloadN K X0 (pc' := 49) (Int32.ofNat es.length) d1_48 rfl rfl ?_
      refine ow_iconst K X0 (pc' := 50) (4 : Int32) d1_49 rfl (by decide) ?_
      by_cases c4 : (Int32.ofNat es.length) = (4 : Int32)
      · refine ow_icmpN K X0 (pc' := 53) d1_50 rfl (XT.ii_ne_f c4) ?_
        have hl : es.length = 4 := own_eqn (by omega) (by decide) c4
        obtain ⟨x0, x1, x2, x3, rfl⟩ := own_ls4 hl
        have F1 : Arv Z h0 a k .int (8 : Int32) [.int (Int32.ofNat x0), .int (Int32.ofNat x1), .int (Int32.ofNat x2), .int (Int32.ofNat x3)] (.int 0) := F
        refine ow_iconst K X0 (pc' := 54) (4 : Int32) d1_53 rfl (by decide) ?_
        refine ow_newPE K X0 (pc' := 56) e0 (C := "[I") (by decide) (hw _ (List.mem_of_getElem? (i := 0) rfl)) (by decide) 8 (by decide) (by decide) (by decide) (by decide) d1_54 rfl ?_
        intro T45 h45 k45 b1 X45 e45 E45 g45 A45 B45
        have ne46 : a ≠ b1 := ow_ne F1.lt g45
        have ge47 : n0 ≤ b1 := Nat.le_trans Z0 (Nat.le_of_eq g45.symm)
        have F48 : Arv Z h45 a k .int (8 : Int32) [.int (Int32.ofNat x0), .int (Int32.ofNat x1), .int (Int32.ofNat x2), .int (Int32.ofNat x3)] (.int 0) := F1.ext E45
        have Z49 : n0 ≤ h45.size := Nat.le_trans Z0 E45.1
        have P50 := (Keep.refl h0 []).ext E45
        have F51 : Arv Z h45 b1 k45 .int (4 : Int32) [.int 0, .int 0, .int 0, .int 0] (.int 0) := Arv.pad A45 (pad_rep [] (.int 0) 4)
        refine ow_dup K X45 (pc' := 57) d1_56 rfl rfl ?_
        refine ow_iconst K X45 (pc' := 58) (0 : Int32) d1_57 rfl (by decide) ?_
        refine ow_aloadN K X45 (pc' := 59) a d1_58 rfl rfl ?_
        refine ow_iconst K X45 (pc' := 60) (0 : Int32) d1_59 rfl (by decide) ?_
        refine ow_iaload K X45 (pc' := 61) e45 F48 0 (.int (Int32.ofNat x0)) ⟨by decide, by decide⟩ (by decide) rfl d1_60 rfl ?_
        refine ow_iastore K X45 (pc' := 62) e45 F51 0 [.int (Int32.ofNat x0), .int 0, .int 0, .int 0] ⟨by decide, by decide⟩ (by decide) (by simp) rfl d1_61 rfl ?_
        intro T52 h52 X52 e52 W52 F52
        have F53 : Arv Z h52 a k .int (8 : Int32) [.int (Int32.ofNat x0), .int (Int32.ofNat x1), .int (Int32.ofNat x2), .int (Int32.ofNat x3)] (.int 0) := F48.other W52 ne46
        have F54 : Exa Z h52 b1 "[I" := Exa.wr W52 B45
        have Z55 : n0 ≤ h52.size := Nat.le_trans Z49 (Nat.le_of_eq W52.size.symm)
        have N56 := Fr.snoc X52 N0 ge47
        have P57 := P50.wr W52 (Or.inr (Nat.le_of_eq g45.symm))
        refine ow_dup K X52 (pc' := 63) d1_62 rfl rfl ?_
        refine ow_iconst K X52 (pc' := 64) (1 : Int32) d1_63 rfl (by decide) ?_
        refine ow_aloadN K X52 (pc' := 65) a d1_64 rfl rfl ?_
        refine ow_iconst K X52 (pc' := 66) (1 : Int32) d1_65 rfl (by decide) ?_
        refine ow_iaload K X52 (pc' := 67) e52 F53 1 (.int (Int32.ofNat x1)) ⟨by decide, by decide⟩ (by decide) rfl d1_66 rfl ?_
        refine ow_iastore K X52 (pc' := 68) e52 F52 1 [.int (Int32.ofNat x0), .int (Int32.ofNat x1), .int 0, .int 0] ⟨by decide, by decide⟩ (by decide) (by simp) rfl d1_67 rfl ?_
        intro T58 h58 X58 e58 W58 F58
        have F59 : Arv Z h58 a k .int (8 : Int32) [.int (Int32.ofNat x0), .int (Int32.ofNat x1), .int (Int32.ofNat x2), .int (Int32.ofNat x3)] (.int 0) := F53.other W58 ne46
        have F60 : Exa Z h58 b1 "[I" := Exa.wr W58 F54
        have Z61 : n0 ≤ h58.size := Nat.le_trans Z55 (Nat.le_of_eq W58.size.symm)
        have N62 := Fr.snoc X58 N56 ge47
        have P63 := P57.wr W58 (Or.inr (Nat.le_of_eq g45.symm))
        refine ow_dup K X58 (pc' := 69) d1_68 rfl rfl ?_
        refine ow_iconst K X58 (pc' := 70) (2 : Int32) d1_69 rfl (by decide) ?_
        refine ow_aloadN K X58 (pc' := 71) a d1_70 rfl rfl ?_
        refine ow_iconst K X58 (pc' := 72) (2 : Int32) d1_71 rfl (by decide) ?_
        refine ow_iaload K X58 (pc' := 73) e58 F59 2 (.int (Int32.ofNat x2)) ⟨by decide, by decide⟩ (by decide) rfl d1_72 rfl ?_
        refine ow_iastore K X58 (pc' := 74) e58 F58 2 [.int (Int32.ofNat x0), .int (Int32.ofNat x1), .int (Int32.ofNat x2), .int 0] ⟨by decide, by decide⟩ (by decide) (by simp) rfl d1_73 rfl ?_
        intro T64 h64 X64 e64 W64 F64
        have F65 : Arv Z h64 a k .int (8 : Int32) [.int (Int32.ofNat x0), .int (Int32.ofNat x1), .int (Int32.ofNat x2), .int (Int32.ofNat x3)] (.int 0) := F59.other W64 ne46
        have F66 : Exa Z h64 b1 "[I" := Exa.wr W64 F60
        have Z67 : n0 ≤ h64.size := Nat.le_trans Z61 (Nat.le_of_eq W64.size.symm)
        have N68 := Fr.snoc X64 N62 ge47
        have P69 := P63.wr W64 (Or.inr (Nat.le_of_eq g45.symm))
        refine ow_dup K X64 (pc' := 75) d1_74 rfl rfl ?_
        refine ow_iconst K X64 (pc' := 76) (3 : Int32) d1_75 rfl (by decide) ?_
        refine ow_aloadN K X64 (pc' := 77) a d1_76 rfl rfl ?_
        refine ow_iconst K X64 (pc' := 78) (3 : Int32) d1_77 rfl (by decide) ?_
        refine ow_iaload K X64 (pc' := 79) e64 F65 3 (.int (Int32.ofNat x3)) ⟨by decide, by decide⟩ (by decide) rfl d1_78 rfl ?_
        refine ow_iastore K X64 (pc' := 80) e64 F64 3 [.int (Int32.ofNat x0), .int (Int32.ofNat x1), .int (Int32.ofNat x2), .int (Int32.ofNat x3)] ⟨by decide, by decide⟩ (by decide) (by simp) rfl d1_79 rfl ?_
        intro T70 h70 X70 e70 W70 F70
        have F71 : Arv Z h70 a k .int (8 : Int32) [.int (Int32.ofNat x0), .int (Int32.ofNat x1), .int (Int32.ofNat x2), .int (Int32.ofNat x3)] (.int 0) := F65.other W70 ne46
        have F72 : Exa Z h70 b1 "[I" := Exa.wr W70 F66
        have Z73 : n0 ≤ h70.size := Nat.le_trans Z67 (Nat.le_of_eq W70.size.symm)
        have N74 := Fr.snoc X70 N68 ge47
        have P75 := P69.wr W70 (Or.inr (Nat.le_of_eq g45.symm))
        refine ow_retA K X70 (.array .int) rfl rfl d1_80 ?_ (by decide) (by decide)
        rw [e70]
        exact ⟨b1, _, rfl, N74, Z73, ge47, g45, P75, F70, F72⟩
      · refine ow_icmpY K X0 (pc' := 81) d1_50 (XT.ii_ne_t c4) (by decide) (by decide) ?_
        refine ow_iloadN K X0 (pc' := 82) (Int32.ofNat es.length) d1_81 rfl rfl ?_
        refine ow_iconst K X0 (pc' := 83) (5 : Int32) d1_82 rfl (by decide) ?_
        by_cases c5 : (Int32.ofNat es.length) = (5 : Int32)
        · refine ow_icmpN K X0 (pc' := 86) d1_83 rfl (XT.ii_ne_f c5) ?_
          have hl : es.length = 5 := own_eqn (by omega) (by decide) c5
          obtain ⟨x0, x1, x2, x3, x4, rfl⟩ := own_ls5 hl
          have F1 : Arv Z h0 a k .int (8 : Int32) [.int (Int32.ofNat x0), .int (Int32.ofNat x1), .int (Int32.ofNat x2), .int (Int32.ofNat x3), .int (Int32.ofNat x4)] (.int 0) := F
          refine ow_iconst K X0 (pc' := 87) (5 : Int32) d1_86 rfl (by decide) ?_
          refine ow_newPE K X0 (pc' := 89) e0 (C := "[I") (by decide) (hw _ (List.mem_of_getElem? (i := 0) rfl)) (by decide) 8 (by decide) (by decide) (by decide) (by decide) d1_87 rfl ?_
          intro T76 h76 k76 b1 X76 e76 E76 g76 A76 B76
          have ne77 : a ≠ b1 := ow_ne F1.lt g76
          have ge78 : n0 ≤ b1 := Nat.le_trans Z0 (Nat.le_of_eq g76.symm)
          have F79 : Arv Z h76 a k .int (8 : Int32) [.int (Int32.ofNat x0), .int (Int32.ofNat x1), .int (Int32.ofNat x2), .int (Int32.ofNat x3), .int (Int32.ofNat x4)] (.int 0) := F1.ext E76
          have Z80 : n0 ≤ h76.size := Nat.le_trans Z0 E76.1
          have P81 := (Keep.refl h0 []).ext E76
          have F82 : Arv Z h76 b1 k76 .int (5 : Int32) [.int 0, .int 0, .int 0, .int 0, .int 0] (.int 0) := Arv.pad A76 (pad_rep [] (.int 0) 5)
          refine ow_dup K X76 (pc' := 90) d1_89 rfl rfl ?_
          refine ow_iconst K X76 (pc' := 91) (0 : Int32) d1_90 rfl (by decide) ?_
          refine ow_aloadN K X76 (pc' := 92) a d1_91 rfl rfl ?_
          refine ow_iconst K X76 (pc' := 93) (0 : Int32) d1_92 rfl (by decide) ?_
          refine ow_iaload K X76 (pc' := 94) e76 F79 0 (.int (Int32.ofNat x0)) ⟨by decide, by decide⟩ (by decide) rfl d1_93 rfl ?_
          refine ow_iastore K X76 (pc' := 95) e76 F82 0 [.int (Int32.ofNat x0), .int 0, .int 0, .int 0, .int 0] ⟨by decide, by decide⟩ (by decide) (by simp) rfl d1_94 rfl ?_
          intro T83 h83 X83 e83 W83 F83
          have F84 : Arv Z h83 a k .int (8 : Int32) [.int (Int32.ofNat x0), .int (Int32.ofNat x1), .int (Int32.ofNat x2), .int (Int32.ofNat x3), .int (Int32.ofNat x4)] (.int 0) := F79.other W83 ne77
          have F85 : Exa Z h83 b1 "[I" := Exa.wr W83 B76
          have Z86 : n0 ≤ h83.size := Nat.le_trans Z80 (Nat.le_of_eq W83.size.symm)
          have N87 := Fr.snoc X83 N0 ge78
          have P88 := P81.wr W83 (Or.inr (Nat.le_of_eq g76.symm))
          refine ow_dup K X83 (pc' := 96) d1_95 rfl rfl ?_
          refine ow_iconst K X83 (pc' := 97) (1 : Int32) d1_96 rfl (by decide) ?_
          refine ow_aloadN K X83 (pc' := 98) a d1_97 rfl rfl ?_
          refine ow_iconst K X83 (pc' := 99) (1 : Int32) d1_98 rfl (by decide) ?_
          refine ow_iaload K X83 (pc' := 100) e83 F84 1 (.int (Int32.ofNat x1)) ⟨by decide, by decide⟩ (by decide) rfl d1_99 rfl ?_
          refine ow_iastore K X83 (pc' := 101) e83 F83 1 [.int (Int32.ofNat x0), .int (Int32.ofNat x1), .int 0, .int 0, .int 0] ⟨by decide, by decide⟩ (by decide) (by simp) rfl d1_100 rfl ?_
          intro T89 h89 X89 e89 W89 F89
          have F90 : Arv Z h89 a k .int (8 : Int32) [.int (Int32.ofNat x0), .int (Int32.ofNat x1), .int (Int32.ofNat x2), .int (Int32.ofNat x3), .int (Int32.ofNat x4)] (.int 0) := F84.other W89 ne77
          have F91 : Exa Z h89 b1 "[I" := Exa.wr W89 F85
          have Z92 : n0 ≤ h89.size := Nat.le_trans Z86 (Nat.le_of_eq W89.size.symm)
          have N93 := Fr.snoc X89 N87 ge78
          have P94 := P88.wr W89 (Or.inr (Nat.le_of_eq g76.symm))
          refine ow_dup K X89 (pc' := 102) d1_101 rfl rfl ?_
          refine ow_iconst K X89 (pc' := 103) (2 : Int32) d1_102 rfl (by decide) ?_
          refine ow_aloadN K X89 (pc' := 104) a d1_103 rfl rfl ?_
          refine ow_iconst K X89 (pc' := 105) (2 : Int32) d1_104 rfl (by decide) ?_
          refine ow_iaload K X89 (pc' := 106) e89 F90 2 (.int (Int32.ofNat x2)) ⟨by decide, by decide⟩ (by decide) rfl d1_105 rfl ?_
          refine ow_iastore K X89 (pc' := 107) e89 F89 2 [.int (Int32.ofNat x0), .int (Int32.ofNat x1), .int (Int32.ofNat x2), .int 0, .int 0] ⟨by decide, by decide⟩ (by decide) (by simp) rfl d1_106 rfl ?_
          intro T95 h95 X95 e95 W95 F95
          have F96 : Arv Z h95 a k .int (8 : Int32) [.int (Int32.ofNat x0), .int (Int32.ofNat x1), .int (Int32.ofNat x2), .int (Int32.ofNat x3), .int (Int32.ofNat x4)] (.int 0) := F90.other W95 ne77
          have F97 : Exa Z h95 b1 "[I" := Exa.wr W95 F91
          have Z98 : n0 ≤ h95.size := Nat.le_trans Z92 (Nat.le_of_eq W95.size.symm)
          have N99 := Fr.snoc X95 N93 ge78
          have P100 := P94.wr W95 (Or.inr (Nat.le_of_eq g76.symm))
          refine ow_dup K X95 (pc' := 108) d1_107 rfl rfl ?_
          refine ow_iconst K X95 (pc' := 109) (3 : Int32) d1_108 rfl (by decide) ?_
          refine ow_aloadN K X95 (pc' := 110) a d1_109 rfl rfl ?_
          refine ow_iconst K X95 (pc' := 111) (3 : Int32) d1_110 rfl (by decide) ?_
          refine ow_iaload K X95 (pc' := 112) e95 F96 3 (.int (Int32.ofNat x3)) ⟨by decide, by decide⟩ (by decide) rfl d1_111 rfl ?_
          refine ow_iastore K X95 (pc' := 113) e95 F95 3 [.int (Int32.ofNat x0), .int (Int32.ofNat x1), .int (Int32.ofNat x2), .int (Int32.ofNat x3), .int 0] ⟨by decide, by decide⟩ (by decide) (by simp) rfl d1_112 rfl ?_
          intro T101 h101 X101 e101 W101 F101
          have F102 : Arv Z h101 a k .int (8 : Int32) [.int (Int32.ofNat x0), .int (Int32.ofNat x1), .int (Int32.ofNat x2), .int (Int32.ofNat x3), .int (Int32.ofNat x4)] (.int 0) := F96.other W101 ne77
          have F103 : Exa Z h101 b1 "[I" := Exa.wr W101 F97
          have Z104 : n0 ≤ h101.size := Nat.le_trans Z98 (Nat.le_of_eq W101.size.symm)
          have N105 := Fr.snoc X101 N99 ge78
          have P106 := P100.wr W101 (Or.inr (Nat.le_of_eq g76.symm))
          refine ow_dup K X101 (pc' := 114) d1_113 rfl rfl ?_
          refine ow_iconst K X101 (pc' := 115) (4 : Int32) d1_114 rfl (by decide) ?_
          refine ow_aloadN K X101 (pc' := 116) a d1_115 rfl rfl ?_
          refine ow_iconst K X101 (pc' := 117) (4 : Int32) d1_116 rfl (by decide) ?_
          refine ow_iaload K X101 (pc' := 118) e101 F102 4 (.int (Int32.ofNat x4)) ⟨by decide, by decide⟩ (by decide) rfl d1_117 rfl ?_
          refine ow_iastore K X101 (pc' := 119) e101 F101 4 [.int (Int32.ofNat x0), .int (Int32.ofNat x1), .int (Int32.ofNat x2), .int (Int32.ofNat x3), .int (Int32.ofNat x4)] ⟨by decide, by decide⟩ (by decide) (by simp) rfl d1_118 rfl ?_
          intro T107 h107 X107 e107 W107 F107
          have F108 : Arv Z h107 a k .int (8 : Int32) [.int (Int32.ofNat x0), .int (Int32.ofNat x1), .int (Int32.ofNat x2), .int (Int32.ofNat x3), .int (Int32.ofNat x4)] (.int 0) := F102.other W107 ne77
          have F109 : Exa Z h107 b1 "[I" := Exa.wr W107 F103
          have Z110 : n0 ≤ h107.size := Nat.le_trans Z104 (Nat.le_of_eq W107.size.symm)
          have N111 := Fr.snoc X107 N105 ge78
          have P112 := P106.wr W107 (Or.inr (Nat.le_of_eq g76.symm))
          refine ow_retA K X107 (.array .int) rfl rfl d1_119 ?_ (by decide) (by decide)
          rw [e107]
          exact ⟨b1, _, rfl, N111, Z110, ge78, g76, P112, F107, F109⟩
        · refine ow_icmpY K X0 (pc' := 120) d1_83 (XT.ii_ne_t c5) (by decide) (by decide) ?_
          refine ow_iloadN K X0 (pc' := 121) (Int32.ofNat es.length) d1_120 rfl rfl ?_
          refine ow_bipush K X0 (pc' := 123) (6 : Int32) d1_121 rfl (by decide) ?_
          by_cases c6 : (Int32.ofNat es.length) = (6 : Int32)
          · refine ow_icmpN K X0 (pc' := 126) d1_123 rfl (XT.ii_ne_f c6) ?_
            have hl : es.length = 6 := own_eqn (by omega) (by decide) c6
            obtain ⟨x0, x1, x2, x3, x4, x5, rfl⟩ := own_ls6 hl
            have F1 : Arv Z h0 a k .int (8 : Int32) [.int (Int32.ofNat x0), .int (Int32.ofNat x1), .int (Int32.ofNat x2), .int (Int32.ofNat x3), .int (Int32.ofNat x4), .int (Int32.ofNat x5)] (.int 0) := F
            refine ow_bipush K X0 (pc' := 128) (6 : Int32) d1_126 rfl (by decide) ?_
            refine ow_newPE K X0 (pc' := 130) e0 (C := "[I") (by decide) (hw _ (List.mem_of_getElem? (i := 0) rfl)) (by decide) 8 (by decide) (by decide) (by decide) (by decide) d1_128 rfl ?_
            intro T113 h113 k113 b1 X113 e113 E113 g113 A113 B113
            have ne114 : a ≠ b1 := ow_ne F1.lt g113
            have ge115 : n0 ≤ b1 := Nat.le_trans Z0 (Nat.le_of_eq g113.symm)
            have F116 : Arv Z h113 a k .int (8 : Int32) [.int (Int32.ofNat x0), .int (Int32.ofNat x1), .int (Int32.ofNat x2), .int (Int32.ofNat x3), .int (Int32.ofNat x4), .int (Int32.ofNat x5)] (.int 0) := F1.ext E113
            have Z117 : n0 ≤ h113.size := Nat.le_trans Z0 E113.1
            have P118 := (Keep.refl h0 []).ext E113
            have F119 : Arv Z h113 b1 k113 .int (6 : Int32) [.int 0, .int 0, .int 0, .int 0, .int 0, .int 0] (.int 0) := Arv.pad A113 (pad_rep [] (.int 0) 6)
            refine ow_dup K X113 (pc' := 131) d1_130 rfl rfl ?_
            refine ow_iconst K X113 (pc' := 132) (0 : Int32) d1_131 rfl (by decide) ?_
            refine ow_aloadN K X113 (pc' := 133) a d1_132 rfl rfl ?_
            refine ow_iconst K X113 (pc' := 134) (0 : Int32) d1_133 rfl (by decide) ?_
            refine ow_iaload K X113 (pc' := 135) e113 F116 0 (.int (Int32.ofNat x0)) ⟨by decide, by decide⟩ (by decide) rfl d1_134 rfl ?_
            refine ow_iastore K X113 (pc' := 136) e113 F119 0 [.int (Int32.ofNat x0), .int 0, .int 0, .int 0, .int 0, .int 0] ⟨by decide, by decide⟩ (by decide) (by simp) rfl d1_135 rfl ?_
            intro T120 h120 X120 e120 W120 F120
            have F121 : Arv Z h120 a k .int (8 : Int32) [.int (Int32.ofNat x0), .int (Int32.ofNat x1), .int (Int32.ofNat x2), .int (Int32.ofNat x3), .int (Int32.ofNat x4), .int (Int32.ofNat x5)] (.int 0) := F116.other W120 ne114
            have F122 : Exa Z h120 b1 "[I" := Exa.wr W120 B113
            have Z123 : n0 ≤ h120.size := Nat.le_trans Z117 (Nat.le_of_eq W120.size.symm)
            have N124 := Fr.snoc X120 N0 ge115
            have P125 := P118.wr W120 (Or.inr (Nat.le_of_eq g113.symm))
            refine ow_dup K X120 (pc' := 137) d1_136 rfl rfl ?_
            refine ow_iconst K X120 (pc' := 138) (1 : Int32) d1_137 rfl (by decide) ?_
            refine ow_aloadN K X120 (pc' := 139) a d1_138 rfl rfl ?_
            refine ow_iconst K X120 (pc' := 140) (1 : Int32) d1_139 rfl (by decide) ?_
            refine ow_iaload K X120 (pc' := 141) e120 F121 1 (.int (Int32.ofNat x1)) ⟨by decide, by decide⟩ (by decide) rfl d1_140 rfl ?_
            refine ow_iastore K X120 (pc' := 142) e120 F120 1 [.int (Int32.ofNat x0), .int (Int32.ofNat x1), .int 0, .int 0, .int 0, .int 0] ⟨by decide, by decide⟩ (by decide) (by simp) rfl d1_141 rfl ?_
            intro T126 h126 X126 e126 W126 F126
            have F127 : Arv Z h126 a k .int (8 : Int32) [.int (Int32.ofNat x0), .int (Int32.ofNat x1), .int (Int32.ofNat x2), .int (Int32.ofNat x3), .int (Int32.ofNat x4), .int (Int32.ofNat x5)] (.int 0) := F121.other W126 ne114
            have F128 : Exa Z h126 b1 "[I" := Exa.wr W126 F122
            have Z129 : n0 ≤ h126.size := Nat.le_trans Z123 (Nat.le_of_eq W126.size.symm)
            have N130 := Fr.snoc X126 N124 ge115
            have P131 := P125.wr W126 (Or.inr (Nat.le_of_eq g113.symm))
            refine ow_dup K X126 (pc' := 143) d1_142 rfl rfl ?_
            refine ow_iconst K X126 (pc' := 144) (2 : Int32) d1_143 rfl (by decide) ?_
            refine ow_aloadN K X126 (pc' := 145) a d1_144 rfl rfl ?_
            refine ow_iconst K X126 (pc' := 146) (2 : Int32) d1_145 rfl (by decide) ?_
            refine ow_iaload K X126 (pc' := 147) e126 F127 2 (.int (Int32.ofNat x2)) ⟨by decide, by decide⟩ (by decide) rfl d1_146 rfl ?_
            refine ow_iastore K X126 (pc' := 148) e126 F126 2 [.int (Int32.ofNat x0), .int (Int32.ofNat x1), .int (Int32.ofNat x2), .int 0, .int 0, .int 0] ⟨by decide, by decide⟩ (by decide) (by simp) rfl d1_147 rfl ?_
            intro T132 h132 X132 e132 W132 F132
            have F133 : Arv Z h132 a k .int (8 : Int32) [.int (Int32.ofNat x0), .int (Int32.ofNat x1), .int (Int32.ofNat x2), .int (Int32.ofNat x3), .int (Int32.ofNat x4), .int (Int32.ofNat x5)] (.int 0) := F127.other W132 ne114
            have F134 : Exa Z h132 b1 "[I" := Exa.wr W132 F128
            have Z135 : n0 ≤ h132.size := Nat.le_trans Z129 (Nat.le_of_eq W132.size.symm)
            have N136 := Fr.snoc X132 N130 ge115
            have P137 := P131.wr W132 (Or.inr (Nat.le_of_eq g113.symm))
            refine ow_dup K X132 (pc' := 149) d1_148 rfl rfl ?_
            refine ow_iconst K X132 (pc' := 150) (3 : Int32) d1_149 rfl (by decide) ?_
            refine ow_aloadN K X132 (pc' := 151) a d1_150 rfl rfl ?_
            refine ow_iconst K X132 (pc' := 152) (3 : Int32) d1_151 rfl (by decide) ?_
            refine ow_iaload K X132 (pc' := 153) e132 F133 3 (.int (Int32.ofNat x3)) ⟨by decide, by decide⟩ (by decide) rfl d1_152 rfl ?_
            refine ow_iastore K X132 (pc' := 154) e132 F132 3 [.int (Int32.ofNat x0), .int (Int32.ofNat x1), .int (Int32.ofNat x2), .int (Int32.ofNat x3), .int 0, .int 0] ⟨by decide, by decide⟩ (by decide) (by simp) rfl d1_153 rfl ?_
            intro T138 h138 X138 e138 W138 F138
            have F139 : Arv Z h138 a k .int (8 : Int32) [.int (Int32.ofNat x0), .int (Int32.ofNat x1), .int (Int32.ofNat x2), .int (Int32.ofNat x3), .int (Int32.ofNat x4), .int (Int32.ofNat x5)] (.int 0) := F133.other W138 ne114
            have F140 : Exa Z h138 b1 "[I" := Exa.wr W138 F134
            have Z141 : n0 ≤ h138.size := Nat.le_trans Z135 (Nat.le_of_eq W138.size.symm)
            have N142 := Fr.snoc X138 N136 ge115
            have P143 := P137.wr W138 (Or.inr (Nat.le_of_eq g113.symm))
            refine ow_dup K X138 (pc' := 155) d1_154 rfl rfl ?_
            refine ow_iconst K X138 (pc' := 156) (4 : Int32) d1_155 rfl (by decide) ?_
            refine ow_aloadN K X138 (pc' := 157) a d1_156 rfl rfl ?_
            refine ow_iconst K X138 (pc' := 158) (4 : Int32) d1_157 rfl (by decide) ?_
            refine ow_iaload K X138 (pc' := 159) e138 F139 4 (.int (Int32.ofNat x4)) ⟨by decide, by decide⟩ (by decide) rfl d1_158 rfl ?_
            refine ow_iastore K X138 (pc' := 160) e138 F138 4 [.int (Int32.ofNat x0), .int (Int32.ofNat x1), .int (Int32.ofNat x2), .int (Int32.ofNat x3), .int (Int32.ofNat x4), .int 0] ⟨by decide, by decide⟩ (by decide) (by simp) rfl d1_159 rfl ?_
            intro T144 h144 X144 e144 W144 F144
            have F145 : Arv Z h144 a k .int (8 : Int32) [.int (Int32.ofNat x0), .int (Int32.ofNat x1), .int (Int32.ofNat x2), .int (Int32.ofNat x3), .int (Int32.ofNat x4), .int (Int32.ofNat x5)] (.int 0) := F139.other W144 ne114
            have F146 : Exa Z h144 b1 "[I" := Exa.wr W144 F140
            have Z147 : n0 ≤ h144.size := Nat.le_trans Z141 (Nat.le_of_eq W144.size.symm)
            have N148 := Fr.snoc X144 N142 ge115
            have P149 := P143.wr W144 (Or.inr (Nat.le_of_eq g113.symm))
            refine ow_dup K X144 (pc' := 161) d1_160 rfl rfl ?_
            refine ow_iconst K X144 (pc' := 162) (5 : Int32) d1_161 rfl (by decide) ?_
            refine ow_aloadN K X144 (pc' := 163) a d1_162 rfl rfl ?_
            refine ow_iconst K X144 (pc' := 164) (5 : Int32) d1_163 rfl (by decide) ?_
            refine ow_iaload K X144 (pc' := 165) e144 F145 5 (.int (Int32.ofNat x5)) ⟨by decide, by decide⟩ (by decide) rfl d1_164 rfl ?_
            refine ow_iastore K X144 (pc' := 166) e144 F144 5 [.int (Int32.ofNat x0), .int (Int32.ofNat x1), .int (Int32.ofNat x2), .int (Int32.ofNat x3), .int (Int32.ofNat x4), .int (Int32.ofNat x5)] ⟨by decide, by decide⟩ (by decide) (by simp) rfl d1_165 rfl ?_
            intro T150 h150 X150 e150 W150 F150
            have F151 : Arv Z h150 a k .int (8 : Int32) [.int (Int32.ofNat x0), .int (Int32.ofNat x1), .int (Int32.ofNat x2), .int (Int32.ofNat x3), .int (Int32.ofNat x4), .int (Int32.ofNat x5)] (.int 0) := F145.other W150 ne114
            have F152 : Exa Z h150 b1 "[I" := Exa.wr W150 F146
            have Z153 : n0 ≤ h150.size := Nat.le_trans Z147 (Nat.le_of_eq W150.size.symm)
            have N154 := Fr.snoc X150 N148 ge115
            have P155 := P149.wr W150 (Or.inr (Nat.le_of_eq g113.symm))
            refine ow_retA K X150 (.array .int) rfl rfl d1_166 ?_ (by decide) (by decide)
            rw [e150]
            exact ⟨b1, _, rfl, N154, Z153, ge115, g113, P155, F150, F152⟩
          · refine ow_icmpY K X0 (pc' := 167) d1_123 (XT.ii_ne_t c6) (by decide) (by decide) ?_
            refine ow_iloadN K X0 (pc' := 168) (Int32.ofNat es.length) d1_167 rfl rfl ?_
            refine ow_bipush K X0 (pc' := 170) (7 : Int32) d1_168 rfl (by decide) ?_
            by_cases c7 : (Int32.ofNat es.length) = (7 : Int32)
            · refine ow_icmpN K X0 (pc' := 173) d1_170 rfl (XT.ii_ne_f c7) ?_
              have hl : es.length = 7 := own_eqn (by omega) (by decide) c7
              obtain ⟨x0, x1, x2, x3, x4, x5, x6, rfl⟩ := own_ls7 hl
              have F1 : Arv Z h0 a k .int (8 : Int32) [.int (Int32.ofNat x0), .int (Int32.ofNat x1), .int (Int32.ofNat x2), .int (Int32.ofNat x3), .int (Int32.ofNat x4), .int (Int32.ofNat x5), .int (Int32.ofNat x6)] (.int 0) := F
              refine ow_bipush K X0 (pc' := 175) (7 : Int32) d1_173 rfl (by decide) ?_
              refine ow_newPE K X0 (pc' := 177) e0 (C := "[I") (by decide) (hw _ (List.mem_of_getElem? (i := 0) rfl)) (by decide) 8 (by decide) (by decide) (by decide) (by decide) d1_175 rfl ?_
              intro T156 h156 k156 b1 X156 e156 E156 g156 A156 B156
              have ne157 : a ≠ b1 := ow_ne F1.lt g156
              have ge158 : n0 ≤ b1 := Nat.le_trans Z0 (Nat.le_of_eq g156.symm)
              have F159 : Arv Z h156 a k .int (8 : Int32) [.int (Int32.ofNat x0), .int (Int32.ofNat x1), .int (Int32.ofNat x2), .int (Int32.ofNat x3), .int (Int32.ofNat x4), .int (Int32.ofNat x5), .int (Int32.ofNat x6)] (.int 0) := F1.ext E156
              have Z160 : n0 ≤ h156.size := Nat.le_trans Z0 E156.1
              have P161 := (Keep.refl h0 []).ext E156
              have F162 : Arv Z h156 b1 k156 .int (7 : Int32) [.int 0, .int 0, .int 0, .int 0, .int 0, .int 0, .int 0] (.int 0) := Arv.pad A156 (pad_rep [] (.int 0) 7)
              refine ow_dup K X156 (pc' := 178) d1_177 rfl rfl ?_
              refine ow_iconst K X156 (pc' := 179) (0 : Int32) d1_178 rfl (by decide) ?_
              refine ow_aloadN K X156 (pc' := 180) a d1_179 rfl rfl ?_
              refine ow_iconst K X156 (pc' := 181) (0 : Int32) d1_180 rfl (by decide) ?_
              refine ow_iaload K X156 (pc' := 182) e156 F159 0 (.int (Int32.ofNat x0)) ⟨by decide, by decide⟩ (by decide) rfl d1_181 rfl ?_
              refine ow_iastore K X156 (pc' := 183) e156 F162 0 [.int (Int32.ofNat x0), .int 0, .int 0, .int 0, .int 0, .int 0, .int 0] ⟨by decide, by decide⟩ (by decide) (by simp) rfl d1_182 rfl ?_
              intro T163 h163 X163 e163 W163 F163
              have F164 : Arv Z h163 a k .int (8 : Int32) [.int (Int32.ofNat x0), .int (Int32.ofNat x1), .int (Int32.ofNat x2), .int (Int32.ofNat x3), .int (Int32.ofNat x4), .int (Int32.ofNat x5), .int (Int32.ofNat x6)] (.int 0) := F159.other W163 ne157
              have F165 : Exa Z h163 b1 "[I" := Exa.wr W163 B156
              have Z166 : n0 ≤ h163.size := Nat.le_trans Z160 (Nat.le_of_eq W163.size.symm)
              have N167 := Fr.snoc X163 N0 ge158
              have P168 := P161.wr W163 (Or.inr (Nat.le_of_eq g156.symm))
              refine ow_dup K X163 (pc' := 184) d1_183 rfl rfl ?_
              refine ow_iconst K X163 (pc' := 185) (1 : Int32) d1_184 rfl (by decide) ?_
              refine ow_aloadN K X163 (pc' := 186) a d1_185 rfl rfl ?_
              refine ow_iconst K X163 (pc' := 187) (1 : Int32) d1_186 rfl (by decide) ?_
              refine ow_iaload K X163 (pc' := 188) e163 F164 1 (.int (Int32.ofNat x1)) ⟨by decide, by decide⟩ (by decide) rfl d1_187 rfl ?_
              refine ow_iastore K X163 (pc' := 189) e163 F163 1 [.int (Int32.ofNat x0), .int (Int32.ofNat x1), .int 0, .int 0, .int 0, .int 0, .int 0] ⟨by decide, by decide⟩ (by decide) (by simp) rfl d1_188 rfl ?_
              intro T169 h169 X169 e169 W169 F169
              have F170 : Arv Z h169 a k .int (8 : Int32) [.int (Int32.ofNat x0), .int (Int32.ofNat x1), .int (Int32.ofNat x2), .int (Int32.ofNat x3), .int (Int32.ofNat x4), .int (Int32.ofNat x5), .int (Int32.ofNat x6)] (.int 0) := F164.other W169 ne157
              have F171 : Exa Z h169 b1 "[I" := Exa.wr W169 F165
              have Z172 : n0 ≤ h169.size := Nat.le_trans Z166 (Nat.le_of_eq W169.size.symm)
              have N173 := Fr.snoc X169 N167 ge158
              have P174 := P168.wr W169 (Or.inr (Nat.le_of_eq g156.symm))
              refine ow_dup K X169 (pc' := 190) d1_189 rfl rfl ?_
              refine ow_iconst K X169 (pc' := 191) (2 : Int32) d1_190 rfl (by decide) ?_
              refine ow_aloadN K X169 (pc' := 192) a d1_191 rfl rfl ?_
              refine ow_iconst K X169 (pc' := 193) (2 : Int32) d1_192 rfl (by decide) ?_
              refine ow_iaload K X169 (pc' := 194) e169 F170 2 (.int (Int32.ofNat x2)) ⟨by decide, by decide⟩ (by decide) rfl d1_193 rfl ?_
              refine ow_iastore K X169 (pc' := 195) e169 F169 2 [.int (Int32.ofNat x0), .int (Int32.ofNat x1), .int (Int32.ofNat x2), .int 0, .int 0, .int 0, .int 0] ⟨by decide, by decide⟩ (by decide) (by simp) rfl d1_194 rfl ?_
              intro T175 h175 X175 e175 W175 F175
              have F176 : Arv Z h175 a k .int (8 : Int32) [.int (Int32.ofNat x0), .int (Int32.ofNat x1), .int (Int32.ofNat x2), .int (Int32.ofNat x3), .int (Int32.ofNat x4), .int (Int32.ofNat x5), .int (Int32.ofNat x6)] (.int 0) := F170.other W175 ne157
              have F177 : Exa Z h175 b1 "[I" := Exa.wr W175 F171
              have Z178 : n0 ≤ h175.size := Nat.le_trans Z172 (Nat.le_of_eq W175.size.symm)
              have N179 := Fr.snoc X175 N173 ge158
              have P180 := P174.wr W175 (Or.inr (Nat.le_of_eq g156.symm))
              refine ow_dup K X175 (pc' := 196) d1_195 rfl rfl ?_
              refine ow_iconst K X175 (pc' := 197) (3 : Int32) d1_196 rfl (by decide) ?_
              refine ow_aloadN K X175 (pc' := 198) a d1_197 rfl rfl ?_
              refine ow_iconst K X175 (pc' := 199) (3 : Int32) d1_198 rfl (by decide) ?_
              refine ow_iaload K X175 (pc' := 200) e175 F176 3 (.int (Int32.ofNat x3)) ⟨by decide, by decide⟩ (by decide) rfl d1_199 rfl ?_
              refine ow_iastore K X175 (pc' := 201) e175 F175 3 [.int (Int32.ofNat x0), .int (Int32.ofNat x1), .int (Int32.ofNat x2), .int (Int32.ofNat x3), .int 0, .int 0, .int 0] ⟨by decide, by decide⟩ (by decide) (by simp) rfl d1_200 rfl ?_
              intro T181 h181 X181 e181 W181 F181
              have F182 : Arv Z h181 a k .int (8 : Int32) [.int (Int32.ofNat x0), .int (Int32.ofNat x1), .int (Int32.ofNat x2), .int (Int32.ofNat x3), .int (Int32.ofNat x4), .int (Int32.ofNat x5), .int (Int32.ofNat x6)] (.int 0) := F176.other W181 ne157
              have F183 : Exa Z h181 b1 "[I" := Exa.wr W181 F177
              have Z184 : n0 ≤ h181.size := Nat.le_trans Z178 (Nat.le_of_eq W181.size.symm)
              have N185 := Fr.snoc X181 N179 ge158
              have P186 := P180.wr W181 (Or.inr (Nat.le_of_eq g156.symm))
              refine ow_dup K X181 (pc' := 202) d1_201 rfl rfl ?_
              refine ow_iconst K X181 (pc' := 203) (4 : Int32) d1_202 rfl (by decide) ?_
              refine ow_aloadN K X181 (pc' := 204) a d1_203 rfl rfl ?_
              refine ow_iconst K X181 (pc' := 205) (4 : Int32) d1_204 rfl (by decide) ?_
              refine ow_iaload K X181 (pc' := 206) e181 F182 4 (.int (Int32.ofNat x4)) ⟨by decide, by decide⟩ (by decide) rfl d1_205 rfl ?_
              refine ow_iastore K X181 (pc' := 207) e181 F181 4 [.int (Int32.ofNat x0), .int (Int32.ofNat x1), .int (Int32.ofNat x2), .int (Int32.ofNat x3), .int (Int32.ofNat x4), .int 0, .int 0] ⟨by decide, by decide⟩ (by decide) (by simp) rfl d1_206 rfl ?_
              intro T187 h187 X187 e187 W187 F187
              have F188 : Arv Z h187 a k .int (8 : Int32) [.int (Int32.ofNat x0), .int (Int32.ofNat x1), .int (Int32.ofNat x2), .int (Int32.ofNat x3), .int (Int32.ofNat x4), .int (Int32.ofNat x5), .int (Int32.ofNat x6)] (.int 0) := F182.other W187 ne157
              have F189 : Exa Z h187 b1 "[I" := Exa.wr W187 F183
              have Z190 : n0 ≤ h187.size := Nat.le_trans Z184 (Nat.le_of_eq W187.size.symm)
              have N191 := Fr.snoc X187 N185 ge158
              have P192 := P186.wr W187 (Or.inr (Nat.le_of_eq g156.symm))
              refine ow_dup K X187 (pc' := 208) d1_207 rfl rfl ?_
              refine ow_iconst K X187 (pc' := 209) (5 : Int32) d1_208 rfl (by decide) ?_
              refine ow_aloadN K X187 (pc' := 210) a d1_209 rfl rfl ?_
              refine ow_iconst K X187 (pc' := 211) (5 : Int32) d1_210 rfl (by decide) ?_
              refine ow_iaload K X187 (pc' := 212) e187 F188 5 (.int (Int32.ofNat x5)) ⟨by decide, by decide⟩ (by decide) rfl d1_211 rfl ?_
              refine ow_iastore K X187 (pc' := 213) e187 F187 5 [.int (Int32.ofNat x0), .int (Int32.ofNat x1), .int (Int32.ofNat x2), .int (Int32.ofNat x3), .int (Int32.ofNat x4), .int (Int32.ofNat x5), .int 0] ⟨by decide, by decide⟩ (by decide) (by simp) rfl d1_212 rfl ?_
              intro T193 h193 X193 e193 W193 F193
              have F194 : Arv Z h193 a k .int (8 : Int32) [.int (Int32.ofNat x0), .int (Int32.ofNat x1), .int (Int32.ofNat x2), .int (Int32.ofNat x3), .int (Int32.ofNat x4), .int (Int32.ofNat x5), .int (Int32.ofNat x6)] (.int 0) := F188.other W193 ne157
              have F195 : Exa Z h193 b1 "[I" := Exa.wr W193 F189
              have Z196 : n0 ≤ h193.size := Nat.le_trans Z190 (Nat.le_of_eq W193.size.symm)
              have N197 := Fr.snoc X193 N191 ge158
              have P198 := P192.wr W193 (Or.inr (Nat.le_of_eq g156.symm))
              refine ow_dup K X193 (pc' := 214) d1_213 rfl rfl ?_
              refine ow_bipush K X193 (pc' := 216) (6 : Int32) d1_214 rfl (by decide) ?_
              refine ow_aloadN K X193 (pc' := 217) a d1_216 rfl rfl ?_
              refine ow_bipush K X193 (pc' := 219) (6 : Int32) d1_217 rfl (by decide) ?_
              refine ow_iaload K X193 (pc' := 220) e193 F194 6 (.int (Int32.ofNat x6)) ⟨by decide, by decide⟩ (by decide) rfl d1_219 rfl ?_
              refine ow_iastore K X193 (pc' := 221) e193 F193 6 [.int (Int32.ofNat x0), .int (Int32.ofNat x1), .int (Int32.ofNat x2), .int (Int32.ofNat x3), .int (Int32.ofNat x4), .int (Int32.ofNat x5), .int (Int32.ofNat x6)] ⟨by decide, by decide⟩ (by decide) (by simp) rfl d1_220 rfl ?_
              intro T199 h199 X199 e199 W199 F199
              have F200 : Arv Z h199 a k .int (8 : Int32) [.int (Int32.ofNat x0), .int (Int32.ofNat x1), .int (Int32.ofNat x2), .int (Int32.ofNat x3), .int (Int32.ofNat x4), .int (Int32.ofNat x5), .int (Int32.ofNat x6)] (.int 0) := F194.other W199 ne157
              have F201 : Exa Z h199 b1 "[I" := Exa.wr W199 F195
              have Z202 : n0 ≤ h199.size := Nat.le_trans Z196 (Nat.le_of_eq W199.size.symm)
              have N203 := Fr.snoc X199 N197 ge158
              have P204 := P198.wr W199 (Or.inr (Nat.le_of_eq g156.symm))
              refine ow_retA K X199 (.array .int) rfl rfl d1_221 ?_ (by decide) (by decide)
              rw [e199]
              exact ⟨b1, _, rfl, N203, Z202, ge158, g156, P204, F199, F201⟩
            · refine ow_icmpY K X0 (pc' := 222) d1_170 (XT.ii_ne_t c7) (by decide) (by decide) ?_
              have hl : es.length = 8 := by
                have q : ∀ k, k < 2 ^ 31 → ¬ Int32.ofNat es.length = Int32.ofNat k → es.length ≠ k := fun k hk q r => q (by rw [r])
                have := q 2 (by decide) c2; have := q 3 (by decide) c3; have := q 4 (by decide) c4; have := q 5 (by decide) c5; have := q 6 (by decide) c6; have := q 7 (by decide) c7
                omega
              obtain ⟨x0, x1, x2, x3, x4, x5, x6, x7, rfl⟩ := own_ls8 hl
              have F1 : Arv Z h0 a k .int (8 : Int32) [.int (Int32.ofNat x0), .int (Int32.ofNat x1), .int (Int32.ofNat x2), .int (Int32.ofNat x3), .int (Int32.ofNat x4), .int (Int32.ofNat x5), .int (Int32.ofNat x6), .int (Int32.ofNat x7)] (.int 0) := F
              refine ow_bipush K X0 (pc' := 224) (8 : Int32) d1_222 rfl (by decide) ?_
              refine ow_newPE K X0 (pc' := 226) e0 (C := "[I") (by decide) (hw _ (List.mem_of_getElem? (i := 0) rfl)) (by decide) 8 (by decide) (by decide) (by decide) (by decide) d1_224 rfl ?_
              intro T205 h205 k205 b1 X205 e205 E205 g205 A205 B205
              have ne206 : a ≠ b1 := ow_ne F1.lt g205
              have ge207 : n0 ≤ b1 := Nat.le_trans Z0 (Nat.le_of_eq g205.symm)
              have F208 : Arv Z h205 a k .int (8 : Int32) [.int (Int32.ofNat x0), .int (Int32.ofNat x1), .int (Int32.ofNat x2), .int (Int32.ofNat x3), .int (Int32.ofNat x4), .int (Int32.ofNat x5), .int (Int32.ofNat x6), .int (Int32.ofNat x7)] (.int 0) := F1.ext E205
              have Z209 : n0 ≤ h205.size := Nat.le_trans Z0 E205.1
              have P210 := (Keep.refl h0 []).ext E205
              have F211 : Arv Z h205 b1 k205 .int (8 : Int32) [.int 0, .int 0, .int 0, .int 0, .int 0, .int 0, .int 0, .int 0] (.int 0) := Arv.pad A205 (pad_rep [] (.int 0) 8)
              refine ow_dup K X205 (pc' := 227) d1_226 rfl rfl ?_
              refine ow_iconst K X205 (pc' := 228) (0 : Int32) d1_227 rfl (by decide) ?_
              refine ow_aloadN K X205 (pc' := 229) a d1_228 rfl rfl ?_
              refine ow_iconst K X205 (pc' := 230) (0 : Int32) d1_229 rfl (by decide) ?_
              refine ow_iaload K X205 (pc' := 231) e205 F208 0 (.int (Int32.ofNat x0)) ⟨by decide, by decide⟩ (by decide) rfl d1_230 rfl ?_
              refine ow_iastore K X205 (pc' := 232) e205 F211 0 [.int (Int32.ofNat x0), .int 0, .int 0, .int 0, .int 0, .int 0, .int 0, .int 0] ⟨by decide, by decide⟩ (by decide) (by simp) rfl d1_231 rfl ?_
              intro T212 h212 X212 e212 W212 F212
              have F213 : Arv Z h212 a k .int (8 : Int32) [.int (Int32.ofNat x0), .int (Int32.ofNat x1), .int (Int32.ofNat x2), .int (Int32.ofNat x3), .int (Int32.ofNat x4), .int (Int32.ofNat x5), .int (Int32.ofNat x6), .int (Int32.ofNat x7)] (.int 0) := F208.other W212 ne206
              have F214 : Exa Z h212 b1 "[I" := Exa.wr W212 B205
              have Z215 : n0 ≤ h212.size := Nat.le_trans Z209 (Nat.le_of_eq W212.size.symm)
              have N216 := Fr.snoc X212 N0 ge207
              have P217 := P210.wr W212 (Or.inr (Nat.le_of_eq g205.symm))
              refine ow_dup K X212 (pc' := 233) d1_232 rfl rfl ?_
              refine ow_iconst K X212 (pc' := 234) (1 : Int32) d1_233 rfl (by decide) ?_
              refine ow_aloadN K X212 (pc' := 235) a d1_234 rfl rfl ?_
              refine ow_iconst K X212 (pc' := 236) (1 : Int32) d1_235 rfl (by decide) ?_
              refine ow_iaload K X212 (pc' := 237) e212 F213 1 (.int (Int32.ofNat x1)) ⟨by decide, by decide⟩ (by decide) rfl d1_236 rfl ?_
              refine ow_iastore K X212 (pc' := 238) e212 F212 1 [.int (Int32.ofNat x0), .int (Int32.ofNat x1), .int 0, .int 0, .int 0, .int 0, .int 0, .int 0] ⟨by decide, by decide⟩ (by decide) (by simp) rfl d1_237 rfl ?_
              intro T218 h218 X218 e218 W218 F218
              have F219 : Arv Z h218 a k .int (8 : Int32) [.int (Int32.ofNat x0), .int (Int32.ofNat x1), .int (Int32.ofNat x2), .int (Int32.ofNat x3), .int (Int32.ofNat x4), .int (Int32.ofNat x5), .int (Int32.ofNat x6), .int (Int32.ofNat x7)] (.int 0) := F213.other W218 ne206
              have F220 : Exa Z h218 b1 "[I" := Exa.wr W218 F214
              have Z221 : n0 ≤ h218.size := Nat.le_trans Z215 (Nat.le_of_eq W218.size.symm)
              have N222 := Fr.snoc X218 N216 ge207
              have P223 := P217.wr W218 (Or.inr (Nat.le_of_eq g205.symm))
              refine ow_dup K X218 (pc' := 239) d1_238 rfl rfl ?_
              refine ow_iconst K X218 (pc' := 240) (2 : Int32) d1_239 rfl (by decide) ?_
              refine ow_aloadN K X218 (pc' := 241) a d1_240 rfl rfl ?_
              refine ow_iconst K X218 (pc' := 242) (2 : Int32) d1_241 rfl (by decide) ?_
              refine ow_iaload K X218 (pc' := 243) e218 F219 2 (.int (Int32.ofNat x2)) ⟨by decide, by decide⟩ (by decide) rfl d1_242 rfl ?_
              refine ow_iastore K X218 (pc' := 244) e218 F218 2 [.int (Int32.ofNat x0), .int (Int32.ofNat x1), .int (Int32.ofNat x2), .int 0, .int 0, .int 0, .int 0, .int 0] ⟨by decide, by decide⟩ (by decide) (by simp) rfl d1_243 rfl ?_
              intro T224 h224 X224 e224 W224 F224
              have F225 : Arv Z h224 a k .int (8 : Int32) [.int (Int32.ofNat x0), .int (Int32.ofNat x1), .int (Int32.ofNat x2), .int (Int32.ofNat x3), .int (Int32.ofNat x4), .int (Int32.ofNat x5), .int (Int32.ofNat x6), .int (Int32.ofNat x7)] (.int 0) := F219.other W224 ne206
              have F226 : Exa Z h224 b1 "[I" := Exa.wr W224 F220
              have Z227 : n0 ≤ h224.size := Nat.le_trans Z221 (Nat.le_of_eq W224.size.symm)
              have N228 := Fr.snoc X224 N222 ge207
              have P229 := P223.wr W224 (Or.inr (Nat.le_of_eq g205.symm))
              refine ow_dup K X224 (pc' := 245) d1_244 rfl rfl ?_
              refine ow_iconst K X224 (pc' := 246) (3 : Int32) d1_245 rfl (by decide) ?_
              refine ow_aloadN K X224 (pc' := 247) a d1_246 rfl rfl ?_
              refine ow_iconst K X224 (pc' := 248) (3 : Int32) d1_247 rfl (by decide) ?_
              refine ow_iaload K X224 (pc' := 249) e224 F225 3 (.int (Int32.ofNat x3)) ⟨by decide, by decide⟩ (by decide) rfl d1_248 rfl ?_
              refine ow_iastore K X224 (pc' := 250) e224 F224 3 [.int (Int32.ofNat x0), .int (Int32.ofNat x1), .int (Int32.ofNat x2), .int (Int32.ofNat x3), .int 0, .int 0, .int 0, .int 0] ⟨by decide, by decide⟩ (by decide) (by simp) rfl d1_249 rfl ?_
              intro T230 h230 X230 e230 W230 F230
              have F231 : Arv Z h230 a k .int (8 : Int32) [.int (Int32.ofNat x0), .int (Int32.ofNat x1), .int (Int32.ofNat x2), .int (Int32.ofNat x3), .int (Int32.ofNat x4), .int (Int32.ofNat x5), .int (Int32.ofNat x6), .int (Int32.ofNat x7)] (.int 0) := F225.other W230 ne206
              have F232 : Exa Z h230 b1 "[I" := Exa.wr W230 F226
              have Z233 : n0 ≤ h230.size := Nat.le_trans Z227 (Nat.le_of_eq W230.size.symm)
              have N234 := Fr.snoc X230 N228 ge207
              have P235 := P229.wr W230 (Or.inr (Nat.le_of_eq g205.symm))
              refine ow_dup K X230 (pc' := 251) d1_250 rfl rfl ?_
              refine ow_iconst K X230 (pc' := 252) (4 : Int32) d1_251 rfl (by decide) ?_
              refine ow_aloadN K X230 (pc' := 253) a d1_252 rfl rfl ?_
              refine ow_iconst K X230 (pc' := 254) (4 : Int32) d1_253 rfl (by decide) ?_
              refine ow_iaload K X230 (pc' := 255) e230 F231 4 (.int (Int32.ofNat x4)) ⟨by decide, by decide⟩ (by decide) rfl d1_254 rfl ?_
              refine ow_iastore K X230 (pc' := 256) e230 F230 4 [.int (Int32.ofNat x0), .int (Int32.ofNat x1), .int (Int32.ofNat x2), .int (Int32.ofNat x3), .int (Int32.ofNat x4), .int 0, .int 0, .int 0] ⟨by decide, by decide⟩ (by decide) (by simp) rfl d1_255 rfl ?_
              intro T236 h236 X236 e236 W236 F236
              have F237 : Arv Z h236 a k .int (8 : Int32) [.int (Int32.ofNat x0), .int (Int32.ofNat x1), .int (Int32.ofNat x2), .int (Int32.ofNat x3), .int (Int32.ofNat x4), .int (Int32.ofNat x5), .int (Int32.ofNat x6), .int (Int32.ofNat x7)] (.int 0) := F231.other W236 ne206
              have F238 : Exa Z h236 b1 "[I" := Exa.wr W236 F232
              have Z239 : n0 ≤ h236.size := Nat.le_trans Z233 (Nat.le_of_eq W236.size.symm)
              have N240 := Fr.snoc X236 N234 ge207
              have P241 := P235.wr W236 (Or.inr (Nat.le_of_eq g205.symm))
              refine ow_dup K X236 (pc' := 257) d1_256 rfl rfl ?_
              refine ow_iconst K X236 (pc' := 258) (5 : Int32) d1_257 rfl (by decide) ?_
              refine ow_aloadN K X236 (pc' := 259) a d1_258 rfl rfl ?_
              refine ow_iconst K X236 (pc' := 260) (5 : Int32) d1_259 rfl (by decide) ?_
              refine ow_iaload K X236 (pc' := 261) e236 F237 5 (.int (Int32.ofNat x5)) ⟨by decide, by decide⟩ (by decide) rfl d1_260 rfl ?_
              refine ow_iastore K X236 (pc' := 262) e236 F236 5 [.int (Int32.ofNat x0), .int (Int32.ofNat x1), .int (Int32.ofNat x2), .int (Int32.ofNat x3), .int (Int32.ofNat x4), .int (Int32.ofNat x5), .int 0, .int 0] ⟨by decide, by decide⟩ (by decide) (by simp) rfl d1_261 rfl ?_
              intro T242 h242 X242 e242 W242 F242
              have F243 : Arv Z h242 a k .int (8 : Int32) [.int (Int32.ofNat x0), .int (Int32.ofNat x1), .int (Int32.ofNat x2), .int (Int32.ofNat x3), .int (Int32.ofNat x4), .int (Int32.ofNat x5), .int (Int32.ofNat x6), .int (Int32.ofNat x7)] (.int 0) := F237.other W242 ne206
              have F244 : Exa Z h242 b1 "[I" := Exa.wr W242 F238
              have Z245 : n0 ≤ h242.size := Nat.le_trans Z239 (Nat.le_of_eq W242.size.symm)
              have N246 := Fr.snoc X242 N240 ge207
              have P247 := P241.wr W242 (Or.inr (Nat.le_of_eq g205.symm))
              refine ow_dup K X242 (pc' := 263) d1_262 rfl rfl ?_
              refine ow_bipush K X242 (pc' := 265) (6 : Int32) d1_263 rfl (by decide) ?_
              refine ow_aloadN K X242 (pc' := 266) a d1_265 rfl rfl ?_
              refine ow_bipush K X242 (pc' := 268) (6 : Int32) d1_266 rfl (by decide) ?_
              refine ow_iaload K X242 (pc' := 269) e242 F243 6 (.int (Int32.ofNat x6)) ⟨by decide, by decide⟩ (by decide) rfl d1_268 rfl ?_
              refine ow_iastore K X242 (pc' := 270) e242 F242 6 [.int (Int32.ofNat x0), .int (Int32.ofNat x1), .int (Int32.ofNat x2), .int (Int32.ofNat x3), .int (Int32.ofNat x4), .int (Int32.ofNat x5), .int (Int32.ofNat x6), .int 0] ⟨by decide, by decide⟩ (by decide) (by simp) rfl d1_269 rfl ?_
              intro T248 h248 X248 e248 W248 F248
              have F249 : Arv Z h248 a k .int (8 : Int32) [.int (Int32.ofNat x0), .int (Int32.ofNat x1), .int (Int32.ofNat x2), .int (Int32.ofNat x3), .int (Int32.ofNat x4), .int (Int32.ofNat x5), .int (Int32.ofNat x6), .int (Int32.ofNat x7)] (.int 0) := F243.other W248 ne206
              have F250 : Exa Z h248 b1 "[I" := Exa.wr W248 F244
              have Z251 : n0 ≤ h248.size := Nat.le_trans Z245 (Nat.le_of_eq W248.size.symm)
              have N252 := Fr.snoc X248 N246 ge207
              have P253 := P247.wr W248 (Or.inr (Nat.le_of_eq g205.symm))
              refine ow_dup K X248 (pc' := 271) d1_270 rfl rfl ?_
              refine ow_bipush K X248 (pc' := 273) (7 : Int32) d1_271 rfl (by decide) ?_
              refine ow_aloadN K X248 (pc' := 274) a d1_273 rfl rfl ?_
              refine ow_bipush K X248 (pc' := 276) (7 : Int32) d1_274 rfl (by decide) ?_
              refine ow_iaload K X248 (pc' := 277) e248 F249 7 (.int (Int32.ofNat x7)) ⟨by decide, by decide⟩ (by decide) rfl d1_276 rfl ?_
              refine ow_iastore K X248 (pc' := 278) e248 F248 7 [.int (Int32.ofNat x0), .int (Int32.ofNat x1), .int (Int32.ofNat x2), .int (Int32.ofNat x3), .int (Int32.ofNat x4), .int (Int32.ofNat x5), .int (Int32.ofNat x6), .int (Int32.ofNat x7)] ⟨by decide, by decide⟩ (by decide) (by simp) rfl d1_277 rfl ?_
              intro T254 h254 X254 e254 W254 F254
              have F255 : Arv Z h254 a k .int (8 : Int32) [.int (Int32.ofNat x0), .int (Int32.ofNat x1), .int (Int32.ofNat x2), .int (Int32.ofNat x3), .int (Int32.ofNat x4), .int (Int32.ofNat x5), .int (Int32.ofNat x6), .int (Int32.ofNat x7)] (.int 0) := F249.other W254 ne206
              have F256 : Exa Z h254 b1 "[I" := Exa.wr W254 F250
              have Z257 : n0 ≤ h254.size := Nat.le_trans Z251 (Nat.le_of_eq W254.size.symm)
              have N258 := Fr.snoc X254 N252 ge207
              have P259 := P253.wr W254 (Or.inr (Nat.le_of_eq g205.symm))
              refine ow_retA K X254 (.array .int) rfl rfl d1_278 ?_ (by decide) (by decide)
              rw [e254]
              exact ⟨b1, _, rfl, N258, Z257, ge207, g205, P259, F254, F256⟩
theorem d2_0 : decode prog_54_method_7_code 0 = .ok (.iconst 1, 1) := by decide +kernel
theorem d2_1 : decode prog_54_method_7_code 1 = .ok (.aload_n 0, 1) := by decide +kernel
theorem d2_2 : decode prog_54_method_7_code 2 = .ok (.getfield 30, 3) := by decide +kernel
theorem d2_5 : decode prog_54_method_7_code 5 = .ok (.iload_n 1, 1) := by decide +kernel
theorem d2_6 : decode prog_54_method_7_code 6 = .ok (.iaload, 1) := by decide +kernel
theorem d2_7 : decode prog_54_method_7_code 7 = .ok (.ishl, 1) := by decide +kernel
theorem d2_8 : decode prog_54_method_7_code 8 = .ok (.ireturn, 1) := by decide +kernel
theorem pn_2 : plainFor (⟨"com/example/matins/matins/engine/PoolLayout", "sliceSize", "(I)I"⟩ : MethodName) = true := by first | exact plainFor_of_name (by first | (simp [plainName, overriddenIn]; done) | decide +kernel) | decide +kernel
theorem pd_2 : parseMethodDescriptor "(I)I" = some ⟨[.int], some .int⟩ := by decide +kernel
theorem ef_2 (m : MethodId) (o : Addr) (n : Int32) : entryFrame m #[(.ref o), (.int n)] 2 = mkF m 0 #[.val (.ref o), .val (.int n)] [] := by first | (simp [entryFrame, mkF, argsToLocals, Value.category]; done) | rfl
def Q2 (Z : State) (o : Addr) (n : Int32) (j : Nat) (cx : Addr) (k : ClassId) (es : List Nat) (h0 : Heap) (n0 : Nat) (v : Option Value) (h : Heap) (L : List Loc) : Prop := v = some (.int ((1 : Int32) <<< (own_gi es j &&& 31))) ∧ Fr n0 L ∧ h = h0
set_option maxRecDepth 65536 in
set_option maxHeartbeats 40000000 in
theorem rm2 (l : Launch) (Z : State) (a0 : Array Value) (hw : ∀ d ∈ tables_1, d.before a0 Z = true) (ws : List Jvm.Cond) (o : Addr) (n : Int32) (j : Nat) (cx : Addr) (k : ClassId) (es : List Nat) (h0 : Heap) (n0 : Nat) (Z0 : n0 ≤ h0.size) (hn : n = Int32.ofNat j) (E : Exa Z h0 o "com/example/matins/matins/engine/PoolLayout") (FX : Fld Z h0 o "com/example/matins/matins/engine/PoolLayout" "exponents" "[I" (.ref cx)) (FA : Arv Z h0 cx k .int (Int32.ofNat es.length) (own_li es) (.int 0)) (hS : own_St es 13) (hj : j < es.length) :
    MetFree l (⟨"com/example/matins/matins/engine/PoolLayout", "sliceSize", "(I)I"⟩ : MethodName) (head1 (Jvm.Cond.code (⟨"com/example/matins/matins/engine/PoolLayout", "sliceSize", "(I)I"⟩ : MethodName) prog_54_method_7_code 2 (some .int) :: ws) ({ frames := 0, cells := 0, slots := 0, locals := 0 } : Room)) (fun as_ U => as_ = #[(.ref o), (.int n)] ∧ Z.Warmed39 U.vm ∧ U.heap = h0) (fun _ _ _ _ _ => True) (fun _ U oc U' => ∃ v L, oc = .returned v ∧ Q2 Z o n j cx k es h0 n0 v U'.heap L ∧ FrameEnd U oc U' L ({ frames := 0, cells := 0, slots := 0, locals := 0 } : Room).cells ({ frames := 0, cells := 0, slots := 0, locals := 0 } : Room).slots) := by
  refine MetFree.of_bodySF pn_2 hisR ?_
  intro p e s m args below meth c s₁ Bd hml0 hP hK
  obtain ⟨rfl, hZ, hh⟩ := hP
  have K : ow_K p e below s m meth c Z "com/example/matins/matins/engine/PoolLayout" prog_54_method_7_code 2 (some .int) "sliceSize" (ow_Gl p e below s (Q2 Z o n j cx k es h0 n0) 0 0) := ⟨ow_Gl_bc, Bd.exec, Bd.bytes, hml0, findClass_of_methodNamed Bd.named, hZ, Bd.returns, Bd.notSynchronized, (name_of_methodNamed Bd.named Bd.method).1⟩
  have X0 : Stand p l e ({ frames := 0, cells := 0, slots := 0, locals := 0 } : Room) s m #[(.ref o), (.int n)] below meth c s₁ [] 0 0 := Stand.of_body Bd
  have e0 : s₁.heap = h0 := by rw [← hh, Bd.state]; rfl
  have N0 := Fr.nil n0
  refine ow_entry (Q := (Q2 Z o n j cx k es h0 n0)) (ce := 0) (sl := 0) (ef_2 m o n) ?_
  have h8 := hS.1
  subst hn
  refine ow_iconst K X0 (pc' := 1) (1 : Int32) d2_0 rfl (by decide) ?_
  refine ow_aloadN K X0 (pc' := 2) o d2_1 rfl rfl ?_
  refine ow_getF K X0 (pc' := 5) e0 (hw _ (List.mem_of_getElem? (i := 23) rfl)) FX d2_2 rfl ?_
  intro T1 X1 e1
  refine ow_iloadN K X1 (pc' := 6) (Int32.ofNat j) d2_5 rfl rfl ?_
  refine ow_iaload K X1 (pc' := 7) e1 FA j (.int (own_gi es j)) (ow_ix_nat (by omega)) (by rw [own_clamp8 hS.1]; exact hj) (own_li_at es j) d2_6 rfl ?_
  refine ow_ishl K X1 (pc' := 8) ((1 : Int32) <<< ((own_gi es j) &&& 31)) d2_7 rfl rfl ?_
  exact ow_retI K X1 .int rfl rfl (Or.inl rfl) d2_8 ⟨rfl, N0, e1⟩ (by decide) (by decide)
theorem d3_0 : decode prog_54_method_8_code 0 = .ok (.iload_n 1, 1) := by decide +kernel
theorem d3_1 : decode prog_54_method_8_code 1 = .ok (.ifCond .ne 11, 3) := by decide +kernel
theorem d3_4 : decode prog_54_method_8_code 4 = .ok (.aload_n 0, 1) := by decide +kernel
theorem d3_5 : decode prog_54_method_8_code 5 = .ok (.iload_n 1, 1) := by decide +kernel
theorem d3_6 : decode prog_54_method_8_code 6 = .ok (.invokevirtual 53, 3) := by decide +kernel
theorem d3_9 : decode prog_54_method_8_code 9 = .ok (.goto 10, 3) := by decide +kernel
theorem d3_12 : decode prog_54_method_8_code 12 = .ok (.aload_n 0, 1) := by decide +kernel
theorem d3_13 : decode prog_54_method_8_code 13 = .ok (.iload_n 1, 1) := by decide +kernel
theorem d3_14 : decode prog_54_method_8_code 14 = .ok (.invokevirtual 53, 3) := by decide +kernel
theorem d3_17 : decode prog_54_method_8_code 17 = .ok (.iconst 1, 1) := by decide +kernel
theorem d3_18 : decode prog_54_method_8_code 18 = .ok (.isub, 1) := by decide +kernel
theorem d3_19 : decode prog_54_method_8_code 19 = .ok (.ireturn, 1) := by decide +kernel
theorem pn_3 : plainFor (⟨"com/example/matins/matins/engine/PoolLayout", "capacity", "(I)I"⟩ : MethodName) = true := by first | exact plainFor_of_name (by first | (simp [plainName, overriddenIn]; done) | decide +kernel) | decide +kernel
theorem pd_3 : parseMethodDescriptor "(I)I" = some ⟨[.int], some .int⟩ := by decide +kernel
theorem ef_3 (m : MethodId) (o : Addr) (n : Int32) : entryFrame m #[(.ref o), (.int n)] 2 = mkF m 0 #[.val (.ref o), .val (.int n)] [] := by first | (simp [entryFrame, mkF, argsToLocals, Value.category]; done) | rfl
def Q3 (Z : State) (o : Addr) (n : Int32) (j : Nat) (cx : Addr) (k : ClassId) (es : List Nat) (h0 : Heap) (n0 : Nat) (v : Option Value) (h : Heap) (L : List Loc) : Prop := v = some (.int (own_cap es j)) ∧ Fr n0 L ∧ h = h0
set_option maxRecDepth 65536 in
set_option maxHeartbeats 40000000 in
theorem rm3 (l : Launch) (Z : State) (a0 : Array Value) (hw : ∀ d ∈ tables_1, d.before a0 Z = true) (ws : List Jvm.Cond) (o : Addr) (n : Int32) (j : Nat) (cx : Addr) (k : ClassId) (es : List Nat) (h0 : Heap) (n0 : Nat) (Z0 : n0 ≤ h0.size) (hn : n = Int32.ofNat j) (E : Exa Z h0 o "com/example/matins/matins/engine/PoolLayout") (FX : Fld Z h0 o "com/example/matins/matins/engine/PoolLayout" "exponents" "[I" (.ref cx)) (FA : Arv Z h0 cx k .int (Int32.ofNat es.length) (own_li es) (.int 0)) (hS : own_St es 13) (hj : j < es.length) :
    MetFree l (⟨"com/example/matins/matins/engine/PoolLayout", "capacity", "(I)I"⟩ : MethodName) (head1 (Jvm.Cond.code (⟨"com/example/matins/matins/engine/PoolLayout", "capacity", "(I)I"⟩ : MethodName) prog_54_method_8_code 2 (some .int) :: ws) ({ frames := 1, cells := 0, slots := 0, locals := 13 } : Room)) (fun as_ U => as_ = #[(.ref o), (.int n)] ∧ Z.Warmed39 U.vm ∧ U.heap = h0) (fun _ _ _ _ _ => True) (fun _ U oc U' => ∃ v L, oc = .returned v ∧ Q3 Z o n j cx k es h0 n0 v U'.heap L ∧ FrameEnd U oc U' L ({ frames := 1, cells := 0, slots := 0, locals := 13 } : Room).cells ({ frames := 1, cells := 0, slots := 0, locals := 13 } : Room).slots) := by
  refine MetFree.of_bodySF pn_3 hisR ?_
  intro p e s m args below meth c s₁ Bd hml0 hP hK
  obtain ⟨rfl, hZ, hh⟩ := hP
  have K : ow_K p e below s m meth c Z "com/example/matins/matins/engine/PoolLayout" prog_54_method_8_code 2 (some .int) "capacity" (ow_Gl p e below s (Q3 Z o n j cx k es h0 n0) 0 0) := ⟨ow_Gl_bc, Bd.exec, Bd.bytes, hml0, findClass_of_methodNamed Bd.named, hZ, Bd.returns, Bd.notSynchronized, (name_of_methodNamed Bd.named Bd.method).1⟩
  have X0 : Stand p l e ({ frames := 1, cells := 0, slots := 0, locals := 13 } : Room) s m #[(.ref o), (.int n)] below meth c s₁ [] 0 0 := Stand.of_body Bd
  have e0 : s₁.heap = h0 := by rw [← hh, Bd.state]; rfl
  have N0 := Fr.nil n0
  refine ow_entry (Q := (Q3 Z o n j cx k es h0 n0)) (ce := 0) (sl := 0) (ef_3 m o n) ?_
  subst hn
  have h8 := hS.1
  refine ow_iloadN K X0 (pc' := 1) (Int32.ofNat j) d3_0 rfl rfl ?_
  by_cases hc : (Int32.ofNat j) = 0
  · refine ow_ifN K X0 (pc' := 4) d3_1 rfl (XT.i0_ne_f hc) ?_
    refine ow_aloadN K X0 (pc' := 5) o d3_4 rfl rfl ?_
    refine ow_iloadN K X0 (pc' := 6) (Int32.ofNat j) d3_5 rfl rfl ?_
    refine ow_callV K X0 (pc' := 9) e0 (y := (⟨"com/example/matins/matins/engine/PoolLayout", "sliceSize", "(I)I"⟩ : MethodName)) (rm2 l Z a0 hw [] o (Int32.ofNat j) j cx k es h0 n0 Z0 rfl E FX FA hS hj) E (hw _ (List.mem_of_getElem? (i := 34) rfl)) (hw _ (List.mem_of_getElem? (i := 35) rfl)) (hw _ (List.mem_of_getElem? (i := 37) rfl)) (hw _ (List.mem_of_getElem? (i := 36) rfl)) (hw _ (List.mem_of_getElem? (i := 7) rfl)) (hw _ (List.mem_of_getElem? (i := 38) rfl)) (by decide) (st := []) 0 (Nat.le_of_eq rfl) (by decide) (by decide) (by decide) (by decide) rfl [.int (Int32.ofNat j)] rfl (lenOf pd_2 rfl) rfl d3_6 rfl ?_
    intro v1 T1 L1 X1 hQ1
    obtain ⟨rfl, NN, ex⟩ := hQ1
    have NX := Fr.app N0 NN
    refine ow_at (g := (mkF m 9 #[.val (.ref o), .val (.int (Int32.ofNat j))] [.int ((1 : Int32) <<< (own_gi es j &&& 31))])) ?_
    refine ow_goto K X1 (pc' := 19) d3_9 (by decide) (by decide) ?_
    exact ow_retI K X1 .int rfl rfl (Or.inl rfl) d3_19 ⟨by rw [own_cap, if_pos (own_eqn (k := 0) (by omega) (by decide) hc)]; rw [own_eqn (k := 0) (by omega) (by decide) hc], NX, ex⟩ (by decide) (by decide)
  · refine ow_ifY K X0 (pc' := 12) d3_1 (XT.i0_ne_t hc) (by decide) (by decide) ?_
    refine ow_aloadN K X0 (pc' := 13) o d3_12 rfl rfl ?_
    refine ow_iloadN K X0 (pc' := 14) (Int32.ofNat j) d3_13 rfl rfl ?_
    refine ow_callV K X0 (pc' := 17) e0 (y := (⟨"com/example/matins/matins/engine/PoolLayout", "sliceSize", "(I)I"⟩ : MethodName)) (rm2 l Z a0 hw [] o (Int32.ofNat j) j cx k es h0 n0 Z0 rfl E FX FA hS hj) E (hw _ (List.mem_of_getElem? (i := 34) rfl)) (hw _ (List.mem_of_getElem? (i := 35) rfl)) (hw _ (List.mem_of_getElem? (i := 37) rfl)) (hw _ (List.mem_of_getElem? (i := 36) rfl)) (hw _ (List.mem_of_getElem? (i := 7) rfl)) (hw _ (List.mem_of_getElem? (i := 38) rfl)) (by decide) (st := []) 0 (Nat.le_of_eq rfl) (by decide) (by decide) (by decide) (by decide) rfl [.int (Int32.ofNat j)] rfl (lenOf pd_2 rfl) rfl d3_14 rfl ?_
    intro v2 T2 L2 X2 hQ2
    obtain ⟨rfl, NN, ex⟩ := hQ2
    have NX := Fr.app N0 NN
    refine ow_at (g := (mkF m 17 #[.val (.ref o), .val (.int (Int32.ofNat j))] [.int ((1 : Int32) <<< (own_gi es j &&& 31))])) ?_
    refine ow_iconst K X2 (pc' := 18) (1 : Int32) d3_17 rfl (by decide) ?_
    refine ow_isub K X2 (pc' := 19) (((1 : Int32) <<< (own_gi es j &&& 31)) - (1 : Int32)) d3_18 rfl rfl ?_
    exact ow_retI K X2 .int rfl rfl (Or.inl rfl) d3_19 ⟨by rw [own_cap, if_neg (fun q => hc (by rw [q]; rfl))], NX, ex⟩ (by decide) (by decide)
theorem d4_0 : decode prog_54_method_1_code 0 = .ok (.aload_n 0, 1) := by decide +kernel
theorem d4_1 : decode prog_54_method_1_code 1 = .ok (.invokespecial 1, 3) := by decide +kernel
theorem d4_4 : decode prog_54_method_1_code 4 = .ok (.aload_n 1, 1) := by decide +kernel
theorem d4_5 : decode prog_54_method_1_code 5 = .ok (.arraylength, 1) := by decide +kernel
theorem d4_6 : decode prog_54_method_1_code 6 = .ok (.iconst 2, 1) := by decide +kernel
theorem d4_7 : decode prog_54_method_1_code 7 = .ok (.if_icmp .lt 14, 3) := by decide +kernel
theorem d4_10 : decode prog_54_method_1_code 10 = .ok (.aload_n 1, 1) := by decide +kernel
theorem d4_11 : decode prog_54_method_1_code 11 = .ok (.arraylength, 1) := by decide +kernel
theorem d4_12 : decode prog_54_method_1_code 12 = .ok (.bipush 8, 2) := by decide +kernel
theorem d4_14 : decode prog_54_method_1_code 14 = .ok (.if_icmp .gt 7, 3) := by decide +kernel
theorem d4_17 : decode prog_54_method_1_code 17 = .ok (.iconst 1, 1) := by decide +kernel
theorem d4_18 : decode prog_54_method_1_code 18 = .ok (.goto 4, 3) := by decide +kernel
theorem d4_21 : decode prog_54_method_1_code 21 = .ok (.iconst 0, 1) := by decide +kernel
theorem d4_22 : decode prog_54_method_1_code 22 = .ok (.istore_n 2, 1) := by decide +kernel
theorem d4_23 : decode prog_54_method_1_code 23 = .ok (.iconst 0, 1) := by decide +kernel
theorem d4_24 : decode prog_54_method_1_code 24 = .ok (.istore_n 3, 1) := by decide +kernel
theorem d4_25 : decode prog_54_method_1_code 25 = .ok (.iload_n 3, 1) := by decide +kernel
theorem d4_26 : decode prog_54_method_1_code 26 = .ok (.aload_n 1, 1) := by decide +kernel
theorem d4_27 : decode prog_54_method_1_code 27 = .ok (.arraylength, 1) := by decide +kernel
theorem d4_28 : decode prog_54_method_1_code 28 = .ok (.if_icmp .ge 48, 3) := by decide +kernel
theorem d4_31 : decode prog_54_method_1_code 31 = .ok (.iload_n 3, 1) := by decide +kernel
theorem d4_32 : decode prog_54_method_1_code 32 = .ok (.ifCond .ne 7, 3) := by decide +kernel
theorem d4_35 : decode prog_54_method_1_code 35 = .ok (.iconst (-1), 1) := by decide +kernel
theorem d4_36 : decode prog_54_method_1_code 36 = .ok (.goto 8, 3) := by decide +kernel
theorem d4_39 : decode prog_54_method_1_code 39 = .ok (.aload_n 1, 1) := by decide +kernel
theorem d4_40 : decode prog_54_method_1_code 40 = .ok (.iload_n 3, 1) := by decide +kernel
theorem d4_41 : decode prog_54_method_1_code 41 = .ok (.iconst 1, 1) := by decide +kernel
theorem d4_42 : decode prog_54_method_1_code 42 = .ok (.isub, 1) := by decide +kernel
theorem d4_43 : decode prog_54_method_1_code 43 = .ok (.iaload, 1) := by decide +kernel
theorem d4_44 : decode prog_54_method_1_code 44 = .ok (.istore 4, 2) := by decide +kernel
theorem d4_46 : decode prog_54_method_1_code 46 = .ok (.iload_n 2, 1) := by decide +kernel
theorem d4_47 : decode prog_54_method_1_code 47 = .ok (.aload_n 1, 1) := by decide +kernel
theorem d4_48 : decode prog_54_method_1_code 48 = .ok (.iload_n 3, 1) := by decide +kernel
theorem d4_49 : decode prog_54_method_1_code 49 = .ok (.iaload, 1) := by decide +kernel
theorem d4_50 : decode prog_54_method_1_code 50 = .ok (.iload 4, 2) := by decide +kernel
theorem d4_52 : decode prog_54_method_1_code 52 = .ok (.if_icmp .le 15, 3) := by decide +kernel
theorem d4_55 : decode prog_54_method_1_code 55 = .ok (.aload_n 1, 1) := by decide +kernel
theorem d4_56 : decode prog_54_method_1_code 56 = .ok (.iload_n 3, 1) := by decide +kernel
theorem d4_57 : decode prog_54_method_1_code 57 = .ok (.iaload, 1) := by decide +kernel
theorem d4_58 : decode prog_54_method_1_code 58 = .ok (.bipush 12, 2) := by decide +kernel
theorem d4_60 : decode prog_54_method_1_code 60 = .ok (.if_icmp .gt 7, 3) := by decide +kernel
theorem d4_63 : decode prog_54_method_1_code 63 = .ok (.iconst 1, 1) := by decide +kernel
theorem d4_64 : decode prog_54_method_1_code 64 = .ok (.goto 4, 3) := by decide +kernel
theorem d4_67 : decode prog_54_method_1_code 67 = .ok (.iconst 0, 1) := by decide +kernel
theorem d4_68 : decode prog_54_method_1_code 68 = .ok (.iand, 1) := by decide +kernel
theorem d4_69 : decode prog_54_method_1_code 69 = .ok (.istore_n 2, 1) := by decide +kernel
theorem d4_70 : decode prog_54_method_1_code 70 = .ok (.iinc 3 1, 3) := by decide +kernel
theorem d4_73 : decode prog_54_method_1_code 73 = .ok (.goto (-48), 3) := by decide +kernel
theorem d4_76 : decode prog_54_method_1_code 76 = .ok (.iload_n 2, 1) := by decide +kernel
theorem d4_77 : decode prog_54_method_1_code 77 = .ok (.ifCond .ne 20, 3) := by decide +kernel
theorem d4_80 : decode prog_54_method_1_code 80 = .ok (.new 9, 3) := by decide +kernel
theorem d4_83 : decode prog_54_method_1_code 83 = .ok (.dup, 1) := by decide +kernel
theorem d4_84 : decode prog_54_method_1_code 84 = .ok (.aload_n 1, 1) := by decide +kernel
theorem d4_85 : decode prog_54_method_1_code 85 = .ok (.invokestatic 11, 3) := by decide +kernel
theorem d4_88 : decode prog_54_method_1_code 88 = .ok (.invokedynamic 17, 5) := by decide +kernel
theorem d4_93 : decode prog_54_method_1_code 93 = .ok (.invokespecial 21, 3) := by decide +kernel
theorem d4_96 : decode prog_54_method_1_code 96 = .ok (.athrow, 1) := by decide +kernel
theorem d4_97 : decode prog_54_method_1_code 97 = .ok (.aload_n 0, 1) := by decide +kernel
theorem d4_98 : decode prog_54_method_1_code 98 = .ok (.aload_n 1, 1) := by decide +kernel
theorem d4_99 : decode prog_54_method_1_code 99 = .ok (.invokevirtual 24, 3) := by decide +kernel
theorem d4_102 : decode prog_54_method_1_code 102 = .ok (.checkcast 25, 3) := by decide +kernel
theorem d4_105 : decode prog_54_method_1_code 105 = .ok (.putfield 30, 3) := by decide +kernel
theorem d4_108 : decode prog_54_method_1_code 108 = .ok (.aload_n 0, 1) := by decide +kernel
theorem d4_109 : decode prog_54_method_1_code 109 = .ok (.aload_n 1, 1) := by decide +kernel
theorem d4_110 : decode prog_54_method_1_code 110 = .ok (.arraylength, 1) := by decide +kernel
theorem d4_111 : decode prog_54_method_1_code 111 = .ok (.iconst 1, 1) := by decide +kernel
theorem d4_112 : decode prog_54_method_1_code 112 = .ok (.isub, 1) := by decide +kernel
theorem d4_113 : decode prog_54_method_1_code 113 = .ok (.putfield 33, 3) := by decide +kernel
theorem d4_116 : decode prog_54_method_1_code 116 = .ok (.aload_n 0, 1) := by decide +kernel
theorem d4_117 : decode prog_54_method_1_code 117 = .ok (.aload_n 1, 1) := by decide +kernel
theorem d4_118 : decode prog_54_method_1_code 118 = .ok (.arraylength, 1) := by decide +kernel
theorem d4_119 : decode prog_54_method_1_code 119 = .ok (.newarray .long, 2) := by decide +kernel
theorem d4_121 : decode prog_54_method_1_code 121 = .ok (.putfield 37, 3) := by decide +kernel
theorem d4_124 : decode prog_54_method_1_code 124 = .ok (.iconst 1, 1) := by decide +kernel
theorem d4_125 : decode prog_54_method_1_code 125 = .ok (.istore_n 3, 1) := by decide +kernel
theorem d4_126 : decode prog_54_method_1_code 126 = .ok (.iload_n 3, 1) := by decide +kernel
theorem d4_127 : decode prog_54_method_1_code 127 = .ok (.aload_n 1, 1) := by decide +kernel
theorem d4_128 : decode prog_54_method_1_code 128 = .ok (.arraylength, 1) := by decide +kernel
theorem d4_129 : decode prog_54_method_1_code 129 = .ok (.if_icmp .ge 32, 3) := by decide +kernel
theorem d4_132 : decode prog_54_method_1_code 132 = .ok (.aload_n 0, 1) := by decide +kernel
theorem d4_133 : decode prog_54_method_1_code 133 = .ok (.getfield 37, 3) := by decide +kernel
theorem d4_136 : decode prog_54_method_1_code 136 = .ok (.iload_n 3, 1) := by decide +kernel
theorem d4_137 : decode prog_54_method_1_code 137 = .ok (.aload_n 0, 1) := by decide +kernel
theorem d4_138 : decode prog_54_method_1_code 138 = .ok (.getfield 37, 3) := by decide +kernel
theorem d4_141 : decode prog_54_method_1_code 141 = .ok (.iload_n 3, 1) := by decide +kernel
theorem d4_142 : decode prog_54_method_1_code 142 = .ok (.iconst 1, 1) := by decide +kernel
theorem d4_143 : decode prog_54_method_1_code 143 = .ok (.isub, 1) := by decide +kernel
theorem d4_144 : decode prog_54_method_1_code 144 = .ok (.laload, 1) := by decide +kernel
theorem d4_145 : decode prog_54_method_1_code 145 = .ok (.aload_n 0, 1) := by decide +kernel
theorem d4_146 : decode prog_54_method_1_code 146 = .ok (.iload_n 3, 1) := by decide +kernel
theorem d4_147 : decode prog_54_method_1_code 147 = .ok (.iconst 1, 1) := by decide +kernel
theorem d4_148 : decode prog_54_method_1_code 148 = .ok (.isub, 1) := by decide +kernel
theorem d4_149 : decode prog_54_method_1_code 149 = .ok (.invokevirtual 41, 3) := by decide +kernel
theorem d4_152 : decode prog_54_method_1_code 152 = .ok (.i2l, 1) := by decide +kernel
theorem d4_153 : decode prog_54_method_1_code 153 = .ok (.ladd, 1) := by decide +kernel
theorem d4_154 : decode prog_54_method_1_code 154 = .ok (.lastore, 1) := by decide +kernel
theorem d4_155 : decode prog_54_method_1_code 155 = .ok (.iinc 3 1, 3) := by decide +kernel
theorem d4_158 : decode prog_54_method_1_code 158 = .ok (.goto (-32), 3) := by decide +kernel
theorem d4_161 : decode prog_54_method_1_code 161 = .ok (.return_, 1) := by decide +kernel
set_option maxRecDepth 65536 in
set_option maxHeartbeats 40000000 in
theorem lpV {p : Program} {l : Launch} {e : Env} {R : Room} {s : State} {m : MethodId} {args : Array Value} {below : List Frame} {meth : Method} {c : Code} {locs : List Loc} {cells slots : Nat} {Z : State} {G : State → Prop} {T : State} {h : Heap} (K : ow_K p e below s m meth c Z "com/example/matins/matins/engine/PoolLayout" prog_54_method_1_code 5 none "<init>" G) (X0 : Stand p l e R s m args below meth c T locs cells slots) (e0 : T.heap = h) {o b : Addr} {kb : ClassId} {es : List Nat} (FB : Arv Z h b kb .int (Int32.ofNat es.length) (own_li es) (.int 0)) (hS : own_St es 13) (hk : ∀ w' : Int32, G (T.setTop (mkF m 76 #[.val (.ref o), .val (.ref b), .val (.int (1 : Int32)), .val (.int (Int32.ofNat es.length)), .val (.int w')] []))) (d : Nat) : ∀ (j : Nat) (w : Int32), (j + 1) + d = es.length → G (T.setTop (mkF m 25 #[.val (.ref o), .val (.ref b), .val (.int (1 : Int32)), .val (.int (Int32.ofNat (j + 1))), .val (.int w)] [])) := by
  have h8 := hS.1
  induction d with
  | zero =>
    intro j w hj
    refine ow_iloadN K X0 (pc' := 26) (Int32.ofNat (j + 1)) d4_25 rfl rfl ?_
    refine ow_aloadN K X0 (pc' := 27) b d4_26 rfl rfl ?_
    refine ow_len K X0 (pc' := 28) e0 FB d4_27 rfl ?_
    refine ow_icmpY K X0 (pc' := 76) d4_28 (XT.ii_ge_t (own_gen (by omega) (by omega))) (by decide) (by decide) ?_
    rw [show j + 1 = es.length from hj]; exact hk w
  | succ d ih =>
    intro j w hj
    refine ow_iloadN K X0 (pc' := 26) (Int32.ofNat (j + 1)) d4_25 rfl rfl ?_
    refine ow_aloadN K X0 (pc' := 27) b d4_26 rfl rfl ?_
    refine ow_len K X0 (pc' := 28) e0 FB d4_27 rfl ?_
    refine ow_icmpN K X0 (pc' := 31) d4_28 rfl (XT.ii_ge_f (own_ltn (by omega) (by omega))) ?_
    refine ow_iloadN K X0 (pc' := 32) (Int32.ofNat (j + 1)) d4_31 rfl rfl ?_
    refine ow_ifY K X0 (pc' := 39) d4_32 (XT.i0_ne_t (own_nz (by omega) (by omega))) (by decide) (by decide) ?_
    refine ow_aloadN K X0 (pc' := 40) b d4_39 rfl rfl ?_
    refine ow_iloadN K X0 (pc' := 41) (Int32.ofNat (j + 1)) d4_40 rfl rfl ?_
    refine ow_iconst K X0 (pc' := 42) (1 : Int32) d4_41 rfl (by decide) ?_
    refine ow_isub K X0 (pc' := 43) (Int32.ofNat j) d4_42 rfl (own_pred (by omega)) ?_
    refine ow_iaload K X0 (pc' := 44) e0 FB j (.int (own_gi es j)) (ow_ix_nat (by omega)) (by rw [own_clamp8 h8]; omega) (own_li_at es j) d4_43 rfl ?_
    refine ow_istore K X0 (pc' := 46) (Ls' := #[.val (.ref o), .val (.ref b), .val (.int (1 : Int32)), .val (.int (Int32.ofNat (j + 1))), .val (.int (own_gi es j))]) d4_44 rfl rfl ?_
    refine ow_iloadN K X0 (pc' := 47) (1 : Int32) d4_46 rfl rfl ?_
    refine ow_aloadN K X0 (pc' := 48) b d4_47 rfl rfl ?_
    refine ow_iloadN K X0 (pc' := 49) (Int32.ofNat (j + 1)) d4_48 rfl rfl ?_
    refine ow_iaload K X0 (pc' := 50) e0 FB (j + 1) (.int (own_gi es (j + 1))) (ow_ix_nat (by omega)) (by rw [own_clamp8 h8]; omega) (own_li_at es (j + 1)) d4_49 rfl ?_
    refine ow_iload K X0 (pc' := 52) (own_gi es j) d4_50 rfl rfl ?_
    refine ow_icmpN K X0 (pc' := 55) d4_52 rfl (XT.ii_le_f (own_gi_mono hS (by omega))) ?_
    refine ow_aloadN K X0 (pc' := 56) b d4_55 rfl rfl ?_
    refine ow_iloadN K X0 (pc' := 57) (Int32.ofNat (j + 1)) d4_56 rfl rfl ?_
    refine ow_iaload K X0 (pc' := 58) e0 FB (j + 1) (.int (own_gi es (j + 1))) (ow_ix_nat (by omega)) (by rw [own_clamp8 h8]; omega) (own_li_at es (j + 1)) d4_57 rfl ?_
    refine ow_bipush K X0 (pc' := 60) (12 : Int32) d4_58 rfl (by decide) ?_
    refine ow_icmpN K X0 (pc' := 63) d4_60 rfl (XT.ii_gt_f (own_gi_12 hS)) ?_
    refine ow_iconst K X0 (pc' := 64) (1 : Int32) d4_63 rfl (by decide) ?_
    refine ow_goto K X0 (pc' := 68) d4_64 (by decide) (by decide) ?_
    refine ow_iand K X0 (pc' := 69) (1 : Int32) d4_68 rfl (by decide) ?_
    refine ow_istoreN K X0 (pc' := 70) (Ls' := #[.val (.ref o), .val (.ref b), .val (.int (1 : Int32)), .val (.int (Int32.ofNat (j + 1))), .val (.int (own_gi es j))]) d4_69 rfl rfl ?_
    refine ow_iinc K X0 (pc' := 73) (Ls' := #[.val (.ref o), .val (.ref b), .val (.int (1 : Int32)), .val (.int (Int32.ofNat (j + 1 + 1))), .val (.int (own_gi es j))]) (1 : Int32) (Int32.ofNat (j + 1 + 1)) d4_70 rfl (by decide) rfl (own_succ (by omega)) rfl ?_
    refine ow_goto K X0 (pc' := 25) d4_73 (by decide) (by decide) ?_
    exact ih (j + 1) _ (by omega)
set_option maxRecDepth 65536 in
set_option maxHeartbeats 40000000 in
theorem lpF {p : Program} {l : Launch} {e : Env} {R : Room} {s : State} {m : MethodId} {args : Array Value} {below : List Frame} {meth : Method} {c : Code} {cells slots : Nat} {Z : State} {G : State → Prop} {a0 : Array Value} (hw : ∀ d ∈ tables_1, d.before a0 Z = true) (K : ow_K p e below s m meth c Z "com/example/matins/matins/engine/PoolLayout" prog_54_method_1_code 5 none "<init>" G) {n0 : Nat} {o b cx f : Addr} {kb kx kf : ClassId} {es : List Nat} {tp w : Int32} (hS : own_St es 13) (hfr : 2 ≤ R.frames) (hlo : 30 ≤ R.locals) (hce : cells ≤ R.cells) (hsl : slots ≤ R.slots) (gf : n0 ≤ f) (nof : o ≠ f) (nbf : b ≠ f) (nxf : cx ≠ f) {hB : Heap} (hbf : hB.size ≤ f)
    (hk : ∀ T' locs' h', Stand p l e R s m args below meth c T' locs' cells slots → T'.heap = h' → Fr n0 locs' → n0 ≤ h'.size → Exa Z h' o "com/example/matins/matins/engine/PoolLayout" → Fld Z h' o "com/example/matins/matins/engine/PoolLayout" "exponents" "[I" (.ref cx) → Fld Z h' o "com/example/matins/matins/engine/PoolLayout" "top" "I" (.int tp) → Fld Z h' o "com/example/matins/matins/engine/PoolLayout" "firstPostings" "[J" (.ref f) → Arv Z h' b kb .int (Int32.ofNat es.length) (own_li es) (.int 0) → Arv Z h' cx kx .int (Int32.ofNat es.length) (own_li es) (.int 0) → Arv Z h' f kf .long (Int32.ofNat es.length) (own_fpl es es.length) (.long 0) → Keep hB h' [o] → G (T'.setTop (mkF m 161 #[.val (.ref o), .val (.ref b), .val (.int (1 : Int32)), .val (.int (Int32.ofNat es.length)), .val (.int w)] []))) (d : Nat) :
    ∀ (j : Nat) (T : State) (locs : List Loc) (h : Heap), (j + 1) + d = es.length → Stand p l e R s m args below meth c T locs cells slots → T.heap = h → Fr n0 locs → n0 ≤ h.size → Exa Z h o "com/example/matins/matins/engine/PoolLayout" → Fld Z h o "com/example/matins/matins/engine/PoolLayout" "exponents" "[I" (.ref cx) → Fld Z h o "com/example/matins/matins/engine/PoolLayout" "top" "I" (.int tp) → Fld Z h o "com/example/matins/matins/engine/PoolLayout" "firstPostings" "[J" (.ref f) → Arv Z h b kb .int (Int32.ofNat es.length) (own_li es) (.int 0) → Arv Z h cx kx .int (Int32.ofNat es.length) (own_li es) (.int 0) → Arv Z h f kf .long (Int32.ofNat es.length) (own_fpl es (j + 1)) (.long 0) → Keep hB h [o] → G (T.setTop (mkF m 126 #[.val (.ref o), .val (.ref b), .val (.int (1 : Int32)), .val (.int (Int32.ofNat (j + 1))), .val (.int w)] [])) := by
  have h8 := hS.1
  induction d with
  | zero =>
    intro j T locs h hj X0 e0 N0 Z0 E FX FT FP FB AX AF P0
    refine ow_iloadN K X0 (pc' := 127) (Int32.ofNat (j + 1)) d4_126 rfl rfl ?_
    refine ow_aloadN K X0 (pc' := 128) b d4_127 rfl rfl ?_
    refine ow_len K X0 (pc' := 129) e0 FB d4_128 rfl ?_
    refine ow_icmpY K X0 (pc' := 161) d4_129 (XT.ii_ge_t (own_gen (by omega) (by omega))) (by decide) (by decide) ?_
    have hj' : j + 1 = es.length := hj
    rw [hj'] at AF
    rw [hj']; exact hk T locs h X0 e0 N0 Z0 E FX FT FP FB AX AF P0
  | succ d ih =>
    intro j T locs h hj X0 e0 N0 Z0 E FX FT FP FB AX AF P0
    refine ow_iloadN K X0 (pc' := 127) (Int32.ofNat (j + 1)) d4_126 rfl rfl ?_
    refine ow_aloadN K X0 (pc' := 128) b d4_127 rfl rfl ?_
    refine ow_len K X0 (pc' := 129) e0 FB d4_128 rfl ?_
    refine ow_icmpN K X0 (pc' := 132) d4_129 rfl (XT.ii_ge_f (own_ltn (by omega) (by omega))) ?_
    refine ow_aloadN K X0 (pc' := 133) o d4_132 rfl rfl ?_
    refine ow_getF K X0 (pc' := 136) e0 (hw _ (List.mem_of_getElem? (i := 28) rfl)) FP d4_133 rfl ?_
    intro T1 X1 e1
    refine ow_iloadN K X1 (pc' := 137) (Int32.ofNat (j + 1)) d4_136 rfl rfl ?_
    refine ow_aloadN K X1 (pc' := 138) o d4_137 rfl rfl ?_
    refine ow_getF K X1 (pc' := 141) e1 (hw _ (List.mem_of_getElem? (i := 28) rfl)) FP d4_138 rfl ?_
    intro T2 X2 e2
    refine ow_iloadN K X2 (pc' := 142) (Int32.ofNat (j + 1)) d4_141 rfl rfl ?_
    refine ow_iconst K X2 (pc' := 143) (1 : Int32) d4_142 rfl (by decide) ?_
    refine ow_isub K X2 (pc' := 144) (Int32.ofNat j) d4_143 rfl (own_pred (by omega)) ?_
    refine ow_laload K X2 (pc' := 145) e2 AF j (.long (Int64.ofNat (own_F es j))) (ow_ix_nat (by omega)) (by rw [own_clamp8 h8]; omega) (own_fpl_at (by omega)) d4_144 rfl ?_
    refine ow_aloadN K X2 (pc' := 146) o d4_145 rfl rfl ?_
    refine ow_iloadN K X2 (pc' := 147) (Int32.ofNat (j + 1)) d4_146 rfl rfl ?_
    refine ow_iconst K X2 (pc' := 148) (1 : Int32) d4_147 rfl (by decide) ?_
    refine ow_isub K X2 (pc' := 149) (Int32.ofNat j) d4_148 rfl (own_pred (by omega)) ?_
    refine ow_callR K X2 (pc' := 152) e2 (y' := (⟨"com/example/matins/matins/engine/PoolLayout", "sliceSize", "(I)I"⟩ : MethodName)) (y := (⟨"com/example/matins/matins/engine/PoolLayout", "capacity", "(I)I"⟩ : MethodName)) (rm3 l Z a0 hw [] o (Int32.ofNat j) j cx kx es h n0 Z0 rfl E FX AX hS (by omega)) E rfl (hw _ (List.mem_of_getElem? (i := 37) rfl)) (hw _ (List.mem_of_getElem? (i := 32) rfl)) (hw _ (List.mem_of_getElem? (i := 30) rfl)) (hw _ (List.mem_of_getElem? (i := 31) rfl)) (hw _ (List.mem_of_getElem? (i := 7) rfl)) (hw _ (List.mem_of_getElem? (i := 33) rfl)) (by decide) (st := [.long (Int64.ofNat (own_F es j)), .int (Int32.ofNat (j + 1)), .ref f]) 4 (Nat.le_of_eq rfl) (by show 1 + 1 ≤ _; omega) (by show 4 + (2 + 11) + 13 ≤ _; omega) (by show _ + 0 ≤ _; omega) (by show _ + 0 ≤ _; omega) rfl [.int (Int32.ofNat j)] rfl (lenOf pd_3 rfl) rfl d4_149 rfl ?_
    intro v3 T3 L3 X3 hQ3
    obtain ⟨rfl, NN, ex⟩ := hQ3
    have NX := Fr.app N0 NN
    refine ow_at (g := (mkF m 152 #[.val (.ref o), .val (.ref b), .val (.int (1 : Int32)), .val (.int (Int32.ofNat (j + 1))), .val (.int w)] [.int (own_cap es j), .long (Int64.ofNat (own_F es j)), .int (Int32.ofNat (j + 1)), .ref f])) ?_
    refine ow_i2l K X3 (pc' := 153) (((own_cap es j)).toInt64) d4_152 rfl rfl ?_
    refine ow_ladd K X3 (pc' := 154) (Int64.ofNat (own_F es (j + 1))) d4_153 rfl (own_Fadd hS j) ?_
    have AF2 : Arv Z h f kf .long (Int32.ofNat es.length) (own_fpl es (j + 1) ++ [Value.long 0]) (.long 0) := Arv.pad AF (pad_rep _ (.long 0) 1)
    refine ow_lastore K X3 (pc' := 155) ex AF2 (j + 1) (own_fpl es (j + 1 + 1)) (ow_ix_nat (by omega)) (by rw [own_clamp8 h8]; omega) (by rw [List.length_append, own_fpl_len]; exact Nat.lt_succ_self _) (own_fpl_app es (j + 1)) d4_154 rfl ?_
    intro T4 h4 X4 e4 W4 F4
    have F5 : Exa Z h4 o "com/example/matins/matins/engine/PoolLayout" := Exa.wr W4 E
    have F6 : Fld Z h4 o "com/example/matins/matins/engine/PoolLayout" "exponents" "[I" (.ref cx) := Fld.other W4 FX (Or.inl nof)
    have F7 : Fld Z h4 o "com/example/matins/matins/engine/PoolLayout" "top" "I" (.int tp) := Fld.other W4 FT (Or.inl nof)
    have F8 : Fld Z h4 o "com/example/matins/matins/engine/PoolLayout" "firstPostings" "[J" (.ref f) := Fld.other W4 FP (Or.inl nof)
    have F9 : Arv Z h4 b kb .int (Int32.ofNat es.length) (own_li es) (.int 0) := FB.other W4 nbf
    have F10 : Arv Z h4 cx kx .int (Int32.ofNat es.length) (own_li es) (.int 0) := AX.other W4 nxf
    have Z11 : n0 ≤ h4.size := Nat.le_trans Z0 (Nat.le_of_eq W4.size.symm)
    have N12 := Fr.snoc X4 NX gf
    have P13 := P0.wr W4 (Or.inr hbf)
    refine ow_iinc K X4 (pc' := 158) (Ls' := #[.val (.ref o), .val (.ref b), .val (.int (1 : Int32)), .val (.int (Int32.ofNat (j + 1 + 1))), .val (.int w)]) (1 : Int32) (Int32.ofNat (j + 1 + 1)) d4_155 rfl (by decide) rfl (own_succ (by omega)) rfl ?_
    refine ow_goto K X4 (pc' := 126) d4_158 (by decide) (by decide) ?_
    exact ih (j + 1) _ _ _ (by omega) X4 e4 N12 Z11 F5 F6 F7 F8 F9 F10 F4 P13
theorem pn_4 : plainFor (⟨"com/example/matins/matins/engine/PoolLayout", "<init>", "([I)V"⟩ : MethodName) = true := by first | exact plainFor_of_name (by first | (simp [plainName, overriddenIn]; done) | decide +kernel) | decide +kernel
theorem pd_4 : parseMethodDescriptor "([I)V" = some ⟨[(.array .int)], none⟩ := by decide +kernel
theorem ef_4 (m : MethodId) (o : Addr) (b : Addr) : entryFrame m #[(.ref o), (.ref b)] 5 = mkF m 0 #[.val (.ref o), .val (.ref b), .unset, .unset, .unset] [] := by first | (simp [entryFrame, mkF, argsToLocals, Value.category]; done) | rfl
def Q4 (Z : State) (o : Addr) (b : Addr) (kb : ClassId) (es : List Nat) (h0 : Heap) (n0 : Nat) (v : Option Value) (h : Heap) (L : List Loc) : Prop := v = none ∧ Fr n0 L ∧ n0 ≤ h.size ∧ Keep h0 h [o] ∧ ∃ (cx f : Addr) (kx kf : ClassId), Exa Z h o "com/example/matins/matins/engine/PoolLayout" ∧ Fld Z h o "com/example/matins/matins/engine/PoolLayout" "exponents" "[I" (.ref cx) ∧ Fld Z h o "com/example/matins/matins/engine/PoolLayout" "top" "I" (.int (Int32.ofNat (es.length - 1))) ∧ Fld Z h o "com/example/matins/matins/engine/PoolLayout" "firstPostings" "[J" (.ref f) ∧ Arv Z h cx kx .int (Int32.ofNat es.length) (own_li es) (.int 0) ∧ Arv Z h f kf .long (Int32.ofNat es.length) (own_fpl es es.length) (.long 0)
set_option maxRecDepth 65536 in
set_option maxHeartbeats 40000000 in
theorem rm4 (l : Launch) (Z : State) (a0 : Array Value) (hw : ∀ d ∈ tables_1, d.before a0 Z = true) (ws : List Jvm.Cond) (o : Addr) (b : Addr) (kb : ClassId) (es : List Nat) (h0 : Heap) (n0 : Nat) (Z0 : n0 ≤ h0.size) (E : Exa Z h0 o "com/example/matins/matins/engine/PoolLayout") (FX : Fld Z h0 o "com/example/matins/matins/engine/PoolLayout" "exponents" "[I" (.null)) (FT : Fld Z h0 o "com/example/matins/matins/engine/PoolLayout" "top" "I" (.int 0)) (FP : Fld Z h0 o "com/example/matins/matins/engine/PoolLayout" "firstPostings" "[J" (.null)) (FB : Arv Z h0 b kb .int (Int32.ofNat es.length) (own_li es) (.int 0)) (EB : Exa Z h0 b "[I") (hS : own_St es 13) (h2 : 2 ≤ es.length) (go : n0 ≤ o) (nob : o ≠ b) :
    MetFree l (⟨"com/example/matins/matins/engine/PoolLayout", "<init>", "([I)V"⟩ : MethodName) (head1 (Jvm.Cond.code (⟨"com/example/matins/matins/engine/PoolLayout", "<init>", "([I)V"⟩ : MethodName) prog_54_method_1_code 5 none :: ws) ({ frames := 2, cells := 2, slots := 16, locals := 30 } : Room)) (fun as_ U => as_ = #[(.ref o), (.ref b)] ∧ Z.Warmed39 U.vm ∧ U.heap = h0) (fun _ _ _ _ _ => True) (fun _ U oc U' => ∃ v L, oc = .returned v ∧ Q4 Z o b kb es h0 n0 v U'.heap L ∧ FrameEnd U oc U' L ({ frames := 2, cells := 2, slots := 16, locals := 30 } : Room).cells ({ frames := 2, cells := 2, slots := 16, locals := 30 } : Room).slots) := by
  refine MetFree.of_bodySF pn_4 hisR ?_
  intro p e s m args below meth c s₁ Bd hml0 hP hK
  obtain ⟨rfl, hZ, hh⟩ := hP
  have K : ow_K p e below s m meth c Z "com/example/matins/matins/engine/PoolLayout" prog_54_method_1_code 5 none "<init>" (ow_Gl p e below s (Q4 Z o b kb es h0 n0) 2 16) := ⟨ow_Gl_bc, Bd.exec, Bd.bytes, hml0, findClass_of_methodNamed Bd.named, hZ, Bd.returns, Bd.notSynchronized, (name_of_methodNamed Bd.named Bd.method).1⟩
  have X0 : Stand p l e ({ frames := 2, cells := 2, slots := 16, locals := 30 } : Room) s m #[(.ref o), (.ref b)] below meth c s₁ [] 0 0 := Stand.of_body Bd
  have e0 : s₁.heap = h0 := by rw [← hh, Bd.state]; rfl
  have N0 := Fr.nil n0
  refine ow_entry (Q := (Q4 Z o b kb es h0 n0)) (ce := 2) (sl := 16) (ef_4 m o b) ?_
  have h8 := hS.1
  refine ow_aloadN K X0 (pc' := 1) o d4_0 rfl rfl ?_
  refine ow_initO K X0 (pc' := 4) e0 (hw _ (List.mem_of_getElem? (i := 11) rfl)) (hw _ (List.mem_of_getElem? (i := 12) rfl)) (hw _ (List.mem_of_getElem? (i := 13) rfl)) rfl 0 (Nat.le_of_eq rfl) (by decide) (by decide) d4_1 rfl ?_
  intro T1 X1 e1
  refine ow_aloadN K X1 (pc' := 5) b d4_4 rfl rfl ?_
  refine ow_len K X1 (pc' := 6) e1 FB d4_5 rfl ?_
  refine ow_iconst K X1 (pc' := 7) (2 : Int32) d4_6 rfl (by decide) ?_
  refine ow_icmpN K X1 (pc' := 10) d4_7 rfl (XT.ii_lt_f (own_gen (n := 2) h2 (by omega))) ?_
  refine ow_aloadN K X1 (pc' := 11) b d4_10 rfl rfl ?_
  refine ow_len K X1 (pc' := 12) e1 FB d4_11 rfl ?_
  refine ow_bipush K X1 (pc' := 14) (8 : Int32) d4_12 rfl (by decide) ?_
  refine ow_icmpN K X1 (pc' := 17) d4_14 rfl (XT.ii_gt_f (own_gen (i := 8) h8 (by decide))) ?_
  refine ow_iconst K X1 (pc' := 18) (1 : Int32) d4_17 rfl (by decide) ?_
  refine ow_goto K X1 (pc' := 22) d4_18 (by decide) (by decide) ?_
  refine ow_istoreN K X1 (pc' := 23) (Ls' := #[.val (.ref o), .val (.ref b), .val (.int (1 : Int32)), .unset, .unset]) d4_22 rfl rfl ?_
  refine ow_iconst K X1 (pc' := 24) (0 : Int32) d4_23 rfl (by decide) ?_
  refine ow_istoreN K X1 (pc' := 25) (Ls' := #[.val (.ref o), .val (.ref b), .val (.int (1 : Int32)), .val (.int (0 : Int32)), .unset]) d4_24 rfl rfl ?_
  refine ow_iloadN K X1 (pc' := 26) (0 : Int32) d4_25 rfl rfl ?_
  refine ow_aloadN K X1 (pc' := 27) b d4_26 rfl rfl ?_
  refine ow_len K X1 (pc' := 28) e1 FB d4_27 rfl ?_
  refine ow_icmpN K X1 (pc' := 31) d4_28 rfl (XT.ii_ge_f (own_ltn (i := 0) (by omega) (by omega))) ?_
  refine ow_iloadN K X1 (pc' := 32) (0 : Int32) d4_31 rfl rfl ?_
  refine ow_ifN K X1 (pc' := 35) d4_32 rfl (XT.i0_ne_f rfl) ?_
  refine ow_iconst K X1 (pc' := 36) (-1 : Int32) d4_35 rfl (by decide) ?_
  refine ow_goto K X1 (pc' := 44) d4_36 (by decide) (by decide) ?_
  refine ow_istore K X1 (pc' := 46) (Ls' := #[.val (.ref o), .val (.ref b), .val (.int (1 : Int32)), .val (.int (0 : Int32)), .val (.int (-1 : Int32))]) d4_44 rfl rfl ?_
  refine ow_iloadN K X1 (pc' := 47) (1 : Int32) d4_46 rfl rfl ?_
  refine ow_aloadN K X1 (pc' := 48) b d4_47 rfl rfl ?_
  refine ow_iloadN K X1 (pc' := 49) (0 : Int32) d4_48 rfl rfl ?_
  refine ow_iaload K X1 (pc' := 50) e1 FB 0 (.int (own_gi es 0)) ⟨by decide, by decide⟩ (by rw [own_clamp8 h8]; omega) (own_li_at es 0) d4_49 rfl ?_
  refine ow_iload K X1 (pc' := 52) (-1 : Int32) d4_50 rfl rfl ?_
  refine ow_icmpN K X1 (pc' := 55) d4_52 rfl (XT.ii_le_f (own_gi_m1 hS)) ?_
  refine ow_aloadN K X1 (pc' := 56) b d4_55 rfl rfl ?_
  refine ow_iloadN K X1 (pc' := 57) (0 : Int32) d4_56 rfl rfl ?_
  refine ow_iaload K X1 (pc' := 58) e1 FB 0 (.int (own_gi es 0)) ⟨by decide, by decide⟩ (by rw [own_clamp8 h8]; omega) (own_li_at es 0) d4_57 rfl ?_
  refine ow_bipush K X1 (pc' := 60) (12 : Int32) d4_58 rfl (by decide) ?_
  refine ow_icmpN K X1 (pc' := 63) d4_60 rfl (XT.ii_gt_f (own_gi_12 hS)) ?_
  refine ow_iconst K X1 (pc' := 64) (1 : Int32) d4_63 rfl (by decide) ?_
  refine ow_goto K X1 (pc' := 68) d4_64 (by decide) (by decide) ?_
  refine ow_iand K X1 (pc' := 69) (1 : Int32) d4_68 rfl (by decide) ?_
  refine ow_istoreN K X1 (pc' := 70) (Ls' := #[.val (.ref o), .val (.ref b), .val (.int (1 : Int32)), .val (.int (0 : Int32)), .val (.int (-1 : Int32))]) d4_69 rfl rfl ?_
  refine ow_iinc K X1 (pc' := 73) (Ls' := #[.val (.ref o), .val (.ref b), .val (.int (1 : Int32)), .val (.int (Int32.ofNat (0 + 1))), .val (.int (-1 : Int32))]) (1 : Int32) (Int32.ofNat (0 + 1)) d4_70 rfl (by decide) rfl (by decide) rfl ?_
  refine ow_goto K X1 (pc' := 25) d4_73 (by decide) (by decide) ?_
  refine lpV K X1 e1 FB hS ?_ (es.length - 1) 0 _ (by omega)
  intro w'
  refine ow_iloadN K X1 (pc' := 77) (1 : Int32) d4_76 rfl rfl ?_
  refine ow_ifY K X1 (pc' := 97) d4_77 (XT.i0_ne_t (by decide)) (by decide) (by decide) ?_
  refine ow_aloadN K X1 (pc' := 98) o d4_97 rfl rfl ?_
  refine ow_aloadN K X1 (pc' := 99) b d4_98 rfl rfl ?_
  refine ow_clone K X1 (pc' := 102) e1 (ad := "[I") (hw _ (List.mem_of_getElem? (i := 14) rfl)) (hw _ (List.mem_of_getElem? (i := 15) rfl)) (hw _ (List.mem_of_getElem? (i := 19) rfl)) (hw _ (List.mem_of_getElem? (i := 17) rfl)) (hw _ (List.mem_of_getElem? (i := 18) rfl)) (hw _ (List.mem_of_getElem? (i := 20) rfl)) FB EB rfl 1 8 (Nat.le_of_eq rfl) (by decide) (by decide) (by rw [own_clamp8 h8]; exact h8) (by decide) (by decide) d4_99 rfl ?_
  intro T2 h2 cx X2 e2 E2 g2 A2 B2
  have ne3 : o ≠ cx := ow_ne E.lt g2
  have ne4 : b ≠ cx := ow_ne FB.lt g2
  have ge5 : n0 ≤ cx := Nat.le_trans Z0 (Nat.le_of_eq g2.symm)
  have F6 : Exa Z h2 o "com/example/matins/matins/engine/PoolLayout" := E.ext E2
  have F7 : Fld Z h2 o "com/example/matins/matins/engine/PoolLayout" "exponents" "[I" (.null) := FX.ext E2
  have F8 : Fld Z h2 o "com/example/matins/matins/engine/PoolLayout" "top" "I" (.int 0) := FT.ext E2
  have F9 : Fld Z h2 o "com/example/matins/matins/engine/PoolLayout" "firstPostings" "[J" (.null) := FP.ext E2
  have F10 : Arv Z h2 b kb .int (Int32.ofNat es.length) (own_li es) (.int 0) := FB.ext E2
  have F11 : Exa Z h2 b "[I" := EB.ext E2
  have Z12 : n0 ≤ h2.size := Nat.le_trans Z0 E2.1
  have P13 := (Keep.refl h0 [o]).ext E2
  refine ow_cast K X2 (pc' := 105) e2 (hw _ (List.mem_of_getElem? (i := 21) rfl)) B2 d4_102 rfl ?_
  intro T14 X14 e14
  refine ow_putF K X14 (pc' := 108) e14 (.array .int) (hw _ (List.mem_of_getElem? (i := 23) rfl)) F7 F6 (Or.inr ⟨(hw _ (List.mem_of_getElem? (i := 24) rfl)), rfl, rfl⟩) (hw _ (List.mem_of_getElem? (i := 6) rfl)) (by decide) rfl rfl d4_105 rfl ?_
  intro T15 h15 X15 e15 W15 F15 A15
  have F16 : Fld Z h15 o "com/example/matins/matins/engine/PoolLayout" "top" "I" (.int 0) := Fld.other W15 F8 (Or.inr (slot_ne (show Laid Z a0 "com/example/matins/matins/engine/PoolLayout" "com/example/matins/matins/engine/PoolLayout" "top" "I" from Or.inr (hw _ (List.mem_of_getElem? (i := 26) rfl))) (show Laid Z a0 "com/example/matins/matins/engine/PoolLayout" "com/example/matins/matins/engine/PoolLayout" "exponents" "[I" from Or.inr (hw _ (List.mem_of_getElem? (i := 24) rfl))) (by decide) (t := .int) (t' := (.array .int)) (by decide) (by decide)))
  have F17 : Fld Z h15 o "com/example/matins/matins/engine/PoolLayout" "firstPostings" "[J" (.null) := Fld.other W15 F9 (Or.inr (slot_ne (show Laid Z a0 "com/example/matins/matins/engine/PoolLayout" "com/example/matins/matins/engine/PoolLayout" "firstPostings" "[J" from Or.inr (hw _ (List.mem_of_getElem? (i := 29) rfl))) (show Laid Z a0 "com/example/matins/matins/engine/PoolLayout" "com/example/matins/matins/engine/PoolLayout" "exponents" "[I" from Or.inr (hw _ (List.mem_of_getElem? (i := 24) rfl))) (by decide) (t := (.array .long)) (t' := (.array .int)) (by decide) (by decide)))
  have F18 : Arv Z h15 b kb .int (Int32.ofNat es.length) (own_li es) (.int 0) := F10.other W15 (Ne.symm nob)
  have F19 : Exa Z h15 b "[I" := Exa.wr W15 F11
  have F20 : Arv Z h15 cx kb .int (Int32.ofNat es.length) (own_li es) (.int 0) := A2.other W15 (Ne.symm ne3)
  have F21 : Exa Z h15 cx "[I" := Exa.wr W15 B2
  have Z22 : n0 ≤ h15.size := Nat.le_trans Z12 (Nat.le_of_eq W15.size.symm)
  have N23 := Fr.snoc X15 N0 go
  have P24 := P13.wr W15 (Or.inl (List.mem_of_getElem? (i := 0) rfl))
  refine ow_aloadN K X15 (pc' := 109) o d4_108 rfl rfl ?_
  refine ow_aloadN K X15 (pc' := 110) b d4_109 rfl rfl ?_
  refine ow_len K X15 (pc' := 111) e15 F18 d4_110 rfl ?_
  refine ow_iconst K X15 (pc' := 112) (1 : Int32) d4_111 rfl (by decide) ?_
  refine ow_isub K X15 (pc' := 113) (Int32.ofNat (es.length - 1)) d4_112 rfl (by rw [← own_pred (j := es.length - 1) (by omega), show es.length - 1 + 1 = es.length by omega]) ?_
  refine ow_putF K X15 (pc' := 116) e15 .int (hw _ (List.mem_of_getElem? (i := 25) rfl)) F16 A15 (Or.inr ⟨(hw _ (List.mem_of_getElem? (i := 26) rfl)), rfl, rfl⟩) (hw _ (List.mem_of_getElem? (i := 6) rfl)) (by decide) rfl rfl d4_113 rfl ?_
  intro T25 h25 X25 e25 W25 F25 A25
  have F26 : Fld Z h25 o "com/example/matins/matins/engine/PoolLayout" "exponents" "[I" (.ref cx) := Fld.other W25 F15 (Or.inr (slot_ne (show Laid Z a0 "com/example/matins/matins/engine/PoolLayout" "com/example/matins/matins/engine/PoolLayout" "exponents" "[I" from Or.inr (hw _ (List.mem_of_getElem? (i := 24) rfl))) (show Laid Z a0 "com/example/matins/matins/engine/PoolLayout" "com/example/matins/matins/engine/PoolLayout" "top" "I" from Or.inr (hw _ (List.mem_of_getElem? (i := 26) rfl))) (by decide) (t := (.array .int)) (t' := .int) (by decide) (by decide)))
  have F27 : Fld Z h25 o "com/example/matins/matins/engine/PoolLayout" "firstPostings" "[J" (.null) := Fld.other W25 F17 (Or.inr (slot_ne (show Laid Z a0 "com/example/matins/matins/engine/PoolLayout" "com/example/matins/matins/engine/PoolLayout" "firstPostings" "[J" from Or.inr (hw _ (List.mem_of_getElem? (i := 29) rfl))) (show Laid Z a0 "com/example/matins/matins/engine/PoolLayout" "com/example/matins/matins/engine/PoolLayout" "top" "I" from Or.inr (hw _ (List.mem_of_getElem? (i := 26) rfl))) (by decide) (t := (.array .long)) (t' := .int) (by decide) (by decide)))
  have F28 : Arv Z h25 b kb .int (Int32.ofNat es.length) (own_li es) (.int 0) := F18.other W25 (Ne.symm nob)
  have F29 : Exa Z h25 b "[I" := Exa.wr W25 F19
  have F30 : Arv Z h25 cx kb .int (Int32.ofNat es.length) (own_li es) (.int 0) := F20.other W25 (Ne.symm ne3)
  have F31 : Exa Z h25 cx "[I" := Exa.wr W25 F21
  have Z32 : n0 ≤ h25.size := Nat.le_trans Z22 (Nat.le_of_eq W25.size.symm)
  have N33 := Fr.snoc X25 N23 go
  have P34 := P24.wr W25 (Or.inl (List.mem_of_getElem? (i := 0) rfl))
  refine ow_aloadN K X25 (pc' := 117) o d4_116 rfl rfl ?_
  refine ow_aloadN K X25 (pc' := 118) b d4_117 rfl rfl ?_
  refine ow_len K X25 (pc' := 119) e25 F28 d4_118 rfl ?_
  refine ow_newP K X25 (pc' := 121) e25 (hw _ (List.mem_of_getElem? (i := 27) rfl)) (own_nn8 h8) 8 (by rw [own_clamp8 h8]; exact h8) (by decide) (by decide) (by decide) d4_119 rfl ?_
  intro T35 h35 k35 f1 X35 e35 E35 g35 A35
  have ne36 : o ≠ f1 := ow_ne A25.lt g35
  have ne37 : b ≠ f1 := ow_ne F28.lt g35
  have ne38 : cx ≠ f1 := ow_ne F30.lt g35
  have ge39 : n0 ≤ f1 := Nat.le_trans Z32 (Nat.le_of_eq g35.symm)
  have F40 : Exa Z h35 o "com/example/matins/matins/engine/PoolLayout" := A25.ext E35
  have F41 : Fld Z h35 o "com/example/matins/matins/engine/PoolLayout" "exponents" "[I" (.ref cx) := F26.ext E35
  have F42 : Fld Z h35 o "com/example/matins/matins/engine/PoolLayout" "top" "I" (.int (Int32.ofNat (es.length - 1))) := F25.ext E35
  have F43 : Fld Z h35 o "com/example/matins/matins/engine/PoolLayout" "firstPostings" "[J" (.null) := F27.ext E35
  have F44 : Arv Z h35 b kb .int (Int32.ofNat es.length) (own_li es) (.int 0) := F28.ext E35
  have F45 : Exa Z h35 b "[I" := F29.ext E35
  have F46 : Arv Z h35 cx kb .int (Int32.ofNat es.length) (own_li es) (.int 0) := F30.ext E35
  have F47 : Exa Z h35 cx "[I" := F31.ext E35
  have Z48 : n0 ≤ h35.size := Nat.le_trans Z32 E35.1
  have P49 := P34.ext E35
  have F50 : Arv Z h35 f1 k35 .long (Int32.ofNat es.length) [] (.long 0) := A35
  refine ow_putF K X35 (pc' := 124) e35 (.array .long) (hw _ (List.mem_of_getElem? (i := 28) rfl)) F43 F40 (Or.inr ⟨(hw _ (List.mem_of_getElem? (i := 29) rfl)), rfl, rfl⟩) (hw _ (List.mem_of_getElem? (i := 6) rfl)) (by decide) rfl rfl d4_121 rfl ?_
  intro T51 h51 X51 e51 W51 F51 A51
  have F52 : Fld Z h51 o "com/example/matins/matins/engine/PoolLayout" "exponents" "[I" (.ref cx) := Fld.other W51 F41 (Or.inr (slot_ne (show Laid Z a0 "com/example/matins/matins/engine/PoolLayout" "com/example/matins/matins/engine/PoolLayout" "exponents" "[I" from Or.inr (hw _ (List.mem_of_getElem? (i := 24) rfl))) (show Laid Z a0 "com/example/matins/matins/engine/PoolLayout" "com/example/matins/matins/engine/PoolLayout" "firstPostings" "[J" from Or.inr (hw _ (List.mem_of_getElem? (i := 29) rfl))) (by decide) (t := (.array .int)) (t' := (.array .long)) (by decide) (by decide)))
  have F53 : Fld Z h51 o "com/example/matins/matins/engine/PoolLayout" "top" "I" (.int (Int32.ofNat (es.length - 1))) := Fld.other W51 F42 (Or.inr (slot_ne (show Laid Z a0 "com/example/matins/matins/engine/PoolLayout" "com/example/matins/matins/engine/PoolLayout" "top" "I" from Or.inr (hw _ (List.mem_of_getElem? (i := 26) rfl))) (show Laid Z a0 "com/example/matins/matins/engine/PoolLayout" "com/example/matins/matins/engine/PoolLayout" "firstPostings" "[J" from Or.inr (hw _ (List.mem_of_getElem? (i := 29) rfl))) (by decide) (t := .int) (t' := (.array .long)) (by decide) (by decide)))
  have F54 : Arv Z h51 b kb .int (Int32.ofNat es.length) (own_li es) (.int 0) := F44.other W51 (Ne.symm nob)
  have F55 : Exa Z h51 b "[I" := Exa.wr W51 F45
  have F56 : Arv Z h51 cx kb .int (Int32.ofNat es.length) (own_li es) (.int 0) := F46.other W51 (Ne.symm ne3)
  have F57 : Exa Z h51 cx "[I" := Exa.wr W51 F47
  have F58 : Arv Z h51 f1 k35 .long (Int32.ofNat es.length) [] (.long 0) := F50.other W51 (Ne.symm ne36)
  have Z59 : n0 ≤ h51.size := Nat.le_trans Z48 (Nat.le_of_eq W51.size.symm)
  have N60 := Fr.snoc X51 N33 go
  have P61 := P49.wr W51 (Or.inl (List.mem_of_getElem? (i := 0) rfl))
  refine ow_iconst K X51 (pc' := 125) (1 : Int32) d4_124 rfl (by decide) ?_
  refine ow_istoreN K X51 (pc' := 126) (Ls' := #[.val (.ref o), .val (.ref b), .val (.int (1 : Int32)), .val (.int (1 : Int32)), .val (.int w')]) d4_125 rfl rfl ?_
  have AF0 : Arv Z h51 f1 k35 .long (Int32.ofNat es.length) (own_fpl es (0 + 1)) (.long 0) := Arv.pad F58 (own_fpl1 es)
  refine lpF (tp := Int32.ofNat (es.length - 1)) hw K hS (by decide) (by decide) (by decide) (by decide) ge39 ne36 ne37 ne38 (Nat.le_trans P34.1 (Nat.le_of_eq g35.symm)) ?_ (es.length - 1) 0 _ _ _ (by omega) X51 e51 N60 Z59 A51 F52 F53 F51 F54 F56 AF0 P61
  intro T9 locs9 h9 X9 e9 N9 Z9 E9 FX9 FT9 FP9 FB9 AX9 AF9 P9
  refine ow_ret K X9 rfl d4_161 ?_ (by decide) (by decide)
  rw [e9]
  exact ⟨rfl, N9, Z9, P9, cx, f1, kb, k35, E9, FX9, FT9, FP9, AX9, AF9⟩
theorem d5_0 : decode prog_54_method_10_code 0 = .ok (.iconst 0, 1) := by decide +kernel
theorem d5_1 : decode prog_54_method_10_code 1 = .ok (.istore_n 3, 1) := by decide +kernel
theorem d5_2 : decode prog_54_method_10_code 2 = .ok (.iload_n 3, 1) := by decide +kernel
theorem d5_3 : decode prog_54_method_10_code 3 = .ok (.aload_n 0, 1) := by decide +kernel
theorem d5_4 : decode prog_54_method_10_code 4 = .ok (.getfield 33, 3) := by decide +kernel
theorem d5_7 : decode prog_54_method_10_code 7 = .ok (.if_icmp .ge 22, 3) := by decide +kernel
theorem d5_10 : decode prog_54_method_10_code 10 = .ok (.lload_n 1, 1) := by decide +kernel
theorem d5_11 : decode prog_54_method_10_code 11 = .ok (.aload_n 0, 1) := by decide +kernel
theorem d5_12 : decode prog_54_method_10_code 12 = .ok (.getfield 37, 3) := by decide +kernel
theorem d5_15 : decode prog_54_method_10_code 15 = .ok (.iload_n 3, 1) := by decide +kernel
theorem d5_16 : decode prog_54_method_10_code 16 = .ok (.iconst 1, 1) := by decide +kernel
theorem d5_17 : decode prog_54_method_10_code 17 = .ok (.iadd, 1) := by decide +kernel
theorem d5_18 : decode prog_54_method_10_code 18 = .ok (.laload, 1) := by decide +kernel
theorem d5_19 : decode prog_54_method_10_code 19 = .ok (.lcmp, 1) := by decide +kernel
theorem d5_20 : decode prog_54_method_10_code 20 = .ok (.ifCond .lt 9, 3) := by decide +kernel
theorem d5_23 : decode prog_54_method_10_code 23 = .ok (.iinc 3 1, 3) := by decide +kernel
theorem d5_26 : decode prog_54_method_10_code 26 = .ok (.goto (-24), 3) := by decide +kernel
theorem d5_29 : decode prog_54_method_10_code 29 = .ok (.iload_n 3, 1) := by decide +kernel
theorem d5_30 : decode prog_54_method_10_code 30 = .ok (.ireturn, 1) := by decide +kernel
set_option maxRecDepth 65536 in
set_option maxHeartbeats 40000000 in
theorem lpP {p : Program} {l : Launch} {e : Env} {R : Room} {s : State} {m : MethodId} {args : Array Value} {below : List Frame} {meth : Method} {c : Code} {locs : List Loc}  {Z : State}  {a0 : Array Value} (hw : ∀ d ∈ tables_1, d.before a0 Z = true) {n0 : Nat} {h : Heap} {o f : Addr} {kf : ClassId} {es : List Nat} {q : Int64} (N0 : Fr n0 locs) (hS : own_St es 13) (FT : Fld Z h o "com/example/matins/matins/engine/PoolLayout" "top" "I" (.int (Int32.ofNat (es.length - 1)))) (FP : Fld Z h o "com/example/matins/matins/engine/PoolLayout" "firstPostings" "[J" (.ref f)) (AF : Arv Z h f kf .long (Int32.ofNat es.length) (own_fpl es es.length) (.long 0)) (d : Nat) :
    ∀ (i : Nat) (T : State), i + d + 1 = es.length → ow_K p e below s m meth c Z "com/example/matins/matins/engine/PoolLayout" prog_54_method_10_code 4 (some .int) "poolOf" (ow_Gl p e below s (fun (v : Option Value) (hh : Heap) (L : List Loc) => v = some (.int (Int32.ofNat (own_pool es q d i))) ∧ Fr n0 L ∧ hh = h) 0 0) → Stand p l e R s m args below meth c T locs 0 0 → T.heap = h → ow_Gl p e below s (fun (v : Option Value) (hh : Heap) (L : List Loc) => v = some (.int (Int32.ofNat (own_pool es q d i))) ∧ Fr n0 L ∧ hh = h) 0 0 (T.setTop (mkF m 2 #[.val (.ref o), .val (.long q), .second, .val (.int (Int32.ofNat i))] [])) := by
  have h8 := hS.1
  induction d with
  | zero =>
    intro i T hi K X0 e0
    refine ow_iloadN K X0 (pc' := 3) (Int32.ofNat i) d5_2 rfl rfl ?_
    refine ow_aloadN K X0 (pc' := 4) o d5_3 rfl rfl ?_
    refine ow_getF K X0 (pc' := 7) e0 (hw _ (List.mem_of_getElem? (i := 25) rfl)) FT d5_4 rfl ?_
    intro T1 X1 e1
    refine ow_icmpY K X1 (pc' := 29) d5_7 (XT.ii_ge_t (own_gen (by omega) (by omega))) (by decide) (by decide) ?_
    refine ow_iloadN K X1 (pc' := 30) (Int32.ofNat i) d5_29 rfl rfl ?_
    exact ow_retI K X1 .int rfl rfl (Or.inl rfl) d5_30 ⟨rfl, N0, e1⟩ (by decide) (by decide)
  | succ d ih =>
    intro i T hi K X0 e0
    refine ow_iloadN K X0 (pc' := 3) (Int32.ofNat i) d5_2 rfl rfl ?_
    refine ow_aloadN K X0 (pc' := 4) o d5_3 rfl rfl ?_
    refine ow_getF K X0 (pc' := 7) e0 (hw _ (List.mem_of_getElem? (i := 25) rfl)) FT d5_4 rfl ?_
    intro T2 X2 e2
    refine ow_icmpN K X2 (pc' := 10) d5_7 rfl (XT.ii_ge_f (own_ltn (by omega) (by omega))) ?_
    refine ow_lloadN K X2 (pc' := 11) q d5_10 rfl rfl ?_
    refine ow_aloadN K X2 (pc' := 12) o d5_11 rfl rfl ?_
    refine ow_getF K X2 (pc' := 15) e2 (hw _ (List.mem_of_getElem? (i := 28) rfl)) FP d5_12 rfl ?_
    intro T3 X3 e3
    refine ow_iloadN K X3 (pc' := 16) (Int32.ofNat i) d5_15 rfl rfl ?_
    refine ow_iconst K X3 (pc' := 17) (1 : Int32) d5_16 rfl (by decide) ?_
    refine ow_iadd K X3 (pc' := 18) (Int32.ofNat (i + 1)) d5_17 rfl (own_succ (by omega)) ?_
    refine ow_laload K X3 (pc' := 19) e3 AF (i + 1) (.long (Int64.ofNat (own_F es (i + 1)))) (ow_ix_nat (by omega)) (by rw [own_clamp8 h8]; omega) (own_fpl_at (by omega)) d5_18 rfl ?_
    refine ow_lcmp K X3 (pc' := 20) (XT.cmpL q (Int64.ofNat (own_F es (i + 1)))) d5_19 rfl rfl ?_
    by_cases hc : q < (Int64.ofNat (own_F es (i + 1)))
    · refine ow_ifY K X3 (pc' := 29) d5_20 (XT.ll_lt_t hc) (by decide) (by decide) ?_
      refine ow_iloadN K X3 (pc' := 30) (Int32.ofNat i) d5_29 rfl rfl ?_
      exact ow_retI K X3 .int rfl rfl (Or.inl rfl) d5_30 ⟨by rw [own_pool, if_pos hc], N0, e3⟩ (by decide) (by decide)
    · refine ow_ifN K X3 (pc' := 23) d5_20 rfl (XT.ll_lt_f hc) ?_
      refine ow_iinc K X3 (pc' := 26) (Ls' := #[.val (.ref o), .val (.long q), .second, .val (.int (Int32.ofNat (i + 1)))]) (1 : Int32) (Int32.ofNat (i + 1)) d5_23 rfl (by decide) rfl (own_succ (by omega)) rfl ?_
      refine ow_goto K X3 (pc' := 2) d5_26 (by decide) (by decide) ?_
      have eq : own_pool es q (d + 1) i = own_pool es q d (i + 1) := by rw [own_pool, if_neg hc]
      rw [eq] at K ⊢
      exact ih (i + 1) _ (by omega) K X3 e3
theorem pn_5 : plainFor (⟨"com/example/matins/matins/engine/PoolLayout", "poolOf", "(J)I"⟩ : MethodName) = true := by first | exact plainFor_of_name (by first | (simp [plainName, overriddenIn]; done) | decide +kernel) | decide +kernel
theorem pd_5 : parseMethodDescriptor "(J)I" = some ⟨[.long], some .int⟩ := by decide +kernel
theorem ef_5 (m : MethodId) (o : Addr) (q : Int64) : entryFrame m #[(.ref o), (.long q)] 4 = mkF m 0 #[.val (.ref o), .val (.long q), .second, .unset] [] := by first | (simp [entryFrame, mkF, argsToLocals, Value.category]; done) | rfl
def Q5 (Z : State) (o : Addr) (q : Int64) (f : Addr) (kf : ClassId) (es : List Nat) (h0 : Heap) (n0 : Nat) (v : Option Value) (h : Heap) (L : List Loc) : Prop := v = some (.int (Int32.ofNat (own_pool es q (es.length - 1) 0))) ∧ Fr n0 L ∧ h = h0
set_option maxRecDepth 65536 in
set_option maxHeartbeats 40000000 in
theorem rm5 (l : Launch) (Z : State) (a0 : Array Value) (hw : ∀ d ∈ tables_1, d.before a0 Z = true) (ws : List Jvm.Cond) (o : Addr) (q : Int64) (f : Addr) (kf : ClassId) (es : List Nat) (h0 : Heap) (n0 : Nat) (Z0 : n0 ≤ h0.size) (FT : Fld Z h0 o "com/example/matins/matins/engine/PoolLayout" "top" "I" (.int (Int32.ofNat (es.length - 1)))) (FP : Fld Z h0 o "com/example/matins/matins/engine/PoolLayout" "firstPostings" "[J" (.ref f)) (AF : Arv Z h0 f kf .long (Int32.ofNat es.length) (own_fpl es es.length) (.long 0)) (hS : own_St es 13) (h2 : 2 ≤ es.length) :
    MetFree l (⟨"com/example/matins/matins/engine/PoolLayout", "poolOf", "(J)I"⟩ : MethodName) (head1 (Jvm.Cond.code (⟨"com/example/matins/matins/engine/PoolLayout", "poolOf", "(J)I"⟩ : MethodName) prog_54_method_10_code 4 (some .int) :: ws) ({ frames := 0, cells := 0, slots := 0, locals := 0 } : Room)) (fun as_ U => as_ = #[(.ref o), (.long q)] ∧ Z.Warmed39 U.vm ∧ U.heap = h0) (fun _ _ _ _ _ => True) (fun _ U oc U' => ∃ v L, oc = .returned v ∧ Q5 Z o q f kf es h0 n0 v U'.heap L ∧ FrameEnd U oc U' L ({ frames := 0, cells := 0, slots := 0, locals := 0 } : Room).cells ({ frames := 0, cells := 0, slots := 0, locals := 0 } : Room).slots) := by
  refine MetFree.of_bodySF pn_5 hisR ?_
  intro p e s m args below meth c s₁ Bd hml0 hP hK
  obtain ⟨rfl, hZ, hh⟩ := hP
  have K : ow_K p e below s m meth c Z "com/example/matins/matins/engine/PoolLayout" prog_54_method_10_code 4 (some .int) "poolOf" (ow_Gl p e below s (Q5 Z o q f kf es h0 n0) 0 0) := ⟨ow_Gl_bc, Bd.exec, Bd.bytes, hml0, findClass_of_methodNamed Bd.named, hZ, Bd.returns, Bd.notSynchronized, (name_of_methodNamed Bd.named Bd.method).1⟩
  have X0 : Stand p l e ({ frames := 0, cells := 0, slots := 0, locals := 0 } : Room) s m #[(.ref o), (.long q)] below meth c s₁ [] 0 0 := Stand.of_body Bd
  have e0 : s₁.heap = h0 := by rw [← hh, Bd.state]; rfl
  have N0 := Fr.nil n0
  refine ow_entry (Q := (Q5 Z o q f kf es h0 n0)) (ce := 0) (sl := 0) (ef_5 m o q) ?_
  refine ow_iconst K X0 (pc' := 1) (0 : Int32) d5_0 rfl (by decide) ?_
  refine ow_istoreN K X0 (pc' := 2) (Ls' := #[.val (.ref o), .val (.long q), .second, .val (.int (0 : Int32))]) d5_1 rfl rfl ?_
  exact lpP hw N0 hS FT FP AF (es.length - 1) 0 _ (by omega) K X0 e0
def Q0 (n0 : Nat) (v : Option Value) (h : Heap) (L : List Loc) : Prop := v = some (.int 1) ∧ Fr n0 L
set_option maxRecDepth 65536 in
set_option maxHeartbeats 40000000 in
theorem b0 {p : Program} {l : Launch} {e : Env} {s : State} {m : MethodId} {args : Array Value} {below : List Frame} {meth : Method} {c : Code} {T : State} {locs : List Loc} {Z : State} {h : Heap} {a0 : Array Value} (hw : ∀ d ∈ tables_1, d.before a0 Z = true) {n0 : Nat} {q0 q2 : Int32} {q1 : Int64} {a : Addr} {k : ClassId} {es : List Nat} (K : ow_K p e below s m meth c Z "com/example/matins/matins/engine/PoolLayoutPoolOfPinLaw" code 25 (some .boolean) "law" (ow_Gl p e below s (Q0 n0) 5 35)) (X0 : Stand p l e room_1 s m args below meth c T locs 1 8) (e0 : T.heap = h) (N0 : Fr n0 locs) (Z0 : n0 ≤ h.size) (ga : n0 ≤ a) (F : Arv Z h a k .int (8 : Int32) (own_li es) (.int 0)) (hS : own_St es 0)
    (hk : ∀ T' locs' h' es', Stand p l e room_1 s m args below meth c T' locs' 1 8 → T'.heap = h' → Fr n0 locs' → n0 ≤ h'.size → Arv Z h' a k .int (8 : Int32) (own_li es') (.int 0) → own_St es' 1 → ow_Gl p e below s (Q0 n0) 5 35 (T'.setTop (mkF m 31 #[.val (.int q0), .val (.long q1), .second, .val (.int q2), .val (.ref a), .val (.int (Int32.ofNat es'.length)), .unset, .unset, .unset, .unset, .unset, .unset, .unset, .unset, .unset, .unset, .unset, .unset, .unset, .unset, .unset, .unset, .unset, .unset, .unset] []))) :
    ow_Gl p e below s (Q0 n0) 5 35 (T.setTop (mkF m 9 #[.val (.int q0), .val (.long q1), .second, .val (.int q2), .val (.ref a), .val (.int (Int32.ofNat es.length)), .unset, .unset, .unset, .unset, .unset, .unset, .unset, .unset, .unset, .unset, .unset, .unset, .unset, .unset, .unset, .unset, .unset, .unset, .unset] [])) := by
  have h8 := hS.1
  refine ow_iloadN K X0 (pc' := 10) q0 at_9 rfl rfl ?_
  refine ow_iconst K X0 (pc' := 11) (1 : Int32) at_10 rfl (by decide) ?_
  refine ow_iand K X0 (pc' := 12) (q0 &&& (1 : Int32)) at_11 rfl rfl ?_
  by_cases hz : (q0 &&& (1 : Int32)) = 0
  · refine ow_ifY K X0 (pc' := 31) at_12 (XT.i0_eq_t hz) (by decide) (by decide) ?_
    exact hk _ _ _ _ X0 e0 N0 Z0 F hS.up
  · refine ow_ifN K X0 (pc' := 15) at_12 rfl (XT.i0_eq_f hz) ?_
    refine ow_iload K X0 (pc' := 17) (Int32.ofNat es.length) at_15 rfl rfl ?_
    refine ow_bipush K X0 (pc' := 19) (8 : Int32) at_17 rfl (by decide) ?_
    by_cases hq : (Int32.ofNat es.length) < (8 : Int32)
    · refine ow_icmpN K X0 (pc' := 22) at_19 rfl (XT.ii_ge_f hq) ?_
      have hlt : es.length < 8 := own_lt8 (by omega) (by decide) hq
      refine ow_aload K X0 (pc' := 24) a at_22 rfl rfl ?_
      refine ow_iload K X0 (pc' := 26) (Int32.ofNat es.length) at_24 rfl rfl ?_
      refine ow_iconst K X0 (pc' := 27) (0 : Int32) at_26 rfl (by decide) ?_
      have F2 : Arv Z h a k .int (8 : Int32) (own_li es ++ [Value.int 0]) (.int 0) := Arv.pad F (pad_rep _ (.int 0) 1)
      refine ow_iastore K X0 (pc' := 28) e0 F2 es.length (own_li (es ++ [0])) (ow_ix_nat (by omega)) (by show es.length < 8; omega) (by rw [List.length_append, own_li_len]; exact Nat.lt_succ_self _) (own_li_app es 0) at_27 rfl ?_
      intro T1 h1 X1 e1 W1 F1
      have Z2 : n0 ≤ h1.size := Nat.le_trans Z0 (Nat.le_of_eq W1.size.symm)
      have N3 := Fr.snoc X1 N0 ga
      refine ow_iinc K X1 (pc' := 31) (Ls' := #[.val (.int q0), .val (.long q1), .second, .val (.int q2), .val (.ref a), .val (.int (Int32.ofNat (es ++ [0]).length)), .unset, .unset, .unset, .unset, .unset, .unset, .unset, .unset, .unset, .unset, .unset, .unset, .unset, .unset, .unset, .unset, .unset, .unset, .unset]) (1 : Int32) (Int32.ofNat (es ++ [0]).length) at_28 rfl (by decide) rfl (own_len1 0 hlt) rfl ?_
      exact hk _ _ _ _ X1 e1 N3 Z2 F1 (hS.app hlt)
    · refine ow_icmpY K X0 (pc' := 31) at_19 (XT.ii_ge_t hq) (by decide) (by decide) ?_
      exact hk _ _ _ _ X0 e0 N0 Z0 F hS.up
set_option maxRecDepth 65536 in
set_option maxHeartbeats 40000000 in
theorem b1 {p : Program} {l : Launch} {e : Env} {s : State} {m : MethodId} {args : Array Value} {below : List Frame} {meth : Method} {c : Code} {T : State} {locs : List Loc} {Z : State} {h : Heap} {a0 : Array Value} (hw : ∀ d ∈ tables_1, d.before a0 Z = true) {n0 : Nat} {q0 q2 : Int32} {q1 : Int64} {a : Addr} {k : ClassId} {es : List Nat} (K : ow_K p e below s m meth c Z "com/example/matins/matins/engine/PoolLayoutPoolOfPinLaw" code 25 (some .boolean) "law" (ow_Gl p e below s (Q0 n0) 5 35)) (X0 : Stand p l e room_1 s m args below meth c T locs 1 8) (e0 : T.heap = h) (N0 : Fr n0 locs) (Z0 : n0 ≤ h.size) (ga : n0 ≤ a) (F : Arv Z h a k .int (8 : Int32) (own_li es) (.int 0)) (hS : own_St es 1)
    (hk : ∀ T' locs' h' es', Stand p l e room_1 s m args below meth c T' locs' 1 8 → T'.heap = h' → Fr n0 locs' → n0 ≤ h'.size → Arv Z h' a k .int (8 : Int32) (own_li es') (.int 0) → own_St es' 2 → ow_Gl p e below s (Q0 n0) 5 35 (T'.setTop (mkF m 53 #[.val (.int q0), .val (.long q1), .second, .val (.int q2), .val (.ref a), .val (.int (Int32.ofNat es'.length)), .unset, .unset, .unset, .unset, .unset, .unset, .unset, .unset, .unset, .unset, .unset, .unset, .unset, .unset, .unset, .unset, .unset, .unset, .unset] []))) :
    ow_Gl p e below s (Q0 n0) 5 35 (T.setTop (mkF m 31 #[.val (.int q0), .val (.long q1), .second, .val (.int q2), .val (.ref a), .val (.int (Int32.ofNat es.length)), .unset, .unset, .unset, .unset, .unset, .unset, .unset, .unset, .unset, .unset, .unset, .unset, .unset, .unset, .unset, .unset, .unset, .unset, .unset] [])) := by
  have h8 := hS.1
  refine ow_iloadN K X0 (pc' := 32) q0 at_31 rfl rfl ?_
  refine ow_iconst K X0 (pc' := 33) (2 : Int32) at_32 rfl (by decide) ?_
  refine ow_iand K X0 (pc' := 34) (q0 &&& (2 : Int32)) at_33 rfl rfl ?_
  by_cases hz : (q0 &&& (2 : Int32)) = 0
  · refine ow_ifY K X0 (pc' := 53) at_34 (XT.i0_eq_t hz) (by decide) (by decide) ?_
    exact hk _ _ _ _ X0 e0 N0 Z0 F hS.up
  · refine ow_ifN K X0 (pc' := 37) at_34 rfl (XT.i0_eq_f hz) ?_
    refine ow_iload K X0 (pc' := 39) (Int32.ofNat es.length) at_37 rfl rfl ?_
    refine ow_bipush K X0 (pc' := 41) (8 : Int32) at_39 rfl (by decide) ?_
    by_cases hq : (Int32.ofNat es.length) < (8 : Int32)
    · refine ow_icmpN K X0 (pc' := 44) at_41 rfl (XT.ii_ge_f hq) ?_
      have hlt : es.length < 8 := own_lt8 (by omega) (by decide) hq
      refine ow_aload K X0 (pc' := 46) a at_44 rfl rfl ?_
      refine ow_iload K X0 (pc' := 48) (Int32.ofNat es.length) at_46 rfl rfl ?_
      refine ow_iconst K X0 (pc' := 49) (1 : Int32) at_48 rfl (by decide) ?_
      have F2 : Arv Z h a k .int (8 : Int32) (own_li es ++ [Value.int 0]) (.int 0) := Arv.pad F (pad_rep _ (.int 0) 1)
      refine ow_iastore K X0 (pc' := 50) e0 F2 es.length (own_li (es ++ [1])) (ow_ix_nat (by omega)) (by show es.length < 8; omega) (by rw [List.length_append, own_li_len]; exact Nat.lt_succ_self _) (own_li_app es 1) at_49 rfl ?_
      intro T1 h1 X1 e1 W1 F1
      have Z2 : n0 ≤ h1.size := Nat.le_trans Z0 (Nat.le_of_eq W1.size.symm)
      have N3 := Fr.snoc X1 N0 ga
      refine ow_iinc K X1 (pc' := 53) (Ls' := #[.val (.int q0), .val (.long q1), .second, .val (.int q2), .val (.ref a), .val (.int (Int32.ofNat (es ++ [1]).length)), .unset, .unset, .unset, .unset, .unset, .unset, .unset, .unset, .unset, .unset, .unset, .unset, .unset, .unset, .unset, .unset, .unset, .unset, .unset]) (1 : Int32) (Int32.ofNat (es ++ [1]).length) at_50 rfl (by decide) rfl (own_len1 1 hlt) rfl ?_
      exact hk _ _ _ _ X1 e1 N3 Z2 F1 (hS.app hlt)
    · refine ow_icmpY K X0 (pc' := 53) at_41 (XT.ii_ge_t hq) (by decide) (by decide) ?_
      exact hk _ _ _ _ X0 e0 N0 Z0 F hS.up
set_option maxRecDepth 65536 in
set_option maxHeartbeats 40000000 in
theorem b2 {p : Program} {l : Launch} {e : Env} {s : State} {m : MethodId} {args : Array Value} {below : List Frame} {meth : Method} {c : Code} {T : State} {locs : List Loc} {Z : State} {h : Heap} {a0 : Array Value} (hw : ∀ d ∈ tables_1, d.before a0 Z = true) {n0 : Nat} {q0 q2 : Int32} {q1 : Int64} {a : Addr} {k : ClassId} {es : List Nat} (K : ow_K p e below s m meth c Z "com/example/matins/matins/engine/PoolLayoutPoolOfPinLaw" code 25 (some .boolean) "law" (ow_Gl p e below s (Q0 n0) 5 35)) (X0 : Stand p l e room_1 s m args below meth c T locs 1 8) (e0 : T.heap = h) (N0 : Fr n0 locs) (Z0 : n0 ≤ h.size) (ga : n0 ≤ a) (F : Arv Z h a k .int (8 : Int32) (own_li es) (.int 0)) (hS : own_St es 2)
    (hk : ∀ T' locs' h' es', Stand p l e room_1 s m args below meth c T' locs' 1 8 → T'.heap = h' → Fr n0 locs' → n0 ≤ h'.size → Arv Z h' a k .int (8 : Int32) (own_li es') (.int 0) → own_St es' 3 → ow_Gl p e below s (Q0 n0) 5 35 (T'.setTop (mkF m 75 #[.val (.int q0), .val (.long q1), .second, .val (.int q2), .val (.ref a), .val (.int (Int32.ofNat es'.length)), .unset, .unset, .unset, .unset, .unset, .unset, .unset, .unset, .unset, .unset, .unset, .unset, .unset, .unset, .unset, .unset, .unset, .unset, .unset] []))) :
    ow_Gl p e below s (Q0 n0) 5 35 (T.setTop (mkF m 53 #[.val (.int q0), .val (.long q1), .second, .val (.int q2), .val (.ref a), .val (.int (Int32.ofNat es.length)), .unset, .unset, .unset, .unset, .unset, .unset, .unset, .unset, .unset, .unset, .unset, .unset, .unset, .unset, .unset, .unset, .unset, .unset, .unset] [])) := by
  have h8 := hS.1
  refine ow_iloadN K X0 (pc' := 54) q0 at_53 rfl rfl ?_
  refine ow_iconst K X0 (pc' := 55) (4 : Int32) at_54 rfl (by decide) ?_
  refine ow_iand K X0 (pc' := 56) (q0 &&& (4 : Int32)) at_55 rfl rfl ?_
  by_cases hz : (q0 &&& (4 : Int32)) = 0
  · refine ow_ifY K X0 (pc' := 75) at_56 (XT.i0_eq_t hz) (by decide) (by decide) ?_
    exact hk _ _ _ _ X0 e0 N0 Z0 F hS.up
  · refine ow_ifN K X0 (pc' := 59) at_56 rfl (XT.i0_eq_f hz) ?_
    refine ow_iload K X0 (pc' := 61) (Int32.ofNat es.length) at_59 rfl rfl ?_
    refine ow_bipush K X0 (pc' := 63) (8 : Int32) at_61 rfl (by decide) ?_
    by_cases hq : (Int32.ofNat es.length) < (8 : Int32)
    · refine ow_icmpN K X0 (pc' := 66) at_63 rfl (XT.ii_ge_f hq) ?_
      have hlt : es.length < 8 := own_lt8 (by omega) (by decide) hq
      refine ow_aload K X0 (pc' := 68) a at_66 rfl rfl ?_
      refine ow_iload K X0 (pc' := 70) (Int32.ofNat es.length) at_68 rfl rfl ?_
      refine ow_iconst K X0 (pc' := 71) (2 : Int32) at_70 rfl (by decide) ?_
      have F2 : Arv Z h a k .int (8 : Int32) (own_li es ++ [Value.int 0]) (.int 0) := Arv.pad F (pad_rep _ (.int 0) 1)
      refine ow_iastore K X0 (pc' := 72) e0 F2 es.length (own_li (es ++ [2])) (ow_ix_nat (by omega)) (by show es.length < 8; omega) (by rw [List.length_append, own_li_len]; exact Nat.lt_succ_self _) (own_li_app es 2) at_71 rfl ?_
      intro T1 h1 X1 e1 W1 F1
      have Z2 : n0 ≤ h1.size := Nat.le_trans Z0 (Nat.le_of_eq W1.size.symm)
      have N3 := Fr.snoc X1 N0 ga
      refine ow_iinc K X1 (pc' := 75) (Ls' := #[.val (.int q0), .val (.long q1), .second, .val (.int q2), .val (.ref a), .val (.int (Int32.ofNat (es ++ [2]).length)), .unset, .unset, .unset, .unset, .unset, .unset, .unset, .unset, .unset, .unset, .unset, .unset, .unset, .unset, .unset, .unset, .unset, .unset, .unset]) (1 : Int32) (Int32.ofNat (es ++ [2]).length) at_72 rfl (by decide) rfl (own_len1 2 hlt) rfl ?_
      exact hk _ _ _ _ X1 e1 N3 Z2 F1 (hS.app hlt)
    · refine ow_icmpY K X0 (pc' := 75) at_63 (XT.ii_ge_t hq) (by decide) (by decide) ?_
      exact hk _ _ _ _ X0 e0 N0 Z0 F hS.up
set_option maxRecDepth 65536 in
set_option maxHeartbeats 40000000 in
theorem b3 {p : Program} {l : Launch} {e : Env} {s : State} {m : MethodId} {args : Array Value} {below : List Frame} {meth : Method} {c : Code} {T : State} {locs : List Loc} {Z : State} {h : Heap} {a0 : Array Value} (hw : ∀ d ∈ tables_1, d.before a0 Z = true) {n0 : Nat} {q0 q2 : Int32} {q1 : Int64} {a : Addr} {k : ClassId} {es : List Nat} (K : ow_K p e below s m meth c Z "com/example/matins/matins/engine/PoolLayoutPoolOfPinLaw" code 25 (some .boolean) "law" (ow_Gl p e below s (Q0 n0) 5 35)) (X0 : Stand p l e room_1 s m args below meth c T locs 1 8) (e0 : T.heap = h) (N0 : Fr n0 locs) (Z0 : n0 ≤ h.size) (ga : n0 ≤ a) (F : Arv Z h a k .int (8 : Int32) (own_li es) (.int 0)) (hS : own_St es 3)
    (hk : ∀ T' locs' h' es', Stand p l e room_1 s m args below meth c T' locs' 1 8 → T'.heap = h' → Fr n0 locs' → n0 ≤ h'.size → Arv Z h' a k .int (8 : Int32) (own_li es') (.int 0) → own_St es' 4 → ow_Gl p e below s (Q0 n0) 5 35 (T'.setTop (mkF m 98 #[.val (.int q0), .val (.long q1), .second, .val (.int q2), .val (.ref a), .val (.int (Int32.ofNat es'.length)), .unset, .unset, .unset, .unset, .unset, .unset, .unset, .unset, .unset, .unset, .unset, .unset, .unset, .unset, .unset, .unset, .unset, .unset, .unset] []))) :
    ow_Gl p e below s (Q0 n0) 5 35 (T.setTop (mkF m 75 #[.val (.int q0), .val (.long q1), .second, .val (.int q2), .val (.ref a), .val (.int (Int32.ofNat es.length)), .unset, .unset, .unset, .unset, .unset, .unset, .unset, .unset, .unset, .unset, .unset, .unset, .unset, .unset, .unset, .unset, .unset, .unset, .unset] [])) := by
  have h8 := hS.1
  refine ow_iloadN K X0 (pc' := 76) q0 at_75 rfl rfl ?_
  refine ow_bipush K X0 (pc' := 78) (8 : Int32) at_76 rfl (by decide) ?_
  refine ow_iand K X0 (pc' := 79) (q0 &&& (8 : Int32)) at_78 rfl rfl ?_
  by_cases hz : (q0 &&& (8 : Int32)) = 0
  · refine ow_ifY K X0 (pc' := 98) at_79 (XT.i0_eq_t hz) (by decide) (by decide) ?_
    exact hk _ _ _ _ X0 e0 N0 Z0 F hS.up
  · refine ow_ifN K X0 (pc' := 82) at_79 rfl (XT.i0_eq_f hz) ?_
    refine ow_iload K X0 (pc' := 84) (Int32.ofNat es.length) at_82 rfl rfl ?_
    refine ow_bipush K X0 (pc' := 86) (8 : Int32) at_84 rfl (by decide) ?_
    by_cases hq : (Int32.ofNat es.length) < (8 : Int32)
    · refine ow_icmpN K X0 (pc' := 89) at_86 rfl (XT.ii_ge_f hq) ?_
      have hlt : es.length < 8 := own_lt8 (by omega) (by decide) hq
      refine ow_aload K X0 (pc' := 91) a at_89 rfl rfl ?_
      refine ow_iload K X0 (pc' := 93) (Int32.ofNat es.length) at_91 rfl rfl ?_
      refine ow_iconst K X0 (pc' := 94) (3 : Int32) at_93 rfl (by decide) ?_
      have F2 : Arv Z h a k .int (8 : Int32) (own_li es ++ [Value.int 0]) (.int 0) := Arv.pad F (pad_rep _ (.int 0) 1)
      refine ow_iastore K X0 (pc' := 95) e0 F2 es.length (own_li (es ++ [3])) (ow_ix_nat (by omega)) (by show es.length < 8; omega) (by rw [List.length_append, own_li_len]; exact Nat.lt_succ_self _) (own_li_app es 3) at_94 rfl ?_
      intro T1 h1 X1 e1 W1 F1
      have Z2 : n0 ≤ h1.size := Nat.le_trans Z0 (Nat.le_of_eq W1.size.symm)
      have N3 := Fr.snoc X1 N0 ga
      refine ow_iinc K X1 (pc' := 98) (Ls' := #[.val (.int q0), .val (.long q1), .second, .val (.int q2), .val (.ref a), .val (.int (Int32.ofNat (es ++ [3]).length)), .unset, .unset, .unset, .unset, .unset, .unset, .unset, .unset, .unset, .unset, .unset, .unset, .unset, .unset, .unset, .unset, .unset, .unset, .unset]) (1 : Int32) (Int32.ofNat (es ++ [3]).length) at_95 rfl (by decide) rfl (own_len1 3 hlt) rfl ?_
      exact hk _ _ _ _ X1 e1 N3 Z2 F1 (hS.app hlt)
    · refine ow_icmpY K X0 (pc' := 98) at_86 (XT.ii_ge_t hq) (by decide) (by decide) ?_
      exact hk _ _ _ _ X0 e0 N0 Z0 F hS.up
set_option maxRecDepth 65536 in
set_option maxHeartbeats 40000000 in
theorem b4 {p : Program} {l : Launch} {e : Env} {s : State} {m : MethodId} {args : Array Value} {below : List Frame} {meth : Method} {c : Code} {T : State} {locs : List Loc} {Z : State} {h : Heap} {a0 : Array Value} (hw : ∀ d ∈ tables_1, d.before a0 Z = true) {n0 : Nat} {q0 q2 : Int32} {q1 : Int64} {a : Addr} {k : ClassId} {es : List Nat} (K : ow_K p e below s m meth c Z "com/example/matins/matins/engine/PoolLayoutPoolOfPinLaw" code 25 (some .boolean) "law" (ow_Gl p e below s (Q0 n0) 5 35)) (X0 : Stand p l e room_1 s m args below meth c T locs 1 8) (e0 : T.heap = h) (N0 : Fr n0 locs) (Z0 : n0 ≤ h.size) (ga : n0 ≤ a) (F : Arv Z h a k .int (8 : Int32) (own_li es) (.int 0)) (hS : own_St es 4)
    (hk : ∀ T' locs' h' es', Stand p l e room_1 s m args below meth c T' locs' 1 8 → T'.heap = h' → Fr n0 locs' → n0 ≤ h'.size → Arv Z h' a k .int (8 : Int32) (own_li es') (.int 0) → own_St es' 5 → ow_Gl p e below s (Q0 n0) 5 35 (T'.setTop (mkF m 121 #[.val (.int q0), .val (.long q1), .second, .val (.int q2), .val (.ref a), .val (.int (Int32.ofNat es'.length)), .unset, .unset, .unset, .unset, .unset, .unset, .unset, .unset, .unset, .unset, .unset, .unset, .unset, .unset, .unset, .unset, .unset, .unset, .unset] []))) :
    ow_Gl p e below s (Q0 n0) 5 35 (T.setTop (mkF m 98 #[.val (.int q0), .val (.long q1), .second, .val (.int q2), .val (.ref a), .val (.int (Int32.ofNat es.length)), .unset, .unset, .unset, .unset, .unset, .unset, .unset, .unset, .unset, .unset, .unset, .unset, .unset, .unset, .unset, .unset, .unset, .unset, .unset] [])) := by
  have h8 := hS.1
  refine ow_iloadN K X0 (pc' := 99) q0 at_98 rfl rfl ?_
  refine ow_bipush K X0 (pc' := 101) (16 : Int32) at_99 rfl (by decide) ?_
  refine ow_iand K X0 (pc' := 102) (q0 &&& (16 : Int32)) at_101 rfl rfl ?_
  by_cases hz : (q0 &&& (16 : Int32)) = 0
  · refine ow_ifY K X0 (pc' := 121) at_102 (XT.i0_eq_t hz) (by decide) (by decide) ?_
    exact hk _ _ _ _ X0 e0 N0 Z0 F hS.up
  · refine ow_ifN K X0 (pc' := 105) at_102 rfl (XT.i0_eq_f hz) ?_
    refine ow_iload K X0 (pc' := 107) (Int32.ofNat es.length) at_105 rfl rfl ?_
    refine ow_bipush K X0 (pc' := 109) (8 : Int32) at_107 rfl (by decide) ?_
    by_cases hq : (Int32.ofNat es.length) < (8 : Int32)
    · refine ow_icmpN K X0 (pc' := 112) at_109 rfl (XT.ii_ge_f hq) ?_
      have hlt : es.length < 8 := own_lt8 (by omega) (by decide) hq
      refine ow_aload K X0 (pc' := 114) a at_112 rfl rfl ?_
      refine ow_iload K X0 (pc' := 116) (Int32.ofNat es.length) at_114 rfl rfl ?_
      refine ow_iconst K X0 (pc' := 117) (4 : Int32) at_116 rfl (by decide) ?_
      have F2 : Arv Z h a k .int (8 : Int32) (own_li es ++ [Value.int 0]) (.int 0) := Arv.pad F (pad_rep _ (.int 0) 1)
      refine ow_iastore K X0 (pc' := 118) e0 F2 es.length (own_li (es ++ [4])) (ow_ix_nat (by omega)) (by show es.length < 8; omega) (by rw [List.length_append, own_li_len]; exact Nat.lt_succ_self _) (own_li_app es 4) at_117 rfl ?_
      intro T1 h1 X1 e1 W1 F1
      have Z2 : n0 ≤ h1.size := Nat.le_trans Z0 (Nat.le_of_eq W1.size.symm)
      have N3 := Fr.snoc X1 N0 ga
      refine ow_iinc K X1 (pc' := 121) (Ls' := #[.val (.int q0), .val (.long q1), .second, .val (.int q2), .val (.ref a), .val (.int (Int32.ofNat (es ++ [4]).length)), .unset, .unset, .unset, .unset, .unset, .unset, .unset, .unset, .unset, .unset, .unset, .unset, .unset, .unset, .unset, .unset, .unset, .unset, .unset]) (1 : Int32) (Int32.ofNat (es ++ [4]).length) at_118 rfl (by decide) rfl (own_len1 4 hlt) rfl ?_
      exact hk _ _ _ _ X1 e1 N3 Z2 F1 (hS.app hlt)
    · refine ow_icmpY K X0 (pc' := 121) at_109 (XT.ii_ge_t hq) (by decide) (by decide) ?_
      exact hk _ _ _ _ X0 e0 N0 Z0 F hS.up
set_option maxRecDepth 65536 in
set_option maxHeartbeats 40000000 in
theorem b5 {p : Program} {l : Launch} {e : Env} {s : State} {m : MethodId} {args : Array Value} {below : List Frame} {meth : Method} {c : Code} {T : State} {locs : List Loc} {Z : State} {h : Heap} {a0 : Array Value} (hw : ∀ d ∈ tables_1, d.before a0 Z = true) {n0 : Nat} {q0 q2 : Int32} {q1 : Int64} {a : Addr} {k : ClassId} {es : List Nat} (K : ow_K p e below s m meth c Z "com/example/matins/matins/engine/PoolLayoutPoolOfPinLaw" code 25 (some .boolean) "law" (ow_Gl p e below s (Q0 n0) 5 35)) (X0 : Stand p l e room_1 s m args below meth c T locs 1 8) (e0 : T.heap = h) (N0 : Fr n0 locs) (Z0 : n0 ≤ h.size) (ga : n0 ≤ a) (F : Arv Z h a k .int (8 : Int32) (own_li es) (.int 0)) (hS : own_St es 5)
    (hk : ∀ T' locs' h' es', Stand p l e room_1 s m args below meth c T' locs' 1 8 → T'.heap = h' → Fr n0 locs' → n0 ≤ h'.size → Arv Z h' a k .int (8 : Int32) (own_li es') (.int 0) → own_St es' 6 → ow_Gl p e below s (Q0 n0) 5 35 (T'.setTop (mkF m 144 #[.val (.int q0), .val (.long q1), .second, .val (.int q2), .val (.ref a), .val (.int (Int32.ofNat es'.length)), .unset, .unset, .unset, .unset, .unset, .unset, .unset, .unset, .unset, .unset, .unset, .unset, .unset, .unset, .unset, .unset, .unset, .unset, .unset] []))) :
    ow_Gl p e below s (Q0 n0) 5 35 (T.setTop (mkF m 121 #[.val (.int q0), .val (.long q1), .second, .val (.int q2), .val (.ref a), .val (.int (Int32.ofNat es.length)), .unset, .unset, .unset, .unset, .unset, .unset, .unset, .unset, .unset, .unset, .unset, .unset, .unset, .unset, .unset, .unset, .unset, .unset, .unset] [])) := by
  have h8 := hS.1
  refine ow_iloadN K X0 (pc' := 122) q0 at_121 rfl rfl ?_
  refine ow_bipush K X0 (pc' := 124) (32 : Int32) at_122 rfl (by decide) ?_
  refine ow_iand K X0 (pc' := 125) (q0 &&& (32 : Int32)) at_124 rfl rfl ?_
  by_cases hz : (q0 &&& (32 : Int32)) = 0
  · refine ow_ifY K X0 (pc' := 144) at_125 (XT.i0_eq_t hz) (by decide) (by decide) ?_
    exact hk _ _ _ _ X0 e0 N0 Z0 F hS.up
  · refine ow_ifN K X0 (pc' := 128) at_125 rfl (XT.i0_eq_f hz) ?_
    refine ow_iload K X0 (pc' := 130) (Int32.ofNat es.length) at_128 rfl rfl ?_
    refine ow_bipush K X0 (pc' := 132) (8 : Int32) at_130 rfl (by decide) ?_
    by_cases hq : (Int32.ofNat es.length) < (8 : Int32)
    · refine ow_icmpN K X0 (pc' := 135) at_132 rfl (XT.ii_ge_f hq) ?_
      have hlt : es.length < 8 := own_lt8 (by omega) (by decide) hq
      refine ow_aload K X0 (pc' := 137) a at_135 rfl rfl ?_
      refine ow_iload K X0 (pc' := 139) (Int32.ofNat es.length) at_137 rfl rfl ?_
      refine ow_iconst K X0 (pc' := 140) (5 : Int32) at_139 rfl (by decide) ?_
      have F2 : Arv Z h a k .int (8 : Int32) (own_li es ++ [Value.int 0]) (.int 0) := Arv.pad F (pad_rep _ (.int 0) 1)
      refine ow_iastore K X0 (pc' := 141) e0 F2 es.length (own_li (es ++ [5])) (ow_ix_nat (by omega)) (by show es.length < 8; omega) (by rw [List.length_append, own_li_len]; exact Nat.lt_succ_self _) (own_li_app es 5) at_140 rfl ?_
      intro T1 h1 X1 e1 W1 F1
      have Z2 : n0 ≤ h1.size := Nat.le_trans Z0 (Nat.le_of_eq W1.size.symm)
      have N3 := Fr.snoc X1 N0 ga
      refine ow_iinc K X1 (pc' := 144) (Ls' := #[.val (.int q0), .val (.long q1), .second, .val (.int q2), .val (.ref a), .val (.int (Int32.ofNat (es ++ [5]).length)), .unset, .unset, .unset, .unset, .unset, .unset, .unset, .unset, .unset, .unset, .unset, .unset, .unset, .unset, .unset, .unset, .unset, .unset, .unset]) (1 : Int32) (Int32.ofNat (es ++ [5]).length) at_141 rfl (by decide) rfl (own_len1 5 hlt) rfl ?_
      exact hk _ _ _ _ X1 e1 N3 Z2 F1 (hS.app hlt)
    · refine ow_icmpY K X0 (pc' := 144) at_132 (XT.ii_ge_t hq) (by decide) (by decide) ?_
      exact hk _ _ _ _ X0 e0 N0 Z0 F hS.up
set_option maxRecDepth 65536 in
set_option maxHeartbeats 40000000 in
theorem b6 {p : Program} {l : Launch} {e : Env} {s : State} {m : MethodId} {args : Array Value} {below : List Frame} {meth : Method} {c : Code} {T : State} {locs : List Loc} {Z : State} {h : Heap} {a0 : Array Value} (hw : ∀ d ∈ tables_1, d.before a0 Z = true) {n0 : Nat} {q0 q2 : Int32} {q1 : Int64} {a : Addr} {k : ClassId} {es : List Nat} (K : ow_K p e below s m meth c Z "com/example/matins/matins/engine/PoolLayoutPoolOfPinLaw" code 25 (some .boolean) "law" (ow_Gl p e below s (Q0 n0) 5 35)) (X0 : Stand p l e room_1 s m args below meth c T locs 1 8) (e0 : T.heap = h) (N0 : Fr n0 locs) (Z0 : n0 ≤ h.size) (ga : n0 ≤ a) (F : Arv Z h a k .int (8 : Int32) (own_li es) (.int 0)) (hS : own_St es 6)
    (hk : ∀ T' locs' h' es', Stand p l e room_1 s m args below meth c T' locs' 1 8 → T'.heap = h' → Fr n0 locs' → n0 ≤ h'.size → Arv Z h' a k .int (8 : Int32) (own_li es') (.int 0) → own_St es' 7 → ow_Gl p e below s (Q0 n0) 5 35 (T'.setTop (mkF m 168 #[.val (.int q0), .val (.long q1), .second, .val (.int q2), .val (.ref a), .val (.int (Int32.ofNat es'.length)), .unset, .unset, .unset, .unset, .unset, .unset, .unset, .unset, .unset, .unset, .unset, .unset, .unset, .unset, .unset, .unset, .unset, .unset, .unset] []))) :
    ow_Gl p e below s (Q0 n0) 5 35 (T.setTop (mkF m 144 #[.val (.int q0), .val (.long q1), .second, .val (.int q2), .val (.ref a), .val (.int (Int32.ofNat es.length)), .unset, .unset, .unset, .unset, .unset, .unset, .unset, .unset, .unset, .unset, .unset, .unset, .unset, .unset, .unset, .unset, .unset, .unset, .unset] [])) := by
  have h8 := hS.1
  refine ow_iloadN K X0 (pc' := 145) q0 at_144 rfl rfl ?_
  refine ow_bipush K X0 (pc' := 147) (64 : Int32) at_145 rfl (by decide) ?_
  refine ow_iand K X0 (pc' := 148) (q0 &&& (64 : Int32)) at_147 rfl rfl ?_
  by_cases hz : (q0 &&& (64 : Int32)) = 0
  · refine ow_ifY K X0 (pc' := 168) at_148 (XT.i0_eq_t hz) (by decide) (by decide) ?_
    exact hk _ _ _ _ X0 e0 N0 Z0 F hS.up
  · refine ow_ifN K X0 (pc' := 151) at_148 rfl (XT.i0_eq_f hz) ?_
    refine ow_iload K X0 (pc' := 153) (Int32.ofNat es.length) at_151 rfl rfl ?_
    refine ow_bipush K X0 (pc' := 155) (8 : Int32) at_153 rfl (by decide) ?_
    by_cases hq : (Int32.ofNat es.length) < (8 : Int32)
    · refine ow_icmpN K X0 (pc' := 158) at_155 rfl (XT.ii_ge_f hq) ?_
      have hlt : es.length < 8 := own_lt8 (by omega) (by decide) hq
      refine ow_aload K X0 (pc' := 160) a at_158 rfl rfl ?_
      refine ow_iload K X0 (pc' := 162) (Int32.ofNat es.length) at_160 rfl rfl ?_
      refine ow_bipush K X0 (pc' := 164) (6 : Int32) at_162 rfl (by decide) ?_
      have F2 : Arv Z h a k .int (8 : Int32) (own_li es ++ [Value.int 0]) (.int 0) := Arv.pad F (pad_rep _ (.int 0) 1)
      refine ow_iastore K X0 (pc' := 165) e0 F2 es.length (own_li (es ++ [6])) (ow_ix_nat (by omega)) (by show es.length < 8; omega) (by rw [List.length_append, own_li_len]; exact Nat.lt_succ_self _) (own_li_app es 6) at_164 rfl ?_
      intro T1 h1 X1 e1 W1 F1
      have Z2 : n0 ≤ h1.size := Nat.le_trans Z0 (Nat.le_of_eq W1.size.symm)
      have N3 := Fr.snoc X1 N0 ga
      refine ow_iinc K X1 (pc' := 168) (Ls' := #[.val (.int q0), .val (.long q1), .second, .val (.int q2), .val (.ref a), .val (.int (Int32.ofNat (es ++ [6]).length)), .unset, .unset, .unset, .unset, .unset, .unset, .unset, .unset, .unset, .unset, .unset, .unset, .unset, .unset, .unset, .unset, .unset, .unset, .unset]) (1 : Int32) (Int32.ofNat (es ++ [6]).length) at_165 rfl (by decide) rfl (own_len1 6 hlt) rfl ?_
      exact hk _ _ _ _ X1 e1 N3 Z2 F1 (hS.app hlt)
    · refine ow_icmpY K X0 (pc' := 168) at_155 (XT.ii_ge_t hq) (by decide) (by decide) ?_
      exact hk _ _ _ _ X0 e0 N0 Z0 F hS.up
set_option maxRecDepth 65536 in
set_option maxHeartbeats 40000000 in
theorem b7 {p : Program} {l : Launch} {e : Env} {s : State} {m : MethodId} {args : Array Value} {below : List Frame} {meth : Method} {c : Code} {T : State} {locs : List Loc} {Z : State} {h : Heap} {a0 : Array Value} (hw : ∀ d ∈ tables_1, d.before a0 Z = true) {n0 : Nat} {q0 q2 : Int32} {q1 : Int64} {a : Addr} {k : ClassId} {es : List Nat} (K : ow_K p e below s m meth c Z "com/example/matins/matins/engine/PoolLayoutPoolOfPinLaw" code 25 (some .boolean) "law" (ow_Gl p e below s (Q0 n0) 5 35)) (X0 : Stand p l e room_1 s m args below meth c T locs 1 8) (e0 : T.heap = h) (N0 : Fr n0 locs) (Z0 : n0 ≤ h.size) (ga : n0 ≤ a) (F : Arv Z h a k .int (8 : Int32) (own_li es) (.int 0)) (hS : own_St es 7)
    (hk : ∀ T' locs' h' es', Stand p l e room_1 s m args below meth c T' locs' 1 8 → T'.heap = h' → Fr n0 locs' → n0 ≤ h'.size → Arv Z h' a k .int (8 : Int32) (own_li es') (.int 0) → own_St es' 8 → ow_Gl p e below s (Q0 n0) 5 35 (T'.setTop (mkF m 193 #[.val (.int q0), .val (.long q1), .second, .val (.int q2), .val (.ref a), .val (.int (Int32.ofNat es'.length)), .unset, .unset, .unset, .unset, .unset, .unset, .unset, .unset, .unset, .unset, .unset, .unset, .unset, .unset, .unset, .unset, .unset, .unset, .unset] []))) :
    ow_Gl p e below s (Q0 n0) 5 35 (T.setTop (mkF m 168 #[.val (.int q0), .val (.long q1), .second, .val (.int q2), .val (.ref a), .val (.int (Int32.ofNat es.length)), .unset, .unset, .unset, .unset, .unset, .unset, .unset, .unset, .unset, .unset, .unset, .unset, .unset, .unset, .unset, .unset, .unset, .unset, .unset] [])) := by
  have h8 := hS.1
  refine ow_iloadN K X0 (pc' := 169) q0 at_168 rfl rfl ?_
  refine ow_sipush K X0 (pc' := 172) (128 : Int32) at_169 rfl (by decide) ?_
  refine ow_iand K X0 (pc' := 173) (q0 &&& (128 : Int32)) at_172 rfl rfl ?_
  by_cases hz : (q0 &&& (128 : Int32)) = 0
  · refine ow_ifY K X0 (pc' := 193) at_173 (XT.i0_eq_t hz) (by decide) (by decide) ?_
    exact hk _ _ _ _ X0 e0 N0 Z0 F hS.up
  · refine ow_ifN K X0 (pc' := 176) at_173 rfl (XT.i0_eq_f hz) ?_
    refine ow_iload K X0 (pc' := 178) (Int32.ofNat es.length) at_176 rfl rfl ?_
    refine ow_bipush K X0 (pc' := 180) (8 : Int32) at_178 rfl (by decide) ?_
    by_cases hq : (Int32.ofNat es.length) < (8 : Int32)
    · refine ow_icmpN K X0 (pc' := 183) at_180 rfl (XT.ii_ge_f hq) ?_
      have hlt : es.length < 8 := own_lt8 (by omega) (by decide) hq
      refine ow_aload K X0 (pc' := 185) a at_183 rfl rfl ?_
      refine ow_iload K X0 (pc' := 187) (Int32.ofNat es.length) at_185 rfl rfl ?_
      refine ow_bipush K X0 (pc' := 189) (7 : Int32) at_187 rfl (by decide) ?_
      have F2 : Arv Z h a k .int (8 : Int32) (own_li es ++ [Value.int 0]) (.int 0) := Arv.pad F (pad_rep _ (.int 0) 1)
      refine ow_iastore K X0 (pc' := 190) e0 F2 es.length (own_li (es ++ [7])) (ow_ix_nat (by omega)) (by show es.length < 8; omega) (by rw [List.length_append, own_li_len]; exact Nat.lt_succ_self _) (own_li_app es 7) at_189 rfl ?_
      intro T1 h1 X1 e1 W1 F1
      have Z2 : n0 ≤ h1.size := Nat.le_trans Z0 (Nat.le_of_eq W1.size.symm)
      have N3 := Fr.snoc X1 N0 ga
      refine ow_iinc K X1 (pc' := 193) (Ls' := #[.val (.int q0), .val (.long q1), .second, .val (.int q2), .val (.ref a), .val (.int (Int32.ofNat (es ++ [7]).length)), .unset, .unset, .unset, .unset, .unset, .unset, .unset, .unset, .unset, .unset, .unset, .unset, .unset, .unset, .unset, .unset, .unset, .unset, .unset]) (1 : Int32) (Int32.ofNat (es ++ [7]).length) at_190 rfl (by decide) rfl (own_len1 7 hlt) rfl ?_
      exact hk _ _ _ _ X1 e1 N3 Z2 F1 (hS.app hlt)
    · refine ow_icmpY K X0 (pc' := 193) at_180 (XT.ii_ge_t hq) (by decide) (by decide) ?_
      exact hk _ _ _ _ X0 e0 N0 Z0 F hS.up
set_option maxRecDepth 65536 in
set_option maxHeartbeats 40000000 in
theorem b8 {p : Program} {l : Launch} {e : Env} {s : State} {m : MethodId} {args : Array Value} {below : List Frame} {meth : Method} {c : Code} {T : State} {locs : List Loc} {Z : State} {h : Heap} {a0 : Array Value} (hw : ∀ d ∈ tables_1, d.before a0 Z = true) {n0 : Nat} {q0 q2 : Int32} {q1 : Int64} {a : Addr} {k : ClassId} {es : List Nat} (K : ow_K p e below s m meth c Z "com/example/matins/matins/engine/PoolLayoutPoolOfPinLaw" code 25 (some .boolean) "law" (ow_Gl p e below s (Q0 n0) 5 35)) (X0 : Stand p l e room_1 s m args below meth c T locs 1 8) (e0 : T.heap = h) (N0 : Fr n0 locs) (Z0 : n0 ≤ h.size) (ga : n0 ≤ a) (F : Arv Z h a k .int (8 : Int32) (own_li es) (.int 0)) (hS : own_St es 8)
    (hk : ∀ T' locs' h' es', Stand p l e room_1 s m args below meth c T' locs' 1 8 → T'.heap = h' → Fr n0 locs' → n0 ≤ h'.size → Arv Z h' a k .int (8 : Int32) (own_li es') (.int 0) → own_St es' 9 → ow_Gl p e below s (Q0 n0) 5 35 (T'.setTop (mkF m 218 #[.val (.int q0), .val (.long q1), .second, .val (.int q2), .val (.ref a), .val (.int (Int32.ofNat es'.length)), .unset, .unset, .unset, .unset, .unset, .unset, .unset, .unset, .unset, .unset, .unset, .unset, .unset, .unset, .unset, .unset, .unset, .unset, .unset] []))) :
    ow_Gl p e below s (Q0 n0) 5 35 (T.setTop (mkF m 193 #[.val (.int q0), .val (.long q1), .second, .val (.int q2), .val (.ref a), .val (.int (Int32.ofNat es.length)), .unset, .unset, .unset, .unset, .unset, .unset, .unset, .unset, .unset, .unset, .unset, .unset, .unset, .unset, .unset, .unset, .unset, .unset, .unset] [])) := by
  have h8 := hS.1
  refine ow_iloadN K X0 (pc' := 194) q0 at_193 rfl rfl ?_
  refine ow_sipush K X0 (pc' := 197) (256 : Int32) at_194 rfl (by decide) ?_
  refine ow_iand K X0 (pc' := 198) (q0 &&& (256 : Int32)) at_197 rfl rfl ?_
  by_cases hz : (q0 &&& (256 : Int32)) = 0
  · refine ow_ifY K X0 (pc' := 218) at_198 (XT.i0_eq_t hz) (by decide) (by decide) ?_
    exact hk _ _ _ _ X0 e0 N0 Z0 F hS.up
  · refine ow_ifN K X0 (pc' := 201) at_198 rfl (XT.i0_eq_f hz) ?_
    refine ow_iload K X0 (pc' := 203) (Int32.ofNat es.length) at_201 rfl rfl ?_
    refine ow_bipush K X0 (pc' := 205) (8 : Int32) at_203 rfl (by decide) ?_
    by_cases hq : (Int32.ofNat es.length) < (8 : Int32)
    · refine ow_icmpN K X0 (pc' := 208) at_205 rfl (XT.ii_ge_f hq) ?_
      have hlt : es.length < 8 := own_lt8 (by omega) (by decide) hq
      refine ow_aload K X0 (pc' := 210) a at_208 rfl rfl ?_
      refine ow_iload K X0 (pc' := 212) (Int32.ofNat es.length) at_210 rfl rfl ?_
      refine ow_bipush K X0 (pc' := 214) (8 : Int32) at_212 rfl (by decide) ?_
      have F2 : Arv Z h a k .int (8 : Int32) (own_li es ++ [Value.int 0]) (.int 0) := Arv.pad F (pad_rep _ (.int 0) 1)
      refine ow_iastore K X0 (pc' := 215) e0 F2 es.length (own_li (es ++ [8])) (ow_ix_nat (by omega)) (by show es.length < 8; omega) (by rw [List.length_append, own_li_len]; exact Nat.lt_succ_self _) (own_li_app es 8) at_214 rfl ?_
      intro T1 h1 X1 e1 W1 F1
      have Z2 : n0 ≤ h1.size := Nat.le_trans Z0 (Nat.le_of_eq W1.size.symm)
      have N3 := Fr.snoc X1 N0 ga
      refine ow_iinc K X1 (pc' := 218) (Ls' := #[.val (.int q0), .val (.long q1), .second, .val (.int q2), .val (.ref a), .val (.int (Int32.ofNat (es ++ [8]).length)), .unset, .unset, .unset, .unset, .unset, .unset, .unset, .unset, .unset, .unset, .unset, .unset, .unset, .unset, .unset, .unset, .unset, .unset, .unset]) (1 : Int32) (Int32.ofNat (es ++ [8]).length) at_215 rfl (by decide) rfl (own_len1 8 hlt) rfl ?_
      exact hk _ _ _ _ X1 e1 N3 Z2 F1 (hS.app hlt)
    · refine ow_icmpY K X0 (pc' := 218) at_205 (XT.ii_ge_t hq) (by decide) (by decide) ?_
      exact hk _ _ _ _ X0 e0 N0 Z0 F hS.up
set_option maxRecDepth 65536 in
set_option maxHeartbeats 40000000 in
theorem b9 {p : Program} {l : Launch} {e : Env} {s : State} {m : MethodId} {args : Array Value} {below : List Frame} {meth : Method} {c : Code} {T : State} {locs : List Loc} {Z : State} {h : Heap} {a0 : Array Value} (hw : ∀ d ∈ tables_1, d.before a0 Z = true) {n0 : Nat} {q0 q2 : Int32} {q1 : Int64} {a : Addr} {k : ClassId} {es : List Nat} (K : ow_K p e below s m meth c Z "com/example/matins/matins/engine/PoolLayoutPoolOfPinLaw" code 25 (some .boolean) "law" (ow_Gl p e below s (Q0 n0) 5 35)) (X0 : Stand p l e room_1 s m args below meth c T locs 1 8) (e0 : T.heap = h) (N0 : Fr n0 locs) (Z0 : n0 ≤ h.size) (ga : n0 ≤ a) (F : Arv Z h a k .int (8 : Int32) (own_li es) (.int 0)) (hS : own_St es 9)
    (hk : ∀ T' locs' h' es', Stand p l e room_1 s m args below meth c T' locs' 1 8 → T'.heap = h' → Fr n0 locs' → n0 ≤ h'.size → Arv Z h' a k .int (8 : Int32) (own_li es') (.int 0) → own_St es' 10 → ow_Gl p e below s (Q0 n0) 5 35 (T'.setTop (mkF m 243 #[.val (.int q0), .val (.long q1), .second, .val (.int q2), .val (.ref a), .val (.int (Int32.ofNat es'.length)), .unset, .unset, .unset, .unset, .unset, .unset, .unset, .unset, .unset, .unset, .unset, .unset, .unset, .unset, .unset, .unset, .unset, .unset, .unset] []))) :
    ow_Gl p e below s (Q0 n0) 5 35 (T.setTop (mkF m 218 #[.val (.int q0), .val (.long q1), .second, .val (.int q2), .val (.ref a), .val (.int (Int32.ofNat es.length)), .unset, .unset, .unset, .unset, .unset, .unset, .unset, .unset, .unset, .unset, .unset, .unset, .unset, .unset, .unset, .unset, .unset, .unset, .unset] [])) := by
  have h8 := hS.1
  refine ow_iloadN K X0 (pc' := 219) q0 at_218 rfl rfl ?_
  refine ow_sipush K X0 (pc' := 222) (512 : Int32) at_219 rfl (by decide) ?_
  refine ow_iand K X0 (pc' := 223) (q0 &&& (512 : Int32)) at_222 rfl rfl ?_
  by_cases hz : (q0 &&& (512 : Int32)) = 0
  · refine ow_ifY K X0 (pc' := 243) at_223 (XT.i0_eq_t hz) (by decide) (by decide) ?_
    exact hk _ _ _ _ X0 e0 N0 Z0 F hS.up
  · refine ow_ifN K X0 (pc' := 226) at_223 rfl (XT.i0_eq_f hz) ?_
    refine ow_iload K X0 (pc' := 228) (Int32.ofNat es.length) at_226 rfl rfl ?_
    refine ow_bipush K X0 (pc' := 230) (8 : Int32) at_228 rfl (by decide) ?_
    by_cases hq : (Int32.ofNat es.length) < (8 : Int32)
    · refine ow_icmpN K X0 (pc' := 233) at_230 rfl (XT.ii_ge_f hq) ?_
      have hlt : es.length < 8 := own_lt8 (by omega) (by decide) hq
      refine ow_aload K X0 (pc' := 235) a at_233 rfl rfl ?_
      refine ow_iload K X0 (pc' := 237) (Int32.ofNat es.length) at_235 rfl rfl ?_
      refine ow_bipush K X0 (pc' := 239) (9 : Int32) at_237 rfl (by decide) ?_
      have F2 : Arv Z h a k .int (8 : Int32) (own_li es ++ [Value.int 0]) (.int 0) := Arv.pad F (pad_rep _ (.int 0) 1)
      refine ow_iastore K X0 (pc' := 240) e0 F2 es.length (own_li (es ++ [9])) (ow_ix_nat (by omega)) (by show es.length < 8; omega) (by rw [List.length_append, own_li_len]; exact Nat.lt_succ_self _) (own_li_app es 9) at_239 rfl ?_
      intro T1 h1 X1 e1 W1 F1
      have Z2 : n0 ≤ h1.size := Nat.le_trans Z0 (Nat.le_of_eq W1.size.symm)
      have N3 := Fr.snoc X1 N0 ga
      refine ow_iinc K X1 (pc' := 243) (Ls' := #[.val (.int q0), .val (.long q1), .second, .val (.int q2), .val (.ref a), .val (.int (Int32.ofNat (es ++ [9]).length)), .unset, .unset, .unset, .unset, .unset, .unset, .unset, .unset, .unset, .unset, .unset, .unset, .unset, .unset, .unset, .unset, .unset, .unset, .unset]) (1 : Int32) (Int32.ofNat (es ++ [9]).length) at_240 rfl (by decide) rfl (own_len1 9 hlt) rfl ?_
      exact hk _ _ _ _ X1 e1 N3 Z2 F1 (hS.app hlt)
    · refine ow_icmpY K X0 (pc' := 243) at_230 (XT.ii_ge_t hq) (by decide) (by decide) ?_
      exact hk _ _ _ _ X0 e0 N0 Z0 F hS.up
set_option maxRecDepth 65536 in
set_option maxHeartbeats 40000000 in
theorem b10 {p : Program} {l : Launch} {e : Env} {s : State} {m : MethodId} {args : Array Value} {below : List Frame} {meth : Method} {c : Code} {T : State} {locs : List Loc} {Z : State} {h : Heap} {a0 : Array Value} (hw : ∀ d ∈ tables_1, d.before a0 Z = true) {n0 : Nat} {q0 q2 : Int32} {q1 : Int64} {a : Addr} {k : ClassId} {es : List Nat} (K : ow_K p e below s m meth c Z "com/example/matins/matins/engine/PoolLayoutPoolOfPinLaw" code 25 (some .boolean) "law" (ow_Gl p e below s (Q0 n0) 5 35)) (X0 : Stand p l e room_1 s m args below meth c T locs 1 8) (e0 : T.heap = h) (N0 : Fr n0 locs) (Z0 : n0 ≤ h.size) (ga : n0 ≤ a) (F : Arv Z h a k .int (8 : Int32) (own_li es) (.int 0)) (hS : own_St es 10)
    (hk : ∀ T' locs' h' es', Stand p l e room_1 s m args below meth c T' locs' 1 8 → T'.heap = h' → Fr n0 locs' → n0 ≤ h'.size → Arv Z h' a k .int (8 : Int32) (own_li es') (.int 0) → own_St es' 11 → ow_Gl p e below s (Q0 n0) 5 35 (T'.setTop (mkF m 268 #[.val (.int q0), .val (.long q1), .second, .val (.int q2), .val (.ref a), .val (.int (Int32.ofNat es'.length)), .unset, .unset, .unset, .unset, .unset, .unset, .unset, .unset, .unset, .unset, .unset, .unset, .unset, .unset, .unset, .unset, .unset, .unset, .unset] []))) :
    ow_Gl p e below s (Q0 n0) 5 35 (T.setTop (mkF m 243 #[.val (.int q0), .val (.long q1), .second, .val (.int q2), .val (.ref a), .val (.int (Int32.ofNat es.length)), .unset, .unset, .unset, .unset, .unset, .unset, .unset, .unset, .unset, .unset, .unset, .unset, .unset, .unset, .unset, .unset, .unset, .unset, .unset] [])) := by
  have h8 := hS.1
  refine ow_iloadN K X0 (pc' := 244) q0 at_243 rfl rfl ?_
  refine ow_sipush K X0 (pc' := 247) (1024 : Int32) at_244 rfl (by decide) ?_
  refine ow_iand K X0 (pc' := 248) (q0 &&& (1024 : Int32)) at_247 rfl rfl ?_
  by_cases hz : (q0 &&& (1024 : Int32)) = 0
  · refine ow_ifY K X0 (pc' := 268) at_248 (XT.i0_eq_t hz) (by decide) (by decide) ?_
    exact hk _ _ _ _ X0 e0 N0 Z0 F hS.up
  · refine ow_ifN K X0 (pc' := 251) at_248 rfl (XT.i0_eq_f hz) ?_
    refine ow_iload K X0 (pc' := 253) (Int32.ofNat es.length) at_251 rfl rfl ?_
    refine ow_bipush K X0 (pc' := 255) (8 : Int32) at_253 rfl (by decide) ?_
    by_cases hq : (Int32.ofNat es.length) < (8 : Int32)
    · refine ow_icmpN K X0 (pc' := 258) at_255 rfl (XT.ii_ge_f hq) ?_
      have hlt : es.length < 8 := own_lt8 (by omega) (by decide) hq
      refine ow_aload K X0 (pc' := 260) a at_258 rfl rfl ?_
      refine ow_iload K X0 (pc' := 262) (Int32.ofNat es.length) at_260 rfl rfl ?_
      refine ow_bipush K X0 (pc' := 264) (10 : Int32) at_262 rfl (by decide) ?_
      have F2 : Arv Z h a k .int (8 : Int32) (own_li es ++ [Value.int 0]) (.int 0) := Arv.pad F (pad_rep _ (.int 0) 1)
      refine ow_iastore K X0 (pc' := 265) e0 F2 es.length (own_li (es ++ [10])) (ow_ix_nat (by omega)) (by show es.length < 8; omega) (by rw [List.length_append, own_li_len]; exact Nat.lt_succ_self _) (own_li_app es 10) at_264 rfl ?_
      intro T1 h1 X1 e1 W1 F1
      have Z2 : n0 ≤ h1.size := Nat.le_trans Z0 (Nat.le_of_eq W1.size.symm)
      have N3 := Fr.snoc X1 N0 ga
      refine ow_iinc K X1 (pc' := 268) (Ls' := #[.val (.int q0), .val (.long q1), .second, .val (.int q2), .val (.ref a), .val (.int (Int32.ofNat (es ++ [10]).length)), .unset, .unset, .unset, .unset, .unset, .unset, .unset, .unset, .unset, .unset, .unset, .unset, .unset, .unset, .unset, .unset, .unset, .unset, .unset]) (1 : Int32) (Int32.ofNat (es ++ [10]).length) at_265 rfl (by decide) rfl (own_len1 10 hlt) rfl ?_
      exact hk _ _ _ _ X1 e1 N3 Z2 F1 (hS.app hlt)
    · refine ow_icmpY K X0 (pc' := 268) at_255 (XT.ii_ge_t hq) (by decide) (by decide) ?_
      exact hk _ _ _ _ X0 e0 N0 Z0 F hS.up
set_option maxRecDepth 65536 in
set_option maxHeartbeats 40000000 in
theorem b11 {p : Program} {l : Launch} {e : Env} {s : State} {m : MethodId} {args : Array Value} {below : List Frame} {meth : Method} {c : Code} {T : State} {locs : List Loc} {Z : State} {h : Heap} {a0 : Array Value} (hw : ∀ d ∈ tables_1, d.before a0 Z = true) {n0 : Nat} {q0 q2 : Int32} {q1 : Int64} {a : Addr} {k : ClassId} {es : List Nat} (K : ow_K p e below s m meth c Z "com/example/matins/matins/engine/PoolLayoutPoolOfPinLaw" code 25 (some .boolean) "law" (ow_Gl p e below s (Q0 n0) 5 35)) (X0 : Stand p l e room_1 s m args below meth c T locs 1 8) (e0 : T.heap = h) (N0 : Fr n0 locs) (Z0 : n0 ≤ h.size) (ga : n0 ≤ a) (F : Arv Z h a k .int (8 : Int32) (own_li es) (.int 0)) (hS : own_St es 11)
    (hk : ∀ T' locs' h' es', Stand p l e room_1 s m args below meth c T' locs' 1 8 → T'.heap = h' → Fr n0 locs' → n0 ≤ h'.size → Arv Z h' a k .int (8 : Int32) (own_li es') (.int 0) → own_St es' 12 → ow_Gl p e below s (Q0 n0) 5 35 (T'.setTop (mkF m 293 #[.val (.int q0), .val (.long q1), .second, .val (.int q2), .val (.ref a), .val (.int (Int32.ofNat es'.length)), .unset, .unset, .unset, .unset, .unset, .unset, .unset, .unset, .unset, .unset, .unset, .unset, .unset, .unset, .unset, .unset, .unset, .unset, .unset] []))) :
    ow_Gl p e below s (Q0 n0) 5 35 (T.setTop (mkF m 268 #[.val (.int q0), .val (.long q1), .second, .val (.int q2), .val (.ref a), .val (.int (Int32.ofNat es.length)), .unset, .unset, .unset, .unset, .unset, .unset, .unset, .unset, .unset, .unset, .unset, .unset, .unset, .unset, .unset, .unset, .unset, .unset, .unset] [])) := by
  have h8 := hS.1
  refine ow_iloadN K X0 (pc' := 269) q0 at_268 rfl rfl ?_
  refine ow_sipush K X0 (pc' := 272) (2048 : Int32) at_269 rfl (by decide) ?_
  refine ow_iand K X0 (pc' := 273) (q0 &&& (2048 : Int32)) at_272 rfl rfl ?_
  by_cases hz : (q0 &&& (2048 : Int32)) = 0
  · refine ow_ifY K X0 (pc' := 293) at_273 (XT.i0_eq_t hz) (by decide) (by decide) ?_
    exact hk _ _ _ _ X0 e0 N0 Z0 F hS.up
  · refine ow_ifN K X0 (pc' := 276) at_273 rfl (XT.i0_eq_f hz) ?_
    refine ow_iload K X0 (pc' := 278) (Int32.ofNat es.length) at_276 rfl rfl ?_
    refine ow_bipush K X0 (pc' := 280) (8 : Int32) at_278 rfl (by decide) ?_
    by_cases hq : (Int32.ofNat es.length) < (8 : Int32)
    · refine ow_icmpN K X0 (pc' := 283) at_280 rfl (XT.ii_ge_f hq) ?_
      have hlt : es.length < 8 := own_lt8 (by omega) (by decide) hq
      refine ow_aload K X0 (pc' := 285) a at_283 rfl rfl ?_
      refine ow_iload K X0 (pc' := 287) (Int32.ofNat es.length) at_285 rfl rfl ?_
      refine ow_bipush K X0 (pc' := 289) (11 : Int32) at_287 rfl (by decide) ?_
      have F2 : Arv Z h a k .int (8 : Int32) (own_li es ++ [Value.int 0]) (.int 0) := Arv.pad F (pad_rep _ (.int 0) 1)
      refine ow_iastore K X0 (pc' := 290) e0 F2 es.length (own_li (es ++ [11])) (ow_ix_nat (by omega)) (by show es.length < 8; omega) (by rw [List.length_append, own_li_len]; exact Nat.lt_succ_self _) (own_li_app es 11) at_289 rfl ?_
      intro T1 h1 X1 e1 W1 F1
      have Z2 : n0 ≤ h1.size := Nat.le_trans Z0 (Nat.le_of_eq W1.size.symm)
      have N3 := Fr.snoc X1 N0 ga
      refine ow_iinc K X1 (pc' := 293) (Ls' := #[.val (.int q0), .val (.long q1), .second, .val (.int q2), .val (.ref a), .val (.int (Int32.ofNat (es ++ [11]).length)), .unset, .unset, .unset, .unset, .unset, .unset, .unset, .unset, .unset, .unset, .unset, .unset, .unset, .unset, .unset, .unset, .unset, .unset, .unset]) (1 : Int32) (Int32.ofNat (es ++ [11]).length) at_290 rfl (by decide) rfl (own_len1 11 hlt) rfl ?_
      exact hk _ _ _ _ X1 e1 N3 Z2 F1 (hS.app hlt)
    · refine ow_icmpY K X0 (pc' := 293) at_280 (XT.ii_ge_t hq) (by decide) (by decide) ?_
      exact hk _ _ _ _ X0 e0 N0 Z0 F hS.up
set_option maxRecDepth 65536 in
set_option maxHeartbeats 40000000 in
theorem b12 {p : Program} {l : Launch} {e : Env} {s : State} {m : MethodId} {args : Array Value} {below : List Frame} {meth : Method} {c : Code} {T : State} {locs : List Loc} {Z : State} {h : Heap} {a0 : Array Value} (hw : ∀ d ∈ tables_1, d.before a0 Z = true) {n0 : Nat} {q0 q2 : Int32} {q1 : Int64} {a : Addr} {k : ClassId} {es : List Nat} (K : ow_K p e below s m meth c Z "com/example/matins/matins/engine/PoolLayoutPoolOfPinLaw" code 25 (some .boolean) "law" (ow_Gl p e below s (Q0 n0) 5 35)) (X0 : Stand p l e room_1 s m args below meth c T locs 1 8) (e0 : T.heap = h) (N0 : Fr n0 locs) (Z0 : n0 ≤ h.size) (ga : n0 ≤ a) (F : Arv Z h a k .int (8 : Int32) (own_li es) (.int 0)) (hS : own_St es 12)
    (hk : ∀ T' locs' h' es', Stand p l e room_1 s m args below meth c T' locs' 1 8 → T'.heap = h' → Fr n0 locs' → n0 ≤ h'.size → Arv Z h' a k .int (8 : Int32) (own_li es') (.int 0) → own_St es' 13 → ow_Gl p e below s (Q0 n0) 5 35 (T'.setTop (mkF m 318 #[.val (.int q0), .val (.long q1), .second, .val (.int q2), .val (.ref a), .val (.int (Int32.ofNat es'.length)), .unset, .unset, .unset, .unset, .unset, .unset, .unset, .unset, .unset, .unset, .unset, .unset, .unset, .unset, .unset, .unset, .unset, .unset, .unset] []))) :
    ow_Gl p e below s (Q0 n0) 5 35 (T.setTop (mkF m 293 #[.val (.int q0), .val (.long q1), .second, .val (.int q2), .val (.ref a), .val (.int (Int32.ofNat es.length)), .unset, .unset, .unset, .unset, .unset, .unset, .unset, .unset, .unset, .unset, .unset, .unset, .unset, .unset, .unset, .unset, .unset, .unset, .unset] [])) := by
  have h8 := hS.1
  refine ow_iloadN K X0 (pc' := 294) q0 at_293 rfl rfl ?_
  refine ow_sipush K X0 (pc' := 297) (4096 : Int32) at_294 rfl (by decide) ?_
  refine ow_iand K X0 (pc' := 298) (q0 &&& (4096 : Int32)) at_297 rfl rfl ?_
  by_cases hz : (q0 &&& (4096 : Int32)) = 0
  · refine ow_ifY K X0 (pc' := 318) at_298 (XT.i0_eq_t hz) (by decide) (by decide) ?_
    exact hk _ _ _ _ X0 e0 N0 Z0 F hS.up
  · refine ow_ifN K X0 (pc' := 301) at_298 rfl (XT.i0_eq_f hz) ?_
    refine ow_iload K X0 (pc' := 303) (Int32.ofNat es.length) at_301 rfl rfl ?_
    refine ow_bipush K X0 (pc' := 305) (8 : Int32) at_303 rfl (by decide) ?_
    by_cases hq : (Int32.ofNat es.length) < (8 : Int32)
    · refine ow_icmpN K X0 (pc' := 308) at_305 rfl (XT.ii_ge_f hq) ?_
      have hlt : es.length < 8 := own_lt8 (by omega) (by decide) hq
      refine ow_aload K X0 (pc' := 310) a at_308 rfl rfl ?_
      refine ow_iload K X0 (pc' := 312) (Int32.ofNat es.length) at_310 rfl rfl ?_
      refine ow_bipush K X0 (pc' := 314) (12 : Int32) at_312 rfl (by decide) ?_
      have F2 : Arv Z h a k .int (8 : Int32) (own_li es ++ [Value.int 0]) (.int 0) := Arv.pad F (pad_rep _ (.int 0) 1)
      refine ow_iastore K X0 (pc' := 315) e0 F2 es.length (own_li (es ++ [12])) (ow_ix_nat (by omega)) (by show es.length < 8; omega) (by rw [List.length_append, own_li_len]; exact Nat.lt_succ_self _) (own_li_app es 12) at_314 rfl ?_
      intro T1 h1 X1 e1 W1 F1
      have Z2 : n0 ≤ h1.size := Nat.le_trans Z0 (Nat.le_of_eq W1.size.symm)
      have N3 := Fr.snoc X1 N0 ga
      refine ow_iinc K X1 (pc' := 318) (Ls' := #[.val (.int q0), .val (.long q1), .second, .val (.int q2), .val (.ref a), .val (.int (Int32.ofNat (es ++ [12]).length)), .unset, .unset, .unset, .unset, .unset, .unset, .unset, .unset, .unset, .unset, .unset, .unset, .unset, .unset, .unset, .unset, .unset, .unset, .unset]) (1 : Int32) (Int32.ofNat (es ++ [12]).length) at_315 rfl (by decide) rfl (own_len1 12 hlt) rfl ?_
      exact hk _ _ _ _ X1 e1 N3 Z2 F1 (hS.app hlt)
    · refine ow_icmpY K X0 (pc' := 318) at_305 (XT.ii_ge_t hq) (by decide) (by decide) ?_
      exact hk _ _ _ _ X0 e0 N0 Z0 F hS.up
set_option maxRecDepth 65536 in
set_option maxHeartbeats 40000000 in
theorem t361 {p : Program} {l : Launch} {e : Env} {s : State} {m : MethodId} {args : Array Value} {below : List Frame} {meth : Method} {c : Code} {T : State} {locs : List Loc} {Z : State} {h : Heap} {a0 : Array Value} (hw : ∀ d ∈ tables_1, d.before a0 Z = true) {n0 : Nat} {q0 q2 : Int32} {q1 q : Int64} {a b o f : Addr} {k kf : ClassId} {es : List Nat} (K : ow_K p e below s m meth c Z "com/example/matins/matins/engine/PoolLayoutPoolOfPinLaw" code 25 (some .boolean) "law" (ow_Gl p e below s (Q0 n0) 5 35)) (X0 : Stand p l e room_1 s m args below meth c T locs 5 35) (e0 : T.heap = h) (N0 : Fr n0 locs) (Z0 : n0 ≤ h.size) (F : Arv Z h a k .int (8 : Int32) (own_li es) (.int 0)) (E : Exa Z h o "com/example/matins/matins/engine/PoolLayout") (FT : Fld Z h o "com/example/matins/matins/engine/PoolLayout" "top" "I" (.int (Int32.ofNat (es.length - 1)))) (FP : Fld Z h o "com/example/matins/matins/engine/PoolLayout" "firstPostings" "[J" (.ref f)) (AF : Arv Z h f kf .long (Int32.ofNat es.length) (own_fpl es es.length) (.long 0)) (hS : own_St es 13) (h2 : 2 ≤ es.length) :
    ow_Gl p e below s (Q0 n0) 5 35 (T.setTop (mkF m 361 #[.val (.int q0), .val (.long q1), .second, .val (.int q2), .val (.ref a), .val (.int (Int32.ofNat es.length)), .val (.ref b), .val (.ref o), .unset, .unset, .unset, .unset, .unset, .unset, .unset, .unset, .unset, .unset, .unset, .unset, .unset, .unset, .unset, .unset, .unset] [.long q])) := by
  have h8 := hS.1
  refine ow_lstore K X0 (pc' := 363) (Ls' := #[.val (.int q0), .val (.long q1), .second, .val (.int q2), .val (.ref a), .val (.int (Int32.ofNat es.length)), .val (.ref b), .val (.ref o), .val (.long q), .second, .unset, .unset, .unset, .unset, .unset, .unset, .unset, .unset, .unset, .unset, .unset, .unset, .unset, .unset, .unset]) at_361 rfl rfl ?_
  refine ow_lconst K X0 (pc' := 364) (1 : Int64) at_363 rfl (by decide) ?_
  refine ow_aload K X0 (pc' := 366) a at_364 rfl rfl ?_
  refine ow_iconst K X0 (pc' := 367) (0 : Int32) at_366 rfl (by decide) ?_
  refine ow_iaload K X0 (pc' := 368) e0 F 0 (.int (own_gi es 0)) ⟨by decide, by decide⟩ (by decide) (own_li_at es 0) at_367 rfl ?_
  refine ow_lshl K X0 (pc' := 369) (Int64.ofNat (own_F es 1)) at_368 rfl ((own_shl hS 0).trans (own_F1 es)) ?_
  refine ow_lstore K X0 (pc' := 371) (Ls' := #[.val (.int q0), .val (.long q1), .second, .val (.int q2), .val (.ref a), .val (.int (Int32.ofNat es.length)), .val (.ref b), .val (.ref o), .val (.long q), .second, .val (.long (Int64.ofNat (own_F es 1))), .second, .unset, .unset, .unset, .unset, .unset, .unset, .unset, .unset, .unset, .unset, .unset, .unset, .unset]) at_369 rfl rfl ?_
  refine ow_lload K X0 (pc' := 373) (Int64.ofNat (own_F es 1)) at_371 rfl rfl ?_
  refine ow_lconst K X0 (pc' := 374) (1 : Int64) at_373 rfl (by decide) ?_
  refine ow_aload K X0 (pc' := 376) a at_374 rfl rfl ?_
  refine ow_iconst K X0 (pc' := 377) (1 : Int32) at_376 rfl (by decide) ?_
  refine ow_iaload K X0 (pc' := 378) e0 F 1 (.int (own_gi es 1)) ⟨by decide, by decide⟩ (by decide) (own_li_at es 1) at_377 rfl ?_
  refine ow_lshl K X0 (pc' := 379) (Int64.ofNat (2 ^ es.getD 1 0)) at_378 rfl (own_shl hS 1) ?_
  refine ow_ladd K X0 (pc' := 380) ((Int64.ofNat (own_F es 1)) + (Int64.ofNat (2 ^ es.getD 1 0))) at_379 rfl rfl ?_
  refine ow_lconst K X0 (pc' := 381) (1 : Int64) at_380 rfl (by decide) ?_
  refine ow_lsub K X0 (pc' := 382) (Int64.ofNat (own_F es 2)) at_381 rfl (own_Fstep es 0) ?_
  refine ow_lstore K X0 (pc' := 384) (Ls' := #[.val (.int q0), .val (.long q1), .second, .val (.int q2), .val (.ref a), .val (.int (Int32.ofNat es.length)), .val (.ref b), .val (.ref o), .val (.long q), .second, .val (.long (Int64.ofNat (own_F es 1))), .second, .val (.long (Int64.ofNat (own_F es 2))), .second, .unset, .unset, .unset, .unset, .unset, .unset, .unset, .unset, .unset, .unset, .unset]) at_382 rfl rfl ?_
  refine ow_lload K X0 (pc' := 386) (Int64.ofNat (own_F es 2)) at_384 rfl rfl ?_
  refine ow_lconst K X0 (pc' := 387) (1 : Int64) at_386 rfl (by decide) ?_
  refine ow_aload K X0 (pc' := 389) a at_387 rfl rfl ?_
  refine ow_iconst K X0 (pc' := 390) (2 : Int32) at_389 rfl (by decide) ?_
  refine ow_iaload K X0 (pc' := 391) e0 F 2 (.int (own_gi es 2)) ⟨by decide, by decide⟩ (by decide) (own_li_at es 2) at_390 rfl ?_
  refine ow_lshl K X0 (pc' := 392) (Int64.ofNat (2 ^ es.getD 2 0)) at_391 rfl (own_shl hS 2) ?_
  refine ow_ladd K X0 (pc' := 393) ((Int64.ofNat (own_F es 2)) + (Int64.ofNat (2 ^ es.getD 2 0))) at_392 rfl rfl ?_
  refine ow_lconst K X0 (pc' := 394) (1 : Int64) at_393 rfl (by decide) ?_
  refine ow_lsub K X0 (pc' := 395) (Int64.ofNat (own_F es 3)) at_394 rfl (own_Fstep es 1) ?_
  refine ow_lstore K X0 (pc' := 397) (Ls' := #[.val (.int q0), .val (.long q1), .second, .val (.int q2), .val (.ref a), .val (.int (Int32.ofNat es.length)), .val (.ref b), .val (.ref o), .val (.long q), .second, .val (.long (Int64.ofNat (own_F es 1))), .second, .val (.long (Int64.ofNat (own_F es 2))), .second, .val (.long (Int64.ofNat (own_F es 3))), .second, .unset, .unset, .unset, .unset, .unset, .unset, .unset, .unset, .unset]) at_395 rfl rfl ?_
  refine ow_lload K X0 (pc' := 399) (Int64.ofNat (own_F es 3)) at_397 rfl rfl ?_
  refine ow_lconst K X0 (pc' := 400) (1 : Int64) at_399 rfl (by decide) ?_
  refine ow_aload K X0 (pc' := 402) a at_400 rfl rfl ?_
  refine ow_iconst K X0 (pc' := 403) (3 : Int32) at_402 rfl (by decide) ?_
  refine ow_iaload K X0 (pc' := 404) e0 F 3 (.int (own_gi es 3)) ⟨by decide, by decide⟩ (by decide) (own_li_at es 3) at_403 rfl ?_
  refine ow_lshl K X0 (pc' := 405) (Int64.ofNat (2 ^ es.getD 3 0)) at_404 rfl (own_shl hS 3) ?_
  refine ow_ladd K X0 (pc' := 406) ((Int64.ofNat (own_F es 3)) + (Int64.ofNat (2 ^ es.getD 3 0))) at_405 rfl rfl ?_
  refine ow_lconst K X0 (pc' := 407) (1 : Int64) at_406 rfl (by decide) ?_
  refine ow_lsub K X0 (pc' := 408) (Int64.ofNat (own_F es 4)) at_407 rfl (own_Fstep es 2) ?_
  refine ow_lstore K X0 (pc' := 410) (Ls' := #[.val (.int q0), .val (.long q1), .second, .val (.int q2), .val (.ref a), .val (.int (Int32.ofNat es.length)), .val (.ref b), .val (.ref o), .val (.long q), .second, .val (.long (Int64.ofNat (own_F es 1))), .second, .val (.long (Int64.ofNat (own_F es 2))), .second, .val (.long (Int64.ofNat (own_F es 3))), .second, .val (.long (Int64.ofNat (own_F es 4))), .second, .unset, .unset, .unset, .unset, .unset, .unset, .unset]) at_408 rfl rfl ?_
  refine ow_lload K X0 (pc' := 412) (Int64.ofNat (own_F es 4)) at_410 rfl rfl ?_
  refine ow_lconst K X0 (pc' := 413) (1 : Int64) at_412 rfl (by decide) ?_
  refine ow_aload K X0 (pc' := 415) a at_413 rfl rfl ?_
  refine ow_iconst K X0 (pc' := 416) (4 : Int32) at_415 rfl (by decide) ?_
  refine ow_iaload K X0 (pc' := 417) e0 F 4 (.int (own_gi es 4)) ⟨by decide, by decide⟩ (by decide) (own_li_at es 4) at_416 rfl ?_
  refine ow_lshl K X0 (pc' := 418) (Int64.ofNat (2 ^ es.getD 4 0)) at_417 rfl (own_shl hS 4) ?_
  refine ow_ladd K X0 (pc' := 419) ((Int64.ofNat (own_F es 4)) + (Int64.ofNat (2 ^ es.getD 4 0))) at_418 rfl rfl ?_
  refine ow_lconst K X0 (pc' := 420) (1 : Int64) at_419 rfl (by decide) ?_
  refine ow_lsub K X0 (pc' := 421) (Int64.ofNat (own_F es 5)) at_420 rfl (own_Fstep es 3) ?_
  refine ow_lstore K X0 (pc' := 423) (Ls' := #[.val (.int q0), .val (.long q1), .second, .val (.int q2), .val (.ref a), .val (.int (Int32.ofNat es.length)), .val (.ref b), .val (.ref o), .val (.long q), .second, .val (.long (Int64.ofNat (own_F es 1))), .second, .val (.long (Int64.ofNat (own_F es 2))), .second, .val (.long (Int64.ofNat (own_F es 3))), .second, .val (.long (Int64.ofNat (own_F es 4))), .second, .val (.long (Int64.ofNat (own_F es 5))), .second, .unset, .unset, .unset, .unset, .unset]) at_421 rfl rfl ?_
  refine ow_lload K X0 (pc' := 425) (Int64.ofNat (own_F es 5)) at_423 rfl rfl ?_
  refine ow_lconst K X0 (pc' := 426) (1 : Int64) at_425 rfl (by decide) ?_
  refine ow_aload K X0 (pc' := 428) a at_426 rfl rfl ?_
  refine ow_iconst K X0 (pc' := 429) (5 : Int32) at_428 rfl (by decide) ?_
  refine ow_iaload K X0 (pc' := 430) e0 F 5 (.int (own_gi es 5)) ⟨by decide, by decide⟩ (by decide) (own_li_at es 5) at_429 rfl ?_
  refine ow_lshl K X0 (pc' := 431) (Int64.ofNat (2 ^ es.getD 5 0)) at_430 rfl (own_shl hS 5) ?_
  refine ow_ladd K X0 (pc' := 432) ((Int64.ofNat (own_F es 5)) + (Int64.ofNat (2 ^ es.getD 5 0))) at_431 rfl rfl ?_
  refine ow_lconst K X0 (pc' := 433) (1 : Int64) at_432 rfl (by decide) ?_
  refine ow_lsub K X0 (pc' := 434) (Int64.ofNat (own_F es 6)) at_433 rfl (own_Fstep es 4) ?_
  refine ow_lstore K X0 (pc' := 436) (Ls' := #[.val (.int q0), .val (.long q1), .second, .val (.int q2), .val (.ref a), .val (.int (Int32.ofNat es.length)), .val (.ref b), .val (.ref o), .val (.long q), .second, .val (.long (Int64.ofNat (own_F es 1))), .second, .val (.long (Int64.ofNat (own_F es 2))), .second, .val (.long (Int64.ofNat (own_F es 3))), .second, .val (.long (Int64.ofNat (own_F es 4))), .second, .val (.long (Int64.ofNat (own_F es 5))), .second, .val (.long (Int64.ofNat (own_F es 6))), .second, .unset, .unset, .unset]) at_434 rfl rfl ?_
  refine ow_lload K X0 (pc' := 438) (Int64.ofNat (own_F es 6)) at_436 rfl rfl ?_
  refine ow_lconst K X0 (pc' := 439) (1 : Int64) at_438 rfl (by decide) ?_
  refine ow_aload K X0 (pc' := 441) a at_439 rfl rfl ?_
  refine ow_bipush K X0 (pc' := 443) (6 : Int32) at_441 rfl (by decide) ?_
  refine ow_iaload K X0 (pc' := 444) e0 F 6 (.int (own_gi es 6)) ⟨by decide, by decide⟩ (by decide) (own_li_at es 6) at_443 rfl ?_
  refine ow_lshl K X0 (pc' := 445) (Int64.ofNat (2 ^ es.getD 6 0)) at_444 rfl (own_shl hS 6) ?_
  refine ow_ladd K X0 (pc' := 446) ((Int64.ofNat (own_F es 6)) + (Int64.ofNat (2 ^ es.getD 6 0))) at_445 rfl rfl ?_
  refine ow_lconst K X0 (pc' := 447) (1 : Int64) at_446 rfl (by decide) ?_
  refine ow_lsub K X0 (pc' := 448) (Int64.ofNat (own_F es 7)) at_447 rfl (own_Fstep es 5) ?_
  refine ow_lstore K X0 (pc' := 450) (Ls' := #[.val (.int q0), .val (.long q1), .second, .val (.int q2), .val (.ref a), .val (.int (Int32.ofNat es.length)), .val (.ref b), .val (.ref o), .val (.long q), .second, .val (.long (Int64.ofNat (own_F es 1))), .second, .val (.long (Int64.ofNat (own_F es 2))), .second, .val (.long (Int64.ofNat (own_F es 3))), .second, .val (.long (Int64.ofNat (own_F es 4))), .second, .val (.long (Int64.ofNat (own_F es 5))), .second, .val (.long (Int64.ofNat (own_F es 6))), .second, .val (.long (Int64.ofNat (own_F es 7))), .second, .unset]) at_448 rfl rfl ?_
  refine ow_iconst K X0 (pc' := 451) (0 : Int32) at_450 rfl (by decide) ?_
  refine ow_istore K X0 (pc' := 453) (Ls' := #[.val (.int q0), .val (.long q1), .second, .val (.int q2), .val (.ref a), .val (.int (Int32.ofNat es.length)), .val (.ref b), .val (.ref o), .val (.long q), .second, .val (.long (Int64.ofNat (own_F es 1))), .second, .val (.long (Int64.ofNat (own_F es 2))), .second, .val (.long (Int64.ofNat (own_F es 3))), .second, .val (.long (Int64.ofNat (own_F es 4))), .second, .val (.long (Int64.ofNat (own_F es 5))), .second, .val (.long (Int64.ofNat (own_F es 6))), .second, .val (.long (Int64.ofNat (own_F es 7))), .second, .val (.int (0 : Int32))]) at_451 rfl rfl ?_
  refine ow_at (g := (mkF m 453 #[.val (.int q0), .val (.long q1), .second, .val (.int q2), .val (.ref a), .val (.int (Int32.ofNat es.length)), .val (.ref b), .val (.ref o), .val (.long q), .second, .val (.long (Int64.ofNat (own_F es 1))), .second, .val (.long (Int64.ofNat (own_F es 2))), .second, .val (.long (Int64.ofNat (own_F es 3))), .second, .val (.long (Int64.ofNat (own_F es 4))), .second, .val (.long (Int64.ofNat (own_F es 5))), .second, .val (.long (Int64.ofNat (own_F es 6))), .second, .val (.long (Int64.ofNat (own_F es 7))), .second, .val (.int (Int32.ofNat (own_ex es q 0)))] [])) ?_
  refine ow_cut (P := ow_Gl p e below s (Q0 n0) 5 35 (T.setTop (mkF m 470 #[.val (.int q0), .val (.long q1), .second, .val (.int q2), .val (.ref a), .val (.int (Int32.ofNat es.length)), .val (.ref b), .val (.ref o), .val (.long q), .second, .val (.long (Int64.ofNat (own_F es 1))), .second, .val (.long (Int64.ofNat (own_F es 2))), .second, .val (.long (Int64.ofNat (own_F es 3))), .second, .val (.long (Int64.ofNat (own_F es 4))), .second, .val (.long (Int64.ofNat (own_F es 5))), .second, .val (.long (Int64.ofNat (own_F es 6))), .second, .val (.long (Int64.ofNat (own_F es 7))), .second, .val (.int (Int32.ofNat (own_ex es q 1)))] []))) (fun jn => ?_) ?_
  · refine ow_iload K X0 (pc' := 455) (Int32.ofNat es.length) at_453 rfl rfl ?_
    refine ow_iconst K X0 (pc' := 456) (1 : Int32) at_455 rfl (by decide) ?_
    by_cases hj : (1 : Int32) < (Int32.ofNat es.length)
    · refine ow_icmpN K X0 (pc' := 459) at_456 rfl (XT.ii_le_f hj) ?_
      refine ow_lload K X0 (pc' := 461) q at_459 rfl rfl ?_
      refine ow_lload K X0 (pc' := 463) (Int64.ofNat (own_F es 1)) at_461 rfl rfl ?_
      refine ow_lcmp K X0 (pc' := 464) (XT.cmpL q (Int64.ofNat (own_F es 1))) at_463 rfl rfl ?_
      by_cases hp : q < (Int64.ofNat (own_F es 1))
      · refine ow_ifY K X0 (pc' := 470) at_464 (XT.ll_lt_t hp) (by decide) (by decide) ?_
        have ee : own_ex es q 1 = own_ex es q 0 := if_neg (fun z => z.2 hp)
        rw [ee] at jn; exact jn
      · refine ow_ifN K X0 (pc' := 467) at_464 rfl (XT.ll_lt_f hp) ?_
        refine ow_iconst K X0 (pc' := 468) (1 : Int32) at_467 rfl (by decide) ?_
        refine ow_istore K X0 (pc' := 470) (Ls' := #[.val (.int q0), .val (.long q1), .second, .val (.int q2), .val (.ref a), .val (.int (Int32.ofNat es.length)), .val (.ref b), .val (.ref o), .val (.long q), .second, .val (.long (Int64.ofNat (own_F es 1))), .second, .val (.long (Int64.ofNat (own_F es 2))), .second, .val (.long (Int64.ofNat (own_F es 3))), .second, .val (.long (Int64.ofNat (own_F es 4))), .second, .val (.long (Int64.ofNat (own_F es 5))), .second, .val (.long (Int64.ofNat (own_F es 6))), .second, .val (.long (Int64.ofNat (own_F es 7))), .second, .val (.int (1 : Int32))]) at_468 rfl rfl ?_
        have ee : own_ex es q 1 = 1 := if_pos ⟨own_lt8 (n := 1) (by decide) (by omega) hj, hp⟩
        rw [ee] at jn; exact jn
    · refine ow_icmpY K X0 (pc' := 470) at_456 (XT.ii_le_t hj) (by decide) (by decide) ?_
      have ee : own_ex es q 1 = own_ex es q 0 := if_neg (fun z => hj (own_ltn (i := 1) z.1 (by omega)))
      rw [ee] at jn; exact jn
  refine ow_cut (P := ow_Gl p e below s (Q0 n0) 5 35 (T.setTop (mkF m 487 #[.val (.int q0), .val (.long q1), .second, .val (.int q2), .val (.ref a), .val (.int (Int32.ofNat es.length)), .val (.ref b), .val (.ref o), .val (.long q), .second, .val (.long (Int64.ofNat (own_F es 1))), .second, .val (.long (Int64.ofNat (own_F es 2))), .second, .val (.long (Int64.ofNat (own_F es 3))), .second, .val (.long (Int64.ofNat (own_F es 4))), .second, .val (.long (Int64.ofNat (own_F es 5))), .second, .val (.long (Int64.ofNat (own_F es 6))), .second, .val (.long (Int64.ofNat (own_F es 7))), .second, .val (.int (Int32.ofNat (own_ex es q 2)))] []))) (fun jn => ?_) ?_
  · refine ow_iload K X0 (pc' := 472) (Int32.ofNat es.length) at_470 rfl rfl ?_
    refine ow_iconst K X0 (pc' := 473) (2 : Int32) at_472 rfl (by decide) ?_
    by_cases hj : (2 : Int32) < (Int32.ofNat es.length)
    · refine ow_icmpN K X0 (pc' := 476) at_473 rfl (XT.ii_le_f hj) ?_
      refine ow_lload K X0 (pc' := 478) q at_476 rfl rfl ?_
      refine ow_lload K X0 (pc' := 480) (Int64.ofNat (own_F es 2)) at_478 rfl rfl ?_
      refine ow_lcmp K X0 (pc' := 481) (XT.cmpL q (Int64.ofNat (own_F es 2))) at_480 rfl rfl ?_
      by_cases hp : q < (Int64.ofNat (own_F es 2))
      · refine ow_ifY K X0 (pc' := 487) at_481 (XT.ll_lt_t hp) (by decide) (by decide) ?_
        have ee : own_ex es q 2 = own_ex es q 1 := if_neg (fun z => z.2 hp)
        rw [ee] at jn; exact jn
      · refine ow_ifN K X0 (pc' := 484) at_481 rfl (XT.ll_lt_f hp) ?_
        refine ow_iconst K X0 (pc' := 485) (2 : Int32) at_484 rfl (by decide) ?_
        refine ow_istore K X0 (pc' := 487) (Ls' := #[.val (.int q0), .val (.long q1), .second, .val (.int q2), .val (.ref a), .val (.int (Int32.ofNat es.length)), .val (.ref b), .val (.ref o), .val (.long q), .second, .val (.long (Int64.ofNat (own_F es 1))), .second, .val (.long (Int64.ofNat (own_F es 2))), .second, .val (.long (Int64.ofNat (own_F es 3))), .second, .val (.long (Int64.ofNat (own_F es 4))), .second, .val (.long (Int64.ofNat (own_F es 5))), .second, .val (.long (Int64.ofNat (own_F es 6))), .second, .val (.long (Int64.ofNat (own_F es 7))), .second, .val (.int (2 : Int32))]) at_485 rfl rfl ?_
        have ee : own_ex es q 2 = 2 := if_pos ⟨own_lt8 (n := 2) (by decide) (by omega) hj, hp⟩
        rw [ee] at jn; exact jn
    · refine ow_icmpY K X0 (pc' := 487) at_473 (XT.ii_le_t hj) (by decide) (by decide) ?_
      have ee : own_ex es q 2 = own_ex es q 1 := if_neg (fun z => hj (own_ltn (i := 2) z.1 (by omega)))
      rw [ee] at jn; exact jn
  refine ow_cut (P := ow_Gl p e below s (Q0 n0) 5 35 (T.setTop (mkF m 504 #[.val (.int q0), .val (.long q1), .second, .val (.int q2), .val (.ref a), .val (.int (Int32.ofNat es.length)), .val (.ref b), .val (.ref o), .val (.long q), .second, .val (.long (Int64.ofNat (own_F es 1))), .second, .val (.long (Int64.ofNat (own_F es 2))), .second, .val (.long (Int64.ofNat (own_F es 3))), .second, .val (.long (Int64.ofNat (own_F es 4))), .second, .val (.long (Int64.ofNat (own_F es 5))), .second, .val (.long (Int64.ofNat (own_F es 6))), .second, .val (.long (Int64.ofNat (own_F es 7))), .second, .val (.int (Int32.ofNat (own_ex es q 3)))] []))) (fun jn => ?_) ?_
  · refine ow_iload K X0 (pc' := 489) (Int32.ofNat es.length) at_487 rfl rfl ?_
    refine ow_iconst K X0 (pc' := 490) (3 : Int32) at_489 rfl (by decide) ?_
    by_cases hj : (3 : Int32) < (Int32.ofNat es.length)
    · refine ow_icmpN K X0 (pc' := 493) at_490 rfl (XT.ii_le_f hj) ?_
      refine ow_lload K X0 (pc' := 495) q at_493 rfl rfl ?_
      refine ow_lload K X0 (pc' := 497) (Int64.ofNat (own_F es 3)) at_495 rfl rfl ?_
      refine ow_lcmp K X0 (pc' := 498) (XT.cmpL q (Int64.ofNat (own_F es 3))) at_497 rfl rfl ?_
      by_cases hp : q < (Int64.ofNat (own_F es 3))
      · refine ow_ifY K X0 (pc' := 504) at_498 (XT.ll_lt_t hp) (by decide) (by decide) ?_
        have ee : own_ex es q 3 = own_ex es q 2 := if_neg (fun z => z.2 hp)
        rw [ee] at jn; exact jn
      · refine ow_ifN K X0 (pc' := 501) at_498 rfl (XT.ll_lt_f hp) ?_
        refine ow_iconst K X0 (pc' := 502) (3 : Int32) at_501 rfl (by decide) ?_
        refine ow_istore K X0 (pc' := 504) (Ls' := #[.val (.int q0), .val (.long q1), .second, .val (.int q2), .val (.ref a), .val (.int (Int32.ofNat es.length)), .val (.ref b), .val (.ref o), .val (.long q), .second, .val (.long (Int64.ofNat (own_F es 1))), .second, .val (.long (Int64.ofNat (own_F es 2))), .second, .val (.long (Int64.ofNat (own_F es 3))), .second, .val (.long (Int64.ofNat (own_F es 4))), .second, .val (.long (Int64.ofNat (own_F es 5))), .second, .val (.long (Int64.ofNat (own_F es 6))), .second, .val (.long (Int64.ofNat (own_F es 7))), .second, .val (.int (3 : Int32))]) at_502 rfl rfl ?_
        have ee : own_ex es q 3 = 3 := if_pos ⟨own_lt8 (n := 3) (by decide) (by omega) hj, hp⟩
        rw [ee] at jn; exact jn
    · refine ow_icmpY K X0 (pc' := 504) at_490 (XT.ii_le_t hj) (by decide) (by decide) ?_
      have ee : own_ex es q 3 = own_ex es q 2 := if_neg (fun z => hj (own_ltn (i := 3) z.1 (by omega)))
      rw [ee] at jn; exact jn
  refine ow_cut (P := ow_Gl p e below s (Q0 n0) 5 35 (T.setTop (mkF m 521 #[.val (.int q0), .val (.long q1), .second, .val (.int q2), .val (.ref a), .val (.int (Int32.ofNat es.length)), .val (.ref b), .val (.ref o), .val (.long q), .second, .val (.long (Int64.ofNat (own_F es 1))), .second, .val (.long (Int64.ofNat (own_F es 2))), .second, .val (.long (Int64.ofNat (own_F es 3))), .second, .val (.long (Int64.ofNat (own_F es 4))), .second, .val (.long (Int64.ofNat (own_F es 5))), .second, .val (.long (Int64.ofNat (own_F es 6))), .second, .val (.long (Int64.ofNat (own_F es 7))), .second, .val (.int (Int32.ofNat (own_ex es q 4)))] []))) (fun jn => ?_) ?_
  · refine ow_iload K X0 (pc' := 506) (Int32.ofNat es.length) at_504 rfl rfl ?_
    refine ow_iconst K X0 (pc' := 507) (4 : Int32) at_506 rfl (by decide) ?_
    by_cases hj : (4 : Int32) < (Int32.ofNat es.length)
    · refine ow_icmpN K X0 (pc' := 510) at_507 rfl (XT.ii_le_f hj) ?_
      refine ow_lload K X0 (pc' := 512) q at_510 rfl rfl ?_
      refine ow_lload K X0 (pc' := 514) (Int64.ofNat (own_F es 4)) at_512 rfl rfl ?_
      refine ow_lcmp K X0 (pc' := 515) (XT.cmpL q (Int64.ofNat (own_F es 4))) at_514 rfl rfl ?_
      by_cases hp : q < (Int64.ofNat (own_F es 4))
      · refine ow_ifY K X0 (pc' := 521) at_515 (XT.ll_lt_t hp) (by decide) (by decide) ?_
        have ee : own_ex es q 4 = own_ex es q 3 := if_neg (fun z => z.2 hp)
        rw [ee] at jn; exact jn
      · refine ow_ifN K X0 (pc' := 518) at_515 rfl (XT.ll_lt_f hp) ?_
        refine ow_iconst K X0 (pc' := 519) (4 : Int32) at_518 rfl (by decide) ?_
        refine ow_istore K X0 (pc' := 521) (Ls' := #[.val (.int q0), .val (.long q1), .second, .val (.int q2), .val (.ref a), .val (.int (Int32.ofNat es.length)), .val (.ref b), .val (.ref o), .val (.long q), .second, .val (.long (Int64.ofNat (own_F es 1))), .second, .val (.long (Int64.ofNat (own_F es 2))), .second, .val (.long (Int64.ofNat (own_F es 3))), .second, .val (.long (Int64.ofNat (own_F es 4))), .second, .val (.long (Int64.ofNat (own_F es 5))), .second, .val (.long (Int64.ofNat (own_F es 6))), .second, .val (.long (Int64.ofNat (own_F es 7))), .second, .val (.int (4 : Int32))]) at_519 rfl rfl ?_
        have ee : own_ex es q 4 = 4 := if_pos ⟨own_lt8 (n := 4) (by decide) (by omega) hj, hp⟩
        rw [ee] at jn; exact jn
    · refine ow_icmpY K X0 (pc' := 521) at_507 (XT.ii_le_t hj) (by decide) (by decide) ?_
      have ee : own_ex es q 4 = own_ex es q 3 := if_neg (fun z => hj (own_ltn (i := 4) z.1 (by omega)))
      rw [ee] at jn; exact jn
  refine ow_cut (P := ow_Gl p e below s (Q0 n0) 5 35 (T.setTop (mkF m 538 #[.val (.int q0), .val (.long q1), .second, .val (.int q2), .val (.ref a), .val (.int (Int32.ofNat es.length)), .val (.ref b), .val (.ref o), .val (.long q), .second, .val (.long (Int64.ofNat (own_F es 1))), .second, .val (.long (Int64.ofNat (own_F es 2))), .second, .val (.long (Int64.ofNat (own_F es 3))), .second, .val (.long (Int64.ofNat (own_F es 4))), .second, .val (.long (Int64.ofNat (own_F es 5))), .second, .val (.long (Int64.ofNat (own_F es 6))), .second, .val (.long (Int64.ofNat (own_F es 7))), .second, .val (.int (Int32.ofNat (own_ex es q 5)))] []))) (fun jn => ?_) ?_
  · refine ow_iload K X0 (pc' := 523) (Int32.ofNat es.length) at_521 rfl rfl ?_
    refine ow_iconst K X0 (pc' := 524) (5 : Int32) at_523 rfl (by decide) ?_
    by_cases hj : (5 : Int32) < (Int32.ofNat es.length)
    · refine ow_icmpN K X0 (pc' := 527) at_524 rfl (XT.ii_le_f hj) ?_
      refine ow_lload K X0 (pc' := 529) q at_527 rfl rfl ?_
      refine ow_lload K X0 (pc' := 531) (Int64.ofNat (own_F es 5)) at_529 rfl rfl ?_
      refine ow_lcmp K X0 (pc' := 532) (XT.cmpL q (Int64.ofNat (own_F es 5))) at_531 rfl rfl ?_
      by_cases hp : q < (Int64.ofNat (own_F es 5))
      · refine ow_ifY K X0 (pc' := 538) at_532 (XT.ll_lt_t hp) (by decide) (by decide) ?_
        have ee : own_ex es q 5 = own_ex es q 4 := if_neg (fun z => z.2 hp)
        rw [ee] at jn; exact jn
      · refine ow_ifN K X0 (pc' := 535) at_532 rfl (XT.ll_lt_f hp) ?_
        refine ow_iconst K X0 (pc' := 536) (5 : Int32) at_535 rfl (by decide) ?_
        refine ow_istore K X0 (pc' := 538) (Ls' := #[.val (.int q0), .val (.long q1), .second, .val (.int q2), .val (.ref a), .val (.int (Int32.ofNat es.length)), .val (.ref b), .val (.ref o), .val (.long q), .second, .val (.long (Int64.ofNat (own_F es 1))), .second, .val (.long (Int64.ofNat (own_F es 2))), .second, .val (.long (Int64.ofNat (own_F es 3))), .second, .val (.long (Int64.ofNat (own_F es 4))), .second, .val (.long (Int64.ofNat (own_F es 5))), .second, .val (.long (Int64.ofNat (own_F es 6))), .second, .val (.long (Int64.ofNat (own_F es 7))), .second, .val (.int (5 : Int32))]) at_536 rfl rfl ?_
        have ee : own_ex es q 5 = 5 := if_pos ⟨own_lt8 (n := 5) (by decide) (by omega) hj, hp⟩
        rw [ee] at jn; exact jn
    · refine ow_icmpY K X0 (pc' := 538) at_524 (XT.ii_le_t hj) (by decide) (by decide) ?_
      have ee : own_ex es q 5 = own_ex es q 4 := if_neg (fun z => hj (own_ltn (i := 5) z.1 (by omega)))
      rw [ee] at jn; exact jn
  refine ow_cut (P := ow_Gl p e below s (Q0 n0) 5 35 (T.setTop (mkF m 557 #[.val (.int q0), .val (.long q1), .second, .val (.int q2), .val (.ref a), .val (.int (Int32.ofNat es.length)), .val (.ref b), .val (.ref o), .val (.long q), .second, .val (.long (Int64.ofNat (own_F es 1))), .second, .val (.long (Int64.ofNat (own_F es 2))), .second, .val (.long (Int64.ofNat (own_F es 3))), .second, .val (.long (Int64.ofNat (own_F es 4))), .second, .val (.long (Int64.ofNat (own_F es 5))), .second, .val (.long (Int64.ofNat (own_F es 6))), .second, .val (.long (Int64.ofNat (own_F es 7))), .second, .val (.int (Int32.ofNat (own_ex es q 6)))] []))) (fun jn => ?_) ?_
  · refine ow_iload K X0 (pc' := 540) (Int32.ofNat es.length) at_538 rfl rfl ?_
    refine ow_bipush K X0 (pc' := 542) (6 : Int32) at_540 rfl (by decide) ?_
    by_cases hj : (6 : Int32) < (Int32.ofNat es.length)
    · refine ow_icmpN K X0 (pc' := 545) at_542 rfl (XT.ii_le_f hj) ?_
      refine ow_lload K X0 (pc' := 547) q at_545 rfl rfl ?_
      refine ow_lload K X0 (pc' := 549) (Int64.ofNat (own_F es 6)) at_547 rfl rfl ?_
      refine ow_lcmp K X0 (pc' := 550) (XT.cmpL q (Int64.ofNat (own_F es 6))) at_549 rfl rfl ?_
      by_cases hp : q < (Int64.ofNat (own_F es 6))
      · refine ow_ifY K X0 (pc' := 557) at_550 (XT.ll_lt_t hp) (by decide) (by decide) ?_
        have ee : own_ex es q 6 = own_ex es q 5 := if_neg (fun z => z.2 hp)
        rw [ee] at jn; exact jn
      · refine ow_ifN K X0 (pc' := 553) at_550 rfl (XT.ll_lt_f hp) ?_
        refine ow_bipush K X0 (pc' := 555) (6 : Int32) at_553 rfl (by decide) ?_
        refine ow_istore K X0 (pc' := 557) (Ls' := #[.val (.int q0), .val (.long q1), .second, .val (.int q2), .val (.ref a), .val (.int (Int32.ofNat es.length)), .val (.ref b), .val (.ref o), .val (.long q), .second, .val (.long (Int64.ofNat (own_F es 1))), .second, .val (.long (Int64.ofNat (own_F es 2))), .second, .val (.long (Int64.ofNat (own_F es 3))), .second, .val (.long (Int64.ofNat (own_F es 4))), .second, .val (.long (Int64.ofNat (own_F es 5))), .second, .val (.long (Int64.ofNat (own_F es 6))), .second, .val (.long (Int64.ofNat (own_F es 7))), .second, .val (.int (6 : Int32))]) at_555 rfl rfl ?_
        have ee : own_ex es q 6 = 6 := if_pos ⟨own_lt8 (n := 6) (by decide) (by omega) hj, hp⟩
        rw [ee] at jn; exact jn
    · refine ow_icmpY K X0 (pc' := 557) at_542 (XT.ii_le_t hj) (by decide) (by decide) ?_
      have ee : own_ex es q 6 = own_ex es q 5 := if_neg (fun z => hj (own_ltn (i := 6) z.1 (by omega)))
      rw [ee] at jn; exact jn
  refine ow_cut (P := ow_Gl p e below s (Q0 n0) 5 35 (T.setTop (mkF m 576 #[.val (.int q0), .val (.long q1), .second, .val (.int q2), .val (.ref a), .val (.int (Int32.ofNat es.length)), .val (.ref b), .val (.ref o), .val (.long q), .second, .val (.long (Int64.ofNat (own_F es 1))), .second, .val (.long (Int64.ofNat (own_F es 2))), .second, .val (.long (Int64.ofNat (own_F es 3))), .second, .val (.long (Int64.ofNat (own_F es 4))), .second, .val (.long (Int64.ofNat (own_F es 5))), .second, .val (.long (Int64.ofNat (own_F es 6))), .second, .val (.long (Int64.ofNat (own_F es 7))), .second, .val (.int (Int32.ofNat (own_ex es q 7)))] []))) (fun jn => ?_) ?_
  · refine ow_iload K X0 (pc' := 559) (Int32.ofNat es.length) at_557 rfl rfl ?_
    refine ow_bipush K X0 (pc' := 561) (7 : Int32) at_559 rfl (by decide) ?_
    by_cases hj : (7 : Int32) < (Int32.ofNat es.length)
    · refine ow_icmpN K X0 (pc' := 564) at_561 rfl (XT.ii_le_f hj) ?_
      refine ow_lload K X0 (pc' := 566) q at_564 rfl rfl ?_
      refine ow_lload K X0 (pc' := 568) (Int64.ofNat (own_F es 7)) at_566 rfl rfl ?_
      refine ow_lcmp K X0 (pc' := 569) (XT.cmpL q (Int64.ofNat (own_F es 7))) at_568 rfl rfl ?_
      by_cases hp : q < (Int64.ofNat (own_F es 7))
      · refine ow_ifY K X0 (pc' := 576) at_569 (XT.ll_lt_t hp) (by decide) (by decide) ?_
        have ee : own_ex es q 7 = own_ex es q 6 := if_neg (fun z => z.2 hp)
        rw [ee] at jn; exact jn
      · refine ow_ifN K X0 (pc' := 572) at_569 rfl (XT.ll_lt_f hp) ?_
        refine ow_bipush K X0 (pc' := 574) (7 : Int32) at_572 rfl (by decide) ?_
        refine ow_istore K X0 (pc' := 576) (Ls' := #[.val (.int q0), .val (.long q1), .second, .val (.int q2), .val (.ref a), .val (.int (Int32.ofNat es.length)), .val (.ref b), .val (.ref o), .val (.long q), .second, .val (.long (Int64.ofNat (own_F es 1))), .second, .val (.long (Int64.ofNat (own_F es 2))), .second, .val (.long (Int64.ofNat (own_F es 3))), .second, .val (.long (Int64.ofNat (own_F es 4))), .second, .val (.long (Int64.ofNat (own_F es 5))), .second, .val (.long (Int64.ofNat (own_F es 6))), .second, .val (.long (Int64.ofNat (own_F es 7))), .second, .val (.int (7 : Int32))]) at_574 rfl rfl ?_
        have ee : own_ex es q 7 = 7 := if_pos ⟨own_lt8 (n := 7) (by decide) (by omega) hj, hp⟩
        rw [ee] at jn; exact jn
    · refine ow_icmpY K X0 (pc' := 576) at_561 (XT.ii_le_t hj) (by decide) (by decide) ?_
      have ee : own_ex es q 7 = own_ex es q 6 := if_neg (fun z => hj (own_ltn (i := 7) z.1 (by omega)))
      rw [ee] at jn; exact jn
  refine ow_aload K X0 (pc' := 578) o at_576 rfl rfl ?_
  refine ow_lload K X0 (pc' := 580) q at_578 rfl rfl ?_
  refine ow_callV K X0 (pc' := 583) e0 (y := (⟨"com/example/matins/matins/engine/PoolLayout", "poolOf", "(J)I"⟩ : MethodName)) (rm5 l Z a0 hw [] o q f kf es h n0 Z0 FT FP AF hS h2) E (hw _ (List.mem_of_getElem? (i := 40) rfl)) (hw _ (List.mem_of_getElem? (i := 41) rfl)) (hw _ (List.mem_of_getElem? (i := 43) rfl)) (hw _ (List.mem_of_getElem? (i := 42) rfl)) (hw _ (List.mem_of_getElem? (i := 7) rfl)) (hw _ (List.mem_of_getElem? (i := 44) rfl)) (by decide) (st := []) 0 (Nat.le_of_eq rfl) (by decide) (by decide) (by decide) (by decide) rfl [.long q] rfl (lenOf pd_5 rfl) rfl at_580 rfl ?_
  intro v1 T1 L1 X1 hQ1
  obtain ⟨rfl, NN, ex⟩ := hQ1
  have NX := Fr.app N0 NN
  refine ow_at (g := (mkF m 583 #[.val (.int q0), .val (.long q1), .second, .val (.int q2), .val (.ref a), .val (.int (Int32.ofNat es.length)), .val (.ref b), .val (.ref o), .val (.long q), .second, .val (.long (Int64.ofNat (own_F es 1))), .second, .val (.long (Int64.ofNat (own_F es 2))), .second, .val (.long (Int64.ofNat (own_F es 3))), .second, .val (.long (Int64.ofNat (own_F es 4))), .second, .val (.long (Int64.ofNat (own_F es 5))), .second, .val (.long (Int64.ofNat (own_F es 6))), .second, .val (.long (Int64.ofNat (own_F es 7))), .second, .val (.int (Int32.ofNat (own_ex es q 7)))] [.int (Int32.ofNat (own_pool es q (es.length - 1) 0))])) ?_
  refine ow_iload K X1 (pc' := 585) (Int32.ofNat (own_ex es q 7)) at_583 rfl rfl ?_
  refine ow_icmpN K X1 (pc' := 588) at_585 rfl (XT.ii_ne_f (congrArg Int32.ofNat (own_fin hS q (es.length - 1) 0 (by omega) rfl))) ?_
  refine ow_iconst K X1 (pc' := 589) (1 : Int32) at_588 rfl (by decide) ?_
  refine ow_goto K X1 (pc' := 593) at_589 (by decide) (by decide) ?_
  exact ow_retI K X1 .boolean rfl (by decide) (Or.inr (Or.inl rfl)) at_593 ⟨rfl, NX⟩ (by decide) (by decide)
theorem pn_0 : plainName "com/example/matins/matins/engine/PoolLayoutPoolOfPinLaw" = true := by first | (simp [plainName, overriddenIn]; done) | decide +kernel
theorem ef_0 (m : MethodId) (q0 : Int32) (q1 : Int64) (q2 : Int32) : entryFrame m #[(.int q0), (.long q1), (.int q2)] maxLocals = mkF m 0 #[.val (.int q0), .val (.long q1), .second, .val (.int q2), .unset, .unset, .unset, .unset, .unset, .unset, .unset, .unset, .unset, .unset, .unset, .unset, .unset, .unset, .unset, .unset, .unset, .unset, .unset, .unset, .unset] [] := by first | (simp [entryFrame, mkF, argsToLocals, Value.category, maxLocals]; done) | rfl
set_option maxRecDepth 65536 in
set_option maxHeartbeats 40000000 in
theorem rm0 (l : Launch) (Z : State) (a0 : Array Value) (hw : ∀ d ∈ tables_1, d.before a0 Z = true) (ws : List Jvm.Cond) (q0 : Int32) (q1 : Int64) (q2 : Int32) (h0 : Heap) (n0 : Nat) (Z0 : n0 ≤ h0.size) :
    MetFree l x (head1 (Jvm.Cond.code x code maxLocals ret :: ws) room_1) (fun as_ U => as_ = #[(.int q0), (.long q1), (.int q2)] ∧ Z.Warmed39 U.vm ∧ U.heap = h0) (fun _ _ _ _ _ => True) (fun _ U o U' => ∃ v L, o = .returned v ∧ Q0 n0 v U'.heap L ∧ FrameEnd U o U' L 5 35) := by
  refine MetFree.of_bodySF (plainFor_of_name pn_0) hisR ?_
  intro p e s m args below meth c s₁ Bd hml0 hP hK
  obtain ⟨rfl, hZ, hh⟩ := hP
  have K : ow_K p e below s m meth c Z "com/example/matins/matins/engine/PoolLayoutPoolOfPinLaw" code 25 (some .boolean) "law" (ow_Gl p e below s (Q0 n0) 5 35) := ⟨ow_Gl_bc, Bd.exec, Bd.bytes, hml0, findClass_of_methodNamed Bd.named, hZ, Bd.returns, Bd.notSynchronized, (name_of_methodNamed Bd.named Bd.method).1⟩
  have X0 : Stand p l e room_1 s m #[(.int q0), (.long q1), (.int q2)] below meth c s₁ [] 0 0 := Stand.of_body Bd
  have e0 : s₁.heap = h0 := by rw [← hh, Bd.state]; rfl
  have N0 := Fr.nil n0
  refine ow_entry (Q := (Q0 n0)) (ce := 5) (sl := 35) (ef_0 m q0 q1 q2) ?_
  refine ow_bipush K X0 (pc' := 2) (8 : Int32) at_0 rfl (by decide) ?_
  refine ow_newP K X0 (pc' := 4) e0 (hw _ (List.mem_of_getElem? (i := 0) rfl)) (by decide) 8 (by decide) (by decide) (by decide) (by decide) at_2 rfl ?_
  intro T1 h1 k1 a1 X1 e1 E1 g1 A1
  have ge2 : n0 ≤ a1 := Nat.le_trans Z0 (Nat.le_of_eq g1.symm)
  have Z3 : n0 ≤ h1.size := Nat.le_trans Z0 E1.1
  have F4 : Arv Z h1 a1 k1 .int (8 : Int32) [] (.int 0) := A1
  refine ow_astore K X1 (pc' := 6) (Ls' := #[.val (.int q0), .val (.long q1), .second, .val (.int q2), .val (.ref a1), .unset, .unset, .unset, .unset, .unset, .unset, .unset, .unset, .unset, .unset, .unset, .unset, .unset, .unset, .unset, .unset, .unset, .unset, .unset, .unset]) at_4 rfl rfl ?_
  refine ow_iconst K X1 (pc' := 7) (0 : Int32) at_6 rfl (by decide) ?_
  refine ow_istore K X1 (pc' := 9) (Ls' := #[.val (.int q0), .val (.long q1), .second, .val (.int q2), .val (.ref a1), .val (.int (0 : Int32)), .unset, .unset, .unset, .unset, .unset, .unset, .unset, .unset, .unset, .unset, .unset, .unset, .unset, .unset, .unset, .unset, .unset, .unset, .unset]) at_7 rfl rfl ?_
  refine b0 (es := []) hw K X1 e1 N0 Z3 ge2 F4 (show own_St [] 0 from ⟨by decide, List.Pairwise.nil, fun x hx => nomatch hx⟩) ?_
  intro TT1 LL1 hh1 es1 XX1 ee1 NN1 ZZ1 FF1 SS1
  refine b1 (es := es1) hw K XX1 ee1 NN1 ZZ1 ge2 FF1 SS1 ?_
  intro TT2 LL2 hh2 es2 XX2 ee2 NN2 ZZ2 FF2 SS2
  refine b2 (es := es2) hw K XX2 ee2 NN2 ZZ2 ge2 FF2 SS2 ?_
  intro TT3 LL3 hh3 es3 XX3 ee3 NN3 ZZ3 FF3 SS3
  refine b3 (es := es3) hw K XX3 ee3 NN3 ZZ3 ge2 FF3 SS3 ?_
  intro TT4 LL4 hh4 es4 XX4 ee4 NN4 ZZ4 FF4 SS4
  refine b4 (es := es4) hw K XX4 ee4 NN4 ZZ4 ge2 FF4 SS4 ?_
  intro TT5 LL5 hh5 es5 XX5 ee5 NN5 ZZ5 FF5 SS5
  refine b5 (es := es5) hw K XX5 ee5 NN5 ZZ5 ge2 FF5 SS5 ?_
  intro TT6 LL6 hh6 es6 XX6 ee6 NN6 ZZ6 FF6 SS6
  refine b6 (es := es6) hw K XX6 ee6 NN6 ZZ6 ge2 FF6 SS6 ?_
  intro TT7 LL7 hh7 es7 XX7 ee7 NN7 ZZ7 FF7 SS7
  refine b7 (es := es7) hw K XX7 ee7 NN7 ZZ7 ge2 FF7 SS7 ?_
  intro TT8 LL8 hh8 es8 XX8 ee8 NN8 ZZ8 FF8 SS8
  refine b8 (es := es8) hw K XX8 ee8 NN8 ZZ8 ge2 FF8 SS8 ?_
  intro TT9 LL9 hh9 es9 XX9 ee9 NN9 ZZ9 FF9 SS9
  refine b9 (es := es9) hw K XX9 ee9 NN9 ZZ9 ge2 FF9 SS9 ?_
  intro TT10 LL10 hh10 es10 XX10 ee10 NN10 ZZ10 FF10 SS10
  refine b10 (es := es10) hw K XX10 ee10 NN10 ZZ10 ge2 FF10 SS10 ?_
  intro TT11 LL11 hh11 es11 XX11 ee11 NN11 ZZ11 FF11 SS11
  refine b11 (es := es11) hw K XX11 ee11 NN11 ZZ11 ge2 FF11 SS11 ?_
  intro TT12 LL12 hh12 es12 XX12 ee12 NN12 ZZ12 FF12 SS12
  refine b12 (es := es12) hw K XX12 ee12 NN12 ZZ12 ge2 FF12 SS12 ?_
  intro TT13 LL13 hh13 es13 XX13 ee13 NN13 ZZ13 FF13 SS13
  refine ow_iload K XX13 (pc' := 320) (Int32.ofNat es13.length) at_318 rfl rfl ?_
  refine ow_iconst K XX13 (pc' := 321) (2 : Int32) at_320 rfl (by decide) ?_
  by_cases c2 : (Int32.ofNat es13.length) < (2 : Int32)
  · refine ow_icmpN K XX13 (pc' := 324) at_321 rfl (XT.ii_ge_f c2) ?_
    refine ow_iconst K XX13 (pc' := 325) (1 : Int32) at_324 rfl (by decide) ?_
    exact ow_retI K XX13 .boolean rfl (by decide) (Or.inr (Or.inl rfl)) at_325 ⟨rfl, NN13⟩ (by decide) (by decide)
  · refine ow_icmpY K XX13 (pc' := 326) at_321 (XT.ii_ge_t c2) (by decide) (by decide) ?_
    have h8 := SS13.1
    have h2 : 2 ≤ es13.length := Classical.byContradiction fun q => c2 (own_ltn (n := 2) (by omega) (by decide))
    refine ow_aload K XX13 (pc' := 328) a1 at_326 rfl rfl ?_
    refine ow_iload K XX13 (pc' := 330) (Int32.ofNat es13.length) at_328 rfl rfl ?_
    refine ow_callS K XX13 (pc' := 333) ee13 (y := (⟨"com/example/matins/matins/engine/PoolLayoutPoolOfPinLaw", "build", "([II)[I"⟩ : MethodName)) (rm1 l Z a0 hw [] a1 (Int32.ofNat es13.length) k1 es13 hh13 n0 ZZ13 rfl FF13 SS13 h2) (hw _ (List.mem_of_getElem? (i := 1) rfl)) (hw _ (List.mem_of_getElem? (i := 2) rfl)) (hw _ (List.mem_of_getElem? (i := 3) rfl)) (hw _ (List.mem_of_getElem? (i := 4) rfl)) (by decide) (st := []) 0 (Nat.le_of_eq rfl) (by decide) (by decide) (by decide) (by decide) rfl [.ref a1, .int (Int32.ofNat es13.length)] rfl (lenOf pd_1 rfl) rfl at_330 rfl ?_
    intro v5 T5 L5 X5 hQ5
    obtain ⟨b1, kb, rfl, NNb, Zb, gb, hcb, Kb, FBb, EBb⟩ := hQ5
    have NXb := Fr.app NN13 NNb
    have nab : a1 ≠ b1 := ow_ne FF13.lt hcb
    have F6 : Arv Z T5.heap a1 k1 .int (8 : Int32) (own_li es13) (.int 0) := FF13.keep Kb nin0
    have Z7 : n0 ≤ T5.heap.size := Nat.le_trans ZZ13 Kb.1
    refine ow_at (g := (mkF m 333 #[.val (.int q0), .val (.long q1), .second, .val (.int q2), .val (.ref a1), .val (.int (Int32.ofNat es13.length)), .unset, .unset, .unset, .unset, .unset, .unset, .unset, .unset, .unset, .unset, .unset, .unset, .unset, .unset, .unset, .unset, .unset, .unset, .unset] [.ref b1])) ?_
    refine ow_astore K X5 (pc' := 335) (Ls' := #[.val (.int q0), .val (.long q1), .second, .val (.int q2), .val (.ref a1), .val (.int (Int32.ofNat es13.length)), .val (.ref b1), .unset, .unset, .unset, .unset, .unset, .unset, .unset, .unset, .unset, .unset, .unset, .unset, .unset, .unset, .unset, .unset, .unset, .unset]) at_333 rfl rfl ?_
    refine ow_newO K X5 (pc' := 338) (rfl : T5.heap = T5.heap) (hw _ (List.mem_of_getElem? (i := 5) rfl)) (hw _ (List.mem_of_getElem? (i := 6) rfl)) (hw _ (List.mem_of_getElem? (i := 7) rfl)) (by decide) (by decide) at_335 rfl ?_
    intro T8 h8 o1 X8 e8 E8 g8 A8 D8
    have ne9 : a1 ≠ o1 := ow_ne F6.lt g8
    have ne10 : b1 ≠ o1 := ow_ne FBb.lt g8
    have ge11 : n0 ≤ o1 := Nat.le_trans Zb (Nat.le_of_eq g8.symm)
    have F12 : Arv Z h8 a1 k1 .int (8 : Int32) (own_li es13) (.int 0) := F6.ext E8
    have F13 : Arv Z h8 b1 kb .int (Int32.ofNat es13.length) (own_li es13) (.int 0) := FBb.ext E8
    have F14 : Exa Z h8 b1 "[I" := EBb.ext E8
    have Z15 : n0 ≤ h8.size := Nat.le_trans Zb E8.1
    have F16 : Fld Z h8 o1 "com/example/matins/matins/engine/PoolLayout" "exponents" "[I" (.null) := D8 (Or.inr (hw _ (List.mem_of_getElem? (i := 24) rfl))) (ty := (.array .int)) (by decide)
    have F17 : Fld Z h8 o1 "com/example/matins/matins/engine/PoolLayout" "top" "I" (.int 0) := D8 (Or.inr (hw _ (List.mem_of_getElem? (i := 26) rfl))) (ty := .int) (by decide)
    have F18 : Fld Z h8 o1 "com/example/matins/matins/engine/PoolLayout" "firstPostings" "[J" (.null) := D8 (Or.inr (hw _ (List.mem_of_getElem? (i := 29) rfl))) (ty := (.array .long)) (by decide)
    refine ow_dup K X8 (pc' := 339) at_338 rfl rfl ?_
    refine ow_aload K X8 (pc' := 341) b1 at_339 rfl rfl ?_
    refine ow_callP K X8 (pc' := 344) e8 (y := (⟨"com/example/matins/matins/engine/PoolLayout", "<init>", "([I)V"⟩ : MethodName)) (rm4 l Z a0 hw [] o1 b1 kb es13 h8 n0 Z15 A8 F16 F17 F18 F13 F14 SS13 h2 ge11 (Ne.symm ne10)) rfl (hw _ (List.mem_of_getElem? (i := 8) rfl)) (hw _ (List.mem_of_getElem? (i := 9) rfl)) (hw _ (List.mem_of_getElem? (i := 7) rfl)) (hw _ (List.mem_of_getElem? (i := 10) rfl)) (by decide) (st := [.ref o1]) 1 (Nat.le_of_eq rfl) (by decide) (by decide) (by decide) (by decide) rfl [.ref b1] rfl (lenOf pd_4 rfl) rfl at_341 rfl ?_
    intro v19 T19 L19 X19 hQ19
    obtain ⟨rfl, NNi, Zi, Ki, cx, f1, kx, kf, Ei, FXi, FTi, FPi, AXi, AFi⟩ := hQ19
    have NXi := Fr.app NXb NNi
    have FA9 : Arv Z T19.heap a1 k1 .int (8 : Int32) (own_li es13) (.int 0) := F12.keep Ki (ninS ne9 nin0)
    refine ow_at (g := (mkF m 344 #[.val (.int q0), .val (.long q1), .second, .val (.int q2), .val (.ref a1), .val (.int (Int32.ofNat es13.length)), .val (.ref b1), .unset, .unset, .unset, .unset, .unset, .unset, .unset, .unset, .unset, .unset, .unset, .unset, .unset, .unset, .unset, .unset, .unset, .unset] [.ref o1])) ?_
    refine ow_astore K X19 (pc' := 346) (Ls' := #[.val (.int q0), .val (.long q1), .second, .val (.int q2), .val (.ref a1), .val (.int (Int32.ofNat es13.length)), .val (.ref b1), .val (.ref o1), .unset, .unset, .unset, .unset, .unset, .unset, .unset, .unset, .unset, .unset, .unset, .unset, .unset, .unset, .unset, .unset, .unset]) at_344 rfl rfl ?_
    refine ow_iloadN K X19 (pc' := 347) q2 at_346 rfl rfl ?_
    refine ow_iconst K X19 (pc' := 348) (1 : Int32) at_347 rfl (by decide) ?_
    refine ow_iand K X19 (pc' := 349) (q2 &&& (1 : Int32)) at_348 rfl rfl ?_
    by_cases cm : (q2 &&& (1 : Int32)) = 0
    · refine ow_ifY K X19 (pc' := 356) at_349 (XT.i0_eq_t cm) (by decide) (by decide) ?_
      refine ow_lloadN K X19 (pc' := 357) q1 at_356 rfl rfl ?_
      refine ow_ldc2 K X19 (pc' := 360) (9000 : Int64) at_357 rfl (hw _ (List.mem_of_getElem? (i := 39) rfl)) ?_
      refine ow_lrem K X19 (pc' := 361) (q1 - (q1 / (9000 : Int64)) * (9000 : Int64)) at_360 rfl (by decide) rfl ?_
      exact t361 hw K X19 rfl NXi Zi FA9 Ei FTi FPi AFi SS13 h2
    · refine ow_ifN K X19 (pc' := 352) at_349 rfl (XT.i0_eq_f cm) ?_
      refine ow_lloadN K X19 (pc' := 353) q1 at_352 rfl rfl ?_
      refine ow_goto K X19 (pc' := 361) at_353 (by decide) (by decide) ?_
      exact t361 hw K X19 rfl NXi Zi FA9 Ei FTi FPi AFi SS13 h2
set_option maxRecDepth 65536 in
set_option maxHeartbeats 40000000 in
theorem comes_1 {Post : Tables → Env → Array Value → State → Outcome → State → Prop} (hpost : ∀ tb e args s v u, (limb_1_1.after args s (.returned v) u = true ∧ limb_1_2.after args s (.returned v) u = true ∧ True) → FrameEnd s (.returned v) u (Jvm.fieldLocs frame_1_writes args s ++ Jvm.arrayLocs frame_1_arrays args s ++ Jvm.staticLocs frame_1_statics s) 24 192 → Post tb e args s (.returned v) u) :
    ArmFor flags0 classFile x code maxLocals ret World_1 tables_1 room_1 Calls_1 rest_1 Pre_1 Post := by
  intro l hfl _ _ p e ha hc hk s m args below hf hA hF happ hP
  obtain ⟨hcalls, hrest, hpre⟩ := hP
  obtain ⟨-, -, -, hnamed, -, -, -, hat⟩ := (Spec.applies_iff hf).mp happ
  obtain ⟨hg, hn⟩ := and_e (Cond.before_iff.mp (show (Jvm.Cond.and given_1 narrow_1).before args s = true from hpre))
  obtain ⟨hcount, b0⟩ := and_e hg
  obtain ⟨a0, b1⟩ := and_e b0
  obtain ⟨a1, b2⟩ := and_e b1
  obtain ⟨w0, w1, w2, rfl⟩ : ∃ w0 w1 w2 : Value, args = #[w0, w1, w2] := by
    have hs : args.size = 3 := by simpa [Cond.value, given_1] using hcount
    obtain ⟨L⟩ := args
    match L, hs with
    | [w0, w1, w2], _ => exact ⟨w0, w1, w2, rfl⟩
  have hw := fun d (hd : d ∈ tables_1) => atoms_spec (ws := Jvm.Cond.code x code maxLocals ret :: tables_1) hat d (List.mem_cons_of_mem _ hd)
  obtain ⟨i0, f0⟩ := is_v a0
  obtain rfl : w0 = (.int i0) := Option.some.inj f0
  obtain ⟨i1, f1⟩ := isL_v a1
  obtain rfl : w1 = (.long i1) := Option.some.inj f1
  obtain ⟨i2, f2⟩ := is_v b2
  obtain rfl : w2 = (.int i2) := Option.some.inj f2
  obtain ⟨n, o, h1, h2, h3, _, L, rfl, ⟨rfl, N⟩, hq⟩ := rm0 l s _ hw tables_1 i0 i1 i2 s.heap s.heap.size (Nat.le_refl _) p e ha hc hk s m _ below hf ((Spec.applies_iff_loose hf).mp happ).1 ⟨rfl, State.Warmed39.refl s, rfl⟩ trivial
  refine ⟨n, _, h1, h2, h3, hpost _ _ _ _ _ _ ⟨Cond.after_iff.mpr rfl, Cond.after_iff.mpr (eq_i res_at (Term.int_eval (1)) rfl), trivial⟩ ⟨hq.1, hq.2.1, (hq.2.2.sift fun y hy => Or.inr (N y hy)).mono (by decide) (by decide)⟩⟩
theorem main_1_1 : Claimed_1_1 := comes_1 fun _ _ _ _ _ _ h hF => ⟨h.1, hF⟩
theorem main_1_2 : Claimed_1_2 := comes_1 fun _ _ _ _ _ _ h hF => ⟨h.2.1, hF⟩
end Jvm.Pilot.@@N@@
namespace Jvm.Pilot.@@N@@
open Jvm Jvm.ClassFile Sem Op Lib Jvm.Free Jvm.Stand Jvm.Pilot.@@N@@.Jvm.D
/-! MADE BY PROGRAM (witnessworld.py) out of the Statement's table words and the real class files: 11 classes; the members and pool entries that the words name. The judged class is class 1, her method 1. -/
namespace start1
open Jvm.ClassFile
def u (s : String) : CpInfo := .utf8 (stringToUtf16 s)
/-- a pool by its gaps: so many unusable entries, then the entry; so many at the end -/
def gap : Nat → List CpInfo → List CpInfo
  | 0, r => r
  | n + 1, r => .unusable :: gap n r
def poolList (es : List (Nat × CpInfo)) (last : Nat) : List CpInfo := es.foldr (fun e r => gap e.1 (e.2 :: r)) (gap last [])
def pool (es : List (Nat × CpInfo)) (last : Nat) : Array CpInfo := ⟨poolList es last⟩
def fileOf (pool : Array CpInfo) (this : Nat) (attrs : Array Attribute := #[]) (ms : Array MethodInfo := #[]) (fl : Nat := 33) (sup : Nat := 0) (ifs : Array Nat := #[]) (fds : Array FieldInfo := #[]) : ClassFile where
  minorVersion := 0
  majorVersion := 65
  constantPool := pool
  accessFlags := fl
  thisClass := this
  superClass := sup
  interfaces := ifs
  fields := fds
  methods := ms
  attributes := attrs
def plain (name : String) (sup : Option ClassId) : Class where
  name := name
  kind := .ordinary
  loader := none
  accessFlags := 33
  super := sup
  interfaces := #[]
  cf := none
  fields := #[]
  methods := #[]
  instanceTypes := #[]
  staticTypes := #[]
  resolved := #[]
  callSites := []
  init := .initialized
  statics := none
  mirror := none

def pool0 : Array CpInfo := pool [(5, u "<init>"), (0, u "()V"), (1, .class_ 10), (1, u "java/lang/Object"), (85, u "clone"), (0, u "()Ljava/lang/Object;")] 26

def k0c0 : Code := { maxStack := 0, maxLocals := 1, code := object_method_1_code, exceptionTable := #[], attributes := #[] }
def k0m0 : Method := { name := "<init>", desc := "()V", sig := { parameters := [], returnType := none }, accessFlags := 1, code := some k0c0 }
def k0m1 : Method := { name := "clone", desc := "()Ljava/lang/Object;", sig := { parameters := [], returnType := some (.object "java/lang/Object") }, accessFlags := 260, code := none }
/-- java/lang/Object -/
def k0 : Class := { plain "java/lang/Object" none with
  accessFlags := 33
  interfaces := #[]
  cf := some (fileOf pool0 8 #[] #[{ accessFlags := 1, nameIndex := 5, descriptorIndex := 6, attributes := #[] }, { accessFlags := 260, nameIndex := 96, descriptorIndex := 97, attributes := #[] }] 33 0 #[] #[])
  fields := #[]
  methods := #[k0m0, k0m1]
  instanceTypes := #[]
  staticTypes := #[]
  resolved := Array.replicate 124 none
  statics := none }

def pool1 : Array CpInfo := pool [(2, .class_ 4), (1, u "java/lang/Object"), (0, u "<init>"), (0, u "()V"), (0, .methodref 8 9), (0, .class_ 10), (0, .nameAndType 11 12), (0, u "com/example/matins/matins/engine/PoolLayoutPoolOfPinLaw"), (0, u "build"), (0, u "([II)[I"), (0, .class_ 14), (0, u "com/example/matins/matins/engine/PoolLayout"), (0, .methodref 13 16), (0, .nameAndType 5 17), (0, u "([I)V"), (0, .long 9000), (1, .methodref 13 21), (0, .nameAndType 22 23), (0, u "poolOf"), (0, u "(J)I"), (2, u "law"), (0, u "(IJI)Z")] 5

def k1m0 : Method := { name := "<init>", desc := "()V", sig := { parameters := [], returnType := none }, accessFlags := 1, code := none }
def k1c1 : Code := { maxStack := 6, maxLocals := 25, code := code, exceptionTable := #[], attributes := #[] }
def k1m1 : Method := { name := "law", desc := "(IJI)Z", sig := { parameters := [.int, .long, .int], returnType := some .boolean }, accessFlags := 9, code := some k1c1 }
def k1c2 : Code := { maxStack := 5, maxLocals := 2, code := method_3_code, exceptionTable := #[], attributes := #[] }
def k1m2 : Method := { name := "build", desc := "([II)[I", sig := { parameters := [(.array .int), .int], returnType := some (.array .int) }, accessFlags := 10, code := some k1c2 }
/-- com/example/matins/matins/engine/PoolLayoutPoolOfPinLaw -/
def k1 : Class := { plain "com/example/matins/matins/engine/PoolLayoutPoolOfPinLaw" (some 0) with
  accessFlags := 49
  interfaces := #[]
  cf := some (fileOf pool1 8 #[] #[{ accessFlags := 1, nameIndex := 5, descriptorIndex := 6, attributes := #[] }, { accessFlags := 9, nameIndex := 26, descriptorIndex := 27, attributes := #[] }, { accessFlags := 10, nameIndex := 11, descriptorIndex := 12, attributes := #[] }] 49 2 #[] #[])
  fields := #[]
  methods := #[k1m0, k1m1, k1m2]
  instanceTypes := #[]
  staticTypes := #[]
  resolved := Array.replicate 33 none
  statics := none }

def pool2 : Array CpInfo := pool [(1, .methodref 2 3), (0, .class_ 4), (0, .nameAndType 5 6), (0, u "java/lang/Object"), (0, u "<init>"), (0, u "()V"), (0, .class_ 8), (0, u "com/example/matins/matins/engine/PoolLayout"), (15, .methodref 25 26), (0, .class_ 27), (0, .nameAndType 28 29), (0, u "[I"), (0, u "clone"), (0, u "()Ljava/lang/Object;"), (0, .fieldref 7 31), (0, .nameAndType 32 27), (0, u "exponents"), (0, .fieldref 7 34), (0, .nameAndType 35 36), (0, u "top"), (0, u "I"), (0, .fieldref 7 38), (0, .nameAndType 39 40), (0, u "firstPostings"), (0, u "[J"), (0, .methodref 7 42), (0, .nameAndType 43 44), (0, u "capacity"), (0, u "(I)I"), (8, .methodref 7 54), (0, .nameAndType 55 44), (0, u "sliceSize"), (5, u "([I)V"), (2, u "DEFAULT"), (0, u "Lcom/example/matins/matins/engine/PoolLayout;"), (0, u "MIN_POOLS"), (2, u "MAX_POOLS"), (1, u "MAX_EXPONENT"), (9, u "poolOf"), (0, u "(J)I")] 20

def k2c0 : Code := { maxStack := 7, maxLocals := 5, code := prog_54_method_1_code, exceptionTable := #[], attributes := #[] }
def k2m0 : Method := { name := "<init>", desc := "([I)V", sig := { parameters := [(.array .int)], returnType := none }, accessFlags := 129, code := some k2c0 }
def k2c1 : Code := { maxStack := 3, maxLocals := 2, code := prog_54_method_7_code, exceptionTable := #[], attributes := #[] }
def k2m1 : Method := { name := "sliceSize", desc := "(I)I", sig := { parameters := [.int], returnType := some .int }, accessFlags := 0, code := some k2c1 }
def k2c2 : Code := { maxStack := 2, maxLocals := 2, code := prog_54_method_8_code, exceptionTable := #[], attributes := #[] }
def k2m2 : Method := { name := "capacity", desc := "(I)I", sig := { parameters := [.int], returnType := some .int }, accessFlags := 2, code := some k2c2 }
def k2c3 : Code := { maxStack := 5, maxLocals := 4, code := prog_54_method_10_code, exceptionTable := #[], attributes := #[] }
def k2m3 : Method := { name := "poolOf", desc := "(J)I", sig := { parameters := [.long], returnType := some .int }, accessFlags := 0, code := some k2c3 }
/-- com/example/matins/matins/engine/PoolLayout -/
def k2 : Class := { plain "com/example/matins/matins/engine/PoolLayout" (some 0) with
  accessFlags := 49
  interfaces := #[]
  cf := some (fileOf pool2 7 #[] #[{ accessFlags := 129, nameIndex := 5, descriptorIndex := 61, attributes := #[] }, { accessFlags := 0, nameIndex := 55, descriptorIndex := 44, attributes := #[] }, { accessFlags := 2, nameIndex := 43, descriptorIndex := 44, attributes := #[] }, { accessFlags := 0, nameIndex := 81, descriptorIndex := 82, attributes := #[] }] 49 2 #[] #[{ accessFlags := 25, nameIndex := 66, descriptorIndex := 36, attributes := #[] }, { accessFlags := 25, nameIndex := 69, descriptorIndex := 36, attributes := #[] }, { accessFlags := 25, nameIndex := 71, descriptorIndex := 36, attributes := #[] }, { accessFlags := 25, nameIndex := 64, descriptorIndex := 65, attributes := #[] }, { accessFlags := 18, nameIndex := 32, descriptorIndex := 27, attributes := #[] }, { accessFlags := 18, nameIndex := 39, descriptorIndex := 40, attributes := #[] }, { accessFlags := 18, nameIndex := 35, descriptorIndex := 36, attributes := #[] }])
  fields := #[{ name := "MIN_POOLS", type := .int, accessFlags := 25, slot := 0, constantValue := 0 }, { name := "MAX_POOLS", type := .int, accessFlags := 25, slot := 1, constantValue := 0 }, { name := "MAX_EXPONENT", type := .int, accessFlags := 25, slot := 2, constantValue := 0 }, { name := "DEFAULT", type := (.object "com/example/matins/matins/engine/PoolLayout"), accessFlags := 25, slot := 3, constantValue := 0 }, { name := "exponents", type := (.array .int), accessFlags := 18, slot := 0, constantValue := 0 }, { name := "firstPostings", type := (.array .long), accessFlags := 18, slot := 1, constantValue := 0 }, { name := "top", type := .int, accessFlags := 18, slot := 2, constantValue := 0 }]
  methods := #[k2m0, k2m1, k2m2, k2m3]
  instanceTypes := #[(.array .int), (.array .long), .int]
  staticTypes := #[.int, .int, .int, (.object "com/example/matins/matins/engine/PoolLayout")]
  resolved := Array.replicate 103 none
  statics := none }

def pool3 : Array CpInfo := pool [(1, .class_ 2), (0, u "java/lang/Cloneable"), (0, .class_ 4), (0, u "java/lang/Object")] 2

/-- java/lang/Cloneable -/
def k3 : Class := { plain "java/lang/Cloneable" (some 0) with
  accessFlags := 1537
  interfaces := #[]
  cf := some (fileOf pool3 1 #[] #[] 1537 3 #[] #[])
  fields := #[]
  methods := #[]
  instanceTypes := #[]
  staticTypes := #[]
  resolved := Array.replicate 7 none
  statics := none }

def pool4 : Array CpInfo := pool [(1, u "java/io/Serializable"), (0, .class_ 1), (0, u "java/lang/Object"), (0, .class_ 3)] 3

/-- java/io/Serializable -/
def k4 : Class := { plain "java/io/Serializable" (some 0) with
  accessFlags := 1537
  interfaces := #[]
  cf := some (fileOf pool4 2 #[] #[] 1537 4 #[] #[])
  fields := #[]
  methods := #[]
  instanceTypes := #[]
  staticTypes := #[]
  resolved := Array.replicate 8 none
  statics := none }

/-- the primitive byte -/
def k5 : Class := { plain "byte" none with kind := .primitive 'B', accessFlags := 0x411 }
/-- [B -/
def k6 : Class := { plain "[B" (some 0) with kind := .array 5 .byte, interfaces := #[3, 4], accessFlags := 1041 }

/-- the primitive int -/
def k7 : Class := { plain "int" none with kind := .primitive 'I', accessFlags := 0x411 }
/-- [I -/
def k8 : Class := { plain "[I" (some 0) with kind := .array 7 .int, interfaces := #[3, 4], accessFlags := 1041 }

/-- the primitive long -/
def k9 : Class := { plain "long" none with kind := .primitive 'J', accessFlags := 0x411 }
/-- [J -/
def k10 : Class := { plain "[J" (some 0) with kind := .array 9 .long, interfaces := #[3, 4], accessFlags := 1041 }

def heap : Heap := #[]
def classes : Array Class := #[k0, k1, k2, k3, k4, k5, k6, k7, k8, k9, k10]
def interned : List (Array UInt16 × Addr) := []
def slotsUsed : Nat := 0
def theMethod : MethodId := ⟨1, 1⟩
def args0 : Array Value := #[.int 7, .long 6, .int 3]
def aboutOver (below : List Frame) : State where
  vm := { classes := classes, interned := interned.toArray }
  heap := heap
  slotsUsed := slotsUsed
  threads := #[{ frames := .invoking theMethod args0 :: below }]
def below0 : List Frame := [.native { method := ⟨0, 0⟩, args := #[] }]
def about1 : State := aboutOver below0
def p0 : Program := .bare "" "" ""
def e0 : Env := launch0.env 0 0 0
theorem w_frames : about1.frames = Frame.invoking theMethod args0 :: below0 := rfl
set_option maxRecDepth 65536 in
theorem w_args : argsFit about1.vm theMethod args0 = true := by decide +kernel
set_option maxRecDepth 65536 in
theorem w_heap : heapFits about1 = true := by decide +kernel
set_option maxRecDepth 65536 in
theorem w_runnable : about1.curStatus? = some .runnable := by decide +kernel
set_option maxRecDepth 65536 in
theorem w_alone : about1.alone = true := by decide +kernel
set_option maxRecDepth 65536 in
theorem w_named : about1.methodNamed? x = some theMethod := by decide +kernel
set_option maxRecDepth 65536 in
theorem w_hears : about1.hears theMethod below0 = true := by decide +kernel
set_option maxRecDepth 65536 in
theorem w_ripe : about1.ripe theMethod args0 below0 = true := by decide +kernel
theorem w_running : about1.status = .running := rfl
set_option maxRecDepth 65536 in
theorem w_room : about1.hasRoom e0.platform room_1 = true :=
  launch0.hasRoom_least _ room_1 (by decide +kernel) (by decide +kernel) (by decide +kernel) (by decide +kernel) (by decide +kernel) (by decide +kernel)
theorem allAtoms_all (ts : List Jvm.Cond) (a : Array Jvm.Value) (st : Jvm.State) : (allAtoms ts).before a st = ts.all (fun c => c.before a st) := by
  induction ts with
  | nil => rfl
  | cons c t ih =>
    show (Jvm.Cond.and c (allAtoms t)).before a st = _
    rw [Jvm.Cond.before_and, ih, List.all_cons]
def words1 : List Jvm.Cond := Jvm.Cond.code x code maxLocals ret :: tables_1
/-- a 'code' word, met by the world's own term for the bytes: nothing is compared byte by byte -/
theorem code_word {y : MethodName} {bytes : ByteArray} {mx : Nat} {rt : Option FieldType} {a : Array Value} {s : State} {m : MethodId} {meth : Method} {c : Code} (h1 : s.methodNamed? y = some m) (h2 : s.vm.method? m = some meth) (h3 : meth.code = some c) (h4 : c.code = bytes)
    (h5 : (c.maxLocals == mx && c.exceptionTable.isEmpty && decide (c.maxStack ≤ mostOperands) && decide (meth.sig.returnType = rt) && !meth.locks && decide (parseMethodDescriptor y.desc = some meth.sig)) = true) : (Jvm.Cond.code y bytes mx rt).before a s = true := by
  simp only [Bool.and_eq_true, beq_iff_eq, Bool.not_eq_true', decide_eq_true_eq] at h5
  obtain ⟨⟨⟨⟨⟨g1, g2⟩, g3⟩, g4⟩, g5⟩, g6⟩ := h5
  simp [Cond.before, Cond.holds, Cond.value, h1, h2, h3, h4, g1, g2, g3, g4, g5, g6]
def isCode : Jvm.Cond → Bool
  | .code _ _ _ _ => true
  | _ => false
theorem all_split {L : List Jvm.Cond} {P : Jvm.Cond → Bool} (h1 : L.all (fun c => isCode c || P c) = true) (h2 : ∀ c ∈ L.filter isCode, P c = true) : L.all P = true := by
  refine List.all_eq_true.mpr fun c hc => ?_
  have h := List.all_eq_true.mp h1 c hc
  rcases Bool.eq_false_or_eq_true (isCode c) with hi | hi
  · exact h2 c (List.mem_filter.mpr ⟨hc, hi⟩)
  · simpa [hi] using h
set_option maxRecDepth 65536 in
theorem w_c0 : (Jvm.Cond.code x code maxLocals ret).before args0 about1 = true := code_word (m := ⟨1, 1⟩) (meth := k1m1) (c := k1c1) (by decide +kernel) rfl rfl rfl (by decide +kernel)
set_option maxRecDepth 65536 in
theorem w_c1 : (Jvm.Cond.code ({ cls := "com/example/matins/matins/engine/PoolLayoutPoolOfPinLaw", name := "build", desc := "([II)[I" } : Jvm.MethodName) method_3_code (2 : Nat) (Option.some (Jvm.ClassFile.FieldType.array Jvm.ClassFile.FieldType.int))).before args0 about1 = true := code_word (m := ⟨1, 2⟩) (meth := k1m2) (c := k1c2) (by decide +kernel) rfl rfl rfl (by decide +kernel)
set_option maxRecDepth 65536 in
theorem w_c2 : (Jvm.Cond.code ({ cls := "com/example/matins/matins/engine/PoolLayout", name := "<init>", desc := "([I)V" } : Jvm.MethodName) prog_54_method_1_code (5 : Nat) (Option.none : Option Jvm.ClassFile.FieldType)).before args0 about1 = true := code_word (m := ⟨2, 0⟩) (meth := k2m0) (c := k2c0) (by decide +kernel) rfl rfl rfl (by decide +kernel)
set_option maxRecDepth 65536 in
theorem w_c3 : (Jvm.Cond.code ({ cls := "java/lang/Object", name := "<init>", desc := "()V" } : Jvm.MethodName) object_method_1_code (1 : Nat) (Option.none : Option Jvm.ClassFile.FieldType)).before args0 about1 = true := code_word (m := ⟨0, 0⟩) (meth := k0m0) (c := k0c0) (by decide +kernel) rfl rfl rfl (by decide +kernel)
set_option maxRecDepth 65536 in
theorem w_c4 : (Jvm.Cond.code ({ cls := "com/example/matins/matins/engine/PoolLayout", name := "capacity", desc := "(I)I" } : Jvm.MethodName) prog_54_method_8_code (2 : Nat) (Option.some Jvm.ClassFile.FieldType.int)).before args0 about1 = true := code_word (m := ⟨2, 2⟩) (meth := k2m2) (c := k2c2) (by decide +kernel) rfl rfl rfl (by decide +kernel)
set_option maxRecDepth 65536 in
theorem w_c5 : (Jvm.Cond.code ({ cls := "com/example/matins/matins/engine/PoolLayout", name := "sliceSize", desc := "(I)I" } : Jvm.MethodName) prog_54_method_7_code (2 : Nat) (Option.some Jvm.ClassFile.FieldType.int)).before args0 about1 = true := code_word (m := ⟨2, 1⟩) (meth := k2m1) (c := k2c1) (by decide +kernel) rfl rfl rfl (by decide +kernel)
set_option maxRecDepth 65536 in
theorem w_c6 : (Jvm.Cond.code ({ cls := "com/example/matins/matins/engine/PoolLayout", name := "poolOf", desc := "(J)I" } : Jvm.MethodName) prog_54_method_10_code (4 : Nat) (Option.some Jvm.ClassFile.FieldType.int)).before args0 about1 = true := code_word (m := ⟨2, 3⟩) (meth := k2m3) (c := k2c3) (by decide +kernel) rfl rfl rfl (by decide +kernel)
def codes1 : List Jvm.Cond := [Jvm.Cond.code x code maxLocals ret, Jvm.Cond.code ({ cls := "com/example/matins/matins/engine/PoolLayoutPoolOfPinLaw", name := "build", desc := "([II)[I" } : Jvm.MethodName) method_3_code (2 : Nat) (Option.some (Jvm.ClassFile.FieldType.array Jvm.ClassFile.FieldType.int)), Jvm.Cond.code ({ cls := "com/example/matins/matins/engine/PoolLayout", name := "<init>", desc := "([I)V" } : Jvm.MethodName) prog_54_method_1_code (5 : Nat) (Option.none : Option Jvm.ClassFile.FieldType), Jvm.Cond.code ({ cls := "java/lang/Object", name := "<init>", desc := "()V" } : Jvm.MethodName) object_method_1_code (1 : Nat) (Option.none : Option Jvm.ClassFile.FieldType), Jvm.Cond.code ({ cls := "com/example/matins/matins/engine/PoolLayout", name := "capacity", desc := "(I)I" } : Jvm.MethodName) prog_54_method_8_code (2 : Nat) (Option.some Jvm.ClassFile.FieldType.int), Jvm.Cond.code ({ cls := "com/example/matins/matins/engine/PoolLayout", name := "sliceSize", desc := "(I)I" } : Jvm.MethodName) prog_54_method_7_code (2 : Nat) (Option.some Jvm.ClassFile.FieldType.int), Jvm.Cond.code ({ cls := "com/example/matins/matins/engine/PoolLayout", name := "poolOf", desc := "(J)I" } : Jvm.MethodName) prog_54_method_10_code (4 : Nat) (Option.some Jvm.ClassFile.FieldType.int)]
set_option maxRecDepth 65536 in
theorem codes_eq : words1.filter isCode = codes1 := rfl
theorem w_codes : ∀ c ∈ words1.filter isCode, c.before args0 about1 = true := by
  rw [codes_eq]
  intro c hc
  simp only [codes1, List.mem_cons, List.not_mem_nil, or_false] at hc
  rcases hc with rfl | rfl | rfl | rfl | rfl | rfl | rfl
  · exact w_c0
  · exact w_c1
  · exact w_c2
  · exact w_c3
  · exact w_c4
  · exact w_c5
  · exact w_c6
set_option maxRecDepth 65536 in
theorem w_t1 : (words1.take 24).all (fun c => isCode c || c.before args0 about1) = true := by decide +kernel
set_option maxRecDepth 65536 in
theorem w_t2 : (words1.drop 24).all (fun c => isCode c || c.before args0 about1) = true := by decide +kernel
theorem w_tables : (allAtoms (Jvm.Cond.code x code maxLocals ret :: tables_1)).before args0 about1 = true := by
  rw [allAtoms_all]
  show words1.all (fun c => c.before args0 about1) = true
  refine all_split ?_ w_codes
  rw [← List.take_append_drop 24 words1, List.all_append, w_t1, w_t2]
  rfl
set_option maxRecDepth 65536 in
theorem w_case : (Jvm.Cond.and given_1 narrow_1).before args0 about1 = true := by decide +kernel
theorem w_applies : (headSpec (Jvm.Cond.code x code maxLocals ret :: tables_1) room_1).applies x e0.platform about1 = true :=
  (Spec.applies_iff w_frames).mpr ⟨w_running, w_runnable, w_alone, w_named, w_hears, w_ripe, w_room, w_tables⟩
theorem atStart : AtStart classFile x code maxLocals ret World_1 tables_1 room_1 Calls_1 rest_1 Pre_1 launch0 p0 e0 about1 theMethod args0 below0 :=
  ⟨lists_1, trivial, launch0.admits_env _ _ _, launch0.least_env, fairChoices_fair.cas, fairChoices_fair.clock, w_frames, w_args, w_heap, w_applies, trivial, trivial, w_case⟩
end start1
theorem witness_1 : WitnessClaimed_1 := ⟨start1.p0, start1.e0, start1.about1, start1.theMethod, start1.args0, start1.below0, start1.atStart⟩
end Jvm.Pilot.@@N@@
