import JvmDerived
import JvmDerived.Pilot.@@N@@Statement
import JvmDerived.Pilot.@@N@@Code
set_option linter.unusedVariables false
set_option linter.unusedSimpArgs false
namespace Jvm.Pilot.@@N@@
open Jvm Jvm.ClassFile Sem Op Lib Jvm.Free Jvm.Stand Jvm.LawKit Jvm.RoadKit Bundle Jvm.Pilot.@@N@@.Jvm.D

section Own
variable {p : Program} {l : Launch} {e : Env} {R : Room} {s : State} {m : MethodId} {args : Array Value} {below : List Frame} {meth : Method} {c : Code} {T : State} {locs : List Loc} {cells slots : Nat} {Z : State} {a0 : Array Value} {h : Heap} {own nm : String} {cd : ByteArray} {mx : Nat} {rt : Option FieldType} {G : State → Prop} {pc pc' : Nat} {Ls Ls' : Array Slot} {st : List Value}
/-- what a walk carries: the goal is closed under steps taken backwards; the body's own facts -/
def ow_K (p : Program) (e : Env) (below : List Frame) (s : State) (m : MethodId) (meth : Method) (c : Code) (Z : State) (own : String) (cd : ByteArray) (mx : Nat) (rt : Option FieldType) (nm : String) (G : State → Prop) : Prop :=
  (∀ A B, (∀ t, Steps p.tables e below B t → Steps p.tables e below A t) → G B → G A) ∧ p.tables.exec = Jvm.exec ∧ c.code = cd ∧ c.maxLocals = mx ∧ s.vm.findClass own = some m.cls ∧ Z.Warmed39 s.vm ∧ meth.sig.returnType = rt ∧ meth.locks = false ∧ meth.name = nm
/-- the goal of a body: it returns, and Q holds of what it returns, of the heap and of the places written -/
def ow_Gl (p : Program) (e : Env) (below : List Frame) (s : State) (Q : Option Value → Heap → List Loc → Prop) (ce sl : Nat) (S : State) : Prop :=
  ∃ s₂ o, Steps p.tables e below S s₂ ∧ s₂.status = .running ∧ Ended s₂ below o ∧ ∃ v L, o = .returned v ∧ Q v s₂.heap L ∧ FrameEnd s o s₂ L ce sl
theorem ow_Gl_bc {Q : Option Value → Heap → List Loc → Prop} {ce sl : Nat} : ∀ A B, (∀ t, Steps p.tables e below B t → Steps p.tables e below A t) → ow_Gl p e below s Q ce sl B → ow_Gl p e below s Q ce sl A := fun A B hs hG => by
  obtain ⟨s₂, o, h1, h2⟩ := hG
  exact ⟨s₂, o, hs _ h1, h2⟩
theorem ow_entry {Q : Option Value → Heap → List Loc → Prop} {ce sl : Nat} {n : Nat} {g : JFrame} (q : entryFrame m args n = g) (hG : ow_Gl p e below s Q ce sl (T.setTop g)) : ow_Gl p e below s Q ce sl (T.setTop (entryFrame m args n)) := q ▸ hG
theorem ow_ne {a b n : Nat} (h : b < n) (g : a = n) : b ≠ a := fun q => by omega
theorem ow_at {g : JFrame} (hG : G (T.setTop g)) : G (T.setTop g) := hG

theorem ow_iload (K : ow_K p e below s m meth c Z own cd mx rt nm G) (X : Stand p l e R s m args below meth c T locs cells slots) {k : Nat} (v : Int32) (hd : decode cd pc = .ok (.iload k, 2)) (hp : pc' = pc + 2) (hl : Ls[k]? = some (.val (.int v))) (hr : G (T.setTop (mkF m pc' Ls (.int v :: st)))) : G (T.setTop (mkF m pc Ls (st))) := by
  subst hp
  exact K.1 _ _ (fun t q => XS.iload X.here K.2.1 rfl (hb K.2.2.1 hd) hl q) hr
theorem ow_iloadN (K : ow_K p e below s m meth c Z own cd mx rt nm G) (X : Stand p l e R s m args below meth c T locs cells slots) {k : Fin 4} (v : Int32) (hd : decode cd pc = .ok (.iload_n k, 1)) (hp : pc' = pc + 1) (hl : Ls[k.val]? = some (.val (.int v))) (hr : G (T.setTop (mkF m pc' Ls (.int v :: st)))) : G (T.setTop (mkF m pc Ls (st))) := by
  subst hp
  exact K.1 _ _ (fun t q => XS.iloadN X.here K.2.1 rfl (hb K.2.2.1 hd) hl q) hr
theorem ow_lload (K : ow_K p e below s m meth c Z own cd mx rt nm G) (X : Stand p l e R s m args below meth c T locs cells slots) {k : Nat} (v : Int64) (hd : decode cd pc = .ok (.lload k, 2)) (hp : pc' = pc + 2) (hl : Ls[k]? = some (.val (.long v))) (hr : G (T.setTop (mkF m pc' Ls (.long v :: st)))) : G (T.setTop (mkF m pc Ls (st))) := by
  subst hp
  exact K.1 _ _ (fun t q => XT.lload X.here K.2.1 rfl (hb K.2.2.1 hd) hl q) hr
theorem ow_lloadN (K : ow_K p e below s m meth c Z own cd mx rt nm G) (X : Stand p l e R s m args below meth c T locs cells slots) {k : Fin 4} (v : Int64) (hd : decode cd pc = .ok (.lload_n k, 1)) (hp : pc' = pc + 1) (hl : Ls[k.val]? = some (.val (.long v))) (hr : G (T.setTop (mkF m pc' Ls (.long v :: st)))) : G (T.setTop (mkF m pc Ls (st))) := by
  subst hp
  exact K.1 _ _ (fun t q => XT.lloadN X.here K.2.1 rfl (hb K.2.2.1 hd) hl q) hr
theorem ow_aload (K : ow_K p e below s m meth c Z own cd mx rt nm G) (X : Stand p l e R s m args below meth c T locs cells slots) {k : Nat} (v : Addr) (hd : decode cd pc = .ok (.aload k, 2)) (hp : pc' = pc + 2) (hl : Ls[k]? = some (.val (.ref v))) (hr : G (T.setTop (mkF m pc' Ls (.ref v :: st)))) : G (T.setTop (mkF m pc Ls (st))) := by
  subst hp
  exact K.1 _ _ (fun t q => XS.aload X.here K.2.1 rfl (hb K.2.2.1 hd) hl rfl q) hr
theorem ow_aloadN (K : ow_K p e below s m meth c Z own cd mx rt nm G) (X : Stand p l e R s m args below meth c T locs cells slots) {k : Fin 4} (v : Addr) (hd : decode cd pc = .ok (.aload_n k, 1)) (hp : pc' = pc + 1) (hl : Ls[k.val]? = some (.val (.ref v))) (hr : G (T.setTop (mkF m pc' Ls (.ref v :: st)))) : G (T.setTop (mkF m pc Ls (st))) := by
  subst hp
  exact K.1 _ _ (fun t q => XS.aloadN X.here K.2.1 rfl (hb K.2.2.1 hd) hl rfl q) hr
theorem ow_istore (K : ow_K p e below s m meth c Z own cd mx rt nm G) (X : Stand p l e R s m args below meth c T locs cells slots) {k : Nat} {v : Int32} (hd : decode cd pc = .ok (.istore k, 2)) (hp : pc' = pc + 2) (hl : storeLocals Ls k (.int v) = some Ls') (hr : G (T.setTop (mkF m pc' Ls' (st)))) : G (T.setTop (mkF m pc Ls (.int v :: st))) := by
  subst hp
  exact K.1 _ _ (fun t q => XS.istore X.here K.2.1 rfl (hb K.2.2.1 hd) rfl hl q) hr
theorem ow_istoreN (K : ow_K p e below s m meth c Z own cd mx rt nm G) (X : Stand p l e R s m args below meth c T locs cells slots) {k : Fin 4} {v : Int32} (hd : decode cd pc = .ok (.istore_n k, 1)) (hp : pc' = pc + 1) (hl : storeLocals Ls k.val (.int v) = some Ls') (hr : G (T.setTop (mkF m pc' Ls' (st)))) : G (T.setTop (mkF m pc Ls (.int v :: st))) := by
  subst hp
  exact K.1 _ _ (fun t q => XS.istoreN X.here K.2.1 rfl (hb K.2.2.1 hd) rfl hl q) hr
theorem ow_lstore (K : ow_K p e below s m meth c Z own cd mx rt nm G) (X : Stand p l e R s m args below meth c T locs cells slots) {k : Nat} {v : Int64} (hd : decode cd pc = .ok (.lstore k, 2)) (hp : pc' = pc + 2) (hl : storeLocals Ls k (.long v) = some Ls') (hr : G (T.setTop (mkF m pc' Ls' (st)))) : G (T.setTop (mkF m pc Ls (.long v :: st))) := by
  subst hp
  exact K.1 _ _ (fun t q => XT.lstore X.here K.2.1 rfl (hb K.2.2.1 hd) rfl hl q) hr
theorem ow_lstoreN (K : ow_K p e below s m meth c Z own cd mx rt nm G) (X : Stand p l e R s m args below meth c T locs cells slots) {k : Fin 4} {v : Int64} (hd : decode cd pc = .ok (.lstore_n k, 1)) (hp : pc' = pc + 1) (hl : storeLocals Ls k.val (.long v) = some Ls') (hr : G (T.setTop (mkF m pc' Ls' (st)))) : G (T.setTop (mkF m pc Ls (.long v :: st))) := by
  subst hp
  exact K.1 _ _ (fun t q => XT.lstoreN X.here K.2.1 rfl (hb K.2.2.1 hd) rfl hl q) hr
theorem ow_astore (K : ow_K p e below s m meth c Z own cd mx rt nm G) (X : Stand p l e R s m args below meth c T locs cells slots) {k : Nat} {v : Addr} (hd : decode cd pc = .ok (.astore k, 2)) (hp : pc' = pc + 2) (hl : storeLocals Ls k (.ref v) = some Ls') (hr : G (T.setTop (mkF m pc' Ls' (st)))) : G (T.setTop (mkF m pc Ls (.ref v :: st))) := by
  subst hp
  exact K.1 _ _ (fun t q => XS.astore X.here K.2.1 rfl (hb K.2.2.1 hd) rfl rfl hl q) hr
theorem ow_astoreN (K : ow_K p e below s m meth c Z own cd mx rt nm G) (X : Stand p l e R s m args below meth c T locs cells slots) {k : Fin 4} {v : Addr} (hd : decode cd pc = .ok (.astore_n k, 1)) (hp : pc' = pc + 1) (hl : storeLocals Ls k.val (.ref v) = some Ls') (hr : G (T.setTop (mkF m pc' Ls' (st)))) : G (T.setTop (mkF m pc Ls (.ref v :: st))) := by
  subst hp
  exact K.1 _ _ (fun t q => XS.astoreN X.here K.2.1 rfl (hb K.2.2.1 hd) rfl rfl hl q) hr
theorem ow_iinc (K : ow_K p e below s m meth c Z own cd mx rt nm G) (X : Stand p l e R s m args below meth c T locs cells slots) {k : Nat} {i : Int} {x : Int32} (y v : Int32) (hd : decode cd pc = .ok (.iinc k i, 3)) (hp : pc' = pc + 3) (hy : Int32.ofInt i = y) (hx : Ls[k]? = some (.val (.int x))) (hv : x + y = v) (hl : storeLocals Ls k (.int v) = some Ls') (hr : G (T.setTop (mkF m pc' Ls' (st)))) : G (T.setTop (mkF m pc Ls (st))) := by
  subst hp
  exact K.1 _ _ (fun t q => XT.iincV X.here K.2.1 rfl y (hb K.2.2.1 hd) hy hx (hv ▸ hl) q) hr
theorem ow_iconst (K : ow_K p e below s m meth c Z own cd mx rt nm G) (X : Stand p l e R s m args below meth c T locs cells slots) {i : Int} (v : Int32) (hd : decode cd pc = .ok (.iconst i, 1)) (hp : pc' = pc + 1) (hv : Int32.ofInt i = v) (hr : G (T.setTop (mkF m pc' Ls (.int v :: st)))) : G (T.setTop (mkF m pc Ls (st))) := by
  subst hp
  exact K.1 _ _ (fun t q => XT.iconstV X.here K.2.1 rfl v (hb K.2.2.1 hd) hv q) hr
theorem ow_bipush (K : ow_K p e below s m meth c Z own cd mx rt nm G) (X : Stand p l e R s m args below meth c T locs cells slots) {i : Int} (v : Int32) (hd : decode cd pc = .ok (.bipush i, 2)) (hp : pc' = pc + 2) (hv : (Int8.ofInt i).toInt32 = v) (hr : G (T.setTop (mkF m pc' Ls (.int v :: st)))) : G (T.setTop (mkF m pc Ls (st))) := by
  subst hp
  exact K.1 _ _ (fun t q => XT.bipushV X.here K.2.1 rfl v (hb K.2.2.1 hd) hv q) hr
theorem ow_sipush (K : ow_K p e below s m meth c Z own cd mx rt nm G) (X : Stand p l e R s m args below meth c T locs cells slots) {i : Int} (v : Int32) (hd : decode cd pc = .ok (.sipush i, 3)) (hp : pc' = pc + 3) (hv : (Int16.ofInt i).toInt32 = v) (hr : G (T.setTop (mkF m pc' Ls (.int v :: st)))) : G (T.setTop (mkF m pc Ls (st))) := by
  subst hp
  exact K.1 _ _ (fun t q => XT.sipushV X.here K.2.1 rfl v (hb K.2.2.1 hd) hv q) hr
theorem ow_lconst (K : ow_K p e below s m meth c Z own cd mx rt nm G) (X : Stand p l e R s m args below meth c T locs cells slots) {k : Fin 2} (v : Int64) (hd : decode cd pc = .ok (.lconst k, 1)) (hp : pc' = pc + 1) (hv : Int64.ofNat k = v) (hr : G (T.setTop (mkF m pc' Ls (.long v :: st)))) : G (T.setTop (mkF m pc Ls (st))) := by
  subst hp
  exact K.1 _ _ (fun t q => XT.lconstV X.here K.2.1 rfl v (hb K.2.2.1 hd) hv q) hr
theorem ow_ldcI (K : ow_K p e below s m meth c Z own cd mx rt nm G) (X : Stand p l e R s m args below meth c T locs cells slots) {i : Nat} (v : Int32) (hd : decode cd pc = .ok (.ldc i, 2)) (hp : pc' = pc + 2) (w : (Jvm.Cond.constant own i v).before a0 Z = true) (hr : G (T.setTop (mkF m pc' Ls (.int v :: st)))) : G (T.setTop (mkF m pc Ls (st))) := by
  subst hp
  exact K.1 _ _ (fun t q => X.ldcI K.2.1 K.2.2.2.2.1 (mvT K.2.2.2.2.2.1 w) rfl (hb K.2.2.1 hd) q) hr
theorem ow_ldcWI (K : ow_K p e below s m meth c Z own cd mx rt nm G) (X : Stand p l e R s m args below meth c T locs cells slots) {i : Nat} (v : Int32) (hd : decode cd pc = .ok (.ldc_w i, 3)) (hp : pc' = pc + 3) (w : (Jvm.Cond.constant own i v).before a0 Z = true) (hr : G (T.setTop (mkF m pc' Ls (.int v :: st)))) : G (T.setTop (mkF m pc Ls (st))) := by
  subst hp
  exact K.1 _ _ (fun t q => X.ldcWI K.2.1 K.2.2.2.2.1 (mvT K.2.2.2.2.2.1 w) rfl (hb K.2.2.1 hd) q) hr
theorem ow_ldc2 (K : ow_K p e below s m meth c Z own cd mx rt nm G) (X : Stand p l e R s m args below meth c T locs cells slots) {i : Nat} (v : Int64) (hd : decode cd pc = .ok (.ldc2_w i, 3)) (hp : pc' = pc + 3) (w : (Jvm.Cond.constantLong own i v).before a0 Z = true) (hr : G (T.setTop (mkF m pc' Ls (.long v :: st)))) : G (T.setTop (mkF m pc Ls (st))) := by
  subst hp
  exact K.1 _ _ (fun t q => X.ldc2J K.2.1 K.2.2.2.2.1 (mvT K.2.2.2.2.2.1 w) rfl (hb K.2.2.1 hd) q) hr
theorem ow_iadd (K : ow_K p e below s m meth c Z own cd mx rt nm G) (X : Stand p l e R s m args below meth c T locs cells slots) {x y : Int32} (v : Int32) (hd : decode cd pc = .ok (.iadd, 1)) (hp : pc' = pc + 1) (hv : x + y = v) (hr : G (T.setTop (mkF m pc' Ls (.int v :: st)))) : G (T.setTop (mkF m pc Ls (.int y :: .int x :: st))) := by
  subst hp
  exact K.1 _ _ (fun t q => XS.iadd X.here K.2.1 rfl (hb K.2.2.1 hd) rfl (hv ▸ q)) hr
theorem ow_isub (K : ow_K p e below s m meth c Z own cd mx rt nm G) (X : Stand p l e R s m args below meth c T locs cells slots) {x y : Int32} (v : Int32) (hd : decode cd pc = .ok (.isub, 1)) (hp : pc' = pc + 1) (hv : x - y = v) (hr : G (T.setTop (mkF m pc' Ls (.int v :: st)))) : G (T.setTop (mkF m pc Ls (.int y :: .int x :: st))) := by
  subst hp
  exact K.1 _ _ (fun t q => XS.isub X.here K.2.1 rfl (hb K.2.2.1 hd) rfl (hv ▸ q)) hr
theorem ow_imul (K : ow_K p e below s m meth c Z own cd mx rt nm G) (X : Stand p l e R s m args below meth c T locs cells slots) {x y : Int32} (v : Int32) (hd : decode cd pc = .ok (.imul, 1)) (hp : pc' = pc + 1) (hv : x * y = v) (hr : G (T.setTop (mkF m pc' Ls (.int v :: st)))) : G (T.setTop (mkF m pc Ls (.int y :: .int x :: st))) := by
  subst hp
  exact K.1 _ _ (fun t q => XS.imul X.here K.2.1 rfl (hb K.2.2.1 hd) rfl (hv ▸ q)) hr
theorem ow_iand (K : ow_K p e below s m meth c Z own cd mx rt nm G) (X : Stand p l e R s m args below meth c T locs cells slots) {x y : Int32} (v : Int32) (hd : decode cd pc = .ok (.iand, 1)) (hp : pc' = pc + 1) (hv : x &&& y = v) (hr : G (T.setTop (mkF m pc' Ls (.int v :: st)))) : G (T.setTop (mkF m pc Ls (.int y :: .int x :: st))) := by
  subst hp
  exact K.1 _ _ (fun t q => XS.iand X.here K.2.1 rfl (hb K.2.2.1 hd) rfl (hv ▸ q)) hr
theorem ow_ixor (K : ow_K p e below s m meth c Z own cd mx rt nm G) (X : Stand p l e R s m args below meth c T locs cells slots) {x y : Int32} (v : Int32) (hd : decode cd pc = .ok (.ixor, 1)) (hp : pc' = pc + 1) (hv : x ^^^ y = v) (hr : G (T.setTop (mkF m pc' Ls (.int v :: st)))) : G (T.setTop (mkF m pc Ls (.int y :: .int x :: st))) := by
  subst hp
  exact K.1 _ _ (fun t q => XT.ixor X.here K.2.1 rfl (hb K.2.2.1 hd) rfl (hv ▸ q)) hr
theorem ow_ior (K : ow_K p e below s m meth c Z own cd mx rt nm G) (X : Stand p l e R s m args below meth c T locs cells slots) {x y : Int32} (v : Int32) (hd : decode cd pc = .ok (.ior, 1)) (hp : pc' = pc + 1) (hv : x ||| y = v) (hr : G (T.setTop (mkF m pc' Ls (.int v :: st)))) : G (T.setTop (mkF m pc Ls (.int y :: .int x :: st))) := by
  subst hp
  exact K.1 _ _ (fun t q => XT.ior X.here K.2.1 rfl (hb K.2.2.1 hd) rfl (hv ▸ q)) hr
theorem ow_ishl (K : ow_K p e below s m meth c Z own cd mx rt nm G) (X : Stand p l e R s m args below meth c T locs cells slots) {x y : Int32} (v : Int32) (hd : decode cd pc = .ok (.ishl, 1)) (hp : pc' = pc + 1) (hv : x <<< (y &&& 31) = v) (hr : G (T.setTop (mkF m pc' Ls (.int v :: st)))) : G (T.setTop (mkF m pc Ls (.int y :: .int x :: st))) := by
  subst hp
  exact K.1 _ _ (fun t q => XT.ishl X.here K.2.1 rfl (hb K.2.2.1 hd) rfl (hv ▸ q)) hr
theorem ow_ishr (K : ow_K p e below s m meth c Z own cd mx rt nm G) (X : Stand p l e R s m args below meth c T locs cells slots) {x y : Int32} (v : Int32) (hd : decode cd pc = .ok (.ishr, 1)) (hp : pc' = pc + 1) (hv : x >>> (y &&& 31) = v) (hr : G (T.setTop (mkF m pc' Ls (.int v :: st)))) : G (T.setTop (mkF m pc Ls (.int y :: .int x :: st))) := by
  subst hp
  exact K.1 _ _ (fun t q => XT.ishr X.here K.2.1 rfl (hb K.2.2.1 hd) rfl (hv ▸ q)) hr
theorem ow_iushr (K : ow_K p e below s m meth c Z own cd mx rt nm G) (X : Stand p l e R s m args below meth c T locs cells slots) {x y : Int32} (v : Int32) (hd : decode cd pc = .ok (.iushr, 1)) (hp : pc' = pc + 1) (hv : XT.ushr x y = v) (hr : G (T.setTop (mkF m pc' Ls (.int v :: st)))) : G (T.setTop (mkF m pc Ls (.int y :: .int x :: st))) := by
  subst hp
  exact K.1 _ _ (fun t q => XT.iushr X.here K.2.1 rfl (hb K.2.2.1 hd) rfl (hv ▸ q)) hr
theorem ow_irem (K : ow_K p e below s m meth c Z own cd mx rt nm G) (X : Stand p l e R s m args below meth c T locs cells slots) {x y : Int32} (v : Int32) (hd : decode cd pc = .ok (.irem, 1)) (hp : pc' = pc + 1) (hy : y ≠ 0) (hv : x - (x / y) * y = v) (hr : G (T.setTop (mkF m pc' Ls (.int v :: st)))) : G (T.setTop (mkF m pc Ls (.int y :: .int x :: st))) := by
  subst hp
  exact K.1 _ _ (fun t q => XS.irem X.here K.2.1 rfl (hb K.2.2.1 hd) rfl hy (hv ▸ q)) hr
theorem ow_ladd (K : ow_K p e below s m meth c Z own cd mx rt nm G) (X : Stand p l e R s m args below meth c T locs cells slots) {x y : Int64} (v : Int64) (hd : decode cd pc = .ok (.ladd, 1)) (hp : pc' = pc + 1) (hv : x + y = v) (hr : G (T.setTop (mkF m pc' Ls (.long v :: st)))) : G (T.setTop (mkF m pc Ls (.long y :: .long x :: st))) := by
  subst hp
  exact K.1 _ _ (fun t q => XT.ladd X.here K.2.1 rfl (hb K.2.2.1 hd) rfl (hv ▸ q)) hr
theorem ow_lsub (K : ow_K p e below s m meth c Z own cd mx rt nm G) (X : Stand p l e R s m args below meth c T locs cells slots) {x y : Int64} (v : Int64) (hd : decode cd pc = .ok (.lsub, 1)) (hp : pc' = pc + 1) (hv : x - y = v) (hr : G (T.setTop (mkF m pc' Ls (.long v :: st)))) : G (T.setTop (mkF m pc Ls (.long y :: .long x :: st))) := by
  subst hp
  exact K.1 _ _ (fun t q => XT.lsub X.here K.2.1 rfl (hb K.2.2.1 hd) rfl (hv ▸ q)) hr
theorem ow_lmul (K : ow_K p e below s m meth c Z own cd mx rt nm G) (X : Stand p l e R s m args below meth c T locs cells slots) {x y : Int64} (v : Int64) (hd : decode cd pc = .ok (.lmul, 1)) (hp : pc' = pc + 1) (hv : x * y = v) (hr : G (T.setTop (mkF m pc' Ls (.long v :: st)))) : G (T.setTop (mkF m pc Ls (.long y :: .long x :: st))) := by
  subst hp
  exact K.1 _ _ (fun t q => XT.lmul X.here K.2.1 rfl (hb K.2.2.1 hd) rfl (hv ▸ q)) hr
theorem ow_land (K : ow_K p e below s m meth c Z own cd mx rt nm G) (X : Stand p l e R s m args below meth c T locs cells slots) {x y : Int64} (v : Int64) (hd : decode cd pc = .ok (.land, 1)) (hp : pc' = pc + 1) (hv : x &&& y = v) (hr : G (T.setTop (mkF m pc' Ls (.long v :: st)))) : G (T.setTop (mkF m pc Ls (.long y :: .long x :: st))) := by
  subst hp
  exact K.1 _ _ (fun t q => XT.land X.here K.2.1 rfl (hb K.2.2.1 hd) rfl (hv ▸ q)) hr
theorem ow_lor (K : ow_K p e below s m meth c Z own cd mx rt nm G) (X : Stand p l e R s m args below meth c T locs cells slots) {x y : Int64} (v : Int64) (hd : decode cd pc = .ok (.lor, 1)) (hp : pc' = pc + 1) (hv : x ||| y = v) (hr : G (T.setTop (mkF m pc' Ls (.long v :: st)))) : G (T.setTop (mkF m pc Ls (.long y :: .long x :: st))) := by
  subst hp
  exact K.1 _ _ (fun t q => XT.lor X.here K.2.1 rfl (hb K.2.2.1 hd) rfl (hv ▸ q)) hr
theorem ow_lxor (K : ow_K p e below s m meth c Z own cd mx rt nm G) (X : Stand p l e R s m args below meth c T locs cells slots) {x y : Int64} (v : Int64) (hd : decode cd pc = .ok (.lxor, 1)) (hp : pc' = pc + 1) (hv : x ^^^ y = v) (hr : G (T.setTop (mkF m pc' Ls (.long v :: st)))) : G (T.setTop (mkF m pc Ls (.long y :: .long x :: st))) := by
  subst hp
  exact K.1 _ _ (fun t q => XT.lxor X.here K.2.1 rfl (hb K.2.2.1 hd) rfl (hv ▸ q)) hr
theorem ow_lrem (K : ow_K p e below s m meth c Z own cd mx rt nm G) (X : Stand p l e R s m args below meth c T locs cells slots) {x y : Int64} (v : Int64) (hd : decode cd pc = .ok (.lrem, 1)) (hp : pc' = pc + 1) (hy : y ≠ 0) (hv : x - (x / y) * y = v) (hr : G (T.setTop (mkF m pc' Ls (.long v :: st)))) : G (T.setTop (mkF m pc Ls (.long y :: .long x :: st))) := by
  subst hp
  exact K.1 _ _ (fun t q => XT.lrem X.here K.2.1 rfl (hb K.2.2.1 hd) rfl hy (hv ▸ q)) hr
theorem ow_lshl (K : ow_K p e below s m meth c Z own cd mx rt nm G) (X : Stand p l e R s m args below meth c T locs cells slots) {x : Int64} {y : Int32} (v : Int64) (hd : decode cd pc = .ok (.lshl, 1)) (hp : pc' = pc + 1) (hv : x <<< (y.toInt64 &&& 63) = v) (hr : G (T.setTop (mkF m pc' Ls (.long v :: st)))) : G (T.setTop (mkF m pc Ls (.int y :: .long x :: st))) := by
  subst hp
  exact K.1 _ _ (fun t q => XT.lshl X.here K.2.1 rfl (hb K.2.2.1 hd) rfl (hv ▸ q)) hr
theorem ow_lshr (K : ow_K p e below s m meth c Z own cd mx rt nm G) (X : Stand p l e R s m args below meth c T locs cells slots) {x : Int64} {y : Int32} (v : Int64) (hd : decode cd pc = .ok (.lshr, 1)) (hp : pc' = pc + 1) (hv : x >>> (y.toInt64 &&& 63) = v) (hr : G (T.setTop (mkF m pc' Ls (.long v :: st)))) : G (T.setTop (mkF m pc Ls (.int y :: .long x :: st))) := by
  subst hp
  exact K.1 _ _ (fun t q => XT.lshr X.here K.2.1 rfl (hb K.2.2.1 hd) rfl (hv ▸ q)) hr
theorem ow_lushr (K : ow_K p e below s m meth c Z own cd mx rt nm G) (X : Stand p l e R s m args below meth c T locs cells slots) {x : Int64} {y : Int32} (v : Int64) (hd : decode cd pc = .ok (.lushr, 1)) (hp : pc' = pc + 1) (hv : XT.ushrL x y = v) (hr : G (T.setTop (mkF m pc' Ls (.long v :: st)))) : G (T.setTop (mkF m pc Ls (.int y :: .long x :: st))) := by
  subst hp
  exact K.1 _ _ (fun t q => XT.lushr X.here K.2.1 rfl (hb K.2.2.1 hd) rfl (hv ▸ q)) hr
theorem ow_lcmp (K : ow_K p e below s m meth c Z own cd mx rt nm G) (X : Stand p l e R s m args below meth c T locs cells slots) {x y : Int64} (v : Int32) (hd : decode cd pc = .ok (.lcmp, 1)) (hp : pc' = pc + 1) (hv : XT.cmpL x y = v) (hr : G (T.setTop (mkF m pc' Ls (.int v :: st)))) : G (T.setTop (mkF m pc Ls (.long y :: .long x :: st))) := by
  subst hp
  exact K.1 _ _ (fun t q => XT.lcmp X.here K.2.1 rfl (hb K.2.2.1 hd) rfl (hv ▸ q)) hr
theorem ow_ineg (K : ow_K p e below s m meth c Z own cd mx rt nm G) (X : Stand p l e R s m args below meth c T locs cells slots) {x : Int32} (v : Int32) (hd : decode cd pc = .ok (.ineg, 1)) (hp : pc' = pc + 1) (hv : -x = v) (hr : G (T.setTop (mkF m pc' Ls (.int v :: st)))) : G (T.setTop (mkF m pc Ls (.int x :: st))) := by
  subst hp
  exact K.1 _ _ (fun t q => XS.ineg X.here K.2.1 rfl (hb K.2.2.1 hd) rfl (hv ▸ q)) hr
theorem ow_i2b (K : ow_K p e below s m meth c Z own cd mx rt nm G) (X : Stand p l e R s m args below meth c T locs cells slots) {x : Int32} (v : Int32) (hd : decode cd pc = .ok (.i2b, 1)) (hp : pc' = pc + 1) (hv : x.toInt8.toInt32 = v) (hr : G (T.setTop (mkF m pc' Ls (.int v :: st)))) : G (T.setTop (mkF m pc Ls (.int x :: st))) := by
  subst hp
  exact K.1 _ _ (fun t q => XT.i2b X.here K.2.1 rfl (hb K.2.2.1 hd) rfl (hv ▸ q)) hr
theorem ow_i2l (K : ow_K p e below s m meth c Z own cd mx rt nm G) (X : Stand p l e R s m args below meth c T locs cells slots) {x : Int32} (v : Int64) (hd : decode cd pc = .ok (.i2l, 1)) (hp : pc' = pc + 1) (hv : x.toInt64 = v) (hr : G (T.setTop (mkF m pc' Ls (.long v :: st)))) : G (T.setTop (mkF m pc Ls (.int x :: st))) := by
  subst hp
  exact K.1 _ _ (fun t q => XT.i2l X.here K.2.1 rfl (hb K.2.2.1 hd) rfl (hv ▸ q)) hr
theorem ow_l2i (K : ow_K p e below s m meth c Z own cd mx rt nm G) (X : Stand p l e R s m args below meth c T locs cells slots) {x : Int64} (v : Int32) (hd : decode cd pc = .ok (.l2i, 1)) (hp : pc' = pc + 1) (hv : x.toInt32 = v) (hr : G (T.setTop (mkF m pc' Ls (.int v :: st)))) : G (T.setTop (mkF m pc Ls (.long x :: st))) := by
  subst hp
  exact K.1 _ _ (fun t q => XT.l2i X.here K.2.1 rfl (hb K.2.2.1 hd) rfl (hv ▸ q)) hr
theorem ow_dup (K : ow_K p e below s m meth c Z own cd mx rt nm G) (X : Stand p l e R s m args below meth c T locs cells slots) {v : Value} (hd : decode cd pc = .ok (.dup, 1)) (hp : pc' = pc + 1) (hc : v.category = 1) (hr : G (T.setTop (mkF m pc' Ls (v :: v :: st)))) : G (T.setTop (mkF m pc Ls (v :: st))) := by
  subst hp
  exact K.1 _ _ (fun t q => XS.dup X.here K.2.1 rfl (hb K.2.2.1 hd) rfl hc q) hr
theorem ow_pop (K : ow_K p e below s m meth c Z own cd mx rt nm G) (X : Stand p l e R s m args below meth c T locs cells slots) {v : Value} (hd : decode cd pc = .ok (.pop, 1)) (hp : pc' = pc + 1) (hc : v.category = 1) (hr : G (T.setTop (mkF m pc' Ls (st)))) : G (T.setTop (mkF m pc Ls (v :: st))) := by
  subst hp
  exact K.1 _ _ (fun t q => XT.pop X.here K.2.1 rfl (hb K.2.2.1 hd) rfl hc q) hr
theorem ow_dupX1 (K : ow_K p e below s m meth c Z own cd mx rt nm G) (X : Stand p l e R s m args below meth c T locs cells slots) {v w : Value} (hd : decode cd pc = .ok (.dup_x1, 1)) (hp : pc' = pc + 1) (hc : v.category = 1) (hc' : w.category = 1) (hr : G (T.setTop (mkF m pc' Ls (v :: w :: v :: st)))) : G (T.setTop (mkF m pc Ls (v :: w :: st))) := by
  subst hp
  exact K.1 _ _ (fun t q => XT.dupX1 X.here K.2.1 rfl (hb K.2.2.1 hd) rfl hc hc' q) hr
theorem ow_dup2 (K : ow_K p e below s m meth c Z own cd mx rt nm G) (X : Stand p l e R s m args below meth c T locs cells slots) {v w : Value} (hd : decode cd pc = .ok (.dup2, 1)) (hp : pc' = pc + 1) (hc : v.category = 1) (hc' : w.category = 1) (hr : G (T.setTop (mkF m pc' Ls (v :: w :: v :: w :: st)))) : G (T.setTop (mkF m pc Ls (v :: w :: st))) := by
  subst hp
  exact K.1 _ _ (fun t q => XT.dup2 X.here K.2.1 rfl (hb K.2.2.1 hd) rfl hc hc' q) hr
theorem ow_goto (K : ow_K p e below s m meth c Z own cd mx rt nm G) (X : Stand p l e R s m args below meth c T locs cells slots)  {o : Int} (hd : decode cd pc = .ok (.goto o, 3))  (ho : 0 ≤ (pc : Int) + o) (hp : ((pc : Int) + o).toNat = pc') (hr : G (T.setTop (mkF m pc' Ls (st)))) : G (T.setTop (mkF m pc Ls (st))) := K.1 _ _ (fun t q => XS.goto X.here K.2.1 rfl (pc0 := pc) rfl (hb K.2.2.1 hd) ho hp q) hr
theorem ow_ifY (K : ow_K p e below s m meth c Z own cd mx rt nm G) (X : Stand p l e R s m args below meth c T locs cells slots) {cc : ClassFile.Cond} {x : Int32} {o : Int} (hd : decode cd pc = .ok (.ifCond cc o, 3)) (hc : ifCond.holds cc x = true) (ho : 0 ≤ (pc : Int) + o) (hp : ((pc : Int) + o).toNat = pc') (hr : G (T.setTop (mkF m pc' Ls (st)))) : G (T.setTop (mkF m pc Ls (.int x :: st))) := K.1 _ _ (fun t q => XS.ifYes X.here K.2.1 rfl (pc0 := pc) rfl (hb K.2.2.1 hd) rfl hc ho hp q) hr
theorem ow_icmpY (K : ow_K p e below s m meth c Z own cd mx rt nm G) (X : Stand p l e R s m args below meth c T locs cells slots) {cc : ClassFile.Cond} {x y : Int32} {o : Int} (hd : decode cd pc = .ok (.if_icmp cc o, 3)) (hc : if_icmp.holds cc x y = true) (ho : 0 ≤ (pc : Int) + o) (hp : ((pc : Int) + o).toNat = pc') (hr : G (T.setTop (mkF m pc' Ls (st)))) : G (T.setTop (mkF m pc Ls (.int y :: .int x :: st))) := K.1 _ _ (fun t q => XS.icmpYes X.here K.2.1 rfl (pc0 := pc) rfl (hb K.2.2.1 hd) rfl hc ho hp q) hr
theorem ow_ifN (K : ow_K p e below s m meth c Z own cd mx rt nm G) (X : Stand p l e R s m args below meth c T locs cells slots) {cc : ClassFile.Cond} {x : Int32} {o : Int} (hd : decode cd pc = .ok (.ifCond cc o, 3)) (hp : pc' = pc + 3) (hc : ifCond.holds cc x = false) (hr : G (T.setTop (mkF m pc' Ls (st)))) : G (T.setTop (mkF m pc Ls (.int x :: st))) := by
  subst hp
  exact K.1 _ _ (fun t q => XS.ifNo X.here K.2.1 rfl (hb K.2.2.1 hd) rfl hc q) hr
theorem ow_icmpN (K : ow_K p e below s m meth c Z own cd mx rt nm G) (X : Stand p l e R s m args below meth c T locs cells slots) {cc : ClassFile.Cond} {x y : Int32} {o : Int} (hd : decode cd pc = .ok (.if_icmp cc o, 3)) (hp : pc' = pc + 3) (hc : if_icmp.holds cc x y = false) (hr : G (T.setTop (mkF m pc' Ls (st)))) : G (T.setTop (mkF m pc Ls (.int y :: .int x :: st))) := by
  subst hp
  exact K.1 _ _ (fun t q => XS.icmpNo X.here K.2.1 rfl (hb K.2.2.1 hd) rfl hc q) hr
/-- an index as an int and as a natural -/
def ow_Ix (j : Int32) (i : Nat) : Prop := ¬ j < 0 ∧ j.toNatClampNeg = i
theorem ow_ix_nat {i : Nat} (hi : i < 2 ^ 31) : ow_Ix (Int32.ofNat i) i := by
  have q : (Int32.ofNat i).toInt = i := Int32.toInt_ofNat_of_lt hi
  refine ⟨?_, ?_⟩
  · rw [Int32.lt_iff_toInt_lt, q]; show ¬ (i : Int) < 0; omega
  · simp only [Int32.toNatClampNeg, q]; rfl
theorem ow_in {cl : Cell} {z j : Int32} {i : Nat} (S : cl.slots.size = z.toNatClampNeg) (J : ow_Ix j i) (hi : i < z.toNatClampNeg) : ¬ (j < 0 ∨ cl.slots.size ≤ j.toNatClampNeg) := fun q => q.elim J.1 fun q => by rw [S, J.2] at q; omega
theorem ow_iaload (K : ow_K p e below s m meth c Z own cd mx rt nm G) (X : Stand p l e R s m args below meth c T locs cells slots) (eT : T.heap = h) {a : Addr} {k : ClassId} {z j : Int32} {vs : List Value} {dv : Value} (F : Arv Z h a k .int z vs dv) (i : Nat) (v : Value) (J : ow_Ix j i) (hi : i < z.toNatClampNeg) (hv : vs.getD i dv = v) (hd : decode cd pc = .ok (.iaload, 1)) (hp : pc' = pc + 1) (hr : G (T.setTop (mkF m pc' Ls (v :: st)))) : G (T.setTop (mkF m pc Ls (.int j :: .ref a :: st))) := by
  subst hp
  obtain ⟨cl, A, -, S, -, H, -⟩ := F
  exact K.1 _ _ (fun t q => X.iaload K.2.1 (j := j) (v := v) (by rw [eT]; exact A.1) (State.isArrayOf_alike K.2.2.2.2.2.1.alike A.2.1) A.2.2 (ow_in S J hi) (Has.at H (ow_in S J hi) (by rw [J.2]; exact hv)) (g := mkF m pc Ls (.int j :: .ref a :: st)) rfl rfl (hb K.2.2.1 hd) t q) hr
theorem ow_baload (K : ow_K p e below s m meth c Z own cd mx rt nm G) (X : Stand p l e R s m args below meth c T locs cells slots) (eT : T.heap = h) {a : Addr} {k : ClassId} {z j : Int32} {vs : List Value} {dv : Value} (F : Arv Z h a k .byte z vs dv) (i : Nat) (v : Value) (J : ow_Ix j i) (hi : i < z.toNatClampNeg) (hv : vs.getD i dv = v) (hd : decode cd pc = .ok (.baload, 1)) (hp : pc' = pc + 1) (hr : G (T.setTop (mkF m pc' Ls (v :: st)))) : G (T.setTop (mkF m pc Ls (.int j :: .ref a :: st))) := by
  subst hp
  obtain ⟨cl, A, -, S, -, H, -⟩ := F
  exact K.1 _ _ (fun t q => X.baloadBytes K.2.1 (j := j) (v := v) (by rw [eT]; exact A.1) (State.isArrayOf_alike K.2.2.2.2.2.1.alike A.2.1) A.2.2 (ow_in S J hi) (Has.at H (ow_in S J hi) (by rw [J.2]; exact hv)) (g := mkF m pc Ls (.int j :: .ref a :: st)) rfl rfl (hb K.2.2.1 hd) t q) hr
theorem ow_laload (K : ow_K p e below s m meth c Z own cd mx rt nm G) (X : Stand p l e R s m args below meth c T locs cells slots) (eT : T.heap = h) {a : Addr} {k : ClassId} {z j : Int32} {vs : List Value} {dv : Value} (F : Arv Z h a k .long z vs dv) (i : Nat) (v : Value) (J : ow_Ix j i) (hi : i < z.toNatClampNeg) (hv : vs.getD i dv = v) (hd : decode cd pc = .ok (.laload, 1)) (hp : pc' = pc + 1) (hr : G (T.setTop (mkF m pc' Ls (v :: st)))) : G (T.setTop (mkF m pc Ls (.int j :: .ref a :: st))) := by
  subst hp
  obtain ⟨cl, A, -, S, -, H, -⟩ := F
  exact K.1 _ _ (fun t q => X.laload K.2.1 (j := j) (v := v) (by rw [eT]; exact A.1) (State.isArrayOf_alike K.2.2.2.2.2.1.alike A.2.1) A.2.2 (ow_in S J hi) (Has.at H (ow_in S J hi) (by rw [J.2]; exact hv)) (g := mkF m pc Ls (.int j :: .ref a :: st)) rfl rfl (hb K.2.2.1 hd) t q) hr
theorem ow_len (K : ow_K p e below s m meth c Z own cd mx rt nm G) (X : Stand p l e R s m args below meth c T locs cells slots) (eT : T.heap = h) {a : Addr} {k : ClassId} {ty : FieldType} {z : Int32} {vs : List Value} {dv : Value} (F : Arv Z h a k ty z vs dv) (hd : decode cd pc = .ok (.arraylength, 1)) (hp : pc' = pc + 1) (hr : G (T.setTop (mkF m pc' Ls (.int z :: st)))) : G (T.setTop (mkF m pc Ls (.ref a :: st))) := by
  subst hp
  obtain ⟨cl, A, -, S, M, -, -⟩ := F
  exact K.1 _ _ (fun t q => X.arraylength K.2.1 (cell := cl) (by rw [eT]; exact A.1) (State.isArrayOf_alike K.2.2.2.2.2.1.alike A.2.1) (g := mkF m pc Ls (.ref a :: st)) rfl (rest := st) rfl (hb K.2.2.1 hd) t (by rw [len_of S M]; exact q)) hr
theorem ow_iastore (K : ow_K p e below s m meth c Z own cd mx rt nm G) (X : Stand p l e R s m args below meth c T locs cells slots) (eT : T.heap = h) {a : Addr} {k : ClassId} {z j : Int32} {vs : List Value} {dv : Value} {x : Int32} (F : Arv Z h a k .int z vs dv) (i : Nat) (vs' : List Value) (J : ow_Ix j i) (hi : i < z.toNatClampNeg) (hi' : i < vs.length) (hs : vs.set i (.int x) = vs') (hd : decode cd pc = .ok (.iastore, 1)) (hp : pc' = pc + 1)
    (hr : ∀ T' h', Stand p l e R s m args below meth c T' (locs ++ [⟨a, i⟩]) cells slots → T'.heap = h' → Wr h h' a i (.int x) → Arv Z h' a k .int z vs' dv → G (T'.setTop (mkF m pc' Ls st))) : G (T.setTop (mkF m pc Ls (.int x :: .int j :: .ref a :: st))) := by
  subst hp hs
  obtain ⟨cl, A, q1, S, q3, H, F⟩ := F
  obtain ⟨T', h', X', e', W', st'⟩ := stI X K.2.1 K.2.2.2.2.2.1 eT A (j := j) (x := x) (ow_in S J hi) (g := mkF m pc Ls (.int x :: .int j :: .ref a :: st)) rfl rfl (hb K.2.2.1 hd)
  have V := Arv.set A q1 S q3 H F (rfl) W' i J.2 hi'
  rw [J.2] at X' W'
  exact K.1 _ _ st' (hr T' h' X' e' W' V)
theorem ow_bastore (K : ow_K p e below s m meth c Z own cd mx rt nm G) (X : Stand p l e R s m args below meth c T locs cells slots) (eT : T.heap = h) {a : Addr} {k : ClassId} {z j : Int32} {vs : List Value} {dv : Value} {x : Int32} (F : Arv Z h a k .byte z vs dv) (i : Nat) (vs' : List Value) (J : ow_Ix j i) (hi : i < z.toNatClampNeg) (hi' : i < vs.length) (hs : vs.set i (.int (nar .byte x)) = vs') (hd : decode cd pc = .ok (.bastore, 1)) (hp : pc' = pc + 1)
    (hr : ∀ T' h', Stand p l e R s m args below meth c T' (locs ++ [⟨a, i⟩]) cells slots → T'.heap = h' → Wr h h' a i (.int (nar .byte x)) → Arv Z h' a k .byte z vs' dv → G (T'.setTop (mkF m pc' Ls st))) : G (T.setTop (mkF m pc Ls (.int x :: .int j :: .ref a :: st))) := by
  subst hp hs
  obtain ⟨cl, A, q1, S, q3, H, F⟩ := F
  obtain ⟨T', h', X', e', W', st'⟩ := stB X K.2.1 K.2.2.2.2.2.1 eT A (j := j) (x := x) (ow_in S J hi) (g := mkF m pc Ls (.int x :: .int j :: .ref a :: st)) rfl rfl (hb K.2.2.1 hd)
  have V := Arv.set A q1 S q3 H F (fits_nar_byte x) W' i J.2 hi'
  rw [J.2] at X' W'
  exact K.1 _ _ st' (hr T' h' X' e' W' V)
theorem ow_lastore (K : ow_K p e below s m meth c Z own cd mx rt nm G) (X : Stand p l e R s m args below meth c T locs cells slots) (eT : T.heap = h) {a : Addr} {k : ClassId} {z j : Int32} {vs : List Value} {dv : Value} {x : Int64} (F : Arv Z h a k .long z vs dv) (i : Nat) (vs' : List Value) (J : ow_Ix j i) (hi : i < z.toNatClampNeg) (hi' : i < vs.length) (hs : vs.set i (.long x) = vs') (hd : decode cd pc = .ok (.lastore, 1)) (hp : pc' = pc + 1)
    (hr : ∀ T' h', Stand p l e R s m args below meth c T' (locs ++ [⟨a, i⟩]) cells slots → T'.heap = h' → Wr h h' a i (.long x) → Arv Z h' a k .long z vs' dv → G (T'.setTop (mkF m pc' Ls st))) : G (T.setTop (mkF m pc Ls (.long x :: .int j :: .ref a :: st))) := by
  subst hp hs
  obtain ⟨cl, A, q1, S, q3, H, F⟩ := F
  obtain ⟨T', h', X', e', W', st'⟩ := stJ X K.2.1 K.2.2.2.2.2.1 eT A (j := j) (x := x) (ow_in S J hi) (g := mkF m pc Ls (.long x :: .int j :: .ref a :: st)) rfl rfl (hb K.2.2.1 hd)
  have V := Arv.set A q1 S q3 H F (rfl) W' i J.2 hi'
  rw [J.2] at X' W'
  exact K.1 _ _ st' (hr T' h' X' e' W' V)
theorem ow_newP (K : ow_K p e below s m meth c Z own cd mx rt nm G) (X : Stand p l e R s m args below meth c T locs cells slots) (eT : T.heap = h) {aty : ArrayType} {n : Int32} (w : (Jvm.Cond.arrayClass (newarray.typeOf aty)).before a0 Z = true) (hn : ¬ n < 0) (cap : Nat) (hcap : n.toNatClampNeg ≤ cap) (hbb : cap * 8 ≤ 536870912) (hc : cells + 1 ≤ R.cells) (hl : slots + cap ≤ R.slots) (hd : decode cd pc = .ok (.newarray aty, 2)) (hp : pc' = pc + 2)
    (hr : ∀ T' h' k a, Stand p l e R s m args below meth c T' locs (cells + 1) (slots + cap) → T'.heap = h' → Ext h h' → a = h.size → Arv Z h' a k (newarray.typeOf aty) n [] (defaultValue (newarray.typeOf aty)) → G (T'.setTop (mkF m pc' Ls (.ref a :: st)))) : G (T.setTop (mkF m pc Ls (.int n :: st))) := by
  subst hp
  obtain ⟨T', h', k, X', e', E, A, st'⟩ := newP X K.2.1 K.2.2.2.2.2.1 w eT (g := mkF m pc Ls (.int n :: st)) rfl (hb K.2.2.1 hd) rfl hn hcap hbb hc hl
  exact K.1 _ _ st' (hr T' h' k _ X' e' E rfl (Arv.new A hn))
theorem ow_newO (K : ow_K p e below s m meth c Z own cd mx rt nm G) (X : Stand p l e R s m args below meth c T locs cells slots) (eT : T.heap = h) {C : String} {i n : Nat} (w : (Jvm.Cond.classLink own i C).before a0 Z = true) (wi : (Jvm.Cond.instantiable C n).before a0 Z = true) (wz : (Jvm.Cond.initialized C).before a0 Z = true) (hc : cells + 1 ≤ R.cells) (hl : slots + n ≤ R.slots) (hd : decode cd pc = .ok (.new i, 3)) (hp : pc' = pc + 3)
    (hr : ∀ T' h' a, Stand p l e R s m args below meth c T' locs (cells + 1) (slots + n) → T'.heap = h' → Ext h h' → a = h.size → Exa Z h' a C → (∀ {O nm d : String} {ty : FieldType}, Laid Z a0 C O nm d → parseFieldDescriptor d = some ty → Fld Z h' a O nm d (defaultValue ty)) → G (T'.setTop (mkF m pc' Ls (.ref a :: st)))) : G (T.setTop (mkF m pc Ls st)) := by
  subst hp
  obtain ⟨T', h', X', e', E, A, D, -, st'⟩ := newO X K.2.1 K.2.2.2.2.2.1 K.2.2.2.2.1 w wi wz eT (g := mkF m pc Ls st) rfl (hb K.2.2.1 hd) hc hl
  exact K.1 _ _ st' (hr T' h' _ X' e' E rfl A D)
theorem ow_getF (K : ow_K p e below s m meth c Z own cd mx rt nm G) (X : Stand p l e R s m args below meth c T locs cells slots) (eT : T.heap = h) {C n d : String} {i : Nat} {a : Addr} {v : Value} (w : (Jvm.Cond.fieldLink own i C n d).before a0 Z = true) (F : Fld Z h a C n d v) (hd : decode cd pc = .ok (.getfield i, 3)) (hp : pc' = pc + 3)
    (hr : ∀ T', Stand p l e R s m args below meth c T' locs cells slots → T'.heap = h → G (T'.setTop (mkF m pc' Ls (v :: st)))) : G (T.setTop (mkF m pc Ls (.ref a :: st))) := by
  subst hp
  obtain ⟨T', X', e', st'⟩ := getF X K.2.1 K.2.2.2.2.2.1 K.2.2.2.2.1 (host := "") (Or.inl w) Via.refl eT F (g := mkF m pc Ls (.ref a :: st)) rfl rfl (hb K.2.2.1 hd)
  exact K.1 _ _ st' (hr T' X' e')
theorem ow_putF (K : ow_K p e below s m meth c Z own cd mx rt nm G) (X : Stand p l e R s m args below meth c T locs cells slots) (eT : T.heap = h) {C n d : String} {i kk : Nat} {a : Addr} {v old : Value} (ty : FieldType) (w : (Jvm.Cond.fieldLink own i C n d).before a0 Z = true) (F : Fld Z h a C n d old) (E : Exa Z h a C) (L : (Jvm.Cond.lays C C n d).before a0 Z = true ∨ ((Jvm.Cond.laysFinal C C n d).before a0 Z = true ∧ own = C ∧ nm = "<init>")) (wi : (Jvm.Cond.instantiable C kk).before a0 Z = true) (hty : parseFieldDescriptor d = some ty) (hn : narrow ty v = v) (hf : fits ty v = true) (hd : decode cd pc = .ok (.putfield i, 3)) (hp : pc' = pc + 3)
    (hr : ∀ T' h', Stand p l e R s m args below meth c T' (locs ++ [⟨a, Jvm.RoadKit.slotOf Z C n d⟩]) cells slots → T'.heap = h' → Wr h h' a (Jvm.RoadKit.slotOf Z C n d) v → Fld Z h' a C n d v → Exa Z h' a C → G (T'.setTop (mkF m pc' Ls st))) : G (T.setTop (mkF m pc Ls (v :: .ref a :: st))) := by
  subst hp
  obtain ⟨T', h', X', e', W, st'⟩ := putF X K.2.1 K.2.2.2.2.2.1 K.2.2.2.2.1 (host := "") (Or.inl w) Via.refl eT F E (L.imp id fun q => ⟨q.1, q.2.1, K.2.2.2.2.2.2.2.2.trans q.2.2⟩) wi hty hn hf (g := mkF m pc Ls (v :: .ref a :: st)) rfl rfl (hb K.2.2.1 hd)
  exact K.1 _ _ st' (hr T' h' X' e' W (F.same W) (E.wr W))
theorem ow_initO (K : ow_K p e below s m meth c Z own cd mx rt nm G) (X : Stand p l e R s m args below meth c T locs cells slots) (eT : T.heap = h) {i : Nat} {a : Addr} (w1 : (Jvm.Cond.methodLink own i Lib.objectInit).before a0 Z = true) (w2 : (Jvm.Cond.instanceMethod Lib.objectInit).before a0 Z = true) (w3 : (Jvm.Cond.code Lib.objectInit ⟨#[0xb1]⟩ 1 none).before a0 Z = true) (hz : Ls.size = mx) (W : Nat) (hW : (st.map fun v => v.category).sum ≤ W) (hf : 1 ≤ R.frames) (hl : W + 12 ≤ R.locals) (hd : decode cd pc = .ok (.invokespecial i, 3)) (hp : pc' = pc + 3)
    (hr : ∀ T', Stand p l e R s m args below meth c T' locs cells slots → T'.heap = h → G (T'.setTop (mkF m pc' Ls st))) : G (T.setTop (mkF m pc Ls (.ref a :: st))) := by
  subst hp
  obtain ⟨T', X', e', st'⟩ := initO X K.2.1 K.2.2.2.2.2.1 K.2.2.2.2.1 w1 w2 w3 eT (g := mkF m pc Ls (.ref a :: st)) rfl (hz.trans K.2.2.2.1.symm) rfl (hb K.2.2.1 hd) hf (W := W) (by show 2 * 0 + _ ≤ _; omega) hl
  exact K.1 _ _ st' (hr T' X' e')
theorem ow_callS (K : ow_K p e below s m meth c Z own cd mx rt nm G) (X : Stand p l e R s m args below meth c T locs cells slots) (eT : T.heap = h) {y : MethodName} {i : Nat} {bytes : ByteArray} {maxL : Nat} {rt' : Option FieldType} {rm : Room} {as : Array Value} {Q : Option Value → Heap → List Loc → Prop} (hM : MetFree l y (head1 [Jvm.Cond.code y bytes maxL rt'] rm) (fun a U => a = as ∧ Z.Warmed39 U.vm ∧ U.heap = h) (fun _ _ _ _ _ => True) (fun _ U o U' => ∃ v L, o = .returned v ∧ Q v U'.heap L ∧ FrameEnd U o U' L rm.cells rm.slots)) (wl : (Jvm.Cond.methodLink own i y).before a0 Z = true) (ws : (Jvm.Cond.static y).before a0 Z = true) (wi : (Jvm.Cond.initialized y.cls).before a0 Z = true) (wc : (Jvm.Cond.code y bytes maxL rt').before a0 Z = true) (hy : y.cls ≠ "java/lang/invoke/MethodHandle" ∧ y.cls ≠ "java/lang/invoke/VarHandle") (W : Nat) (hW : (st.map fun v => v.category).sum ≤ W) (hf : rm.frames + 1 ≤ R.frames) (hl : W + (maxL + 11) + rm.locals ≤ R.locals) (hc : cells + rm.cells ≤ R.cells) (hs : slots + rm.slots ≤ R.slots) (hz : Ls.size = mx) {full : List Value} (argsL : List Value) (has : argsL.toArray = as) (hlen : ∀ sig, parseMethodDescriptor y.desc = some sig → argsL.length = sig.parameters.length) (hst : full = argsL.reverse ++ st) (hd : decode cd pc = .ok (.invokestatic i, 3)) (hp : pc' = pc + 3)
    (hr : ∀ v T' L, Stand p l e R s m args below meth c T' (locs ++ L) (cells + rm.cells) (slots + rm.slots) → Q v T'.heap L → G (T'.setTop (mkF m pc' Ls (v.toList ++ st)))) : G (T.setTop (mkF m pc Ls full)) := by
  subst hp has
  obtain ⟨v, vm₁, ⟨T', L', c', s'⟩, -, X', ⟨L, hQ, l1, l2, l3⟩, st'⟩ := Jvm.LawKit.callS X K.2.1 (y := y) K.2.2.2.2.1 (mvT K.2.2.2.2.2.1 wl) (mvT K.2.2.2.2.2.1 ws) (mvT K.2.2.2.2.2.1 wi) (mvT K.2.2.2.2.2.1 wc) hy (backOf (W := W) hM K.2.2.2.2.2.1 wc wi hf hl) (g := mkF m pc Ls full) rfl (hz.trans K.2.2.2.1.symm) (argsL := argsL) (rest := st) hlen hst (by show 2 * 0 + _ ≤ _; omega) (hb K.2.2.1 hd) (fun _ _ => ⟨rfl, eT, hc, hs⟩)
  dsimp only [Pt.U, Pt.locs, Pt.cells, Pt.slots] at X' l1 l2 l3 st' hQ
  subst l1 l2 l3
  exact K.1 _ _ st' (hr v T' L X' hQ)
theorem ow_callP (K : ow_K p e below s m meth c Z own cd mx rt nm G) (X : Stand p l e R s m args below meth c T locs cells slots) (eT : T.heap = h) {y : MethodName} {i : Nat} {bytes : ByteArray} {maxL : Nat}  {rm : Room} {as : Array Value} {Q : Option Value → Heap → List Loc → Prop} {a : Addr} (hM : MetFree l y (head1 [Jvm.Cond.code y bytes maxL none] rm) (fun a U => a = as ∧ Z.Warmed39 U.vm ∧ U.heap = h) (fun _ _ _ _ _ => True) (fun _ U o U' => ∃ v L, o = .returned v ∧ Q v U'.heap L ∧ FrameEnd U o U' L rm.cells rm.slots)) (hn : y.name = "<init>") (wl : (Jvm.Cond.methodLink own i y).before a0 Z = true) (ws : (Jvm.Cond.instanceMethod y).before a0 Z = true) (wi : (Jvm.Cond.initialized y.cls).before a0 Z = true) (wc : (Jvm.Cond.code y bytes maxL none).before a0 Z = true) (hy : y.cls ≠ "java/lang/invoke/MethodHandle" ∧ y.cls ≠ "java/lang/invoke/VarHandle") (W : Nat) (hW : (st.map fun v => v.category).sum ≤ W) (hf : rm.frames + 1 ≤ R.frames) (hl : W + (maxL + 11) + rm.locals ≤ R.locals) (hc : cells + rm.cells ≤ R.cells) (hs : slots + rm.slots ≤ R.slots) (hz : Ls.size = mx) {full : List Value} (argsL : List Value) (has : (.ref a :: argsL).toArray = as) (hlen : ∀ sig, parseMethodDescriptor y.desc = some sig → argsL.length = sig.parameters.length) (hst : full = argsL.reverse ++ .ref a :: st) (hd : decode cd pc = .ok (.invokespecial i, 3)) (hp : pc' = pc + 3)
    (hr : ∀ v T' L, Stand p l e R s m args below meth c T' (locs ++ L) (cells + rm.cells) (slots + rm.slots) → Q v T'.heap L → G (T'.setTop (mkF m pc' Ls (v.toList ++ st)))) : G (T.setTop (mkF m pc Ls full)) := by
  subst hp has
  obtain ⟨v, vm₁, ⟨T', L', c', s'⟩, -, X', ⟨L, hQ, l1, l2, l3⟩, st'⟩ := X.specialBack K.2.1 (y := y) hn K.2.2.2.2.1 (mvT K.2.2.2.2.2.1 wl) (mvT K.2.2.2.2.2.1 ws) (mvT K.2.2.2.2.2.1 wc) hy (backOf (W := W) hM K.2.2.2.2.2.1 wc wi hf hl) (g := mkF m pc Ls full) rfl (hz.trans K.2.2.2.1.symm) (Steps.refl _) (a := a) (argsL := argsL) (rest := st) hlen hst (by show 2 * 0 + _ ≤ _; omega) (hb K.2.2.1 hd) (fun _ _ => ⟨rfl, eT, hc, hs⟩)
  dsimp only [Pt.U, Pt.locs, Pt.cells, Pt.slots] at X' l1 l2 l3 st' hQ
  subst l1 l2 l3
  exact K.1 _ _ (fun t q => st'.trans q) (hr v T' L X' hQ)
theorem ow_callV (K : ow_K p e below s m meth c Z own cd mx rt nm G) (X : Stand p l e R s m args below meth c T locs cells slots) (eT : T.heap = h) {y : MethodName} {i : Nat} {bytes : ByteArray} {maxL : Nat} {rt' : Option FieldType} {rm : Room} {as : Array Value} {Q : Option Value → Heap → List Loc → Prop} {a : Addr} (hM : MetFree l y (head1 [Jvm.Cond.code y bytes maxL rt'] rm) (fun a U => a = as ∧ Z.Warmed39 U.vm ∧ U.heap = h) (fun _ _ _ _ _ => True) (fun _ U o U' => ∃ v L, o = .returned v ∧ Q v U'.heap L ∧ FrameEnd U o U' L rm.cells rm.slots)) (E : Exa Z h a y.cls) (wl : (Jvm.Cond.methodLink own i y).before a0 Z = true) (wd : (Jvm.Cond.declares y).before a0 Z = true) (wsel : (Jvm.Cond.selects y.cls y y).before a0 Z = true) (ws : (Jvm.Cond.instanceMethod y).before a0 Z = true) (wi : (Jvm.Cond.initialized y.cls).before a0 Z = true) (wc : (Jvm.Cond.code y bytes maxL rt').before a0 Z = true) (hy : y.cls ≠ "java/lang/invoke/MethodHandle" ∧ y.cls ≠ "java/lang/invoke/VarHandle") (W : Nat) (hW : (st.map fun v => v.category).sum ≤ W) (hf : rm.frames + 1 ≤ R.frames) (hl : W + (maxL + 11) + rm.locals ≤ R.locals) (hc : cells + rm.cells ≤ R.cells) (hs : slots + rm.slots ≤ R.slots) (hz : Ls.size = mx) {full : List Value} (argsL : List Value) (has : (.ref a :: argsL).toArray = as) (hlen : ∀ sig, parseMethodDescriptor y.desc = some sig → argsL.length = sig.parameters.length) (hst : full = argsL.reverse ++ .ref a :: st) (hd : decode cd pc = .ok (.invokevirtual i, 3)) (hp : pc' = pc + 3)
    (hr : ∀ v T' L, Stand p l e R s m args below meth c T' (locs ++ L) (cells + rm.cells) (slots + rm.slots) → Q v T'.heap L → G (T'.setTop (mkF m pc' Ls (v.toList ++ st)))) : G (T.setTop (mkF m pc Ls full)) := by
  subst hp has
  obtain ⟨cq, kq, qa, qb, qc⟩ := isOf K.2.2.2.2.2.1 eT E
  obtain ⟨v, vm₁, ⟨T', L', c', s'⟩, -, X', ⟨L, hQ, l1, l2, l3⟩, st'⟩ := X.virtualBack K.2.1 (y := y) (z := y) K.2.2.2.2.1 (mvT K.2.2.2.2.2.1 wl) (mvT K.2.2.2.2.2.1 wd) (notFace_of_selects (args := #[]) (mvT K.2.2.2.2.2.1 wsel)) (mvT K.2.2.2.2.2.1 wsel) (mvT K.2.2.2.2.2.1 ws) hy (backOf (W := W) hM K.2.2.2.2.2.1 wc wi hf hl) qa qc (g := mkF m pc Ls full) rfl (hz.trans K.2.2.2.1.symm) (Steps.refl _) (argsL := argsL) (rest := st) hlen hst (by show 2 * 0 + _ ≤ _; omega) (hb K.2.2.1 hd) (fun _ _ => ⟨rfl, eT, hc, hs⟩)
  dsimp only [Pt.U, Pt.locs, Pt.cells, Pt.slots] at X' l1 l2 l3 st' hQ
  subst l1 l2 l3
  exact K.1 _ _ (fun t q => st'.trans q) (hr v T' L X' hQ)
theorem ow_retI {Q : Option Value → Heap → List Loc → Prop} {ce sl : Nat} (K : ow_K p e below s m meth c Z own cd mx rt nm (ow_Gl p e below s Q ce sl)) (X : Stand p l e R s m args below meth c T locs cells slots) (t : FieldType) {v : Int32} (hrt : rt = some t) (hn : narrow t (.int v) = .int v) (hti : t = .int ∨ t = .boolean ∨ t = .byte ∨ t = .char ∨ t = .short) (hd : decode cd pc = .ok (.ireturn, 1)) (hQ : Q (some (.int v)) T.heap locs) (hc : cells ≤ ce) (hs : slots ≤ sl) : ow_Gl p e below s Q ce sl (T.setTop (mkF m pc Ls [.int v])) := by
  obtain ⟨fs, hr, hrun, hended, hW, hsame⟩ := X.leave (v := some (.int v)) (fun h => by rw [K.2.2.2.2.2.2.1, hrt] at h; cases h) K.2.2.2.2.2.2.2.1
  exact ⟨_, _, X.ireturnOut K.2.1 (K.2.2.2.2.2.2.1.trans hrt) hn hti (hb K.2.2.1 hd) hr, hrun, hended, _, _, rfl, hQ, ⟨_, rfl⟩, hW, hsame.mono hc hs⟩
theorem ow_retJ {Q : Option Value → Heap → List Loc → Prop} {ce sl : Nat} (K : ow_K p e below s m meth c Z own cd mx rt nm (ow_Gl p e below s Q ce sl)) (X : Stand p l e R s m args below meth c T locs cells slots) {v : Int64} (hrt : rt = some .long) (hd : decode cd pc = .ok (.lreturn, 1)) (hQ : Q (some (.long v)) T.heap locs) (hc : cells ≤ ce) (hs : slots ≤ sl) : ow_Gl p e below s Q ce sl (T.setTop (mkF m pc Ls [.long v])) := by
  obtain ⟨fs, hr, hrun, hended, hW, hsame⟩ := X.leave (v := some (.long v)) (fun h => by rw [K.2.2.2.2.2.2.1, hrt] at h; cases h) K.2.2.2.2.2.2.2.1
  exact ⟨_, _, X.lreturnOut K.2.1 (K.2.2.2.2.2.2.1.trans hrt) (hb K.2.2.1 hd) hr, hrun, hended, _, _, rfl, hQ, ⟨_, rfl⟩, hW, hsame.mono hc hs⟩
theorem ow_retA {Q : Option Value → Heap → List Loc → Prop} {ce sl : Nat} (K : ow_K p e below s m meth c Z own cd mx rt nm (ow_Gl p e below s Q ce sl)) (X : Stand p l e R s m args below meth c T locs cells slots) (t : FieldType) {v : Addr} (hrt : rt = some t) (ht : t.isReference = true) (hd : decode cd pc = .ok (.areturn, 1)) (hQ : Q (some (.ref v)) T.heap locs) (hc : cells ≤ ce) (hs : slots ≤ sl) : ow_Gl p e below s Q ce sl (T.setTop (mkF m pc Ls [.ref v])) := by
  obtain ⟨fs, hr, hrun, hended, hW, hsame⟩ := X.leave (v := some (.ref v)) (fun h => by rw [K.2.2.2.2.2.2.1, hrt] at h; cases h) K.2.2.2.2.2.2.2.1
  exact ⟨_, _, X.areturnOut K.2.1 rfl (K.2.2.2.2.2.2.1.trans hrt) ht (hb K.2.2.1 hd) hr, hrun, hended, _, _, rfl, hQ, ⟨_, rfl⟩, hW, hsame.mono hc hs⟩
theorem ow_ret {Q : Option Value → Heap → List Loc → Prop} {ce sl : Nat} (K : ow_K p e below s m meth c Z own cd mx rt nm (ow_Gl p e below s Q ce sl)) (X : Stand p l e R s m args below meth c T locs cells slots) (hrt : rt = none) (hd : decode cd pc = .ok (.return_, 1)) (hQ : Q none T.heap locs) (hc : cells ≤ ce) (hs : slots ≤ sl) : ow_Gl p e below s Q ce sl (T.setTop (mkF m pc Ls [])) := by
  obtain ⟨fs, hr, hrun, hended, hW, hsame⟩ := X.leave (v := none) (fun _ => rfl) K.2.2.2.2.2.2.2.1
  exact ⟨_, _, X.returnOut K.2.1 (K.2.2.2.2.2.2.1.trans hrt) (hb K.2.2.1 hd) hr, hrun, hended, _, _, rfl, hQ, ⟨_, rfl⟩, hW, hsame.mono hc hs⟩
theorem ow_selPriv {s : State} {args : Array Value} {y y' : MethodName} (hc : y'.cls = y.cls) (wsel : (Jvm.Cond.selects y'.cls y' y').before args s = true) (hpriv : (Jvm.Cond.privateMethod y).before args s = true) (hinst : (Jvm.Cond.instanceMethod y).before args s = true) (hy : y.cls ≠ "java/lang/invoke/MethodHandle" ∧ y.cls ≠ "java/lang/invoke/VarHandle") : (Jvm.Cond.selects y.cls y y).before args s = true := by
  obtain ⟨_, _, m, -, -, h3, -, k, h5, h6⟩ := Cond.selects_spec wsel
  exact selects_self_of_private (c := m.cls) (k := k) (hc ▸ findClass_of_methodNamed h3) h5 h6 (Cond.privateMethod_at hpriv) hinst hy
theorem ow_callR (K : ow_K p e below s m meth c Z own cd mx rt nm G) (X : Stand p l e R s m args below meth c T locs cells slots) (eT : T.heap = h) {y : MethodName} {i : Nat} {bytes : ByteArray} {maxL : Nat} {rt' : Option FieldType} {rm : Room} {as : Array Value} {Q : Option Value → Heap → List Loc → Prop} {y' : MethodName} {a : Addr} (hM : MetFree l y (head1 [Jvm.Cond.code y bytes maxL rt'] rm) (fun a U => a = as ∧ Z.Warmed39 U.vm ∧ U.heap = h) (fun _ _ _ _ _ => True) (fun _ U o U' => ∃ v L, o = .returned v ∧ Q v U'.heap L ∧ FrameEnd U o U' L rm.cells rm.slots)) (E : Exa Z h a y.cls) (hcl : y'.cls = y.cls) (wsel : (Jvm.Cond.selects y'.cls y' y').before a0 Z = true) (wp : (Jvm.Cond.privateMethod y).before a0 Z = true) (wl : (Jvm.Cond.methodLink own i y).before a0 Z = true) (ws : (Jvm.Cond.instanceMethod y).before a0 Z = true) (wi : (Jvm.Cond.initialized y.cls).before a0 Z = true) (wc : (Jvm.Cond.code y bytes maxL rt').before a0 Z = true) (hy : y.cls ≠ "java/lang/invoke/MethodHandle" ∧ y.cls ≠ "java/lang/invoke/VarHandle") (W : Nat) (hW : (st.map fun v => v.category).sum ≤ W) (hf : rm.frames + 1 ≤ R.frames) (hl : W + (maxL + 11) + rm.locals ≤ R.locals) (hc : cells + rm.cells ≤ R.cells) (hs : slots + rm.slots ≤ R.slots) (hz : Ls.size = mx) {full : List Value} (argsL : List Value) (has : (.ref a :: argsL).toArray = as) (hlen : ∀ sig, parseMethodDescriptor y.desc = some sig → argsL.length = sig.parameters.length) (hst : full = argsL.reverse ++ .ref a :: st) (hd : decode cd pc = .ok (.invokevirtual i, 3)) (hp : pc' = pc + 3)
    (hr : ∀ v T' L, Stand p l e R s m args below meth c T' (locs ++ L) (cells + rm.cells) (slots + rm.slots) → Q v T'.heap L → G (T'.setTop (mkF m pc' Ls (v.toList ++ st)))) : G (T.setTop (mkF m pc Ls full)) := by
  subst hp has
  obtain ⟨cq, q1, q2⟩ := E.cell
  have hpv : (Jvm.Cond.privateMethod y).before args s = true := mvP K.2.2.2.2.2.1 wp
  have hin : (Jvm.Cond.instanceMethod y).before args s = true := mvT K.2.2.2.2.2.1 ws
  obtain ⟨v, vm₁, ⟨T', L', c', s'⟩, -, X', ⟨L, hQ, l1, l2, l3⟩, st'⟩ := X.privateBack K.2.1 (y := y) K.2.2.2.2.1 (mvT K.2.2.2.2.2.1 wl) hin (ow_selPriv hcl (mvT K.2.2.2.2.2.1 wsel) hpv hin hy) (Cond.privateMethod_at hpv) (mvT K.2.2.2.2.2.1 wc) hy (backOf (W := W) hM K.2.2.2.2.2.1 wc wi hf hl) (g := mkF m pc Ls full) rfl (hz.trans K.2.2.2.1.symm) (Steps.refl _) (a := a) (by rw [eT]; exact q1) q2 (argsL := argsL) (rest := st) hlen hst (by show 2 * 0 + _ ≤ _; omega) (hb K.2.2.1 hd) (fun _ _ => ⟨rfl, eT, hc, hs⟩)
  dsimp only [Pt.U, Pt.locs, Pt.cells, Pt.slots] at X' l1 l2 l3 st' hQ
  subst l1 l2 l3
  exact K.1 _ _ (fun t q => st'.trans q) (hr v T' L X' hQ)
theorem ow_newPE (K : ow_K p e below s m meth c Z own cd mx rt nm G) (X : Stand p l e R s m args below meth c T locs cells slots) (eT : T.heap = h) {aty : ArrayType} {n : Int32} {C : String} (hC : "[" ++ (newarray.typeOf aty).toString = C) (w : (Jvm.Cond.arrayClass (newarray.typeOf aty)).before a0 Z = true) (hn : ¬ n < 0) (cap : Nat) (hcap : n.toNatClampNeg ≤ cap) (hbb : cap * 8 ≤ 536870912) (hc : cells + 1 ≤ R.cells) (hl : slots + cap ≤ R.slots) (hd : decode cd pc = .ok (.newarray aty, 2)) (hp : pc' = pc + 2)
    (hr : ∀ T' h' k a, Stand p l e R s m args below meth c T' locs (cells + 1) (slots + cap) → T'.heap = h' → Ext h h' → a = h.size → Arv Z h' a k (newarray.typeOf aty) n [] (defaultValue (newarray.typeOf aty)) → Exa Z h' a C → G (T'.setTop (mkF m pc' Ls (.ref a :: st)))) : G (T.setTop (mkF m pc Ls (.int n :: st))) := by
  have hcb : componentBytes (newarray.typeOf aty) ≤ 8 := by cases aty <;> decide
  obtain ⟨cA, kA, comp, h1, h2, h3, X', st'⟩ := X.newarrayPrim K.2.1 (mvA K.2.2.2.2.2.1 w) (g := mkF m pc Ls (.int n :: st)) rfl (hb K.2.2.1 hd) rfl hn (Nat.le_trans (Nat.mul_le_mul hcap hcb) hbb) hc (by omega)
  subst hp eT hC
  rw [K.2.2.2.2.2.1.alike.findClass] at h1
  obtain ⟨kZ, z1, -⟩ := Vm.findClass_spec h1
  obtain ⟨k', z2, z3⟩ := K.2.2.2.2.2.1.alike.2.2 _ _ z1
  cases h2.symm.trans z2
  have hk : kZ.kind = .array comp (newarray.typeOf aty) := by rw [← h3, z3]
  have hN : (T.heap.push (newA cA (newarray.typeOf aty) n))[T.heap.size]? = some (newA cA (newarray.typeOf aty) n) := by simp
  have A : Arr Z (T.heap.push (newA cA (newarray.typeOf aty) n)) T.heap.size (newA cA (newarray.typeOf aty) n) (newarray.typeOf aty) := ⟨hN, ⟨by simp [newA], kZ, z1, comp, hk⟩, by simp [newA]⟩
  refine K.1 _ _ st' (hr _ _ cA _ (X'.more (Nat.le_refl _) (by omega)) rfl ⟨by show T.heap.size ≤ (T.heap.push _).size; simp, fun a c h => ?_⟩ rfl (Arv.new A hn) ⟨_, kZ, hN, h1, z1, rfl, fun q => by rw [hk] at q; cases q⟩)
  show (T.heap.push _)[a]? = _
  rw [Array.getElem?_push_lt (Array.getElem?_eq_some_iff.mp h).1]; exact (Array.getElem?_eq_getElem _).symm.trans h
theorem ow_copy (K : ow_K p e below s m meth c Z own cd mx rt nm G) (X : Stand p l e R s m args below meth c T locs cells slots) (eT : T.heap = h) {i : Nat} (w1 : (Jvm.Cond.methodLink own i Jvm.Stand.acN).before a0 Z = true) (w2 : (Jvm.Cond.native Jvm.Stand.acN).before a0 Z = true) (w3 : (Jvm.Cond.static Jvm.Stand.acN).before a0 Z = true) (w4 : (Jvm.Cond.initialized "java/lang/System").before a0 Z = true) {a b : Addr} {k k' : ClassId} {ty : FieldType} {z z' sp dp nn : Int32} {vs vd us : List Value} {dv dd : Value} (A : Arv Z h a k ty z vs dv) (B : Arv Z h b k' ty z' vd dd) (hty : refKind ty = false) (h1 : ¬ sp < 0) (h2 : ¬ dp < 0) (h3 : ¬ nn < 0) (h4 : sp.toNatClampNeg + nn.toNatClampNeg ≤ z.toNatClampNeg) (h5 : dp.toNatClampNeg + nn.toNatClampNeg ≤ z'.toNatClampNeg) (hus : us = (List.range nn.toNatClampNeg).map fun i => vs.getD (sp.toNatClampNeg + i) dv) (hll : dp.toNatClampNeg + nn.toNatClampNeg ≤ vd.length) {n0 : Nat} (N : Fr n0 locs) (ge : n0 ≤ b) (hz : Ls.size = mx) (W : Nat) (hW : (st.map fun v => v.category).sum ≤ W) (hf : 1 ≤ R.frames) (hl : W + (nativeFrameWords "java/lang/System" "arraycopy" 5 + 11) ≤ R.locals) (hd : decode cd pc = .ok (.invokestatic i, 3)) (hp : pc' = pc + 3)
    (hr : ∀ T' h' L, Stand p l e R s m args below meth c T' L cells slots → T'.heap = h' → Fr n0 L → Keep h h' [b] → Arv Z h' b k' ty z' (vd.take dp.toNatClampNeg ++ us ++ vd.drop (dp.toNatClampNeg + nn.toNatClampNeg)) dd → G (T'.setTop (mkF m pc' Ls st))) : G (T.setTop (mkF m pc Ls (.int nn :: .int dp :: .ref b :: .int sp :: .ref a :: st))) := by
  subst hp
  obtain ⟨T', h', L, X', e', N', K', V', st'⟩ := cpA X K.2.1 K.2.2.2.2.2.1 K.2.2.2.2.1 w1 w2 w3 w4 eT A B (Or.inl ⟨rfl, hty⟩) h1 h2 h3 h4 h5 hus hll N ge (g := mkF m pc Ls (.int nn :: .int dp :: .ref b :: .int sp :: .ref a :: st)) rfl (hz.trans K.2.2.2.1.symm) rfl (hb K.2.2.1 hd) hf (W := W) (by show 2 * 0 + _ ≤ _; omega) hl
  exact K.1 _ _ st' (hr T' h' L X' e' N' K' V')
theorem ow_clone (K : ow_K p e below s m meth c Z own cd mx rt nm G) (X : Stand p l e R s m args below meth c T locs cells slots) (eT : T.heap = h) {i : Nat} {ad : String} (w1 : (Jvm.Cond.methodLink own i ⟨ad, "clone", "()Ljava/lang/Object;"⟩).before a0 Z = true) (w2 : (Jvm.Cond.sameMethod ad "java/lang/Object" "clone" "()Ljava/lang/Object;").before a0 Z = true) (w3 : (Jvm.Cond.native ⟨"java/lang/Object", "clone", "()Ljava/lang/Object;"⟩).before a0 Z = true) (w4 : (Jvm.Cond.instanceMethod ⟨"java/lang/Object", "clone", "()Ljava/lang/Object;"⟩).before a0 Z = true) (w5 : (Jvm.Cond.selects ad ⟨ad, "clone", "()Ljava/lang/Object;"⟩ ⟨"java/lang/Object", "clone", "()Ljava/lang/Object;"⟩).before a0 Z = true) (w6 : (Jvm.Cond.castable ad "java/lang/Cloneable").before a0 Z = true) {a : Addr} {k : ClassId} {ty : FieldType} {z : Int32} {vs : List Value} {dv : Value} (F : Arv Z h a k ty z vs dv) (E : Exa Z h a ad) (hz : Ls.size = mx) (W cap : Nat) (hW : (st.map fun v => v.category).sum ≤ W) (hf : 1 ≤ R.frames) (hl : W + 14 ≤ R.locals) (hcap : z.toNatClampNeg ≤ cap) (hc : cells + 1 ≤ R.cells) (hs : slots + cap ≤ R.slots) (hd : decode cd pc = .ok (.invokevirtual i, 3)) (hp : pc' = pc + 3)
    (hr : ∀ T' h' b, Stand p l e R s m args below meth c T' locs (cells + 1) (slots + cap) → T'.heap = h' → Ext h h' → b = h.size → Arv Z h' b k ty z vs dv → Exa Z h' b ad → G (T'.setTop (mkF m pc' Ls (.ref b :: st)))) : G (T.setTop (mkF m pc Ls (.ref a :: st))) := by
  subst hp
  obtain ⟨T', h', X', e', E', F', A', st'⟩ := cloneH X K.2.1 K.2.2.2.2.2.1 K.2.2.2.2.1 w1 w2 w3 w4 w5 w6 eT F.arh E (g := mkF m pc Ls (.ref a :: st)) rfl (hz.trans K.2.2.2.1.symm) rfl (hb K.2.2.1 hd) hf (W := W) (by show 2 * 0 + _ ≤ _; omega) hl hcap hc hs
  exact K.1 _ _ st' (hr T' h' _ X' e' E' rfl F' A')
theorem ow_cast (K : ow_K p e below s m meth c Z own cd mx rt nm G) (X : Stand p l e R s m args below meth c T locs cells slots) (eT : T.heap = h) {i : Nat} {C : String} {a : Addr} (w : (Jvm.Cond.classLink own i C).before a0 Z = true) (E : Exa Z h a C) (hd : decode cd pc = .ok (.checkcast i, 3)) (hp : pc' = pc + 3)
    (hr : ∀ T', Stand p l e R s m args below meth c T' locs cells slots → T'.heap = h → G (T'.setTop (mkF m pc' Ls (.ref a :: st)))) : G (T.setTop (mkF m pc Ls (.ref a :: st))) := by
  subst hp
  obtain ⟨T', X', e', st'⟩ := castY X K.2.1 K.2.2.2.2.2.1 K.2.2.2.2.1 w eT (Ins.self E) (g := mkF m pc Ls (.ref a :: st)) rfl rfl (hb K.2.2.1 hd)
  exact K.1 _ _ st' (hr T' X' e')
end Own

theorem own_remI (x y : Int32) (hy : 0 < y.toInt) : (x - (x / y) * y).toInt = x.toInt.tmod y.toInt := by
  have hne : y ≠ -1 := fun q => by rw [q] at hy; exact absurd hy (by decide)
  rw [Int32.toInt_sub, Int32.toInt_mul, Int.sub_bmod_bmod, Int32.toInt_div_of_ne_right x y hne]
  have e : x.toInt - x.toInt.tdiv y.toInt * y.toInt = x.toInt.tmod y.toInt := by
    have := Int.tmod_add_tdiv_mul x.toInt y.toInt; omega
  rw [e]
  have b1 := Int.lt_tmod_of_pos x.toInt hy
  have b2 := Int.tmod_lt_of_pos x.toInt hy
  have b3 := y.toInt_lt
  apply Int.bmod_eq_of_le <;> omega
theorem own_natI {i : Nat} (hi : i < 2 ^ 31) : (Int32.ofNat i).toInt = i := Int32.toInt_ofNat_of_lt hi
theorem own_ltn {i n : Nat} (h : i < n) (hn : n < 2 ^ 31) : Int32.ofNat i < Int32.ofNat n := by
  rw [Int32.lt_iff_toInt_lt, own_natI hn, own_natI (Nat.lt_trans h hn)]; omega
theorem own_gen {i n : Nat} (h : n ≤ i) (hi : i < 2 ^ 31) : ¬ Int32.ofNat i < Int32.ofNat n := by
  rw [Int32.lt_iff_toInt_lt, own_natI hi, own_natI (Nat.lt_of_le_of_lt h hi)]; omega
theorem own_succ {i : Nat} (hi : i + 1 < 2 ^ 31) : Int32.ofNat i + 1 = Int32.ofNat (i + 1) := by
  apply Int32.toInt_inj.mp
  rw [Int32.toInt_add, own_natI hi, own_natI (Nat.lt_of_succ_lt hi)]
  have e : (1 : Int32).toInt = 1 := rfl
  rw [e]
  apply Int.bmod_eq_of_le <;> omega
theorem own_addn {i j : Nat} (hi : i + j < 2 ^ 31) : Int32.ofNat i + Int32.ofNat j = Int32.ofNat (i + j) := by
  apply Int32.toInt_inj.mp
  rw [Int32.toInt_add, own_natI hi, own_natI (by omega), own_natI (by omega)]
  apply Int.bmod_eq_of_le <;> omega
theorem own_nat_of {x : Int32} (h : ¬ x < 0) : x = Int32.ofNat x.toNatClampNeg ∧ (x.toNatClampNeg : Int) = x.toInt := by
  have e : (0 : Int32).toInt = 0 := rfl
  have a2 := x.toInt_lt
  rw [Int32.lt_iff_toInt_lt, e] at h
  have q : (x.toNatClampNeg : Int) = x.toInt := by simp only [Int32.toNatClampNeg]; omega
  refine ⟨Int32.toInt_inj.mp ?_, q⟩
  rw [own_natI (by omega)]; exact q.symm
def own_bl (xs : List Int32) : List Value := xs.map Value.int
theorem own_bl_len (xs : List Int32) : (own_bl xs).length = xs.length := by simp [own_bl]
theorem own_bl_at (xs : List Int32) (j : Nat) : (own_bl xs).getD j (.int 0) = .int (xs.getD j 0) := by
  simp only [own_bl, List.getD_eq_getElem?_getD, List.getElem?_map]
  cases xs[j]? <;> rfl
theorem own_bl_app (xs : List Int32) (x : Int32) : (own_bl xs ++ [Value.int 0]).set xs.length (.int x) = own_bl (xs ++ [x]) := by
  simp [own_bl, List.set_append]
theorem own_bl_set (xs : List Int32) (i : Nat) (x : Int32) : (own_bl xs).set i (.int x) = own_bl (xs.set i x) := by
  simp [own_bl, List.map_set]
theorem own_cl {n : Nat} (h : n < 2 ^ 31) : (Int32.ofNat n).toNatClampNeg = n := (ow_ix_nat h).2
theorem own_nn {n : Nat} (h : n < 2 ^ 31) : ¬ Int32.ofNat n < 0 := (ow_ix_nat h).1
theorem own_cpl (ys xs : List Int32) {A B : Nat} (hA : ys.length = A) (hB : B ≤ xs.length) (hA' : A < 1000) (hB' : B < 1000) : ∀ i, (own_bl (ys ++ xs.take B)).getD i (.int 0) = ((own_bl ys ++ List.replicate B (Value.int 0)).take (Int32.ofNat A).toNatClampNeg ++ ((List.range (Int32.ofNat B).toNatClampNeg).map fun i => (own_bl xs).getD ((0 : Int32).toNatClampNeg + i) (.int 0)) ++ (own_bl ys ++ List.replicate B (Value.int 0)).drop ((Int32.ofNat A).toNatClampNeg + (Int32.ofNat B).toNatClampNeg)).getD i (.int 0) := fun i => by
  rw [own_cl (by omega), own_cl (by omega), show (0 : Int32).toNatClampNeg = 0 from by decide]
  have e1 : (own_bl ys ++ List.replicate B (Value.int 0)).take A = own_bl ys := by
    rw [← hA, ← own_bl_len ys, List.take_left]
  have e3 : (own_bl ys ++ List.replicate B (Value.int 0)).drop (A + B) = [] := by
    apply List.drop_eq_nil_of_le; rw [List.length_append, own_bl_len, List.length_replicate]; omega
  have e2 : ((List.range B).map fun i => (own_bl xs).getD (0 + i) (.int 0)) = own_bl (xs.take B) := by
    apply List.ext_getElem?
    intro k
    simp only [List.getElem?_map, Nat.zero_add]
    by_cases hk : k < B
    · rw [List.getElem?_range hk]
      simp only [own_bl, List.getElem?_map, List.getElem?_take_of_lt hk, List.getElem?_eq_getElem (show k < xs.length by omega), Option.map_some]
      rw [← own_bl, own_bl_at]; simp [show k < xs.length by omega]
    · rw [List.getElem?_eq_none (by simpa using hk), List.getElem?_eq_none (by rw [own_bl_len, List.length_take]; omega)]; rfl
  rw [e1, e2, e3, List.append_nil]
  simp [own_bl]
theorem own_ushr27 (y : Int32) : ∃ i : Nat, i < 32 ∧ XT.ushr y 27 = Int32.ofNat i := by
  refine ⟨(y.toBitVec >>> 27).toNat, ?_, ?_⟩
  · rw [BitVec.toNat_ushiftRight, Nat.shiftRight_eq_div_pow]
    have := y.toBitVec.isLt; omega
  · apply Int32.toBitVec_inj.mp
    show y.toBitVec >>> 27 = BitVec.ofNat 32 _
    rw [BitVec.ofNat_toNat, BitVec.setWidth_eq]
theorem own_mask31 {i : Nat} (hi : i < 32) : ∃ j : Nat, j < 32 ∧ j ≠ i ∧ (Int32.ofNat i + 1) &&& 31 = Int32.ofNat j := by
  have q : ∀ i : Fin 32, ∃ j : Fin 32, j.val ≠ i.val ∧ (Int32.ofNat i.val + 1) &&& 31 = Int32.ofNat j.val := by decide
  obtain ⟨j, h1, h2⟩ := q ⟨i, hi⟩
  exact ⟨j.val, j.isLt, h1, h2⟩
def own_t0 : List Int32 := List.replicate 32 0
theorem own_t0_at (j : Nat) : own_t0.getD j 0 = 0 := by
  simp only [own_t0, List.getD_eq_getElem?_getD, List.getElem?_replicate]; split <;> rfl
theorem own_t1_at {i j : Nat} (x : Int32) (hi : i < 32) : (own_t0.set i x).getD j 0 = if i = j then x else 0 := by
  simp only [List.getD_eq_getElem?_getD]
  by_cases h : i = j
  · subst h; rw [List.getElem?_set_self (by simpa [own_t0] using hi), if_pos rfl]; rfl
  · rw [List.getElem?_set_ne h, if_neg h, ← List.getD_eq_getElem?_getD, own_t0_at]
theorem own_t1_len {i : Nat} (x : Int32) : (own_bl (own_t0.set i x)).length = 32 := by rw [own_bl_len, List.length_set]; rfl
theorem own_subn {f n : Nat} (h : f + n < 2 ^ 31) : Int32.ofNat (f + n) - Int32.ofNat f = Int32.ofNat n := by
  rw [Nat.add_comm, ← own_addn (by omega)]; exact Int32.add_sub_cancel _ _
theorem own_ofn_inj {n k : Nat} (hn : n < 2 ^ 31) (hk : k < 2 ^ 31) (h : Int32.ofNat n = Int32.ofNat k) : n = k := by
  have := congrArg Int32.toInt h
  rw [own_natI hn, own_natI hk] at this; omega
theorem own_ltn' {n k : Nat} (hn : n < 2 ^ 31) (hk : k < 2 ^ 31) (h : Int32.ofNat n < Int32.ofNat k) : n < k := by
  rw [Int32.lt_iff_toInt_lt, own_natI hn, own_natI hk] at h; omega
theorem ow_cut {P Q : Prop} (f : P → Q) (q : P) : Q := f q
theorem own_pred {j : Nat} (hj : j + 1 < 2 ^ 31) : Int32.ofNat (j + 1) - 1 = Int32.ofNat j := by
  rw [← own_succ hj]; exact Int32.add_sub_cancel _ _
theorem own_m1 (x : Int32) : x + (-1) = x - 1 := by rw [Int32.sub_eq_add_neg]
def own_P (xs ps : List Int32) (s f n : Nat) : Prop := ∀ i, i < n → xs.getD (s + i) 0 = ps.getD (f + i) 0
theorem own_and3L (x : Int64) : ∃ n : Nat, n ≤ 3 ∧ (x &&& 3).toInt32 = Int32.ofNat n := by
  refine ⟨(x.toBitVec &&& 3#64).toNat, ?_, ?_⟩
  · rw [BitVec.toNat_and]; exact Nat.and_le_right
  · apply Int32.toBitVec_inj.mp
    show (x.toBitVec &&& 3#64).signExtend 32 = BitVec.ofNat 32 _
    rw [BitVec.signExtend_eq_setWidth_of_le _ (by decide)]
    apply BitVec.eq_of_toNat_eq
    rw [BitVec.toNat_setWidth, BitVec.toNat_ofNat]
theorem own_and7 (x : Int32) : ∃ n : Nat, n ≤ 7 ∧ x &&& 7 = Int32.ofNat n := by
  refine ⟨(x.toBitVec &&& 7#32).toNat, ?_, ?_⟩
  · rw [BitVec.toNat_and]; exact Nat.and_le_right
  · apply Int32.toBitVec_inj.mp
    show x.toBitVec &&& 7#32 = BitVec.ofNat 32 _
    rw [BitVec.ofNat_toNat, BitVec.setWidth_eq]
theorem own_rem7 : ∀ n : Fin 8, ∃ f : Fin 5, Int32.ofNat n.val - (Int32.ofNat n.val / 5) * 5 = Int32.ofNat f.val := by decide
theorem own_rem7b : ∀ (n : Fin 8) (f : Fin 5), 5 - Int32.ofNat f.val ≠ 0 ∧ ∃ g : Fin 5, f.val + g.val ≤ 4 ∧ Int32.ofNat n.val - (Int32.ofNat n.val / (5 - Int32.ofNat f.val)) * (5 - Int32.ofNat f.val) = Int32.ofNat g.val := by decide
def own_O (Z : State) (h : Heap) (o rb : Addr) (kb : ClassId) (re : Addr) (ke : ClassId) (rt : Addr) (kt : ClassId) (xs es ts : List Int32) (sz : Int32) : Prop := Exa Z h o "com/example/meritgrid/meritgrid/TextIndex" ∧ Fld Z h o "com/example/meritgrid/meritgrid/TextIndex" "bytes" "[B" (.ref rb) ∧ Fld Z h o "com/example/meritgrid/meritgrid/TextIndex" "ends" "[I" (.ref re) ∧ Fld Z h o "com/example/meritgrid/meritgrid/TextIndex" "table" "[I" (.ref rt) ∧ Fld Z h o "com/example/meritgrid/meritgrid/TextIndex" "shift" "I" (.int (27 : Int32)) ∧ Fld Z h o "com/example/meritgrid/meritgrid/TextIndex" "size" "I" (.int sz) ∧ Arv Z h rb kb .byte (128 : Int32) (own_bl xs) (.int 0) ∧ Arv Z h re ke .int (16 : Int32) (own_bl es) (.int 0) ∧ Arv Z h rt kt .int (32 : Int32) (own_bl ts) (.int 0)
def own_D (n0 : Nat) (o rb re rt : Addr) : Prop := n0 ≤ o ∧ n0 ≤ rb ∧ n0 ≤ re ∧ n0 ≤ rt ∧ o ≠ rb ∧ o ≠ re ∧ o ≠ rt ∧ rb ≠ re ∧ rb ≠ rt ∧ re ≠ rt
def own_A (t o rb re rt : Addr) : Prop := t ≠ o ∧ t ≠ rb ∧ t ≠ re ∧ t ≠ rt

theorem d1_0 : decode jdk_33_method_48_code 0 = .ok (.iload_n 0, 1) := by decide +kernel
theorem d1_1 : decode jdk_33_method_48_code 1 = .ok (.iconst (-1), 1) := by decide +kernel
theorem d1_2 : decode jdk_33_method_48_code 2 = .ok (.ixor, 1) := by decide +kernel
theorem d1_3 : decode jdk_33_method_48_code 3 = .ok (.iload_n 0, 1) := by decide +kernel
theorem d1_4 : decode jdk_33_method_48_code 4 = .ok (.iconst 1, 1) := by decide +kernel
theorem d1_5 : decode jdk_33_method_48_code 5 = .ok (.isub, 1) := by decide +kernel
theorem d1_6 : decode jdk_33_method_48_code 6 = .ok (.iand, 1) := by decide +kernel
theorem d1_7 : decode jdk_33_method_48_code 7 = .ok (.istore_n 0, 1) := by decide +kernel
theorem d1_8 : decode jdk_33_method_48_code 8 = .ok (.iload_n 0, 1) := by decide +kernel
theorem d1_9 : decode jdk_33_method_48_code 9 = .ok (.ifCond .gt 8, 3) := by decide +kernel
theorem d1_12 : decode jdk_33_method_48_code 12 = .ok (.iload_n 0, 1) := by decide +kernel
theorem d1_13 : decode jdk_33_method_48_code 13 = .ok (.bipush 32, 2) := by decide +kernel
theorem d1_15 : decode jdk_33_method_48_code 15 = .ok (.iand, 1) := by decide +kernel
theorem d1_16 : decode jdk_33_method_48_code 16 = .ok (.ireturn, 1) := by decide +kernel
theorem d1_17 : decode jdk_33_method_48_code 17 = .ok (.iconst 1, 1) := by decide +kernel
theorem d1_18 : decode jdk_33_method_48_code 18 = .ok (.istore_n 1, 1) := by decide +kernel
theorem d1_19 : decode jdk_33_method_48_code 19 = .ok (.iload_n 0, 1) := by decide +kernel
theorem d1_20 : decode jdk_33_method_48_code 20 = .ok (.ldc_w 264, 3) := by decide +kernel
theorem d1_23 : decode jdk_33_method_48_code 23 = .ok (.if_icmp .le 11, 3) := by decide +kernel
theorem d1_26 : decode jdk_33_method_48_code 26 = .ok (.iinc 1 16, 3) := by decide +kernel
theorem d1_29 : decode jdk_33_method_48_code 29 = .ok (.iload_n 0, 1) := by decide +kernel
theorem d1_30 : decode jdk_33_method_48_code 30 = .ok (.bipush 16, 2) := by decide +kernel
theorem d1_32 : decode jdk_33_method_48_code 32 = .ok (.iushr, 1) := by decide +kernel
theorem d1_33 : decode jdk_33_method_48_code 33 = .ok (.istore_n 0, 1) := by decide +kernel
theorem d1_34 : decode jdk_33_method_48_code 34 = .ok (.iload_n 0, 1) := by decide +kernel
theorem d1_35 : decode jdk_33_method_48_code 35 = .ok (.sipush 256, 3) := by decide +kernel
theorem d1_38 : decode jdk_33_method_48_code 38 = .ok (.if_icmp .le 11, 3) := by decide +kernel
theorem d1_41 : decode jdk_33_method_48_code 41 = .ok (.iinc 1 8, 3) := by decide +kernel
theorem d1_44 : decode jdk_33_method_48_code 44 = .ok (.iload_n 0, 1) := by decide +kernel
theorem d1_45 : decode jdk_33_method_48_code 45 = .ok (.bipush 8, 2) := by decide +kernel
theorem d1_47 : decode jdk_33_method_48_code 47 = .ok (.iushr, 1) := by decide +kernel
theorem d1_48 : decode jdk_33_method_48_code 48 = .ok (.istore_n 0, 1) := by decide +kernel
theorem d1_49 : decode jdk_33_method_48_code 49 = .ok (.iload_n 0, 1) := by decide +kernel
theorem d1_50 : decode jdk_33_method_48_code 50 = .ok (.bipush 16, 2) := by decide +kernel
theorem d1_52 : decode jdk_33_method_48_code 52 = .ok (.if_icmp .le 10, 3) := by decide +kernel
theorem d1_55 : decode jdk_33_method_48_code 55 = .ok (.iinc 1 4, 3) := by decide +kernel
theorem d1_58 : decode jdk_33_method_48_code 58 = .ok (.iload_n 0, 1) := by decide +kernel
theorem d1_59 : decode jdk_33_method_48_code 59 = .ok (.iconst 4, 1) := by decide +kernel
theorem d1_60 : decode jdk_33_method_48_code 60 = .ok (.iushr, 1) := by decide +kernel
theorem d1_61 : decode jdk_33_method_48_code 61 = .ok (.istore_n 0, 1) := by decide +kernel
theorem d1_62 : decode jdk_33_method_48_code 62 = .ok (.iload_n 0, 1) := by decide +kernel
theorem d1_63 : decode jdk_33_method_48_code 63 = .ok (.iconst 4, 1) := by decide +kernel
theorem d1_64 : decode jdk_33_method_48_code 64 = .ok (.if_icmp .le 10, 3) := by decide +kernel
theorem d1_67 : decode jdk_33_method_48_code 67 = .ok (.iinc 1 2, 3) := by decide +kernel
theorem d1_70 : decode jdk_33_method_48_code 70 = .ok (.iload_n 0, 1) := by decide +kernel
theorem d1_71 : decode jdk_33_method_48_code 71 = .ok (.iconst 2, 1) := by decide +kernel
theorem d1_72 : decode jdk_33_method_48_code 72 = .ok (.iushr, 1) := by decide +kernel
theorem d1_73 : decode jdk_33_method_48_code 73 = .ok (.istore_n 0, 1) := by decide +kernel
theorem d1_74 : decode jdk_33_method_48_code 74 = .ok (.iload_n 1, 1) := by decide +kernel
theorem d1_75 : decode jdk_33_method_48_code 75 = .ok (.iload_n 0, 1) := by decide +kernel
theorem d1_76 : decode jdk_33_method_48_code 76 = .ok (.iconst 1, 1) := by decide +kernel
theorem d1_77 : decode jdk_33_method_48_code 77 = .ok (.iushr, 1) := by decide +kernel
theorem d1_78 : decode jdk_33_method_48_code 78 = .ok (.iadd, 1) := by decide +kernel
theorem d1_79 : decode jdk_33_method_48_code 79 = .ok (.ireturn, 1) := by decide +kernel
theorem pn_1 : plainFor (⟨"java/lang/Integer", "numberOfTrailingZeros", "(I)I"⟩ : MethodName) = true := by first | exact plainFor_of_name (by first | (simp [plainName, overriddenIn]; done) | decide +kernel) | decide +kernel
theorem pd_1 : parseMethodDescriptor "(I)I" = some ⟨[.int], some .int⟩ := by decide +kernel
theorem ef_1 (m : MethodId) (x : Int32) : entryFrame m #[(.int x)] 2 = mkF m 0 #[.val (.int x), .unset] [] := by first | (simp [entryFrame, mkF, argsToLocals, Value.category]; done) | rfl
def Q1 (Z : State) (x : Int32)  (h0 : Heap) (n0 : Nat) (v : Option Value) (h : Heap) (L : List Loc) : Prop := v = some (.int 5) ∧ Fr n0 L ∧ h = h0
set_option maxRecDepth 65536 in
set_option maxHeartbeats 40000000 in
theorem rm1 (l : Launch) (Z : State) (a0 : Array Value) (hw : ∀ d ∈ tables_1, d.before a0 Z = true) (ws : List Jvm.Cond) (x : Int32)  (h0 : Heap) (n0 : Nat) (Z0 : n0 ≤ h0.size) (hx : x = 32) :
    MetFree l (⟨"java/lang/Integer", "numberOfTrailingZeros", "(I)I"⟩ : MethodName) (head1 (Jvm.Cond.code (⟨"java/lang/Integer", "numberOfTrailingZeros", "(I)I"⟩ : MethodName) jdk_33_method_48_code 2 (some .int) :: ws) ({ frames := 0, cells := 0, slots := 0, locals := 0 } : Room)) (fun as_ U => as_ = #[(.int x)] ∧ Z.Warmed39 U.vm ∧ U.heap = h0) (fun _ _ _ _ _ => True) (fun _ U oc U' => ∃ v L, oc = .returned v ∧ Q1 Z x h0 n0 v U'.heap L ∧ FrameEnd U oc U' L ({ frames := 0, cells := 0, slots := 0, locals := 0 } : Room).cells ({ frames := 0, cells := 0, slots := 0, locals := 0 } : Room).slots) := by
  refine MetFree.of_bodySF pn_1 hisR ?_
  intro p e s m args below meth c s₁ Bd hml0 hP hK
  obtain ⟨rfl, hZ, hh⟩ := hP
  have K : ow_K p e below s m meth c Z "java/lang/Integer" jdk_33_method_48_code 2 (some .int) "numberOfTrailingZeros" (ow_Gl p e below s (Q1 Z x h0 n0) 0 0) := ⟨ow_Gl_bc, Bd.exec, Bd.bytes, hml0, findClass_of_methodNamed Bd.named, hZ, Bd.returns, Bd.notSynchronized, (name_of_methodNamed Bd.named Bd.method).1⟩
  have X0 : Stand p l e ({ frames := 0, cells := 0, slots := 0, locals := 0 } : Room) s m #[(.int x)] below meth c s₁ [] 0 0 := Stand.of_body Bd
  have e0 : s₁.heap = h0 := by rw [← hh, Bd.state]; rfl
  have N0 := Fr.nil n0
  refine ow_entry (Q := (Q1 Z x h0 n0)) (ce := 0) (sl := 0) (ef_1 m x) ?_
  subst hx
  refine ow_iloadN K X0 (pc' := 1) (32 : Int32) d1_0 rfl rfl ?_
  refine ow_iconst K X0 (pc' := 2) (-1 : Int32) d1_1 rfl (by decide) ?_
  refine ow_ixor K X0 (pc' := 3) (-33 : Int32) d1_2 rfl (by decide) ?_
  refine ow_iloadN K X0 (pc' := 4) (32 : Int32) d1_3 rfl rfl ?_
  refine ow_iconst K X0 (pc' := 5) (1 : Int32) d1_4 rfl (by decide) ?_
  refine ow_isub K X0 (pc' := 6) (31 : Int32) d1_5 rfl (by decide) ?_
  refine ow_iand K X0 (pc' := 7) (31 : Int32) d1_6 rfl (by decide) ?_
  refine ow_istoreN K X0 (pc' := 8) (Ls' := #[.val (.int (31 : Int32)), .unset]) d1_7 rfl rfl ?_
  refine ow_iloadN K X0 (pc' := 9) (31 : Int32) d1_8 rfl rfl ?_
  refine ow_ifY K X0 (pc' := 17) d1_9 (XT.i0_gt_t (by decide)) (by decide) (by decide) ?_
  refine ow_iconst K X0 (pc' := 18) (1 : Int32) d1_17 rfl (by decide) ?_
  refine ow_istoreN K X0 (pc' := 19) (Ls' := #[.val (.int (31 : Int32)), .val (.int (1 : Int32))]) d1_18 rfl rfl ?_
  refine ow_iloadN K X0 (pc' := 20) (31 : Int32) d1_19 rfl rfl ?_
  refine ow_ldcWI K X0 (pc' := 23) (65536 : Int32) d1_20 rfl (hw _ (List.mem_of_getElem? (i := 22) rfl)) ?_
  refine ow_icmpY K X0 (pc' := 34) d1_23 (XT.ii_le_t (by decide)) (by decide) (by decide) ?_
  refine ow_iloadN K X0 (pc' := 35) (31 : Int32) d1_34 rfl rfl ?_
  refine ow_sipush K X0 (pc' := 38) (256 : Int32) d1_35 rfl (by decide) ?_
  refine ow_icmpY K X0 (pc' := 49) d1_38 (XT.ii_le_t (by decide)) (by decide) (by decide) ?_
  refine ow_iloadN K X0 (pc' := 50) (31 : Int32) d1_49 rfl rfl ?_
  refine ow_bipush K X0 (pc' := 52) (16 : Int32) d1_50 rfl (by decide) ?_
  refine ow_icmpN K X0 (pc' := 55) d1_52 rfl (XT.ii_le_f (by decide)) ?_
  refine ow_iinc K X0 (pc' := 58) (Ls' := #[.val (.int (31 : Int32)), .val (.int (5 : Int32))]) (4 : Int32) (5 : Int32) d1_55 rfl (by decide) rfl (by decide) rfl ?_
  refine ow_iloadN K X0 (pc' := 59) (31 : Int32) d1_58 rfl rfl ?_
  refine ow_iconst K X0 (pc' := 60) (4 : Int32) d1_59 rfl (by decide) ?_
  refine ow_iushr K X0 (pc' := 61) (1 : Int32) d1_60 rfl (by decide) ?_
  refine ow_istoreN K X0 (pc' := 62) (Ls' := #[.val (.int (1 : Int32)), .val (.int (5 : Int32))]) d1_61 rfl rfl ?_
  refine ow_iloadN K X0 (pc' := 63) (1 : Int32) d1_62 rfl rfl ?_
  refine ow_iconst K X0 (pc' := 64) (4 : Int32) d1_63 rfl (by decide) ?_
  refine ow_icmpY K X0 (pc' := 74) d1_64 (XT.ii_le_t (by decide)) (by decide) (by decide) ?_
  refine ow_iloadN K X0 (pc' := 75) (5 : Int32) d1_74 rfl rfl ?_
  refine ow_iloadN K X0 (pc' := 76) (1 : Int32) d1_75 rfl rfl ?_
  refine ow_iconst K X0 (pc' := 77) (1 : Int32) d1_76 rfl (by decide) ?_
  refine ow_iushr K X0 (pc' := 78) (0 : Int32) d1_77 rfl (by decide) ?_
  refine ow_iadd K X0 (pc' := 79) (5 : Int32) d1_78 rfl (by decide) ?_
  exact ow_retI K X0 .int rfl rfl (Or.inl rfl) d1_79 ⟨rfl, N0, e0⟩ (by decide) (by decide)
theorem d2_0 : decode prog_31_method_1_code 0 = .ok (.aload_n 0, 1) := by decide +kernel
theorem d2_1 : decode prog_31_method_1_code 1 = .ok (.invokespecial 1, 3) := by decide +kernel
theorem d2_4 : decode prog_31_method_1_code 4 = .ok (.aload_n 0, 1) := by decide +kernel
theorem d2_5 : decode prog_31_method_1_code 5 = .ok (.sipush 128, 3) := by decide +kernel
theorem d2_8 : decode prog_31_method_1_code 8 = .ok (.newarray .byte, 2) := by decide +kernel
theorem d2_10 : decode prog_31_method_1_code 10 = .ok (.putfield 9, 3) := by decide +kernel
theorem d2_13 : decode prog_31_method_1_code 13 = .ok (.aload_n 0, 1) := by decide +kernel
theorem d2_14 : decode prog_31_method_1_code 14 = .ok (.bipush 16, 2) := by decide +kernel
theorem d2_16 : decode prog_31_method_1_code 16 = .ok (.newarray .int, 2) := by decide +kernel
theorem d2_18 : decode prog_31_method_1_code 18 = .ok (.putfield 13, 3) := by decide +kernel
theorem d2_21 : decode prog_31_method_1_code 21 = .ok (.aload_n 0, 1) := by decide +kernel
theorem d2_22 : decode prog_31_method_1_code 22 = .ok (.bipush 32, 2) := by decide +kernel
theorem d2_24 : decode prog_31_method_1_code 24 = .ok (.newarray .int, 2) := by decide +kernel
theorem d2_26 : decode prog_31_method_1_code 26 = .ok (.putfield 17, 3) := by decide +kernel
theorem d2_29 : decode prog_31_method_1_code 29 = .ok (.aload_n 0, 1) := by decide +kernel
theorem d2_30 : decode prog_31_method_1_code 30 = .ok (.bipush 32, 2) := by decide +kernel
theorem d2_32 : decode prog_31_method_1_code 32 = .ok (.bipush 32, 2) := by decide +kernel
theorem d2_34 : decode prog_31_method_1_code 34 = .ok (.invokestatic 22, 3) := by decide +kernel
theorem d2_37 : decode prog_31_method_1_code 37 = .ok (.isub, 1) := by decide +kernel
theorem d2_38 : decode prog_31_method_1_code 38 = .ok (.putfield 26, 3) := by decide +kernel
theorem d2_41 : decode prog_31_method_1_code 41 = .ok (.return_, 1) := by decide +kernel
theorem pn_2 : plainFor (⟨"com/example/meritgrid/meritgrid/TextIndex", "<init>", "()V"⟩ : MethodName) = true := by first | exact plainFor_of_name (by first | (simp [plainName, overriddenIn]; done) | decide +kernel) | decide +kernel
theorem pd_2 : parseMethodDescriptor "()V" = some ⟨[], none⟩ := by decide +kernel
theorem ef_2 (m : MethodId) (o : Addr) : entryFrame m #[(.ref o)] 1 = mkF m 0 #[.val (.ref o)] [] := by first | (simp [entryFrame, mkF, argsToLocals, Value.category]; done) | rfl
def Q2 (Z : State) (o : Addr)  (h0 : Heap) (n0 : Nat) (v : Option Value) (h : Heap) (L : List Loc) : Prop := v = none ∧ Fr n0 L ∧ n0 ≤ h.size ∧ Keep h0 h [o] ∧ ∃ (rb : Addr) (kb : ClassId) (re : Addr) (ke : ClassId) (rt : Addr) (kt : ClassId), own_D n0 o rb re rt ∧ h0.size ≤ rb ∧ h0.size ≤ re ∧ h0.size ≤ rt ∧ own_O Z h o rb kb re ke rt kt [] [] own_t0 0
set_option maxRecDepth 65536 in
set_option maxHeartbeats 40000000 in
theorem rm2 (l : Launch) (Z : State) (a0 : Array Value) (hw : ∀ d ∈ tables_1, d.before a0 Z = true) (ws : List Jvm.Cond) (o : Addr)  (h0 : Heap) (n0 : Nat) (Z0 : n0 ≤ h0.size) (E : Exa Z h0 o "com/example/meritgrid/meritgrid/TextIndex") (FB : Fld Z h0 o "com/example/meritgrid/meritgrid/TextIndex" "bytes" "[B" (.null)) (FE : Fld Z h0 o "com/example/meritgrid/meritgrid/TextIndex" "ends" "[I" (.null)) (FT : Fld Z h0 o "com/example/meritgrid/meritgrid/TextIndex" "table" "[I" (.null)) (FS : Fld Z h0 o "com/example/meritgrid/meritgrid/TextIndex" "shift" "I" (.int 0)) (FZ : Fld Z h0 o "com/example/meritgrid/meritgrid/TextIndex" "size" "I" (.int 0)) (go : n0 ≤ o) :
    MetFree l (⟨"com/example/meritgrid/meritgrid/TextIndex", "<init>", "()V"⟩ : MethodName) (head1 (Jvm.Cond.code (⟨"com/example/meritgrid/meritgrid/TextIndex", "<init>", "()V"⟩ : MethodName) prog_31_method_1_code 1 none :: ws) ({ frames := 1, cells := 3, slots := 176, locals := 15 } : Room)) (fun as_ U => as_ = #[(.ref o)] ∧ Z.Warmed39 U.vm ∧ U.heap = h0) (fun _ _ _ _ _ => True) (fun _ U oc U' => ∃ v L, oc = .returned v ∧ Q2 Z o h0 n0 v U'.heap L ∧ FrameEnd U oc U' L ({ frames := 1, cells := 3, slots := 176, locals := 15 } : Room).cells ({ frames := 1, cells := 3, slots := 176, locals := 15 } : Room).slots) := by
  refine MetFree.of_bodySF pn_2 hisR ?_
  intro p e s m args below meth c s₁ Bd hml0 hP hK
  obtain ⟨rfl, hZ, hh⟩ := hP
  have K : ow_K p e below s m meth c Z "com/example/meritgrid/meritgrid/TextIndex" prog_31_method_1_code 1 none "<init>" (ow_Gl p e below s (Q2 Z o h0 n0) 3 176) := ⟨ow_Gl_bc, Bd.exec, Bd.bytes, hml0, findClass_of_methodNamed Bd.named, hZ, Bd.returns, Bd.notSynchronized, (name_of_methodNamed Bd.named Bd.method).1⟩
  have X0 : Stand p l e ({ frames := 1, cells := 3, slots := 176, locals := 15 } : Room) s m #[(.ref o)] below meth c s₁ [] 0 0 := Stand.of_body Bd
  have e0 : s₁.heap = h0 := by rw [← hh, Bd.state]; rfl
  have N0 := Fr.nil n0
  refine ow_entry (Q := (Q2 Z o h0 n0)) (ce := 3) (sl := 176) (ef_2 m o) ?_
  refine ow_aloadN K X0 (pc' := 1) o d2_0 rfl rfl ?_
  refine ow_initO K X0 (pc' := 4) e0 (hw _ (List.mem_of_getElem? (i := 8) rfl)) (hw _ (List.mem_of_getElem? (i := 9) rfl)) (hw _ (List.mem_of_getElem? (i := 10) rfl)) rfl 0 (Nat.le_of_eq rfl) (by decide) (by decide) d2_1 rfl ?_
  intro T1 X1 e1
  refine ow_aloadN K X1 (pc' := 5) o d2_4 rfl rfl ?_
  refine ow_sipush K X1 (pc' := 8) (128 : Int32) d2_5 rfl (by decide) ?_
  refine ow_newP K X1 (pc' := 10) e1 (hw _ (List.mem_of_getElem? (i := 1) rfl)) (by decide) 128 (by decide) (by decide) (by decide) (by decide) d2_8 rfl ?_
  intro T2 h2 k2 rb X2 e2 E2 g2 A2
  have ne3 : o ≠ rb := ow_ne E.lt g2
  have ge4 : n0 ≤ rb := Nat.le_trans Z0 (Nat.le_of_eq g2.symm)
  have F5 : Exa Z h2 o "com/example/meritgrid/meritgrid/TextIndex" := E.ext E2
  have F6 : Fld Z h2 o "com/example/meritgrid/meritgrid/TextIndex" "bytes" "[B" (.null) := FB.ext E2
  have F7 : Fld Z h2 o "com/example/meritgrid/meritgrid/TextIndex" "ends" "[I" (.null) := FE.ext E2
  have F8 : Fld Z h2 o "com/example/meritgrid/meritgrid/TextIndex" "table" "[I" (.null) := FT.ext E2
  have F9 : Fld Z h2 o "com/example/meritgrid/meritgrid/TextIndex" "shift" "I" (.int 0) := FS.ext E2
  have F10 : Fld Z h2 o "com/example/meritgrid/meritgrid/TextIndex" "size" "I" (.int 0) := FZ.ext E2
  have Z11 : n0 ≤ h2.size := Nat.le_trans Z0 E2.1
  have P12 := (Keep.refl h0 [o]).ext E2
  have F13 : Arv Z h2 rb k2 .byte (128 : Int32) [] (.int 0) := A2
  refine ow_putF K X2 (pc' := 13) e2 (.array .byte) (hw _ (List.mem_of_getElem? (i := 11) rfl)) F6 F5 (Or.inl (hw _ (List.mem_of_getElem? (i := 12) rfl))) (hw _ (List.mem_of_getElem? (i := 3) rfl)) (by decide) rfl rfl d2_10 rfl ?_
  intro T14 h14 X14 e14 W14 F14 A14
  have F15 : Fld Z h14 o "com/example/meritgrid/meritgrid/TextIndex" "ends" "[I" (.null) := Fld.other W14 F7 (Or.inr (slot_ne (show Laid Z a0 "com/example/meritgrid/meritgrid/TextIndex" "com/example/meritgrid/meritgrid/TextIndex" "ends" "[I" from Or.inl (hw _ (List.mem_of_getElem? (i := 15) rfl))) (show Laid Z a0 "com/example/meritgrid/meritgrid/TextIndex" "com/example/meritgrid/meritgrid/TextIndex" "bytes" "[B" from Or.inl (hw _ (List.mem_of_getElem? (i := 12) rfl))) (by decide) (t := (.array .int)) (t' := (.array .byte)) (by decide) (by decide)))
  have F16 : Fld Z h14 o "com/example/meritgrid/meritgrid/TextIndex" "table" "[I" (.null) := Fld.other W14 F8 (Or.inr (slot_ne (show Laid Z a0 "com/example/meritgrid/meritgrid/TextIndex" "com/example/meritgrid/meritgrid/TextIndex" "table" "[I" from Or.inl (hw _ (List.mem_of_getElem? (i := 17) rfl))) (show Laid Z a0 "com/example/meritgrid/meritgrid/TextIndex" "com/example/meritgrid/meritgrid/TextIndex" "bytes" "[B" from Or.inl (hw _ (List.mem_of_getElem? (i := 12) rfl))) (by decide) (t := (.array .int)) (t' := (.array .byte)) (by decide) (by decide)))
  have F17 : Fld Z h14 o "com/example/meritgrid/meritgrid/TextIndex" "shift" "I" (.int 0) := Fld.other W14 F9 (Or.inr (slot_ne (show Laid Z a0 "com/example/meritgrid/meritgrid/TextIndex" "com/example/meritgrid/meritgrid/TextIndex" "shift" "I" from Or.inl (hw _ (List.mem_of_getElem? (i := 24) rfl))) (show Laid Z a0 "com/example/meritgrid/meritgrid/TextIndex" "com/example/meritgrid/meritgrid/TextIndex" "bytes" "[B" from Or.inl (hw _ (List.mem_of_getElem? (i := 12) rfl))) (by decide) (t := .int) (t' := (.array .byte)) (by decide) (by decide)))
  have F18 : Fld Z h14 o "com/example/meritgrid/meritgrid/TextIndex" "size" "I" (.int 0) := Fld.other W14 F10 (Or.inr (slot_ne (show Laid Z a0 "com/example/meritgrid/meritgrid/TextIndex" "com/example/meritgrid/meritgrid/TextIndex" "size" "I" from Or.inl (hw _ (List.mem_of_getElem? (i := 39) rfl))) (show Laid Z a0 "com/example/meritgrid/meritgrid/TextIndex" "com/example/meritgrid/meritgrid/TextIndex" "bytes" "[B" from Or.inl (hw _ (List.mem_of_getElem? (i := 12) rfl))) (by decide) (t := .int) (t' := (.array .byte)) (by decide) (by decide)))
  have F19 : Arv Z h14 rb k2 .byte (128 : Int32) [] (.int 0) := F13.other W14 (Ne.symm ne3)
  have Z20 : n0 ≤ h14.size := Nat.le_trans Z11 (Nat.le_of_eq W14.size.symm)
  have N21 := Fr.snoc X14 N0 go
  have P22 := P12.wr W14 (Or.inl (List.mem_of_getElem? (i := 0) rfl))
  refine ow_aloadN K X14 (pc' := 14) o d2_13 rfl rfl ?_
  refine ow_bipush K X14 (pc' := 16) (16 : Int32) d2_14 rfl (by decide) ?_
  refine ow_newP K X14 (pc' := 18) e14 (hw _ (List.mem_of_getElem? (i := 13) rfl)) (by decide) 16 (by decide) (by decide) (by decide) (by decide) d2_16 rfl ?_
  intro T23 h23 k23 re X23 e23 E23 g23 A23
  have ne24 : o ≠ re := ow_ne A14.lt g23
  have ne25 : rb ≠ re := ow_ne F19.lt g23
  have ge26 : n0 ≤ re := Nat.le_trans Z20 (Nat.le_of_eq g23.symm)
  have F27 : Exa Z h23 o "com/example/meritgrid/meritgrid/TextIndex" := A14.ext E23
  have F28 : Fld Z h23 o "com/example/meritgrid/meritgrid/TextIndex" "bytes" "[B" (.ref rb) := F14.ext E23
  have F29 : Fld Z h23 o "com/example/meritgrid/meritgrid/TextIndex" "ends" "[I" (.null) := F15.ext E23
  have F30 : Fld Z h23 o "com/example/meritgrid/meritgrid/TextIndex" "table" "[I" (.null) := F16.ext E23
  have F31 : Fld Z h23 o "com/example/meritgrid/meritgrid/TextIndex" "shift" "I" (.int 0) := F17.ext E23
  have F32 : Fld Z h23 o "com/example/meritgrid/meritgrid/TextIndex" "size" "I" (.int 0) := F18.ext E23
  have F33 : Arv Z h23 rb k2 .byte (128 : Int32) [] (.int 0) := F19.ext E23
  have Z34 : n0 ≤ h23.size := Nat.le_trans Z20 E23.1
  have P35 := P22.ext E23
  have F36 : Arv Z h23 re k23 .int (16 : Int32) [] (.int 0) := A23
  refine ow_putF K X23 (pc' := 21) e23 (.array .int) (hw _ (List.mem_of_getElem? (i := 14) rfl)) F29 F27 (Or.inl (hw _ (List.mem_of_getElem? (i := 15) rfl))) (hw _ (List.mem_of_getElem? (i := 3) rfl)) (by decide) rfl rfl d2_18 rfl ?_
  intro T37 h37 X37 e37 W37 F37 A37
  have F38 : Fld Z h37 o "com/example/meritgrid/meritgrid/TextIndex" "bytes" "[B" (.ref rb) := Fld.other W37 F28 (Or.inr (slot_ne (show Laid Z a0 "com/example/meritgrid/meritgrid/TextIndex" "com/example/meritgrid/meritgrid/TextIndex" "bytes" "[B" from Or.inl (hw _ (List.mem_of_getElem? (i := 12) rfl))) (show Laid Z a0 "com/example/meritgrid/meritgrid/TextIndex" "com/example/meritgrid/meritgrid/TextIndex" "ends" "[I" from Or.inl (hw _ (List.mem_of_getElem? (i := 15) rfl))) (by decide) (t := (.array .byte)) (t' := (.array .int)) (by decide) (by decide)))
  have F39 : Fld Z h37 o "com/example/meritgrid/meritgrid/TextIndex" "table" "[I" (.null) := Fld.other W37 F30 (Or.inr (slot_ne (show Laid Z a0 "com/example/meritgrid/meritgrid/TextIndex" "com/example/meritgrid/meritgrid/TextIndex" "table" "[I" from Or.inl (hw _ (List.mem_of_getElem? (i := 17) rfl))) (show Laid Z a0 "com/example/meritgrid/meritgrid/TextIndex" "com/example/meritgrid/meritgrid/TextIndex" "ends" "[I" from Or.inl (hw _ (List.mem_of_getElem? (i := 15) rfl))) (by decide) (t := (.array .int)) (t' := (.array .int)) (by decide) (by decide)))
  have F40 : Fld Z h37 o "com/example/meritgrid/meritgrid/TextIndex" "shift" "I" (.int 0) := Fld.other W37 F31 (Or.inr (slot_ne (show Laid Z a0 "com/example/meritgrid/meritgrid/TextIndex" "com/example/meritgrid/meritgrid/TextIndex" "shift" "I" from Or.inl (hw _ (List.mem_of_getElem? (i := 24) rfl))) (show Laid Z a0 "com/example/meritgrid/meritgrid/TextIndex" "com/example/meritgrid/meritgrid/TextIndex" "ends" "[I" from Or.inl (hw _ (List.mem_of_getElem? (i := 15) rfl))) (by decide) (t := .int) (t' := (.array .int)) (by decide) (by decide)))
  have F41 : Fld Z h37 o "com/example/meritgrid/meritgrid/TextIndex" "size" "I" (.int 0) := Fld.other W37 F32 (Or.inr (slot_ne (show Laid Z a0 "com/example/meritgrid/meritgrid/TextIndex" "com/example/meritgrid/meritgrid/TextIndex" "size" "I" from Or.inl (hw _ (List.mem_of_getElem? (i := 39) rfl))) (show Laid Z a0 "com/example/meritgrid/meritgrid/TextIndex" "com/example/meritgrid/meritgrid/TextIndex" "ends" "[I" from Or.inl (hw _ (List.mem_of_getElem? (i := 15) rfl))) (by decide) (t := .int) (t' := (.array .int)) (by decide) (by decide)))
  have F42 : Arv Z h37 rb k2 .byte (128 : Int32) [] (.int 0) := F33.other W37 (Ne.symm ne3)
  have F43 : Arv Z h37 re k23 .int (16 : Int32) [] (.int 0) := F36.other W37 (Ne.symm ne24)
  have Z44 : n0 ≤ h37.size := Nat.le_trans Z34 (Nat.le_of_eq W37.size.symm)
  have N45 := Fr.snoc X37 N21 go
  have P46 := P35.wr W37 (Or.inl (List.mem_of_getElem? (i := 0) rfl))
  refine ow_aloadN K X37 (pc' := 22) o d2_21 rfl rfl ?_
  refine ow_bipush K X37 (pc' := 24) (32 : Int32) d2_22 rfl (by decide) ?_
  refine ow_newP K X37 (pc' := 26) e37 (hw _ (List.mem_of_getElem? (i := 13) rfl)) (by decide) 32 (by decide) (by decide) (by decide) (by decide) d2_24 rfl ?_
  intro T47 h47 k47 rt X47 e47 E47 g47 A47
  have ne48 : o ≠ rt := ow_ne A37.lt g47
  have ne49 : rb ≠ rt := ow_ne F42.lt g47
  have ne50 : re ≠ rt := ow_ne F43.lt g47
  have ge51 : n0 ≤ rt := Nat.le_trans Z44 (Nat.le_of_eq g47.symm)
  have F52 : Exa Z h47 o "com/example/meritgrid/meritgrid/TextIndex" := A37.ext E47
  have F53 : Fld Z h47 o "com/example/meritgrid/meritgrid/TextIndex" "bytes" "[B" (.ref rb) := F38.ext E47
  have F54 : Fld Z h47 o "com/example/meritgrid/meritgrid/TextIndex" "ends" "[I" (.ref re) := F37.ext E47
  have F55 : Fld Z h47 o "com/example/meritgrid/meritgrid/TextIndex" "table" "[I" (.null) := F39.ext E47
  have F56 : Fld Z h47 o "com/example/meritgrid/meritgrid/TextIndex" "shift" "I" (.int 0) := F40.ext E47
  have F57 : Fld Z h47 o "com/example/meritgrid/meritgrid/TextIndex" "size" "I" (.int 0) := F41.ext E47
  have F58 : Arv Z h47 rb k2 .byte (128 : Int32) [] (.int 0) := F42.ext E47
  have F59 : Arv Z h47 re k23 .int (16 : Int32) [] (.int 0) := F43.ext E47
  have Z60 : n0 ≤ h47.size := Nat.le_trans Z44 E47.1
  have P61 := P46.ext E47
  have F62 : Arv Z h47 rt k47 .int (32 : Int32) (own_bl own_t0) (.int 0) := Arv.pad A47 (by intro i; rw [own_bl_at, own_t0_at]; rfl)
  refine ow_putF K X47 (pc' := 29) e47 (.array .int) (hw _ (List.mem_of_getElem? (i := 16) rfl)) F55 F52 (Or.inl (hw _ (List.mem_of_getElem? (i := 17) rfl))) (hw _ (List.mem_of_getElem? (i := 3) rfl)) (by decide) rfl rfl d2_26 rfl ?_
  intro T63 h63 X63 e63 W63 F63 A63
  have F64 : Fld Z h63 o "com/example/meritgrid/meritgrid/TextIndex" "bytes" "[B" (.ref rb) := Fld.other W63 F53 (Or.inr (slot_ne (show Laid Z a0 "com/example/meritgrid/meritgrid/TextIndex" "com/example/meritgrid/meritgrid/TextIndex" "bytes" "[B" from Or.inl (hw _ (List.mem_of_getElem? (i := 12) rfl))) (show Laid Z a0 "com/example/meritgrid/meritgrid/TextIndex" "com/example/meritgrid/meritgrid/TextIndex" "table" "[I" from Or.inl (hw _ (List.mem_of_getElem? (i := 17) rfl))) (by decide) (t := (.array .byte)) (t' := (.array .int)) (by decide) (by decide)))
  have F65 : Fld Z h63 o "com/example/meritgrid/meritgrid/TextIndex" "ends" "[I" (.ref re) := Fld.other W63 F54 (Or.inr (slot_ne (show Laid Z a0 "com/example/meritgrid/meritgrid/TextIndex" "com/example/meritgrid/meritgrid/TextIndex" "ends" "[I" from Or.inl (hw _ (List.mem_of_getElem? (i := 15) rfl))) (show Laid Z a0 "com/example/meritgrid/meritgrid/TextIndex" "com/example/meritgrid/meritgrid/TextIndex" "table" "[I" from Or.inl (hw _ (List.mem_of_getElem? (i := 17) rfl))) (by decide) (t := (.array .int)) (t' := (.array .int)) (by decide) (by decide)))
  have F66 : Fld Z h63 o "com/example/meritgrid/meritgrid/TextIndex" "shift" "I" (.int 0) := Fld.other W63 F56 (Or.inr (slot_ne (show Laid Z a0 "com/example/meritgrid/meritgrid/TextIndex" "com/example/meritgrid/meritgrid/TextIndex" "shift" "I" from Or.inl (hw _ (List.mem_of_getElem? (i := 24) rfl))) (show Laid Z a0 "com/example/meritgrid/meritgrid/TextIndex" "com/example/meritgrid/meritgrid/TextIndex" "table" "[I" from Or.inl (hw _ (List.mem_of_getElem? (i := 17) rfl))) (by decide) (t := .int) (t' := (.array .int)) (by decide) (by decide)))
  have F67 : Fld Z h63 o "com/example/meritgrid/meritgrid/TextIndex" "size" "I" (.int 0) := Fld.other W63 F57 (Or.inr (slot_ne (show Laid Z a0 "com/example/meritgrid/meritgrid/TextIndex" "com/example/meritgrid/meritgrid/TextIndex" "size" "I" from Or.inl (hw _ (List.mem_of_getElem? (i := 39) rfl))) (show Laid Z a0 "com/example/meritgrid/meritgrid/TextIndex" "com/example/meritgrid/meritgrid/TextIndex" "table" "[I" from Or.inl (hw _ (List.mem_of_getElem? (i := 17) rfl))) (by decide) (t := .int) (t' := (.array .int)) (by decide) (by decide)))
  have F68 : Arv Z h63 rb k2 .byte (128 : Int32) [] (.int 0) := F58.other W63 (Ne.symm ne3)
  have F69 : Arv Z h63 re k23 .int (16 : Int32) [] (.int 0) := F59.other W63 (Ne.symm ne24)
  have F70 : Arv Z h63 rt k47 .int (32 : Int32) (own_bl own_t0) (.int 0) := F62.other W63 (Ne.symm ne48)
  have Z71 : n0 ≤ h63.size := Nat.le_trans Z60 (Nat.le_of_eq W63.size.symm)
  have N72 := Fr.snoc X63 N45 go
  have P73 := P61.wr W63 (Or.inl (List.mem_of_getElem? (i := 0) rfl))
  refine ow_aloadN K X63 (pc' := 30) o d2_29 rfl rfl ?_
  refine ow_bipush K X63 (pc' := 32) (32 : Int32) d2_30 rfl (by decide) ?_
  refine ow_bipush K X63 (pc' := 34) (32 : Int32) d2_32 rfl (by decide) ?_
  refine ow_callS K X63 (pc' := 37) e63 (y := (⟨"java/lang/Integer", "numberOfTrailingZeros", "(I)I"⟩ : MethodName)) (rm1 l Z a0 hw [] (32 : Int32) h63 n0 Z71 rfl) (hw _ (List.mem_of_getElem? (i := 18) rfl)) (hw _ (List.mem_of_getElem? (i := 19) rfl)) (hw _ (List.mem_of_getElem? (i := 20) rfl)) (hw _ (List.mem_of_getElem? (i := 21) rfl)) (by decide) (st := [.int (32 : Int32), .ref o]) 2 (Nat.le_of_eq rfl) (by decide) (by decide) (by decide) (by decide) rfl [.int (32 : Int32)] rfl (lenOf pd_1 rfl) rfl d2_34 rfl ?_
  intro v74 T74 L74 X74 hQ74
  obtain ⟨rfl, NNz, exz⟩ := hQ74
  have NXz := Fr.app N72 NNz
  refine ow_at (g := (mkF m 37 #[.val (.ref o)] [.int (5 : Int32), .int (32 : Int32), .ref o])) ?_
  refine ow_isub K X74 (pc' := 38) (27 : Int32) d2_37 rfl (by decide) ?_
  refine ow_putF K X74 (pc' := 41) exz .int (hw _ (List.mem_of_getElem? (i := 23) rfl)) F66 A63 (Or.inl (hw _ (List.mem_of_getElem? (i := 24) rfl))) (hw _ (List.mem_of_getElem? (i := 3) rfl)) (by decide) rfl rfl d2_38 rfl ?_
  intro T75 h75 X75 e75 W75 F75 A75
  have F76 : Fld Z h75 o "com/example/meritgrid/meritgrid/TextIndex" "bytes" "[B" (.ref rb) := Fld.other W75 F64 (Or.inr (slot_ne (show Laid Z a0 "com/example/meritgrid/meritgrid/TextIndex" "com/example/meritgrid/meritgrid/TextIndex" "bytes" "[B" from Or.inl (hw _ (List.mem_of_getElem? (i := 12) rfl))) (show Laid Z a0 "com/example/meritgrid/meritgrid/TextIndex" "com/example/meritgrid/meritgrid/TextIndex" "shift" "I" from Or.inl (hw _ (List.mem_of_getElem? (i := 24) rfl))) (by decide) (t := (.array .byte)) (t' := .int) (by decide) (by decide)))
  have F77 : Fld Z h75 o "com/example/meritgrid/meritgrid/TextIndex" "ends" "[I" (.ref re) := Fld.other W75 F65 (Or.inr (slot_ne (show Laid Z a0 "com/example/meritgrid/meritgrid/TextIndex" "com/example/meritgrid/meritgrid/TextIndex" "ends" "[I" from Or.inl (hw _ (List.mem_of_getElem? (i := 15) rfl))) (show Laid Z a0 "com/example/meritgrid/meritgrid/TextIndex" "com/example/meritgrid/meritgrid/TextIndex" "shift" "I" from Or.inl (hw _ (List.mem_of_getElem? (i := 24) rfl))) (by decide) (t := (.array .int)) (t' := .int) (by decide) (by decide)))
  have F78 : Fld Z h75 o "com/example/meritgrid/meritgrid/TextIndex" "table" "[I" (.ref rt) := Fld.other W75 F63 (Or.inr (slot_ne (show Laid Z a0 "com/example/meritgrid/meritgrid/TextIndex" "com/example/meritgrid/meritgrid/TextIndex" "table" "[I" from Or.inl (hw _ (List.mem_of_getElem? (i := 17) rfl))) (show Laid Z a0 "com/example/meritgrid/meritgrid/TextIndex" "com/example/meritgrid/meritgrid/TextIndex" "shift" "I" from Or.inl (hw _ (List.mem_of_getElem? (i := 24) rfl))) (by decide) (t := (.array .int)) (t' := .int) (by decide) (by decide)))
  have F79 : Fld Z h75 o "com/example/meritgrid/meritgrid/TextIndex" "size" "I" (.int 0) := Fld.other W75 F67 (Or.inr (slot_ne (show Laid Z a0 "com/example/meritgrid/meritgrid/TextIndex" "com/example/meritgrid/meritgrid/TextIndex" "size" "I" from Or.inl (hw _ (List.mem_of_getElem? (i := 39) rfl))) (show Laid Z a0 "com/example/meritgrid/meritgrid/TextIndex" "com/example/meritgrid/meritgrid/TextIndex" "shift" "I" from Or.inl (hw _ (List.mem_of_getElem? (i := 24) rfl))) (by decide) (t := .int) (t' := .int) (by decide) (by decide)))
  have F80 : Arv Z h75 rb k2 .byte (128 : Int32) [] (.int 0) := F68.other W75 (Ne.symm ne3)
  have F81 : Arv Z h75 re k23 .int (16 : Int32) [] (.int 0) := F69.other W75 (Ne.symm ne24)
  have F82 : Arv Z h75 rt k47 .int (32 : Int32) (own_bl own_t0) (.int 0) := F70.other W75 (Ne.symm ne48)
  have Z83 : n0 ≤ h75.size := Nat.le_trans Z71 (Nat.le_of_eq W75.size.symm)
  have N84 := Fr.snoc X75 NXz go
  have P85 := P73.wr W75 (Or.inl (List.mem_of_getElem? (i := 0) rfl))
  refine ow_ret K X75 rfl d2_41 ?_ (by decide) (by decide)
  rw [e75]
  exact ⟨rfl, N84, Z83, P85, rb, k2, re, k23, rt, k47, ⟨go, ge4, ge26, ge51, ne3, ne24, ne48, ne25, ne49, ne50⟩, (Nat.le_trans (Keep.refl h0 [o]).1 (Nat.le_of_eq g2.symm)), (Nat.le_trans P22.1 (Nat.le_of_eq g23.symm)), (Nat.le_trans P46.1 (Nat.le_of_eq g47.symm)), ⟨A75, F76, F77, F78, F75, F79, F80, F81, F82⟩⟩
theorem d3_0 : decode jdk_35_method_51_code 0 = .ok (.lload_n 0, 1) := by decide +kernel
theorem d3_1 : decode jdk_35_method_51_code 1 = .ok (.iload_n 2, 1) := by decide +kernel
theorem d3_2 : decode jdk_35_method_51_code 2 = .ok (.lshl, 1) := by decide +kernel
theorem d3_3 : decode jdk_35_method_51_code 3 = .ok (.lload_n 0, 1) := by decide +kernel
theorem d3_4 : decode jdk_35_method_51_code 4 = .ok (.iload_n 2, 1) := by decide +kernel
theorem d3_5 : decode jdk_35_method_51_code 5 = .ok (.ineg, 1) := by decide +kernel
theorem d3_6 : decode jdk_35_method_51_code 6 = .ok (.lushr, 1) := by decide +kernel
theorem d3_7 : decode jdk_35_method_51_code 7 = .ok (.lor, 1) := by decide +kernel
theorem d3_8 : decode jdk_35_method_51_code 8 = .ok (.lreturn, 1) := by decide +kernel
theorem pn_3 : plainFor (⟨"java/lang/Long", "rotateLeft", "(JI)J"⟩ : MethodName) = true := by first | exact plainFor_of_name (by first | (simp [plainName, overriddenIn]; done) | decide +kernel) | decide +kernel
theorem pd_3 : parseMethodDescriptor "(JI)J" = some ⟨[.long, .int], some .long⟩ := by decide +kernel
theorem ef_3 (m : MethodId) (x : Int64) (y : Int32) : entryFrame m #[(.long x), (.int y)] 3 = mkF m 0 #[.val (.long x), .second, .val (.int y)] [] := by first | (simp [entryFrame, mkF, argsToLocals, Value.category]; done) | rfl
def Q3 (Z : State) (x : Int64) (y : Int32)  (h0 : Heap) (n0 : Nat) (v : Option Value) (h : Heap) (L : List Loc) : Prop := ∃ u : Int64, v = some (.long u) ∧ Fr n0 L ∧ h = h0
set_option maxRecDepth 65536 in
set_option maxHeartbeats 40000000 in
theorem rm3 (l : Launch) (Z : State) (a0 : Array Value) (hw : ∀ d ∈ tables_1, d.before a0 Z = true) (ws : List Jvm.Cond) (x : Int64) (y : Int32)  (h0 : Heap) (n0 : Nat) (Z0 : n0 ≤ h0.size)  :
    MetFree l (⟨"java/lang/Long", "rotateLeft", "(JI)J"⟩ : MethodName) (head1 (Jvm.Cond.code (⟨"java/lang/Long", "rotateLeft", "(JI)J"⟩ : MethodName) jdk_35_method_51_code 3 (some .long) :: ws) ({ frames := 0, cells := 0, slots := 0, locals := 0 } : Room)) (fun as_ U => as_ = #[(.long x), (.int y)] ∧ Z.Warmed39 U.vm ∧ U.heap = h0) (fun _ _ _ _ _ => True) (fun _ U oc U' => ∃ v L, oc = .returned v ∧ Q3 Z x y h0 n0 v U'.heap L ∧ FrameEnd U oc U' L ({ frames := 0, cells := 0, slots := 0, locals := 0 } : Room).cells ({ frames := 0, cells := 0, slots := 0, locals := 0 } : Room).slots) := by
  refine MetFree.of_bodySF pn_3 hisR ?_
  intro p e s m args below meth c s₁ Bd hml0 hP hK
  obtain ⟨rfl, hZ, hh⟩ := hP
  have K : ow_K p e below s m meth c Z "java/lang/Long" jdk_35_method_51_code 3 (some .long) "rotateLeft" (ow_Gl p e below s (Q3 Z x y h0 n0) 0 0) := ⟨ow_Gl_bc, Bd.exec, Bd.bytes, hml0, findClass_of_methodNamed Bd.named, hZ, Bd.returns, Bd.notSynchronized, (name_of_methodNamed Bd.named Bd.method).1⟩
  have X0 : Stand p l e ({ frames := 0, cells := 0, slots := 0, locals := 0 } : Room) s m #[(.long x), (.int y)] below meth c s₁ [] 0 0 := Stand.of_body Bd
  have e0 : s₁.heap = h0 := by rw [← hh, Bd.state]; rfl
  have N0 := Fr.nil n0
  refine ow_entry (Q := (Q3 Z x y h0 n0)) (ce := 0) (sl := 0) (ef_3 m x y) ?_
  refine ow_lloadN K X0 (pc' := 1) x d3_0 rfl rfl ?_
  refine ow_iloadN K X0 (pc' := 2) y d3_1 rfl rfl ?_
  refine ow_lshl K X0 (pc' := 3) (x <<< ((y).toInt64 &&& 63)) d3_2 rfl rfl ?_
  refine ow_lloadN K X0 (pc' := 4) x d3_3 rfl rfl ?_
  refine ow_iloadN K X0 (pc' := 5) y d3_4 rfl rfl ?_
  refine ow_ineg K X0 (pc' := 6) (-y) d3_5 rfl rfl ?_
  refine ow_lushr K X0 (pc' := 7) (XT.ushrL x (-y)) d3_6 rfl rfl ?_
  refine ow_lor K X0 (pc' := 8) ((x <<< ((y).toInt64 &&& 63)) ||| (XT.ushrL x (-y))) d3_7 rfl rfl ?_
  exact ow_retJ K X0 rfl d3_8 ⟨_, rfl, N0, e0⟩ (by decide) (by decide)
theorem d4_0 : decode prog_31_method_12_code 0 = .ok (.lconst 1, 1) := by decide +kernel
theorem d4_1 : decode prog_31_method_12_code 1 = .ok (.lstore_n 3, 1) := by decide +kernel
theorem d4_2 : decode prog_31_method_12_code 2 = .ok (.iload_n 2, 1) := by decide +kernel
theorem d4_3 : decode prog_31_method_12_code 3 = .ok (.iconst 1, 1) := by decide +kernel
theorem d4_4 : decode prog_31_method_12_code 4 = .ok (.isub, 1) := by decide +kernel
theorem d4_5 : decode prog_31_method_12_code 5 = .ok (.istore 5, 2) := by decide +kernel
theorem d4_7 : decode prog_31_method_12_code 7 = .ok (.iload 5, 2) := by decide +kernel
theorem d4_9 : decode prog_31_method_12_code 9 = .ok (.ifCond .lt 26, 3) := by decide +kernel
theorem d4_12 : decode prog_31_method_12_code 12 = .ok (.lload_n 3, 1) := by decide +kernel
theorem d4_13 : decode prog_31_method_12_code 13 = .ok (.bipush 8, 2) := by decide +kernel
theorem d4_15 : decode prog_31_method_12_code 15 = .ok (.lshl, 1) := by decide +kernel
theorem d4_16 : decode prog_31_method_12_code 16 = .ok (.aload_n 0, 1) := by decide +kernel
theorem d4_17 : decode prog_31_method_12_code 17 = .ok (.iload_n 1, 1) := by decide +kernel
theorem d4_18 : decode prog_31_method_12_code 18 = .ok (.iload 5, 2) := by decide +kernel
theorem d4_20 : decode prog_31_method_12_code 20 = .ok (.iadd, 1) := by decide +kernel
theorem d4_21 : decode prog_31_method_12_code 21 = .ok (.baload, 1) := by decide +kernel
theorem d4_22 : decode prog_31_method_12_code 22 = .ok (.sipush 255, 3) := by decide +kernel
theorem d4_25 : decode prog_31_method_12_code 25 = .ok (.iand, 1) := by decide +kernel
theorem d4_26 : decode prog_31_method_12_code 26 = .ok (.i2l, 1) := by decide +kernel
theorem d4_27 : decode prog_31_method_12_code 27 = .ok (.lor, 1) := by decide +kernel
theorem d4_28 : decode prog_31_method_12_code 28 = .ok (.lstore_n 3, 1) := by decide +kernel
theorem d4_29 : decode prog_31_method_12_code 29 = .ok (.iinc 5 (-1), 3) := by decide +kernel
theorem d4_32 : decode prog_31_method_12_code 32 = .ok (.goto (-25), 3) := by decide +kernel
theorem d4_35 : decode prog_31_method_12_code 35 = .ok (.lload_n 3, 1) := by decide +kernel
theorem d4_36 : decode prog_31_method_12_code 36 = .ok (.lreturn, 1) := by decide +kernel
set_option maxRecDepth 65536 in
set_option maxHeartbeats 40000000 in
theorem lpW {p : Program} {l : Launch} {e : Env} {R : Room} {s : State} {m : MethodId} {args : Array Value} {below : List Frame} {meth : Method} {c : Code} {locs : List Loc} {Z : State} {T : State} {h : Heap} {n0 : Nat} (K : ow_K p e below s m meth c Z "com/example/meritgrid/meritgrid/TextIndex" prog_31_method_12_code 6 (some .long) "word" (ow_Gl p e below s (fun (v : Option Value) (hh : Heap) (L : List Loc) => ∃ u : Int64, v = some (.long u) ∧ Fr n0 L ∧ hh = h) 0 0)) (X0 : Stand p l e R s m args below meth c T locs 0 0) (e0 : T.heap = h) (N0 : Fr n0 locs) {t : Addr} {k : ClassId} {z : Int32} {xt : List Int32} {A : Nat} (F : Arv Z h t k .byte z (own_bl xt) (.int 0)) (hA : A ≤ z.toNatClampNeg) (hA' : A < 1000) : ∀ (i : Nat) (u : Int64), i ≤ A → ow_Gl p e below s (fun (v : Option Value) (hh : Heap) (L : List Loc) => ∃ u : Int64, v = some (.long u) ∧ Fr n0 L ∧ hh = h) 0 0 (T.setTop (mkF m 7 #[.val (.ref t), .val (.int (0 : Int32)), .val (.int (Int32.ofNat A)), .val (.long u), .second, .val (.int ((Int32.ofNat i) - (1 : Int32)))] [])) := by
  intro i
  induction i with
  | zero =>
    intro u hi
    refine ow_iload K X0 (pc' := 9) ((Int32.ofNat 0) - (1 : Int32)) d4_7 rfl rfl ?_
    refine ow_ifY K X0 (pc' := 35) d4_9 (XT.i0_lt_t (by decide)) (by decide) (by decide) ?_
    refine ow_lloadN K X0 (pc' := 36) u d4_35 rfl rfl ?_
    exact ow_retJ K X0 rfl d4_36 ⟨_, rfl, N0, e0⟩ (by decide) (by decide)
  | succ i ih =>
    intro u hi
    rw [own_pred (by omega)]
    refine ow_iload K X0 (pc' := 9) (Int32.ofNat i) d4_7 rfl rfl ?_
    refine ow_ifN K X0 (pc' := 12) d4_9 rfl (XT.i0_lt_f (own_nn (by omega))) ?_
    refine ow_lloadN K X0 (pc' := 13) u d4_12 rfl rfl ?_
    refine ow_bipush K X0 (pc' := 15) (8 : Int32) d4_13 rfl (by decide) ?_
    refine ow_lshl K X0 (pc' := 16) (u <<< (((8 : Int32)).toInt64 &&& 63)) d4_15 rfl rfl ?_
    refine ow_aloadN K X0 (pc' := 17) t d4_16 rfl rfl ?_
    refine ow_iloadN K X0 (pc' := 18) (0 : Int32) d4_17 rfl rfl ?_
    refine ow_iload K X0 (pc' := 20) (Int32.ofNat i) d4_18 rfl rfl ?_
    refine ow_iadd K X0 (pc' := 21) (Int32.ofNat i) d4_20 rfl (Int32.zero_add _) ?_
    refine ow_baload K X0 (pc' := 22) e0 F i (.int (xt.getD i 0)) (ow_ix_nat (by omega)) (by omega) (own_bl_at xt i) d4_21 rfl ?_
    refine ow_sipush K X0 (pc' := 25) (255 : Int32) d4_22 rfl (by decide) ?_
    refine ow_iand K X0 (pc' := 26) ((xt.getD i 0) &&& (255 : Int32)) d4_25 rfl rfl ?_
    refine ow_i2l K X0 (pc' := 27) ((((xt.getD i 0) &&& (255 : Int32))).toInt64) d4_26 rfl rfl ?_
    refine ow_lor K X0 (pc' := 28) ((u <<< (((8 : Int32)).toInt64 &&& 63)) ||| ((((xt.getD i 0) &&& (255 : Int32))).toInt64)) d4_27 rfl rfl ?_
    refine ow_lstoreN K X0 (pc' := 29) (Ls' := #[.val (.ref t), .val (.int (0 : Int32)), .val (.int (Int32.ofNat A)), .val (.long ((u <<< (((8 : Int32)).toInt64 &&& 63)) ||| ((((xt.getD i 0) &&& (255 : Int32))).toInt64))), .second, .val (.int (Int32.ofNat i))]) d4_28 rfl rfl ?_
    refine ow_iinc K X0 (pc' := 32) (Ls' := #[.val (.ref t), .val (.int (0 : Int32)), .val (.int (Int32.ofNat A)), .val (.long ((u <<< (((8 : Int32)).toInt64 &&& 63)) ||| ((((xt.getD i 0) &&& (255 : Int32))).toInt64))), .second, .val (.int ((Int32.ofNat i) - (1 : Int32)))]) (-1 : Int32) ((Int32.ofNat i) - (1 : Int32)) d4_29 rfl (by decide) rfl (own_m1 _) rfl ?_
    refine ow_goto K X0 (pc' := 7) d4_32 (by decide) (by decide) ?_
    exact ih _ (by omega)
theorem pn_4 : plainFor (⟨"com/example/meritgrid/meritgrid/TextIndex", "word", "([BII)J"⟩ : MethodName) = true := by first | exact plainFor_of_name (by first | (simp [plainName, overriddenIn]; done) | decide +kernel) | decide +kernel
theorem pd_4 : parseMethodDescriptor "([BII)J" = some ⟨[(.array .byte), .int, .int], some .long⟩ := by decide +kernel
theorem ef_4 (m : MethodId) (t : Addr) (at0 : Int32) (cn : Int32) : entryFrame m #[(.ref t), (.int at0), (.int cn)] 6 = mkF m 0 #[.val (.ref t), .val (.int at0), .val (.int cn), .unset, .unset, .unset] [] := by first | (simp [entryFrame, mkF, argsToLocals, Value.category]; done) | rfl
def Q4 (Z : State) (t : Addr) (at0 : Int32) (cn : Int32) (k : ClassId) (z : Int32) (xt : List Int32) (A : Nat) (h0 : Heap) (n0 : Nat) (v : Option Value) (h : Heap) (L : List Loc) : Prop := ∃ u : Int64, v = some (.long u) ∧ Fr n0 L ∧ h = h0
set_option maxRecDepth 65536 in
set_option maxHeartbeats 40000000 in
theorem rm4 (l : Launch) (Z : State) (a0 : Array Value) (hw : ∀ d ∈ tables_1, d.before a0 Z = true) (ws : List Jvm.Cond) (t : Addr) (at0 : Int32) (cn : Int32) (k : ClassId) (z : Int32) (xt : List Int32) (A : Nat) (h0 : Heap) (n0 : Nat) (Z0 : n0 ≤ h0.size) (hat : at0 = 0) (hc : cn = Int32.ofNat A) (F : Arv Z h0 t k .byte z (own_bl xt) (.int 0)) (hA : A ≤ z.toNatClampNeg) (hA' : A < 1000) :
    MetFree l (⟨"com/example/meritgrid/meritgrid/TextIndex", "word", "([BII)J"⟩ : MethodName) (head1 (Jvm.Cond.code (⟨"com/example/meritgrid/meritgrid/TextIndex", "word", "([BII)J"⟩ : MethodName) prog_31_method_12_code 6 (some .long) :: ws) ({ frames := 0, cells := 0, slots := 0, locals := 0 } : Room)) (fun as_ U => as_ = #[(.ref t), (.int at0), (.int cn)] ∧ Z.Warmed39 U.vm ∧ U.heap = h0) (fun _ _ _ _ _ => True) (fun _ U oc U' => ∃ v L, oc = .returned v ∧ Q4 Z t at0 cn k z xt A h0 n0 v U'.heap L ∧ FrameEnd U oc U' L ({ frames := 0, cells := 0, slots := 0, locals := 0 } : Room).cells ({ frames := 0, cells := 0, slots := 0, locals := 0 } : Room).slots) := by
  refine MetFree.of_bodySF pn_4 hisR ?_
  intro p e s m args below meth c s₁ Bd hml0 hP hK
  obtain ⟨rfl, hZ, hh⟩ := hP
  have K : ow_K p e below s m meth c Z "com/example/meritgrid/meritgrid/TextIndex" prog_31_method_12_code 6 (some .long) "word" (ow_Gl p e below s (Q4 Z t at0 cn k z xt A h0 n0) 0 0) := ⟨ow_Gl_bc, Bd.exec, Bd.bytes, hml0, findClass_of_methodNamed Bd.named, hZ, Bd.returns, Bd.notSynchronized, (name_of_methodNamed Bd.named Bd.method).1⟩
  have X0 : Stand p l e ({ frames := 0, cells := 0, slots := 0, locals := 0 } : Room) s m #[(.ref t), (.int at0), (.int cn)] below meth c s₁ [] 0 0 := Stand.of_body Bd
  have e0 : s₁.heap = h0 := by rw [← hh, Bd.state]; rfl
  have N0 := Fr.nil n0
  refine ow_entry (Q := (Q4 Z t at0 cn k z xt A h0 n0)) (ce := 0) (sl := 0) (ef_4 m t at0 cn) ?_
  subst hat hc
  refine ow_lconst K X0 (pc' := 1) (1 : Int64) d4_0 rfl (by decide) ?_
  refine ow_lstoreN K X0 (pc' := 2) (Ls' := #[.val (.ref t), .val (.int (0 : Int32)), .val (.int (Int32.ofNat A)), .val (.long (1 : Int64)), .second, .unset]) d4_1 rfl rfl ?_
  refine ow_iloadN K X0 (pc' := 3) (Int32.ofNat A) d4_2 rfl rfl ?_
  refine ow_iconst K X0 (pc' := 4) (1 : Int32) d4_3 rfl (by decide) ?_
  refine ow_isub K X0 (pc' := 5) ((Int32.ofNat A) - (1 : Int32)) d4_4 rfl rfl ?_
  refine ow_istore K X0 (pc' := 7) (Ls' := #[.val (.ref t), .val (.int (0 : Int32)), .val (.int (Int32.ofNat A)), .val (.long (1 : Int64)), .second, .val (.int ((Int32.ofNat A) - (1 : Int32)))]) d4_5 rfl rfl ?_
  exact lpW K X0 e0 N0 F hA hA' A _ (Nat.le_refl _)
theorem d5_0 : decode prog_31_method_11_code 0 = .ok (.lconst 0, 1) := by decide +kernel
theorem d5_1 : decode prog_31_method_11_code 1 = .ok (.lstore_n 3, 1) := by decide +kernel
theorem d5_2 : decode prog_31_method_11_code 2 = .ok (.iload_n 1, 1) := by decide +kernel
theorem d5_3 : decode prog_31_method_11_code 3 = .ok (.istore 5, 2) := by decide +kernel
theorem d5_5 : decode prog_31_method_11_code 5 = .ok (.iload 5, 2) := by decide +kernel
theorem d5_7 : decode prog_31_method_11_code 7 = .ok (.bipush 8, 2) := by decide +kernel
theorem d5_9 : decode prog_31_method_11_code 9 = .ok (.iadd, 1) := by decide +kernel
theorem d5_10 : decode prog_31_method_11_code 10 = .ok (.iload_n 2, 1) := by decide +kernel
theorem d5_11 : decode prog_31_method_11_code 11 = .ok (.if_icmp .gt 28, 3) := by decide +kernel
theorem d5_14 : decode prog_31_method_11_code 14 = .ok (.lload_n 3, 1) := by decide +kernel
theorem d5_15 : decode prog_31_method_11_code 15 = .ok (.iconst 5, 1) := by decide +kernel
theorem d5_16 : decode prog_31_method_11_code 16 = .ok (.invokestatic 96, 3) := by decide +kernel
theorem d5_19 : decode prog_31_method_11_code 19 = .ok (.aload_n 0, 1) := by decide +kernel
theorem d5_20 : decode prog_31_method_11_code 20 = .ok (.iload 5, 2) := by decide +kernel
theorem d5_22 : decode prog_31_method_11_code 22 = .ok (.bipush 8, 2) := by decide +kernel
theorem d5_24 : decode prog_31_method_11_code 24 = .ok (.invokestatic 100, 3) := by decide +kernel
theorem d5_27 : decode prog_31_method_11_code 27 = .ok (.lxor, 1) := by decide +kernel
theorem d5_28 : decode prog_31_method_11_code 28 = .ok (.ldc2_w 104, 3) := by decide +kernel
theorem d5_31 : decode prog_31_method_11_code 31 = .ok (.lmul, 1) := by decide +kernel
theorem d5_32 : decode prog_31_method_11_code 32 = .ok (.lstore_n 3, 1) := by decide +kernel
theorem d5_33 : decode prog_31_method_11_code 33 = .ok (.iinc 5 8, 3) := by decide +kernel
theorem d5_36 : decode prog_31_method_11_code 36 = .ok (.goto (-31), 3) := by decide +kernel
theorem d5_39 : decode prog_31_method_11_code 39 = .ok (.iload 5, 2) := by decide +kernel
theorem d5_41 : decode prog_31_method_11_code 41 = .ok (.iload_n 2, 1) := by decide +kernel
theorem d5_42 : decode prog_31_method_11_code 42 = .ok (.if_icmp .ge 24, 3) := by decide +kernel
theorem d5_45 : decode prog_31_method_11_code 45 = .ok (.lload_n 3, 1) := by decide +kernel
theorem d5_46 : decode prog_31_method_11_code 46 = .ok (.iconst 5, 1) := by decide +kernel
theorem d5_47 : decode prog_31_method_11_code 47 = .ok (.invokestatic 96, 3) := by decide +kernel
theorem d5_50 : decode prog_31_method_11_code 50 = .ok (.aload_n 0, 1) := by decide +kernel
theorem d5_51 : decode prog_31_method_11_code 51 = .ok (.iload 5, 2) := by decide +kernel
theorem d5_53 : decode prog_31_method_11_code 53 = .ok (.iload_n 2, 1) := by decide +kernel
theorem d5_54 : decode prog_31_method_11_code 54 = .ok (.iload 5, 2) := by decide +kernel
theorem d5_56 : decode prog_31_method_11_code 56 = .ok (.isub, 1) := by decide +kernel
theorem d5_57 : decode prog_31_method_11_code 57 = .ok (.invokestatic 100, 3) := by decide +kernel
theorem d5_60 : decode prog_31_method_11_code 60 = .ok (.lxor, 1) := by decide +kernel
theorem d5_61 : decode prog_31_method_11_code 61 = .ok (.ldc2_w 104, 3) := by decide +kernel
theorem d5_64 : decode prog_31_method_11_code 64 = .ok (.lmul, 1) := by decide +kernel
theorem d5_65 : decode prog_31_method_11_code 65 = .ok (.lstore_n 3, 1) := by decide +kernel
theorem d5_66 : decode prog_31_method_11_code 66 = .ok (.lload_n 3, 1) := by decide +kernel
theorem d5_67 : decode prog_31_method_11_code 67 = .ok (.lload_n 3, 1) := by decide +kernel
theorem d5_68 : decode prog_31_method_11_code 68 = .ok (.bipush 32, 2) := by decide +kernel
theorem d5_70 : decode prog_31_method_11_code 70 = .ok (.lushr, 1) := by decide +kernel
theorem d5_71 : decode prog_31_method_11_code 71 = .ok (.lxor, 1) := by decide +kernel
theorem d5_72 : decode prog_31_method_11_code 72 = .ok (.l2i, 1) := by decide +kernel
theorem d5_73 : decode prog_31_method_11_code 73 = .ok (.ireturn, 1) := by decide +kernel
theorem pn_5 : plainFor (⟨"com/example/meritgrid/meritgrid/TextIndex", "hash", "([BII)I"⟩ : MethodName) = true := by first | exact plainFor_of_name (by first | (simp [plainName, overriddenIn]; done) | decide +kernel) | decide +kernel
theorem pd_5 : parseMethodDescriptor "([BII)I" = some ⟨[(.array .byte), .int, .int], some .int⟩ := by decide +kernel
theorem ef_5 (m : MethodId) (t : Addr) (at0 : Int32) (cn : Int32) : entryFrame m #[(.ref t), (.int at0), (.int cn)] 6 = mkF m 0 #[.val (.ref t), .val (.int at0), .val (.int cn), .unset, .unset, .unset] [] := by first | (simp [entryFrame, mkF, argsToLocals, Value.category]; done) | rfl
def Q5 (Z : State) (t : Addr) (at0 : Int32) (cn : Int32) (k : ClassId) (z : Int32) (xt : List Int32) (A : Nat) (h0 : Heap) (n0 : Nat) (v : Option Value) (h : Heap) (L : List Loc) : Prop := ∃ u : Int32, v = some (.int u) ∧ Fr n0 L ∧ h = h0
set_option maxRecDepth 65536 in
set_option maxHeartbeats 40000000 in
theorem rm5 (l : Launch) (Z : State) (a0 : Array Value) (hw : ∀ d ∈ tables_1, d.before a0 Z = true) (ws : List Jvm.Cond) (t : Addr) (at0 : Int32) (cn : Int32) (k : ClassId) (z : Int32) (xt : List Int32) (A : Nat) (h0 : Heap) (n0 : Nat) (Z0 : n0 ≤ h0.size) (hat : at0 = 0) (hc : cn = Int32.ofNat A) (F : Arv Z h0 t k .byte z (own_bl xt) (.int 0)) (hA : A ≤ z.toNatClampNeg) (hA' : A ≤ 3) :
    MetFree l (⟨"com/example/meritgrid/meritgrid/TextIndex", "hash", "([BII)I"⟩ : MethodName) (head1 (Jvm.Cond.code (⟨"com/example/meritgrid/meritgrid/TextIndex", "hash", "([BII)I"⟩ : MethodName) prog_31_method_11_code 6 (some .int) :: ws) ({ frames := 1, cells := 0, slots := 0, locals := 22 } : Room)) (fun as_ U => as_ = #[(.ref t), (.int at0), (.int cn)] ∧ Z.Warmed39 U.vm ∧ U.heap = h0) (fun _ _ _ _ _ => True) (fun _ U oc U' => ∃ v L, oc = .returned v ∧ Q5 Z t at0 cn k z xt A h0 n0 v U'.heap L ∧ FrameEnd U oc U' L ({ frames := 1, cells := 0, slots := 0, locals := 22 } : Room).cells ({ frames := 1, cells := 0, slots := 0, locals := 22 } : Room).slots) := by
  refine MetFree.of_bodySF pn_5 hisR ?_
  intro p e s m args below meth c s₁ Bd hml0 hP hK
  obtain ⟨rfl, hZ, hh⟩ := hP
  have K : ow_K p e below s m meth c Z "com/example/meritgrid/meritgrid/TextIndex" prog_31_method_11_code 6 (some .int) "hash" (ow_Gl p e below s (Q5 Z t at0 cn k z xt A h0 n0) 0 0) := ⟨ow_Gl_bc, Bd.exec, Bd.bytes, hml0, findClass_of_methodNamed Bd.named, hZ, Bd.returns, Bd.notSynchronized, (name_of_methodNamed Bd.named Bd.method).1⟩
  have X0 : Stand p l e ({ frames := 1, cells := 0, slots := 0, locals := 22 } : Room) s m #[(.ref t), (.int at0), (.int cn)] below meth c s₁ [] 0 0 := Stand.of_body Bd
  have e0 : s₁.heap = h0 := by rw [← hh, Bd.state]; rfl
  have N0 := Fr.nil n0
  refine ow_entry (Q := (Q5 Z t at0 cn k z xt A h0 n0)) (ce := 0) (sl := 0) (ef_5 m t at0 cn) ?_
  subst hat hc
  refine ow_lconst K X0 (pc' := 1) (0 : Int64) d5_0 rfl (by decide) ?_
  refine ow_lstoreN K X0 (pc' := 2) (Ls' := #[.val (.ref t), .val (.int (0 : Int32)), .val (.int (Int32.ofNat A)), .val (.long (0 : Int64)), .second, .unset]) d5_1 rfl rfl ?_
  refine ow_iloadN K X0 (pc' := 3) (0 : Int32) d5_2 rfl rfl ?_
  refine ow_istore K X0 (pc' := 5) (Ls' := #[.val (.ref t), .val (.int (0 : Int32)), .val (.int (Int32.ofNat A)), .val (.long (0 : Int64)), .second, .val (.int (0 : Int32))]) d5_3 rfl rfl ?_
  refine ow_iload K X0 (pc' := 7) (0 : Int32) d5_5 rfl rfl ?_
  refine ow_bipush K X0 (pc' := 9) (8 : Int32) d5_7 rfl (by decide) ?_
  refine ow_iadd K X0 (pc' := 10) (8 : Int32) d5_9 rfl (by decide) ?_
  refine ow_iloadN K X0 (pc' := 11) (Int32.ofNat A) d5_10 rfl rfl ?_
  refine ow_icmpY K X0 (pc' := 39) d5_11 (XT.ii_gt_t (own_ltn (n := 8) (by omega) (by decide))) (by decide) (by decide) ?_
  refine ow_iload K X0 (pc' := 41) (0 : Int32) d5_39 rfl rfl ?_
  refine ow_iloadN K X0 (pc' := 42) (Int32.ofNat A) d5_41 rfl rfl ?_
  by_cases hc : (0 : Int32) < (Int32.ofNat A)
  · refine ow_icmpN K X0 (pc' := 45) d5_42 rfl (XT.ii_ge_f hc) ?_
    refine ow_lloadN K X0 (pc' := 46) (0 : Int64) d5_45 rfl rfl ?_
    refine ow_iconst K X0 (pc' := 47) (5 : Int32) d5_46 rfl (by decide) ?_
    refine ow_callS K X0 (pc' := 50) e0 (y := (⟨"java/lang/Long", "rotateLeft", "(JI)J"⟩ : MethodName)) (rm3 l Z a0 hw [] (0 : Int64) (5 : Int32) h0 n0 Z0) (hw _ (List.mem_of_getElem? (i := 54) rfl)) (hw _ (List.mem_of_getElem? (i := 55) rfl)) (hw _ (List.mem_of_getElem? (i := 56) rfl)) (hw _ (List.mem_of_getElem? (i := 57) rfl)) (by decide) (st := []) 0 (Nat.le_of_eq rfl) (by decide) (by decide) (by decide) (by decide) rfl [.long (0 : Int64), .int (5 : Int32)] rfl (lenOf pd_3 rfl) rfl d5_47 rfl ?_
    intro v1 T1 L1 X1 hQ1
    obtain ⟨u1, rfl, NNr, exr⟩ := hQ1
    have NXr := Fr.app N0 NNr
    refine ow_at (g := (mkF m 50 #[.val (.ref t), .val (.int (0 : Int32)), .val (.int (Int32.ofNat A)), .val (.long (0 : Int64)), .second, .val (.int (0 : Int32))] [.long u1])) ?_
    refine ow_aloadN K X1 (pc' := 51) t d5_50 rfl rfl ?_
    refine ow_iload K X1 (pc' := 53) (0 : Int32) d5_51 rfl rfl ?_
    refine ow_iloadN K X1 (pc' := 54) (Int32.ofNat A) d5_53 rfl rfl ?_
    refine ow_iload K X1 (pc' := 56) (0 : Int32) d5_54 rfl rfl ?_
    refine ow_isub K X1 (pc' := 57) (Int32.ofNat A) d5_56 rfl (Int32.sub_zero _) ?_
    refine ow_callS K X1 (pc' := 60) exr (y := (⟨"com/example/meritgrid/meritgrid/TextIndex", "word", "([BII)J"⟩ : MethodName)) (rm4 l Z a0 hw [] t (0 : Int32) (Int32.ofNat A) k z xt A h0 n0 Z0 rfl rfl F hA (by omega)) (hw _ (List.mem_of_getElem? (i := 58) rfl)) (hw _ (List.mem_of_getElem? (i := 59) rfl)) (hw _ (List.mem_of_getElem? (i := 4) rfl)) (hw _ (List.mem_of_getElem? (i := 60) rfl)) (by decide) (st := [.long u1]) 2 (Nat.le_of_eq rfl) (by decide) (by decide) (by decide) (by decide) rfl [.ref t, .int (0 : Int32), .int (Int32.ofNat A)] rfl (lenOf pd_4 rfl) rfl d5_57 rfl ?_
    intro v2 T2 L2 X2 hQ2
    obtain ⟨u2, rfl, NNw, exw⟩ := hQ2
    have NXw := Fr.app NXr NNw
    refine ow_at (g := (mkF m 60 #[.val (.ref t), .val (.int (0 : Int32)), .val (.int (Int32.ofNat A)), .val (.long (0 : Int64)), .second, .val (.int (0 : Int32))] [.long u2, .long u1])) ?_
    refine ow_lxor K X2 (pc' := 61) (u1 ^^^ u2) d5_60 rfl rfl ?_
    refine ow_ldc2 K X2 (pc' := 64) (-7046029254386353131 : Int64) d5_61 rfl (hw _ (List.mem_of_getElem? (i := 61) rfl)) ?_
    refine ow_lmul K X2 (pc' := 65) ((u1 ^^^ u2) * (-7046029254386353131 : Int64)) d5_64 rfl rfl ?_
    refine ow_lstoreN K X2 (pc' := 66) (Ls' := #[.val (.ref t), .val (.int (0 : Int32)), .val (.int (Int32.ofNat A)), .val (.long ((u1 ^^^ u2) * (-7046029254386353131 : Int64))), .second, .val (.int (0 : Int32))]) d5_65 rfl rfl ?_
    refine ow_lloadN K X2 (pc' := 67) ((u1 ^^^ u2) * (-7046029254386353131 : Int64)) d5_66 rfl rfl ?_
    refine ow_lloadN K X2 (pc' := 68) ((u1 ^^^ u2) * (-7046029254386353131 : Int64)) d5_67 rfl rfl ?_
    refine ow_bipush K X2 (pc' := 70) (32 : Int32) d5_68 rfl (by decide) ?_
    refine ow_lushr K X2 (pc' := 71) (XT.ushrL ((u1 ^^^ u2) * (-7046029254386353131 : Int64)) (32 : Int32)) d5_70 rfl rfl ?_
    refine ow_lxor K X2 (pc' := 72) (((u1 ^^^ u2) * (-7046029254386353131 : Int64)) ^^^ (XT.ushrL ((u1 ^^^ u2) * (-7046029254386353131 : Int64)) (32 : Int32))) d5_71 rfl rfl ?_
    refine ow_l2i K X2 (pc' := 73) (((((u1 ^^^ u2) * (-7046029254386353131 : Int64)) ^^^ (XT.ushrL ((u1 ^^^ u2) * (-7046029254386353131 : Int64)) (32 : Int32)))).toInt32) d5_72 rfl rfl ?_
    exact ow_retI K X2 .int rfl rfl (Or.inl rfl) d5_73 ⟨_, rfl, NXw, exw⟩ (by decide) (by decide)
  · refine ow_icmpY K X0 (pc' := 66) d5_42 (XT.ii_ge_t hc) (by decide) (by decide) ?_
    refine ow_lloadN K X0 (pc' := 67) (0 : Int64) d5_66 rfl rfl ?_
    refine ow_lloadN K X0 (pc' := 68) (0 : Int64) d5_67 rfl rfl ?_
    refine ow_bipush K X0 (pc' := 70) (32 : Int32) d5_68 rfl (by decide) ?_
    refine ow_lushr K X0 (pc' := 71) (XT.ushrL (0 : Int64) (32 : Int32)) d5_70 rfl rfl ?_
    refine ow_lxor K X0 (pc' := 72) ((0 : Int64) ^^^ (XT.ushrL (0 : Int64) (32 : Int32))) d5_71 rfl rfl ?_
    refine ow_l2i K X0 (pc' := 73) ((((0 : Int64) ^^^ (XT.ushrL (0 : Int64) (32 : Int32)))).toInt32) d5_72 rfl rfl ?_
    exact ow_retI K X0 .int rfl rfl (Or.inl rfl) d5_73 ⟨_, rfl, N0, e0⟩ (by decide) (by decide)
theorem d6_0 : decode prog_31_method_13_code 0 = .ok (.iload_n 1, 1) := by decide +kernel
theorem d6_1 : decode prog_31_method_13_code 1 = .ok (.ifCond .ne 7, 3) := by decide +kernel
theorem d6_4 : decode prog_31_method_13_code 4 = .ok (.iconst 0, 1) := by decide +kernel
theorem d6_5 : decode prog_31_method_13_code 5 = .ok (.goto 11, 3) := by decide +kernel
theorem d6_8 : decode prog_31_method_13_code 8 = .ok (.aload_n 0, 1) := by decide +kernel
theorem d6_9 : decode prog_31_method_13_code 9 = .ok (.getfield 13, 3) := by decide +kernel
theorem d6_12 : decode prog_31_method_13_code 12 = .ok (.iload_n 1, 1) := by decide +kernel
theorem d6_13 : decode prog_31_method_13_code 13 = .ok (.iconst 1, 1) := by decide +kernel
theorem d6_14 : decode prog_31_method_13_code 14 = .ok (.isub, 1) := by decide +kernel
theorem d6_15 : decode prog_31_method_13_code 15 = .ok (.iaload, 1) := by decide +kernel
theorem d6_16 : decode prog_31_method_13_code 16 = .ok (.ireturn, 1) := by decide +kernel
theorem pn_6 : plainFor (⟨"com/example/meritgrid/meritgrid/TextIndex", "start", "(I)I"⟩ : MethodName) = true := by first | exact plainFor_of_name (by first | (simp [plainName, overriddenIn]; done) | decide +kernel) | decide +kernel
theorem pd_6 : parseMethodDescriptor "(I)I" = some ⟨[.int], some .int⟩ := by decide +kernel
theorem ef_6 (m : MethodId) (o : Addr) (n : Int32) : entryFrame m #[(.ref o), (.int n)] 2 = mkF m 0 #[.val (.ref o), .val (.int n)] [] := by first | (simp [entryFrame, mkF, argsToLocals, Value.category]; done) | rfl
def Q6 (Z : State) (o : Addr) (n : Int32) (rb : Addr) (kb : ClassId) (re : Addr) (ke : ClassId) (rt : Addr) (kt : ClassId) (xs : List Int32) (es : List Int32) (ts : List Int32) (sz : Int32) (s0 : Nat) (h0 : Heap) (n0 : Nat) (v : Option Value) (h : Heap) (L : List Loc) : Prop := v = some (.int (Int32.ofNat s0)) ∧ Fr n0 L ∧ h = h0
set_option maxRecDepth 65536 in
set_option maxHeartbeats 40000000 in
theorem rm6 (l : Launch) (Z : State) (a0 : Array Value) (hw : ∀ d ∈ tables_1, d.before a0 Z = true) (ws : List Jvm.Cond) (o : Addr) (n : Int32) (rb : Addr) (kb : ClassId) (re : Addr) (ke : ClassId) (rt : Addr) (kt : ClassId) (xs : List Int32) (es : List Int32) (ts : List Int32) (sz : Int32) (s0 : Nat) (h0 : Heap) (n0 : Nat) (Z0 : n0 ≤ h0.size) (hO : own_O Z h0 o rb kb re ke rt kt xs es ts sz) (hst : (n = 0 ∧ s0 = 0) ∨ (n = 1 ∧ es.getD 0 0 = Int32.ofNat s0)) :
    MetFree l (⟨"com/example/meritgrid/meritgrid/TextIndex", "start", "(I)I"⟩ : MethodName) (head1 (Jvm.Cond.code (⟨"com/example/meritgrid/meritgrid/TextIndex", "start", "(I)I"⟩ : MethodName) prog_31_method_13_code 2 (some .int) :: ws) ({ frames := 0, cells := 0, slots := 0, locals := 0 } : Room)) (fun as_ U => as_ = #[(.ref o), (.int n)] ∧ Z.Warmed39 U.vm ∧ U.heap = h0) (fun _ _ _ _ _ => True) (fun _ U oc U' => ∃ v L, oc = .returned v ∧ Q6 Z o n rb kb re ke rt kt xs es ts sz s0 h0 n0 v U'.heap L ∧ FrameEnd U oc U' L ({ frames := 0, cells := 0, slots := 0, locals := 0 } : Room).cells ({ frames := 0, cells := 0, slots := 0, locals := 0 } : Room).slots) := by
  refine MetFree.of_bodySF pn_6 hisR ?_
  intro p e s m args below meth c s₁ Bd hml0 hP hK
  obtain ⟨rfl, hZ, hh⟩ := hP
  have K : ow_K p e below s m meth c Z "com/example/meritgrid/meritgrid/TextIndex" prog_31_method_13_code 2 (some .int) "start" (ow_Gl p e below s (Q6 Z o n rb kb re ke rt kt xs es ts sz s0 h0 n0) 0 0) := ⟨ow_Gl_bc, Bd.exec, Bd.bytes, hml0, findClass_of_methodNamed Bd.named, hZ, Bd.returns, Bd.notSynchronized, (name_of_methodNamed Bd.named Bd.method).1⟩
  have X0 : Stand p l e ({ frames := 0, cells := 0, slots := 0, locals := 0 } : Room) s m #[(.ref o), (.int n)] below meth c s₁ [] 0 0 := Stand.of_body Bd
  have e0 : s₁.heap = h0 := by rw [← hh, Bd.state]; rfl
  have N0 := Fr.nil n0
  refine ow_entry (Q := (Q6 Z o n rb kb re ke rt kt xs es ts sz s0 h0 n0)) (ce := 0) (sl := 0) (ef_6 m o n) ?_
  have oN := hO.2.2.1
  have aE := hO.2.2.2.2.2.2.2.1
  rcases hst with ⟨hn, hs⟩ | ⟨hn, hs⟩
  · subst hn hs
    refine ow_iloadN K X0 (pc' := 1) (0 : Int32) d6_0 rfl rfl ?_
    refine ow_ifN K X0 (pc' := 4) d6_1 rfl (XT.i0_ne_f rfl) ?_
    refine ow_iconst K X0 (pc' := 5) (0 : Int32) d6_4 rfl (by decide) ?_
    refine ow_goto K X0 (pc' := 16) d6_5 (by decide) (by decide) ?_
    exact ow_retI K X0 .int rfl rfl (Or.inl rfl) d6_16 ⟨rfl, N0, e0⟩ (by decide) (by decide)
  · subst hn
    refine ow_iloadN K X0 (pc' := 1) (1 : Int32) d6_0 rfl rfl ?_
    refine ow_ifY K X0 (pc' := 8) d6_1 (XT.i0_ne_t (by decide)) (by decide) (by decide) ?_
    refine ow_aloadN K X0 (pc' := 9) o d6_8 rfl rfl ?_
    refine ow_getF K X0 (pc' := 12) e0 (hw _ (List.mem_of_getElem? (i := 14) rfl)) oN d6_9 rfl ?_
    intro T1 X1 e1
    refine ow_iloadN K X1 (pc' := 13) (1 : Int32) d6_12 rfl rfl ?_
    refine ow_iconst K X1 (pc' := 14) (1 : Int32) d6_13 rfl (by decide) ?_
    refine ow_isub K X1 (pc' := 15) (0 : Int32) d6_14 rfl (by decide) ?_
    refine ow_iaload K X1 (pc' := 16) e1 aE 0 (.int (es.getD 0 0)) ⟨by decide, by decide⟩ (by decide) (own_bl_at es 0) d6_15 rfl ?_
    exact ow_retI K X1 .int rfl rfl (Or.inl rfl) d6_16 ⟨by rw [hs], N0, e1⟩ (by decide) (by decide)
theorem d7_0 : decode prog_31_method_4_code 0 = .ok (.aload_n 0, 1) := by decide +kernel
theorem d7_1 : decode prog_31_method_4_code 1 = .ok (.iload_n 1, 1) := by decide +kernel
theorem d7_2 : decode prog_31_method_4_code 2 = .ok (.invokevirtual 77, 3) := by decide +kernel
theorem d7_5 : decode prog_31_method_4_code 5 = .ok (.istore 5, 2) := by decide +kernel
theorem d7_7 : decode prog_31_method_4_code 7 = .ok (.aload_n 0, 1) := by decide +kernel
theorem d7_8 : decode prog_31_method_4_code 8 = .ok (.getfield 13, 3) := by decide +kernel
theorem d7_11 : decode prog_31_method_4_code 11 = .ok (.iload_n 1, 1) := by decide +kernel
theorem d7_12 : decode prog_31_method_4_code 12 = .ok (.iaload, 1) := by decide +kernel
theorem d7_13 : decode prog_31_method_4_code 13 = .ok (.iload 5, 2) := by decide +kernel
theorem d7_15 : decode prog_31_method_4_code 15 = .ok (.isub, 1) := by decide +kernel
theorem d7_16 : decode prog_31_method_4_code 16 = .ok (.iload 4, 2) := by decide +kernel
theorem d7_18 : decode prog_31_method_4_code 18 = .ok (.iload_n 3, 1) := by decide +kernel
theorem d7_19 : decode prog_31_method_4_code 19 = .ok (.isub, 1) := by decide +kernel
theorem d7_20 : decode prog_31_method_4_code 20 = .ok (.if_icmp .eq 5, 3) := by decide +kernel
theorem d7_23 : decode prog_31_method_4_code 23 = .ok (.iconst 0, 1) := by decide +kernel
theorem d7_24 : decode prog_31_method_4_code 24 = .ok (.ireturn, 1) := by decide +kernel
theorem d7_25 : decode prog_31_method_4_code 25 = .ok (.iconst 0, 1) := by decide +kernel
theorem d7_26 : decode prog_31_method_4_code 26 = .ok (.istore 6, 2) := by decide +kernel
theorem d7_28 : decode prog_31_method_4_code 28 = .ok (.iload 6, 2) := by decide +kernel
theorem d7_30 : decode prog_31_method_4_code 30 = .ok (.iload 4, 2) := by decide +kernel
theorem d7_32 : decode prog_31_method_4_code 32 = .ok (.iload_n 3, 1) := by decide +kernel
theorem d7_33 : decode prog_31_method_4_code 33 = .ok (.isub, 1) := by decide +kernel
theorem d7_34 : decode prog_31_method_4_code 34 = .ok (.if_icmp .ge 30, 3) := by decide +kernel
theorem d7_37 : decode prog_31_method_4_code 37 = .ok (.aload_n 0, 1) := by decide +kernel
theorem d7_38 : decode prog_31_method_4_code 38 = .ok (.getfield 9, 3) := by decide +kernel
theorem d7_41 : decode prog_31_method_4_code 41 = .ok (.iload 5, 2) := by decide +kernel
theorem d7_43 : decode prog_31_method_4_code 43 = .ok (.iload 6, 2) := by decide +kernel
theorem d7_45 : decode prog_31_method_4_code 45 = .ok (.iadd, 1) := by decide +kernel
theorem d7_46 : decode prog_31_method_4_code 46 = .ok (.baload, 1) := by decide +kernel
theorem d7_47 : decode prog_31_method_4_code 47 = .ok (.aload_n 2, 1) := by decide +kernel
theorem d7_48 : decode prog_31_method_4_code 48 = .ok (.iload_n 3, 1) := by decide +kernel
theorem d7_49 : decode prog_31_method_4_code 49 = .ok (.iload 6, 2) := by decide +kernel
theorem d7_51 : decode prog_31_method_4_code 51 = .ok (.iadd, 1) := by decide +kernel
theorem d7_52 : decode prog_31_method_4_code 52 = .ok (.baload, 1) := by decide +kernel
theorem d7_53 : decode prog_31_method_4_code 53 = .ok (.if_icmp .eq 5, 3) := by decide +kernel
theorem d7_56 : decode prog_31_method_4_code 56 = .ok (.iconst 0, 1) := by decide +kernel
theorem d7_57 : decode prog_31_method_4_code 57 = .ok (.ireturn, 1) := by decide +kernel
theorem d7_58 : decode prog_31_method_4_code 58 = .ok (.iinc 6 1, 3) := by decide +kernel
theorem d7_61 : decode prog_31_method_4_code 61 = .ok (.goto (-33), 3) := by decide +kernel
theorem d7_64 : decode prog_31_method_4_code 64 = .ok (.iconst 1, 1) := by decide +kernel
theorem d7_65 : decode prog_31_method_4_code 65 = .ok (.ireturn, 1) := by decide +kernel
set_option maxRecDepth 65536 in
set_option maxHeartbeats 40000000 in
theorem lpH {p : Program} {l : Launch} {e : Env} {R : Room} {s : State} {m : MethodId} {args : Array Value} {below : List Frame} {meth : Method} {c : Code} {locs : List Loc} {Z : State} {a0 : Array Value} (hw : ∀ d ∈ tables_1, d.before a0 Z = true) {h : Heap} {n0 : Nat} {o t rb : Addr} {kb k : ClassId} {z nu : Int32} {xs pt : List Int32} {s0 f n : Nat} (K : ow_K p e below s m meth c Z "com/example/meritgrid/meritgrid/TextIndex" prog_31_method_4_code 7 (some .boolean) "holds" (ow_Gl p e below s (fun (v : Option Value) (hh : Heap) (L : List Loc) => ((v = some (.int 1) ∧ own_P xs pt s0 f n) ∨ (v = some (.int 0) ∧ ¬ own_P xs pt s0 f n)) ∧ Fr n0 L ∧ hh = h) 0 0)) (N0 : Fr n0 locs) (oB : Fld Z h o "com/example/meritgrid/meritgrid/TextIndex" "bytes" "[B" (.ref rb)) (aB : Arv Z h rb kb .byte (128 : Int32) (own_bl xs) (.int 0)) (F : Arv Z h t k .byte z (own_bl pt) (.int 0)) (hs : s0 + n ≤ 100) (hf : f + n ≤ z.toNatClampNeg) (hf' : f + n ≤ 100) (d : Nat) :
    ∀ (i : Nat) (T : State), i + d = n → (∀ j, j < i → xs.getD (s0 + j) 0 = pt.getD (f + j) 0) → Stand p l e R s m args below meth c T locs 0 0 → T.heap = h → ow_Gl p e below s (fun (v : Option Value) (hh : Heap) (L : List Loc) => ((v = some (.int 1) ∧ own_P xs pt s0 f n) ∨ (v = some (.int 0) ∧ ¬ own_P xs pt s0 f n)) ∧ Fr n0 L ∧ hh = h) 0 0 (T.setTop (mkF m 28 #[.val (.ref o), .val (.int nu), .val (.ref t), .val (.int (Int32.ofNat f)), .val (.int (Int32.ofNat (f + n))), .val (.int (Int32.ofNat s0)), .val (.int (Int32.ofNat i))] [])) := by
  induction d with
  | zero =>
    intro i T hi hp X0 e0
    obtain rfl : i = n := hi
    refine ow_iload K X0 (pc' := 30) (Int32.ofNat i) d7_28 rfl rfl ?_
    refine ow_iload K X0 (pc' := 32) (Int32.ofNat (f + i)) d7_30 rfl rfl ?_
    refine ow_iloadN K X0 (pc' := 33) (Int32.ofNat f) d7_32 rfl rfl ?_
    refine ow_isub K X0 (pc' := 34) (Int32.ofNat i) d7_33 rfl (own_subn (by omega)) ?_
    refine ow_icmpY K X0 (pc' := 64) d7_34 (XT.ii_ge_t (own_gen (Nat.le_refl _) (by omega))) (by decide) (by decide) ?_
    refine ow_iconst K X0 (pc' := 65) (1 : Int32) d7_64 rfl (by decide) ?_
    exact ow_retI K X0 .boolean rfl (by decide) (Or.inr (Or.inl rfl)) d7_65 ⟨Or.inl ⟨rfl, hp⟩, N0, e0⟩ (by decide) (by decide)
  | succ d ih =>
    intro i T hi hp X0 e0
    refine ow_iload K X0 (pc' := 30) (Int32.ofNat i) d7_28 rfl rfl ?_
    refine ow_iload K X0 (pc' := 32) (Int32.ofNat (f + n)) d7_30 rfl rfl ?_
    refine ow_iloadN K X0 (pc' := 33) (Int32.ofNat f) d7_32 rfl rfl ?_
    refine ow_isub K X0 (pc' := 34) (Int32.ofNat n) d7_33 rfl (own_subn (by omega)) ?_
    refine ow_icmpN K X0 (pc' := 37) d7_34 rfl (XT.ii_ge_f (own_ltn (by omega) (by omega))) ?_
    refine ow_aloadN K X0 (pc' := 38) o d7_37 rfl rfl ?_
    refine ow_getF K X0 (pc' := 41) e0 (hw _ (List.mem_of_getElem? (i := 11) rfl)) oB d7_38 rfl ?_
    intro T1 X1 e1
    refine ow_iload K X1 (pc' := 43) (Int32.ofNat s0) d7_41 rfl rfl ?_
    refine ow_iload K X1 (pc' := 45) (Int32.ofNat i) d7_43 rfl rfl ?_
    refine ow_iadd K X1 (pc' := 46) (Int32.ofNat (s0 + i)) d7_45 rfl (own_addn (by omega)) ?_
    refine ow_baload K X1 (pc' := 47) e1 aB (s0 + i) (.int (xs.getD (s0 + i) 0)) (ow_ix_nat (by omega)) (by show _ < 128; omega) (own_bl_at xs _) d7_46 rfl ?_
    refine ow_aloadN K X1 (pc' := 48) t d7_47 rfl rfl ?_
    refine ow_iloadN K X1 (pc' := 49) (Int32.ofNat f) d7_48 rfl rfl ?_
    refine ow_iload K X1 (pc' := 51) (Int32.ofNat i) d7_49 rfl rfl ?_
    refine ow_iadd K X1 (pc' := 52) (Int32.ofNat (f + i)) d7_51 rfl (own_addn (by omega)) ?_
    refine ow_baload K X1 (pc' := 53) e1 F (f + i) (.int (pt.getD (f + i) 0)) (ow_ix_nat (by omega)) (by omega) (own_bl_at pt _) d7_52 rfl ?_
    by_cases hc : (xs.getD (s0 + i) 0) = (pt.getD (f + i) 0)
    · refine ow_icmpY K X1 (pc' := 58) d7_53 (XT.ii_eq_t hc) (by decide) (by decide) ?_
      refine ow_iinc K X1 (pc' := 61) (Ls' := #[.val (.ref o), .val (.int nu), .val (.ref t), .val (.int (Int32.ofNat f)), .val (.int (Int32.ofNat (f + n))), .val (.int (Int32.ofNat s0)), .val (.int (Int32.ofNat (i + 1)))]) (1 : Int32) (Int32.ofNat (i + 1)) d7_58 rfl (by decide) rfl (own_succ (by omega)) rfl ?_
      refine ow_goto K X1 (pc' := 28) d7_61 (by decide) (by decide) ?_
      exact ih (i + 1) _ (by omega) (fun j hj => by rcases Nat.lt_succ_iff_lt_or_eq.mp hj with q | q; exact hp j q; rw [q]; exact hc) X1 e1
    · refine ow_icmpN K X1 (pc' := 56) d7_53 rfl (XT.ii_eq_f hc) ?_
      refine ow_iconst K X1 (pc' := 57) (0 : Int32) d7_56 rfl (by decide) ?_
      exact ow_retI K X1 .boolean rfl (by decide) (Or.inr (Or.inl rfl)) d7_57 ⟨Or.inr ⟨rfl, fun q => hc (q i (by omega))⟩, N0, e1⟩ (by decide) (by decide)
theorem ow_Gl_mono {p : Program} {e : Env} {below : List Frame} {s : State} {Q Q' : Option Value → Heap → List Loc → Prop} {ce sl : Nat} {S : State} (h : ∀ v hh L, Q v hh L → Q' v hh L) (g : ow_Gl p e below s Q ce sl S) : ow_Gl p e below s Q' ce sl S := by
  obtain ⟨s₂, o, h1, h2, h3, v, L, h4, h5, h6⟩ := g
  exact ⟨s₂, o, h1, h2, h3, v, L, h4, h _ _ _ h5, h6⟩
theorem ow_K_to {p : Program} {e : Env} {below : List Frame} {s : State} {m : MethodId} {meth : Method} {c : Code} {Z : State} {own nm : String} {cd : ByteArray} {mx : Nat} {rt : Option FieldType} {Q Q' : Option Value → Heap → List Loc → Prop} {ce sl : Nat} (K : ow_K p e below s m meth c Z own cd mx rt nm (ow_Gl p e below s Q ce sl)) : ow_K p e below s m meth c Z own cd mx rt nm (ow_Gl p e below s Q' ce sl) := ⟨ow_Gl_bc, K.2⟩
theorem pn_7 : plainFor (⟨"com/example/meritgrid/meritgrid/TextIndex", "holds", "(I[BII)Z"⟩ : MethodName) = true := by first | exact plainFor_of_name (by first | (simp [plainName, overriddenIn]; done) | decide +kernel) | decide +kernel
theorem pd_7 : parseMethodDescriptor "(I[BII)Z" = some ⟨[.int, (.array .byte), .int, .int], some .boolean⟩ := by decide +kernel
theorem ef_7 (m : MethodId) (o : Addr) (nu : Int32) (t : Addr) (fr : Int32) (tt : Int32) : entryFrame m #[(.ref o), (.int nu), (.ref t), (.int fr), (.int tt)] 7 = mkF m 0 #[.val (.ref o), .val (.int nu), .val (.ref t), .val (.int fr), .val (.int tt), .unset, .unset] [] := by first | (simp [entryFrame, mkF, argsToLocals, Value.category]; done) | rfl
def Q7 (Z : State) (o : Addr) (nu : Int32) (t : Addr) (fr : Int32) (tt : Int32) (rb : Addr) (kb : ClassId) (re : Addr) (ke : ClassId) (rt : Addr) (kt : ClassId) (xs : List Int32) (es : List Int32) (ts : List Int32) (sz : Int32) (k : ClassId) (z : Int32) (pt : List Int32) (s0 : Nat) (ln : Nat) (f : Nat) (n : Nat) (nn : Nat) (h0 : Heap) (n0 : Nat) (v : Option Value) (h : Heap) (L : List Loc) : Prop := ((v = some (.int 1) ∧ ln = n ∧ own_P xs pt s0 f n) ∨ (v = some (.int 0) ∧ ¬ (ln = n ∧ own_P xs pt s0 f n))) ∧ Fr n0 L ∧ h = h0
set_option maxRecDepth 65536 in
set_option maxHeartbeats 40000000 in
theorem rm7 (l : Launch) (Z : State) (a0 : Array Value) (hw : ∀ d ∈ tables_1, d.before a0 Z = true) (ws : List Jvm.Cond) (o : Addr) (nu : Int32) (t : Addr) (fr : Int32) (tt : Int32) (rb : Addr) (kb : ClassId) (re : Addr) (ke : ClassId) (rt : Addr) (kt : ClassId) (xs : List Int32) (es : List Int32) (ts : List Int32) (sz : Int32) (k : ClassId) (z : Int32) (pt : List Int32) (s0 : Nat) (ln : Nat) (f : Nat) (n : Nat) (nn : Nat) (h0 : Heap) (n0 : Nat) (Z0 : n0 ≤ h0.size) (hfr : fr = Int32.ofNat f) (hto : tt = Int32.ofNat (f + n)) (hO : own_O Z h0 o rb kb re ke rt kt xs es ts sz) (hO' : own_O Z h0 o rb kb re ke rt kt xs es ts sz) (F : Arv Z h0 t k .byte z (own_bl pt) (.int 0)) (hst : (nu = 0 ∧ s0 = 0) ∨ (nu = 1 ∧ es.getD 0 0 = Int32.ofNat s0)) (hnn : ow_Ix nu nn) (hn1 : nn ≤ 1) (hen : es.getD nn 0 = Int32.ofNat (s0 + ln)) (hs : s0 + ln ≤ 100) (hf : f + n ≤ z.toNatClampNeg) (hf' : f + n ≤ 100) :
    MetFree l (⟨"com/example/meritgrid/meritgrid/TextIndex", "holds", "(I[BII)Z"⟩ : MethodName) (head1 (Jvm.Cond.code (⟨"com/example/meritgrid/meritgrid/TextIndex", "holds", "(I[BII)Z"⟩ : MethodName) prog_31_method_4_code 7 (some .boolean) :: ws) ({ frames := 1, cells := 0, slots := 0, locals := 13 } : Room)) (fun as_ U => as_ = #[(.ref o), (.int nu), (.ref t), (.int fr), (.int tt)] ∧ Z.Warmed39 U.vm ∧ U.heap = h0) (fun _ _ _ _ _ => True) (fun _ U oc U' => ∃ v L, oc = .returned v ∧ Q7 Z o nu t fr tt rb kb re ke rt kt xs es ts sz k z pt s0 ln f n nn h0 n0 v U'.heap L ∧ FrameEnd U oc U' L ({ frames := 1, cells := 0, slots := 0, locals := 13 } : Room).cells ({ frames := 1, cells := 0, slots := 0, locals := 13 } : Room).slots) := by
  refine MetFree.of_bodySF pn_7 hisR ?_
  intro p e s m args below meth c s₁ Bd hml0 hP hK
  obtain ⟨rfl, hZ, hh⟩ := hP
  have K : ow_K p e below s m meth c Z "com/example/meritgrid/meritgrid/TextIndex" prog_31_method_4_code 7 (some .boolean) "holds" (ow_Gl p e below s (Q7 Z o nu t fr tt rb kb re ke rt kt xs es ts sz k z pt s0 ln f n nn h0 n0) 0 0) := ⟨ow_Gl_bc, Bd.exec, Bd.bytes, hml0, findClass_of_methodNamed Bd.named, hZ, Bd.returns, Bd.notSynchronized, (name_of_methodNamed Bd.named Bd.method).1⟩
  have X0 : Stand p l e ({ frames := 1, cells := 0, slots := 0, locals := 13 } : Room) s m #[(.ref o), (.int nu), (.ref t), (.int fr), (.int tt)] below meth c s₁ [] 0 0 := Stand.of_body Bd
  have e0 : s₁.heap = h0 := by rw [← hh, Bd.state]; rfl
  have N0 := Fr.nil n0
  refine ow_entry (Q := (Q7 Z o nu t fr tt rb kb re ke rt kt xs es ts sz k z pt s0 ln f n nn h0 n0)) (ce := 0) (sl := 0) (ef_7 m o nu t fr tt) ?_
  subst hfr hto
  obtain ⟨oE, oB, oN, oT, oS, oZ, aB, aE, aT⟩ := hO'
  refine ow_aloadN K X0 (pc' := 1) o d7_0 rfl rfl ?_
  refine ow_iloadN K X0 (pc' := 2) nu d7_1 rfl rfl ?_
  refine ow_callR K X0 (pc' := 5) e0 (y' := (⟨"com/example/meritgrid/meritgrid/TextIndex", "add", "([BII)I"⟩ : MethodName)) (y := (⟨"com/example/meritgrid/meritgrid/TextIndex", "start", "(I)I"⟩ : MethodName)) (rm6 l Z a0 hw [] o nu rb kb re ke rt kt xs es ts sz s0 h0 n0 Z0 hO hst) oE rfl (hw _ (List.mem_of_getElem? (i := 28) rfl)) (hw _ (List.mem_of_getElem? (i := 51) rfl)) (hw _ (List.mem_of_getElem? (i := 49) rfl)) (hw _ (List.mem_of_getElem? (i := 50) rfl)) (hw _ (List.mem_of_getElem? (i := 4) rfl)) (hw _ (List.mem_of_getElem? (i := 52) rfl)) (by decide) (st := []) 0 (Nat.le_of_eq rfl) (by decide) (by decide) (by decide) (by decide) rfl [.int nu] rfl (lenOf pd_6 rfl) rfl d7_2 rfl ?_
  intro v1 T1 L1 X1 hQ1
  obtain ⟨rfl, NNs, exs⟩ := hQ1
  have NXs := Fr.app N0 NNs
  refine ow_at (g := (mkF m 5 #[.val (.ref o), .val (.int nu), .val (.ref t), .val (.int (Int32.ofNat f)), .val (.int (Int32.ofNat (f + n))), .unset, .unset] [.int (Int32.ofNat s0)])) ?_
  refine ow_istore K X1 (pc' := 7) (Ls' := #[.val (.ref o), .val (.int nu), .val (.ref t), .val (.int (Int32.ofNat f)), .val (.int (Int32.ofNat (f + n))), .val (.int (Int32.ofNat s0)), .unset]) d7_5 rfl rfl ?_
  refine ow_aloadN K X1 (pc' := 8) o d7_7 rfl rfl ?_
  refine ow_getF K X1 (pc' := 11) exs (hw _ (List.mem_of_getElem? (i := 14) rfl)) oN d7_8 rfl ?_
  intro T2 X2 e2
  refine ow_iloadN K X2 (pc' := 12) nu d7_11 rfl rfl ?_
  refine ow_iaload K X2 (pc' := 13) e2 aE nn (.int (es.getD nn 0)) hnn (by show nn < 16; omega) (own_bl_at es _) d7_12 rfl ?_
  refine ow_iload K X2 (pc' := 15) (Int32.ofNat s0) d7_13 rfl rfl ?_
  rw [hen]
  refine ow_isub K X2 (pc' := 16) (Int32.ofNat ln) d7_15 rfl (own_subn (by omega)) ?_
  refine ow_iload K X2 (pc' := 18) (Int32.ofNat (f + n)) d7_16 rfl rfl ?_
  refine ow_iloadN K X2 (pc' := 19) (Int32.ofNat f) d7_18 rfl rfl ?_
  refine ow_isub K X2 (pc' := 20) (Int32.ofNat n) d7_19 rfl (own_subn (by omega)) ?_
  by_cases hq : (Int32.ofNat ln) = (Int32.ofNat n)
  · refine ow_icmpY K X2 (pc' := 25) d7_20 (XT.ii_eq_t hq) (by decide) (by decide) ?_
    obtain rfl : ln = n := own_ofn_inj (by omega) (by omega) hq
    refine ow_iconst K X2 (pc' := 26) (0 : Int32) d7_25 rfl (by decide) ?_
    refine ow_istore K X2 (pc' := 28) (Ls' := #[.val (.ref o), .val (.int nu), .val (.ref t), .val (.int (Int32.ofNat f)), .val (.int (Int32.ofNat (f + ln))), .val (.int (Int32.ofNat s0)), .val (.int (0 : Int32))]) d7_26 rfl rfl ?_
    refine ow_Gl_mono ?_ (lpH hw (ow_K_to K) (xs := xs) (pt := pt) (s0 := s0) (f := f) (n := ln) NXs oB aB F (by omega) hf hf' ln 0 _ (by omega) (fun j hj => absurd hj (Nat.not_lt_zero j)) X2 e2)
    rintro v hh L ⟨q, r⟩
    refine ⟨?_, r⟩
    rcases q with ⟨q1, q2⟩ | ⟨q1, q2⟩
    · exact Or.inl ⟨q1, rfl, q2⟩
    · exact Or.inr ⟨q1, fun z => q2 z.2⟩
  · refine ow_icmpN K X2 (pc' := 23) d7_20 rfl (XT.ii_eq_f hq) ?_
    refine ow_iconst K X2 (pc' := 24) (0 : Int32) d7_23 rfl (by decide) ?_
    exact ow_retI K X2 .boolean rfl (by decide) (Or.inr (Or.inl rfl)) d7_24 ⟨Or.inr ⟨rfl, fun q => hq (by rw [q.1])⟩, NXs, e2⟩ (by decide) (by decide)
theorem d8_0 : decode prog_31_method_9_code 0 = .ok (.aload_n 0, 1) := by decide +kernel
theorem d8_1 : decode prog_31_method_9_code 1 = .ok (.getfield 17, 3) := by decide +kernel
theorem d8_4 : decode prog_31_method_9_code 4 = .ok (.arraylength, 1) := by decide +kernel
theorem d8_5 : decode prog_31_method_9_code 5 = .ok (.iconst 1, 1) := by decide +kernel
theorem d8_6 : decode prog_31_method_9_code 6 = .ok (.isub, 1) := by decide +kernel
theorem d8_7 : decode prog_31_method_9_code 7 = .ok (.istore 4, 2) := by decide +kernel
theorem d8_9 : decode prog_31_method_9_code 9 = .ok (.aload_n 1, 1) := by decide +kernel
theorem d8_10 : decode prog_31_method_9_code 10 = .ok (.iload_n 2, 1) := by decide +kernel
theorem d8_11 : decode prog_31_method_9_code 11 = .ok (.iload_n 3, 1) := by decide +kernel
theorem d8_12 : decode prog_31_method_9_code 12 = .ok (.invokestatic 86, 3) := by decide +kernel
theorem d8_15 : decode prog_31_method_9_code 15 = .ok (.ldc 89, 2) := by decide +kernel
theorem d8_17 : decode prog_31_method_9_code 17 = .ok (.imul, 1) := by decide +kernel
theorem d8_18 : decode prog_31_method_9_code 18 = .ok (.aload_n 0, 1) := by decide +kernel
theorem d8_19 : decode prog_31_method_9_code 19 = .ok (.getfield 26, 3) := by decide +kernel
theorem d8_22 : decode prog_31_method_9_code 22 = .ok (.iushr, 1) := by decide +kernel
theorem d8_23 : decode prog_31_method_9_code 23 = .ok (.istore 5, 2) := by decide +kernel
theorem d8_25 : decode prog_31_method_9_code 25 = .ok (.aload_n 0, 1) := by decide +kernel
theorem d8_26 : decode prog_31_method_9_code 26 = .ok (.getfield 17, 3) := by decide +kernel
theorem d8_29 : decode prog_31_method_9_code 29 = .ok (.iload 5, 2) := by decide +kernel
theorem d8_31 : decode prog_31_method_9_code 31 = .ok (.iaload, 1) := by decide +kernel
theorem d8_32 : decode prog_31_method_9_code 32 = .ok (.ifCond .eq 34, 3) := by decide +kernel
theorem d8_35 : decode prog_31_method_9_code 35 = .ok (.aload_n 0, 1) := by decide +kernel
theorem d8_36 : decode prog_31_method_9_code 36 = .ok (.aload_n 0, 1) := by decide +kernel
theorem d8_37 : decode prog_31_method_9_code 37 = .ok (.getfield 17, 3) := by decide +kernel
theorem d8_40 : decode prog_31_method_9_code 40 = .ok (.iload 5, 2) := by decide +kernel
theorem d8_42 : decode prog_31_method_9_code 42 = .ok (.iaload, 1) := by decide +kernel
theorem d8_43 : decode prog_31_method_9_code 43 = .ok (.iconst 1, 1) := by decide +kernel
theorem d8_44 : decode prog_31_method_9_code 44 = .ok (.isub, 1) := by decide +kernel
theorem d8_45 : decode prog_31_method_9_code 45 = .ok (.aload_n 1, 1) := by decide +kernel
theorem d8_46 : decode prog_31_method_9_code 46 = .ok (.iload_n 2, 1) := by decide +kernel
theorem d8_47 : decode prog_31_method_9_code 47 = .ok (.iload_n 3, 1) := by decide +kernel
theorem d8_48 : decode prog_31_method_9_code 48 = .ok (.invokevirtual 90, 3) := by decide +kernel
theorem d8_51 : decode prog_31_method_9_code 51 = .ok (.ifCond .ne 15, 3) := by decide +kernel
theorem d8_54 : decode prog_31_method_9_code 54 = .ok (.iload 5, 2) := by decide +kernel
theorem d8_56 : decode prog_31_method_9_code 56 = .ok (.iconst 1, 1) := by decide +kernel
theorem d8_57 : decode prog_31_method_9_code 57 = .ok (.iadd, 1) := by decide +kernel
theorem d8_58 : decode prog_31_method_9_code 58 = .ok (.iload 4, 2) := by decide +kernel
theorem d8_60 : decode prog_31_method_9_code 60 = .ok (.iand, 1) := by decide +kernel
theorem d8_61 : decode prog_31_method_9_code 61 = .ok (.istore 5, 2) := by decide +kernel
theorem d8_63 : decode prog_31_method_9_code 63 = .ok (.goto (-38), 3) := by decide +kernel
theorem d8_66 : decode prog_31_method_9_code 66 = .ok (.iload 5, 2) := by decide +kernel
theorem d8_68 : decode prog_31_method_9_code 68 = .ok (.ireturn, 1) := by decide +kernel
theorem pn_8 : plainFor (⟨"com/example/meritgrid/meritgrid/TextIndex", "place", "([BII)I"⟩ : MethodName) = true := by first | exact plainFor_of_name (by first | (simp [plainName, overriddenIn]; done) | decide +kernel) | decide +kernel
theorem pd_8 : parseMethodDescriptor "([BII)I" = some ⟨[(.array .byte), .int, .int], some .int⟩ := by decide +kernel
theorem ef_8 (m : MethodId) (o : Addr) (t : Addr) (at0 : Int32) (cn : Int32) : entryFrame m #[(.ref o), (.ref t), (.int at0), (.int cn)] 6 = mkF m 0 #[.val (.ref o), .val (.ref t), .val (.int at0), .val (.int cn), .unset, .unset] [] := by first | (simp [entryFrame, mkF, argsToLocals, Value.category]; done) | rfl
def Q8 (Z : State) (o : Addr) (t : Addr) (at0 : Int32) (cn : Int32) (rb : Addr) (kb : ClassId) (re : Addr) (ke : ClassId) (rt : Addr) (kt : ClassId) (xs : List Int32) (es : List Int32) (sz : Int32) (k : ClassId) (z : Int32) (xt : List Int32) (A : Nat) (h0 : Heap) (n0 : Nat) (v : Option Value) (h : Heap) (L : List Loc) : Prop := ∃ i : Nat, v = some (.int (Int32.ofNat i)) ∧ i < 32 ∧ Fr n0 L ∧ h = h0
set_option maxRecDepth 65536 in
set_option maxHeartbeats 40000000 in
theorem rm8 (l : Launch) (Z : State) (a0 : Array Value) (hw : ∀ d ∈ tables_1, d.before a0 Z = true) (ws : List Jvm.Cond) (o : Addr) (t : Addr) (at0 : Int32) (cn : Int32) (rb : Addr) (kb : ClassId) (re : Addr) (ke : ClassId) (rt : Addr) (kt : ClassId) (xs : List Int32) (es : List Int32) (sz : Int32) (k : ClassId) (z : Int32) (xt : List Int32) (A : Nat) (h0 : Heap) (n0 : Nat) (Z0 : n0 ≤ h0.size) (hO : own_O Z h0 o rb kb re ke rt kt xs es own_t0 sz) (hO' : own_O Z h0 o rb kb re ke rt kt xs es own_t0 sz) (hat : at0 = 0) (hc : cn = Int32.ofNat A) (F : Arv Z h0 t k .byte z (own_bl xt) (.int 0)) (hA : A ≤ z.toNatClampNeg) (hA' : A ≤ 3) :
    MetFree l (⟨"com/example/meritgrid/meritgrid/TextIndex", "place", "([BII)I"⟩ : MethodName) (head1 (Jvm.Cond.code (⟨"com/example/meritgrid/meritgrid/TextIndex", "place", "([BII)I"⟩ : MethodName) prog_31_method_9_code 6 (some .int) :: ws) ({ frames := 2, cells := 0, slots := 0, locals := 40 } : Room)) (fun as_ U => as_ = #[(.ref o), (.ref t), (.int at0), (.int cn)] ∧ Z.Warmed39 U.vm ∧ U.heap = h0) (fun _ _ _ _ _ => True) (fun _ U oc U' => ∃ v L, oc = .returned v ∧ Q8 Z o t at0 cn rb kb re ke rt kt xs es sz k z xt A h0 n0 v U'.heap L ∧ FrameEnd U oc U' L ({ frames := 2, cells := 0, slots := 0, locals := 40 } : Room).cells ({ frames := 2, cells := 0, slots := 0, locals := 40 } : Room).slots) := by
  refine MetFree.of_bodySF pn_8 hisR ?_
  intro p e s m args below meth c s₁ Bd hml0 hP hK
  obtain ⟨rfl, hZ, hh⟩ := hP
  have K : ow_K p e below s m meth c Z "com/example/meritgrid/meritgrid/TextIndex" prog_31_method_9_code 6 (some .int) "place" (ow_Gl p e below s (Q8 Z o t at0 cn rb kb re ke rt kt xs es sz k z xt A h0 n0) 0 0) := ⟨ow_Gl_bc, Bd.exec, Bd.bytes, hml0, findClass_of_methodNamed Bd.named, hZ, Bd.returns, Bd.notSynchronized, (name_of_methodNamed Bd.named Bd.method).1⟩
  have X0 : Stand p l e ({ frames := 2, cells := 0, slots := 0, locals := 40 } : Room) s m #[(.ref o), (.ref t), (.int at0), (.int cn)] below meth c s₁ [] 0 0 := Stand.of_body Bd
  have e0 : s₁.heap = h0 := by rw [← hh, Bd.state]; rfl
  have N0 := Fr.nil n0
  refine ow_entry (Q := (Q8 Z o t at0 cn rb kb re ke rt kt xs es sz k z xt A h0 n0)) (ce := 0) (sl := 0) (ef_8 m o t at0 cn) ?_
  subst hat hc
  obtain ⟨oE, oB, oN, oT, oS, oZ, aB, aE, aT⟩ := hO'
  refine ow_aloadN K X0 (pc' := 1) o d8_0 rfl rfl ?_
  refine ow_getF K X0 (pc' := 4) e0 (hw _ (List.mem_of_getElem? (i := 16) rfl)) oT d8_1 rfl ?_
  intro T1 X1 e1
  refine ow_len K X1 (pc' := 5) e1 aT d8_4 rfl ?_
  refine ow_iconst K X1 (pc' := 6) (1 : Int32) d8_5 rfl (by decide) ?_
  refine ow_isub K X1 (pc' := 7) (31 : Int32) d8_6 rfl (by decide) ?_
  refine ow_istore K X1 (pc' := 9) (Ls' := #[.val (.ref o), .val (.ref t), .val (.int (0 : Int32)), .val (.int (Int32.ofNat A)), .val (.int (31 : Int32)), .unset]) d8_7 rfl rfl ?_
  refine ow_aloadN K X1 (pc' := 10) t d8_9 rfl rfl ?_
  refine ow_iloadN K X1 (pc' := 11) (0 : Int32) d8_10 rfl rfl ?_
  refine ow_iloadN K X1 (pc' := 12) (Int32.ofNat A) d8_11 rfl rfl ?_
  refine ow_callS K X1 (pc' := 15) e1 (y := (⟨"com/example/meritgrid/meritgrid/TextIndex", "hash", "([BII)I"⟩ : MethodName)) (rm5 l Z a0 hw [] t (0 : Int32) (Int32.ofNat A) k z xt A h0 n0 Z0 rfl rfl F hA hA') (hw _ (List.mem_of_getElem? (i := 34) rfl)) (hw _ (List.mem_of_getElem? (i := 35) rfl)) (hw _ (List.mem_of_getElem? (i := 4) rfl)) (hw _ (List.mem_of_getElem? (i := 36) rfl)) (by decide) (st := []) 0 (Nat.le_of_eq rfl) (by decide) (by decide) (by decide) (by decide) rfl [.ref t, .int (0 : Int32), .int (Int32.ofNat A)] rfl (lenOf pd_5 rfl) rfl d8_12 rfl ?_
  intro v2 T2 L2 X2 hQ2
  obtain ⟨u1, rfl, NNh, exh⟩ := hQ2
  have NXh := Fr.app N0 NNh
  refine ow_at (g := (mkF m 15 #[.val (.ref o), .val (.ref t), .val (.int (0 : Int32)), .val (.int (Int32.ofNat A)), .val (.int (31 : Int32)), .unset] [.int u1])) ?_
  refine ow_ldcI K X2 (pc' := 17) (-1640531527 : Int32) d8_15 rfl (hw _ (List.mem_of_getElem? (i := 37) rfl)) ?_
  refine ow_imul K X2 (pc' := 18) (u1 * (-1640531527 : Int32)) d8_17 rfl rfl ?_
  refine ow_aloadN K X2 (pc' := 19) o d8_18 rfl rfl ?_
  refine ow_getF K X2 (pc' := 22) exh (hw _ (List.mem_of_getElem? (i := 23) rfl)) oS d8_19 rfl ?_
  intro T3 X3 e3
  obtain ⟨i, hi, hu⟩ := own_ushr27 (u1 * (-1640531527 : Int32))
  refine ow_iushr K X3 (pc' := 23) (Int32.ofNat i) d8_22 rfl hu ?_
  refine ow_istore K X3 (pc' := 25) (Ls' := #[.val (.ref o), .val (.ref t), .val (.int (0 : Int32)), .val (.int (Int32.ofNat A)), .val (.int (31 : Int32)), .val (.int (Int32.ofNat i))]) d8_23 rfl rfl ?_
  refine ow_aloadN K X3 (pc' := 26) o d8_25 rfl rfl ?_
  refine ow_getF K X3 (pc' := 29) e3 (hw _ (List.mem_of_getElem? (i := 16) rfl)) oT d8_26 rfl ?_
  intro T4 X4 e4
  refine ow_iload K X4 (pc' := 31) (Int32.ofNat i) d8_29 rfl rfl ?_
  refine ow_iaload K X4 (pc' := 32) e4 aT i (.int (own_t0.getD i 0)) (ow_ix_nat (by omega)) (by show i < 32; omega) (own_bl_at _ _) d8_31 rfl ?_
  refine ow_ifY K X4 (pc' := 66) d8_32 (XT.i0_eq_t (own_t0_at i)) (by decide) (by decide) ?_
  refine ow_iload K X4 (pc' := 68) (Int32.ofNat i) d8_66 rfl rfl ?_
  exact ow_retI K X4 .int rfl rfl (Or.inl rfl) d8_68 ⟨i, rfl, hi, NXh, e4⟩ (by decide) (by decide)
theorem d9_0 : decode prog_31_method_9_code 0 = .ok (.aload_n 0, 1) := by decide +kernel
theorem d9_1 : decode prog_31_method_9_code 1 = .ok (.getfield 17, 3) := by decide +kernel
theorem d9_4 : decode prog_31_method_9_code 4 = .ok (.arraylength, 1) := by decide +kernel
theorem d9_5 : decode prog_31_method_9_code 5 = .ok (.iconst 1, 1) := by decide +kernel
theorem d9_6 : decode prog_31_method_9_code 6 = .ok (.isub, 1) := by decide +kernel
theorem d9_7 : decode prog_31_method_9_code 7 = .ok (.istore 4, 2) := by decide +kernel
theorem d9_9 : decode prog_31_method_9_code 9 = .ok (.aload_n 1, 1) := by decide +kernel
theorem d9_10 : decode prog_31_method_9_code 10 = .ok (.iload_n 2, 1) := by decide +kernel
theorem d9_11 : decode prog_31_method_9_code 11 = .ok (.iload_n 3, 1) := by decide +kernel
theorem d9_12 : decode prog_31_method_9_code 12 = .ok (.invokestatic 86, 3) := by decide +kernel
theorem d9_15 : decode prog_31_method_9_code 15 = .ok (.ldc 89, 2) := by decide +kernel
theorem d9_17 : decode prog_31_method_9_code 17 = .ok (.imul, 1) := by decide +kernel
theorem d9_18 : decode prog_31_method_9_code 18 = .ok (.aload_n 0, 1) := by decide +kernel
theorem d9_19 : decode prog_31_method_9_code 19 = .ok (.getfield 26, 3) := by decide +kernel
theorem d9_22 : decode prog_31_method_9_code 22 = .ok (.iushr, 1) := by decide +kernel
theorem d9_23 : decode prog_31_method_9_code 23 = .ok (.istore 5, 2) := by decide +kernel
theorem d9_25 : decode prog_31_method_9_code 25 = .ok (.aload_n 0, 1) := by decide +kernel
theorem d9_26 : decode prog_31_method_9_code 26 = .ok (.getfield 17, 3) := by decide +kernel
theorem d9_29 : decode prog_31_method_9_code 29 = .ok (.iload 5, 2) := by decide +kernel
theorem d9_31 : decode prog_31_method_9_code 31 = .ok (.iaload, 1) := by decide +kernel
theorem d9_32 : decode prog_31_method_9_code 32 = .ok (.ifCond .eq 34, 3) := by decide +kernel
theorem d9_35 : decode prog_31_method_9_code 35 = .ok (.aload_n 0, 1) := by decide +kernel
theorem d9_36 : decode prog_31_method_9_code 36 = .ok (.aload_n 0, 1) := by decide +kernel
theorem d9_37 : decode prog_31_method_9_code 37 = .ok (.getfield 17, 3) := by decide +kernel
theorem d9_40 : decode prog_31_method_9_code 40 = .ok (.iload 5, 2) := by decide +kernel
theorem d9_42 : decode prog_31_method_9_code 42 = .ok (.iaload, 1) := by decide +kernel
theorem d9_43 : decode prog_31_method_9_code 43 = .ok (.iconst 1, 1) := by decide +kernel
theorem d9_44 : decode prog_31_method_9_code 44 = .ok (.isub, 1) := by decide +kernel
theorem d9_45 : decode prog_31_method_9_code 45 = .ok (.aload_n 1, 1) := by decide +kernel
theorem d9_46 : decode prog_31_method_9_code 46 = .ok (.iload_n 2, 1) := by decide +kernel
theorem d9_47 : decode prog_31_method_9_code 47 = .ok (.iload_n 3, 1) := by decide +kernel
theorem d9_48 : decode prog_31_method_9_code 48 = .ok (.invokevirtual 90, 3) := by decide +kernel
theorem d9_51 : decode prog_31_method_9_code 51 = .ok (.ifCond .ne 15, 3) := by decide +kernel
theorem d9_54 : decode prog_31_method_9_code 54 = .ok (.iload 5, 2) := by decide +kernel
theorem d9_56 : decode prog_31_method_9_code 56 = .ok (.iconst 1, 1) := by decide +kernel
theorem d9_57 : decode prog_31_method_9_code 57 = .ok (.iadd, 1) := by decide +kernel
theorem d9_58 : decode prog_31_method_9_code 58 = .ok (.iload 4, 2) := by decide +kernel
theorem d9_60 : decode prog_31_method_9_code 60 = .ok (.iand, 1) := by decide +kernel
theorem d9_61 : decode prog_31_method_9_code 61 = .ok (.istore 5, 2) := by decide +kernel
theorem d9_63 : decode prog_31_method_9_code 63 = .ok (.goto (-38), 3) := by decide +kernel
theorem d9_66 : decode prog_31_method_9_code 66 = .ok (.iload 5, 2) := by decide +kernel
theorem d9_68 : decode prog_31_method_9_code 68 = .ok (.ireturn, 1) := by decide +kernel
theorem pn_9 : plainFor (⟨"com/example/meritgrid/meritgrid/TextIndex", "place", "([BII)I"⟩ : MethodName) = true := by first | exact plainFor_of_name (by first | (simp [plainName, overriddenIn]; done) | decide +kernel) | decide +kernel
theorem pd_9 : parseMethodDescriptor "([BII)I" = some ⟨[(.array .byte), .int, .int], some .int⟩ := by decide +kernel
theorem ef_9 (m : MethodId) (o : Addr) (t : Addr) (at0 : Int32) (cn : Int32) : entryFrame m #[(.ref o), (.ref t), (.int at0), (.int cn)] 6 = mkF m 0 #[.val (.ref o), .val (.ref t), .val (.int at0), .val (.int cn), .unset, .unset] [] := by first | (simp [entryFrame, mkF, argsToLocals, Value.category]; done) | rfl
def Q9 (Z : State) (o : Addr) (t : Addr) (at0 : Int32) (cn : Int32) (rb : Addr) (kb : ClassId) (re : Addr) (ke : ClassId) (rt : Addr) (kt : ClassId) (xs : List Int32) (es : List Int32) (sz : Int32) (k : ClassId) (z : Int32) (xt : List Int32) (A : Nat) (i1 : Nat) (ln : Nat) (h0 : Heap) (n0 : Nat) (v : Option Value) (h : Heap) (L : List Loc) : Prop := ∃ i : Nat, v = some (.int (Int32.ofNat i)) ∧ i < 32 ∧ Fr n0 L ∧ h = h0
set_option maxRecDepth 65536 in
set_option maxHeartbeats 40000000 in
theorem rm9 (l : Launch) (Z : State) (a0 : Array Value) (hw : ∀ d ∈ tables_1, d.before a0 Z = true) (ws : List Jvm.Cond) (o : Addr) (t : Addr) (at0 : Int32) (cn : Int32) (rb : Addr) (kb : ClassId) (re : Addr) (ke : ClassId) (rt : Addr) (kt : ClassId) (xs : List Int32) (es : List Int32) (sz : Int32) (k : ClassId) (z : Int32) (xt : List Int32) (A : Nat) (i1 : Nat) (ln : Nat) (h0 : Heap) (n0 : Nat) (Z0 : n0 ≤ h0.size) (hO : own_O Z h0 o rb kb re ke rt kt xs es (own_t0.set i1 1) sz) (hO' : own_O Z h0 o rb kb re ke rt kt xs es (own_t0.set i1 1) sz) (hat : at0 = 0) (hc : cn = Int32.ofNat A) (F : Arv Z h0 t k .byte z (own_bl xt) (.int 0)) (hA : A ≤ z.toNatClampNeg) (hA' : A ≤ 3) (hi1 : i1 < 32) (hen : es.getD 0 0 = Int32.ofNat ln) (hln : ln ≤ 3) :
    MetFree l (⟨"com/example/meritgrid/meritgrid/TextIndex", "place", "([BII)I"⟩ : MethodName) (head1 (Jvm.Cond.code (⟨"com/example/meritgrid/meritgrid/TextIndex", "place", "([BII)I"⟩ : MethodName) prog_31_method_9_code 6 (some .int) :: ws) ({ frames := 2, cells := 0, slots := 0, locals := 40 } : Room)) (fun as_ U => as_ = #[(.ref o), (.ref t), (.int at0), (.int cn)] ∧ Z.Warmed39 U.vm ∧ U.heap = h0) (fun _ _ _ _ _ => True) (fun _ U oc U' => ∃ v L, oc = .returned v ∧ Q9 Z o t at0 cn rb kb re ke rt kt xs es sz k z xt A i1 ln h0 n0 v U'.heap L ∧ FrameEnd U oc U' L ({ frames := 2, cells := 0, slots := 0, locals := 40 } : Room).cells ({ frames := 2, cells := 0, slots := 0, locals := 40 } : Room).slots) := by
  refine MetFree.of_bodySF pn_9 hisR ?_
  intro p e s m args below meth c s₁ Bd hml0 hP hK
  obtain ⟨rfl, hZ, hh⟩ := hP
  have K : ow_K p e below s m meth c Z "com/example/meritgrid/meritgrid/TextIndex" prog_31_method_9_code 6 (some .int) "place" (ow_Gl p e below s (Q9 Z o t at0 cn rb kb re ke rt kt xs es sz k z xt A i1 ln h0 n0) 0 0) := ⟨ow_Gl_bc, Bd.exec, Bd.bytes, hml0, findClass_of_methodNamed Bd.named, hZ, Bd.returns, Bd.notSynchronized, (name_of_methodNamed Bd.named Bd.method).1⟩
  have X0 : Stand p l e ({ frames := 2, cells := 0, slots := 0, locals := 40 } : Room) s m #[(.ref o), (.ref t), (.int at0), (.int cn)] below meth c s₁ [] 0 0 := Stand.of_body Bd
  have e0 : s₁.heap = h0 := by rw [← hh, Bd.state]; rfl
  have N0 := Fr.nil n0
  refine ow_entry (Q := (Q9 Z o t at0 cn rb kb re ke rt kt xs es sz k z xt A i1 ln h0 n0)) (ce := 0) (sl := 0) (ef_9 m o t at0 cn) ?_
  subst hat hc
  obtain ⟨oE, oB, oN, oT, oS, oZ, aB, aE, aT⟩ := hO'
  refine ow_aloadN K X0 (pc' := 1) o d9_0 rfl rfl ?_
  refine ow_getF K X0 (pc' := 4) e0 (hw _ (List.mem_of_getElem? (i := 16) rfl)) oT d9_1 rfl ?_
  intro T1 X1 e1
  refine ow_len K X1 (pc' := 5) e1 aT d9_4 rfl ?_
  refine ow_iconst K X1 (pc' := 6) (1 : Int32) d9_5 rfl (by decide) ?_
  refine ow_isub K X1 (pc' := 7) (31 : Int32) d9_6 rfl (by decide) ?_
  refine ow_istore K X1 (pc' := 9) (Ls' := #[.val (.ref o), .val (.ref t), .val (.int (0 : Int32)), .val (.int (Int32.ofNat A)), .val (.int (31 : Int32)), .unset]) d9_7 rfl rfl ?_
  refine ow_aloadN K X1 (pc' := 10) t d9_9 rfl rfl ?_
  refine ow_iloadN K X1 (pc' := 11) (0 : Int32) d9_10 rfl rfl ?_
  refine ow_iloadN K X1 (pc' := 12) (Int32.ofNat A) d9_11 rfl rfl ?_
  refine ow_callS K X1 (pc' := 15) e1 (y := (⟨"com/example/meritgrid/meritgrid/TextIndex", "hash", "([BII)I"⟩ : MethodName)) (rm5 l Z a0 hw [] t (0 : Int32) (Int32.ofNat A) k z xt A h0 n0 Z0 rfl rfl F hA hA') (hw _ (List.mem_of_getElem? (i := 34) rfl)) (hw _ (List.mem_of_getElem? (i := 35) rfl)) (hw _ (List.mem_of_getElem? (i := 4) rfl)) (hw _ (List.mem_of_getElem? (i := 36) rfl)) (by decide) (st := []) 0 (Nat.le_of_eq rfl) (by decide) (by decide) (by decide) (by decide) rfl [.ref t, .int (0 : Int32), .int (Int32.ofNat A)] rfl (lenOf pd_5 rfl) rfl d9_12 rfl ?_
  intro v2 T2 L2 X2 hQ2
  obtain ⟨u1, rfl, NNh, exh⟩ := hQ2
  have NXh := Fr.app N0 NNh
  refine ow_at (g := (mkF m 15 #[.val (.ref o), .val (.ref t), .val (.int (0 : Int32)), .val (.int (Int32.ofNat A)), .val (.int (31 : Int32)), .unset] [.int u1])) ?_
  refine ow_ldcI K X2 (pc' := 17) (-1640531527 : Int32) d9_15 rfl (hw _ (List.mem_of_getElem? (i := 37) rfl)) ?_
  refine ow_imul K X2 (pc' := 18) (u1 * (-1640531527 : Int32)) d9_17 rfl rfl ?_
  refine ow_aloadN K X2 (pc' := 19) o d9_18 rfl rfl ?_
  refine ow_getF K X2 (pc' := 22) exh (hw _ (List.mem_of_getElem? (i := 23) rfl)) oS d9_19 rfl ?_
  intro T3 X3 e3
  obtain ⟨i, hi, hu⟩ := own_ushr27 (u1 * (-1640531527 : Int32))
  refine ow_iushr K X3 (pc' := 23) (Int32.ofNat i) d9_22 rfl hu ?_
  refine ow_istore K X3 (pc' := 25) (Ls' := #[.val (.ref o), .val (.ref t), .val (.int (0 : Int32)), .val (.int (Int32.ofNat A)), .val (.int (31 : Int32)), .val (.int (Int32.ofNat i))]) d9_23 rfl rfl ?_
  refine ow_aloadN K X3 (pc' := 26) o d9_25 rfl rfl ?_
  refine ow_getF K X3 (pc' := 29) e3 (hw _ (List.mem_of_getElem? (i := 16) rfl)) oT d9_26 rfl ?_
  intro T4 X4 e4
  refine ow_iload K X4 (pc' := 31) (Int32.ofNat i) d9_29 rfl rfl ?_
  refine ow_iaload K X4 (pc' := 32) e4 aT i (.int ((own_t0.set i1 1).getD i 0)) (ow_ix_nat (by omega)) (by show i < 32; omega) (own_bl_at _ _) d9_31 rfl ?_
  have hti := own_t1_at (j := i) 1 hi1
  by_cases hz : ((own_t0.set i1 1).getD i 0) = 0
  · refine ow_ifY K X4 (pc' := 66) d9_32 (XT.i0_eq_t hz) (by decide) (by decide) ?_
    refine ow_iload K X4 (pc' := 68) (Int32.ofNat i) d9_66 rfl rfl ?_
    exact ow_retI K X4 .int rfl rfl (Or.inl rfl) d9_68 ⟨i, rfl, (by omega), NXh, e4⟩ (by decide) (by decide)
  · refine ow_ifN K X4 (pc' := 35) d9_32 rfl (XT.i0_eq_f hz) ?_
    have e1 : i1 = i := Classical.byContradiction fun q => hz (by rw [hti, if_neg q])
    rw [if_pos e1] at hti
    refine ow_aloadN K X4 (pc' := 36) o d9_35 rfl rfl ?_
    refine ow_aloadN K X4 (pc' := 37) o d9_36 rfl rfl ?_
    refine ow_getF K X4 (pc' := 40) e4 (hw _ (List.mem_of_getElem? (i := 16) rfl)) oT d9_37 rfl ?_
    intro T5 X5 e5
    refine ow_iload K X5 (pc' := 42) (Int32.ofNat i) d9_40 rfl rfl ?_
    refine ow_iaload K X5 (pc' := 43) e5 aT i (.int (1 : Int32)) (ow_ix_nat (by omega)) (by show i < 32; omega) (by rw [own_bl_at, hti]) d9_42 rfl ?_
    refine ow_iconst K X5 (pc' := 44) (1 : Int32) d9_43 rfl (by decide) ?_
    refine ow_isub K X5 (pc' := 45) (0 : Int32) d9_44 rfl (by decide) ?_
    refine ow_aloadN K X5 (pc' := 46) t d9_45 rfl rfl ?_
    refine ow_iloadN K X5 (pc' := 47) (0 : Int32) d9_46 rfl rfl ?_
    refine ow_iloadN K X5 (pc' := 48) (Int32.ofNat A) d9_47 rfl rfl ?_
    refine ow_callV K X5 (pc' := 51) e5 (y := (⟨"com/example/meritgrid/meritgrid/TextIndex", "holds", "(I[BII)Z"⟩ : MethodName)) (rm7 l Z a0 hw [] o (0 : Int32) t (0 : Int32) (Int32.ofNat A) rb kb re ke rt kt xs es (own_t0.set i1 1) sz k z xt 0 ln 0 A 0 h0 n0 Z0 rfl (by rw [Nat.zero_add]) hO hO F (Or.inl ⟨rfl, rfl⟩) ⟨by decide, by decide⟩ (by decide) (by rw [Nat.zero_add]; exact hen) (by omega) (by omega) (by omega)) oE (hw _ (List.mem_of_getElem? (i := 44) rfl)) (hw _ (List.mem_of_getElem? (i := 45) rfl)) (hw _ (List.mem_of_getElem? (i := 47) rfl)) (hw _ (List.mem_of_getElem? (i := 46) rfl)) (hw _ (List.mem_of_getElem? (i := 4) rfl)) (hw _ (List.mem_of_getElem? (i := 48) rfl)) (by decide) (st := []) 0 (Nat.le_of_eq rfl) (by decide) (by decide) (by decide) (by decide) rfl [.int (0 : Int32), .ref t, .int (0 : Int32), .int (Int32.ofNat A)] rfl (lenOf pd_7 rfl) rfl d9_48 rfl ?_
    intro v6 T6 L6 X6 hQ6
    obtain ⟨hv, NNk, exk⟩ := hQ6
    have NXk := Fr.app NXh NNk
    rcases hv with ⟨rfl, -⟩ | ⟨rfl, -⟩
    · refine ow_at (g := (mkF m 51 #[.val (.ref o), .val (.ref t), .val (.int (0 : Int32)), .val (.int (Int32.ofNat A)), .val (.int (31 : Int32)), .val (.int (Int32.ofNat i))] [.int (1 : Int32)])) ?_
      refine ow_ifY K X6 (pc' := 66) d9_51 (XT.i0_ne_t (by decide)) (by decide) (by decide) ?_
      refine ow_iload K X6 (pc' := 68) (Int32.ofNat i) d9_66 rfl rfl ?_
      exact ow_retI K X6 .int rfl rfl (Or.inl rfl) d9_68 ⟨i, rfl, (by omega), NXk, exk⟩ (by decide) (by decide)
    · refine ow_at (g := (mkF m 51 #[.val (.ref o), .val (.ref t), .val (.int (0 : Int32)), .val (.int (Int32.ofNat A)), .val (.int (31 : Int32)), .val (.int (Int32.ofNat i))] [.int (0 : Int32)])) ?_
      refine ow_ifN K X6 (pc' := 54) d9_51 rfl (XT.i0_ne_f (by decide)) ?_
      obtain ⟨j, hj, hji, hjj⟩ := own_mask31 hi
      refine ow_iload K X6 (pc' := 56) (Int32.ofNat i) d9_54 rfl rfl ?_
      refine ow_iconst K X6 (pc' := 57) (1 : Int32) d9_56 rfl (by decide) ?_
      refine ow_iadd K X6 (pc' := 58) ((Int32.ofNat i) + (1 : Int32)) d9_57 rfl rfl ?_
      refine ow_iload K X6 (pc' := 60) (31 : Int32) d9_58 rfl rfl ?_
      refine ow_iand K X6 (pc' := 61) (Int32.ofNat j) d9_60 rfl hjj ?_
      refine ow_istore K X6 (pc' := 63) (Ls' := #[.val (.ref o), .val (.ref t), .val (.int (0 : Int32)), .val (.int (Int32.ofNat A)), .val (.int (31 : Int32)), .val (.int (Int32.ofNat j))]) d9_61 rfl rfl ?_
      refine ow_goto K X6 (pc' := 25) d9_63 (by decide) (by decide) ?_
      refine ow_aloadN K X6 (pc' := 26) o d9_25 rfl rfl ?_
      refine ow_getF K X6 (pc' := 29) exk (hw _ (List.mem_of_getElem? (i := 16) rfl)) oT d9_26 rfl ?_
      intro T7 X7 e7
      refine ow_iload K X7 (pc' := 31) (Int32.ofNat j) d9_29 rfl rfl ?_
      refine ow_iaload K X7 (pc' := 32) e7 aT j (.int ((own_t0.set i1 1).getD j 0)) (ow_ix_nat (by omega)) (by show j < 32; omega) (own_bl_at _ _) d9_31 rfl ?_
      refine ow_ifY K X7 (pc' := 66) d9_32 (XT.i0_eq_t (by rw [own_t1_at 1 hi1, if_neg (by omega)])) (by decide) (by decide) ?_
      refine ow_iload K X7 (pc' := 68) (Int32.ofNat j) d9_66 rfl rfl ?_
      exact ow_retI K X7 .int rfl rfl (Or.inl rfl) d9_68 ⟨j, rfl, (by omega), NXk, e7⟩ (by decide) (by decide)
theorem d10_0 : decode prog_31_method_3_code 0 = .ok (.aload_n 0, 1) := by decide +kernel
theorem d10_1 : decode prog_31_method_3_code 1 = .ok (.aload_n 1, 1) := by decide +kernel
theorem d10_2 : decode prog_31_method_3_code 2 = .ok (.iload_n 2, 1) := by decide +kernel
theorem d10_3 : decode prog_31_method_3_code 3 = .ok (.iload_n 3, 1) := by decide +kernel
theorem d10_4 : decode prog_31_method_3_code 4 = .ok (.invokevirtual 46, 3) := by decide +kernel
theorem d10_7 : decode prog_31_method_3_code 7 = .ok (.istore 4, 2) := by decide +kernel
theorem d10_9 : decode prog_31_method_3_code 9 = .ok (.aload_n 0, 1) := by decide +kernel
theorem d10_10 : decode prog_31_method_3_code 10 = .ok (.getfield 17, 3) := by decide +kernel
theorem d10_13 : decode prog_31_method_3_code 13 = .ok (.iload 4, 2) := by decide +kernel
theorem d10_15 : decode prog_31_method_3_code 15 = .ok (.iaload, 1) := by decide +kernel
theorem d10_16 : decode prog_31_method_3_code 16 = .ok (.ifCond .eq 13, 3) := by decide +kernel
theorem d10_19 : decode prog_31_method_3_code 19 = .ok (.aload_n 0, 1) := by decide +kernel
theorem d10_20 : decode prog_31_method_3_code 20 = .ok (.getfield 17, 3) := by decide +kernel
theorem d10_23 : decode prog_31_method_3_code 23 = .ok (.iload 4, 2) := by decide +kernel
theorem d10_25 : decode prog_31_method_3_code 25 = .ok (.iaload, 1) := by decide +kernel
theorem d10_26 : decode prog_31_method_3_code 26 = .ok (.iconst 1, 1) := by decide +kernel
theorem d10_27 : decode prog_31_method_3_code 27 = .ok (.isub, 1) := by decide +kernel
theorem d10_28 : decode prog_31_method_3_code 28 = .ok (.ireturn, 1) := by decide +kernel
theorem d10_29 : decode prog_31_method_3_code 29 = .ok (.iconst 2, 1) := by decide +kernel
theorem d10_30 : decode prog_31_method_3_code 30 = .ok (.aload_n 0, 1) := by decide +kernel
theorem d10_31 : decode prog_31_method_3_code 31 = .ok (.getfield 49, 3) := by decide +kernel
theorem d10_34 : decode prog_31_method_3_code 34 = .ok (.iconst 1, 1) := by decide +kernel
theorem d10_35 : decode prog_31_method_3_code 35 = .ok (.iadd, 1) := by decide +kernel
theorem d10_36 : decode prog_31_method_3_code 36 = .ok (.imul, 1) := by decide +kernel
theorem d10_37 : decode prog_31_method_3_code 37 = .ok (.aload_n 0, 1) := by decide +kernel
theorem d10_38 : decode prog_31_method_3_code 38 = .ok (.getfield 17, 3) := by decide +kernel
theorem d10_41 : decode prog_31_method_3_code 41 = .ok (.arraylength, 1) := by decide +kernel
theorem d10_42 : decode prog_31_method_3_code 42 = .ok (.if_icmp .le 23, 3) := by decide +kernel
theorem d10_45 : decode prog_31_method_3_code 45 = .ok (.aload_n 0, 1) := by decide +kernel
theorem d10_46 : decode prog_31_method_3_code 46 = .ok (.aload_n 0, 1) := by decide +kernel
theorem d10_47 : decode prog_31_method_3_code 47 = .ok (.getfield 17, 3) := by decide +kernel
theorem d10_50 : decode prog_31_method_3_code 50 = .ok (.arraylength, 1) := by decide +kernel
theorem d10_51 : decode prog_31_method_3_code 51 = .ok (.iconst 2, 1) := by decide +kernel
theorem d10_52 : decode prog_31_method_3_code 52 = .ok (.imul, 1) := by decide +kernel
theorem d10_53 : decode prog_31_method_3_code 53 = .ok (.invokevirtual 52, 3) := by decide +kernel
theorem d10_56 : decode prog_31_method_3_code 56 = .ok (.aload_n 0, 1) := by decide +kernel
theorem d10_57 : decode prog_31_method_3_code 57 = .ok (.aload_n 1, 1) := by decide +kernel
theorem d10_58 : decode prog_31_method_3_code 58 = .ok (.iload_n 2, 1) := by decide +kernel
theorem d10_59 : decode prog_31_method_3_code 59 = .ok (.iload_n 3, 1) := by decide +kernel
theorem d10_60 : decode prog_31_method_3_code 60 = .ok (.invokevirtual 46, 3) := by decide +kernel
theorem d10_63 : decode prog_31_method_3_code 63 = .ok (.istore 4, 2) := by decide +kernel
theorem d10_65 : decode prog_31_method_3_code 65 = .ok (.aload_n 0, 1) := by decide +kernel
theorem d10_66 : decode prog_31_method_3_code 66 = .ok (.getfield 49, 3) := by decide +kernel
theorem d10_69 : decode prog_31_method_3_code 69 = .ok (.ifCond .ne 7, 3) := by decide +kernel
theorem d10_72 : decode prog_31_method_3_code 72 = .ok (.iconst 0, 1) := by decide +kernel
theorem d10_73 : decode prog_31_method_3_code 73 = .ok (.goto 14, 3) := by decide +kernel
theorem d10_76 : decode prog_31_method_3_code 76 = .ok (.aload_n 0, 1) := by decide +kernel
theorem d10_77 : decode prog_31_method_3_code 77 = .ok (.getfield 13, 3) := by decide +kernel
theorem d10_80 : decode prog_31_method_3_code 80 = .ok (.aload_n 0, 1) := by decide +kernel
theorem d10_81 : decode prog_31_method_3_code 81 = .ok (.getfield 49, 3) := by decide +kernel
theorem d10_84 : decode prog_31_method_3_code 84 = .ok (.iconst 1, 1) := by decide +kernel
theorem d10_85 : decode prog_31_method_3_code 85 = .ok (.isub, 1) := by decide +kernel
theorem d10_86 : decode prog_31_method_3_code 86 = .ok (.iaload, 1) := by decide +kernel
theorem d10_87 : decode prog_31_method_3_code 87 = .ok (.istore 5, 2) := by decide +kernel
theorem d10_89 : decode prog_31_method_3_code 89 = .ok (.iload 5, 2) := by decide +kernel
theorem d10_91 : decode prog_31_method_3_code 91 = .ok (.iload_n 3, 1) := by decide +kernel
theorem d10_92 : decode prog_31_method_3_code 92 = .ok (.iadd, 1) := by decide +kernel
theorem d10_93 : decode prog_31_method_3_code 93 = .ok (.iload_n 2, 1) := by decide +kernel
theorem d10_94 : decode prog_31_method_3_code 94 = .ok (.isub, 1) := by decide +kernel
theorem d10_95 : decode prog_31_method_3_code 95 = .ok (.istore 6, 2) := by decide +kernel
theorem d10_97 : decode prog_31_method_3_code 97 = .ok (.iload 6, 2) := by decide +kernel
theorem d10_99 : decode prog_31_method_3_code 99 = .ok (.aload_n 0, 1) := by decide +kernel
theorem d10_100 : decode prog_31_method_3_code 100 = .ok (.getfield 9, 3) := by decide +kernel
theorem d10_103 : decode prog_31_method_3_code 103 = .ok (.arraylength, 1) := by decide +kernel
theorem d10_104 : decode prog_31_method_3_code 104 = .ok (.if_icmp .le 26, 3) := by decide +kernel
theorem d10_107 : decode prog_31_method_3_code 107 = .ok (.aload_n 0, 1) := by decide +kernel
theorem d10_108 : decode prog_31_method_3_code 108 = .ok (.aload_n 0, 1) := by decide +kernel
theorem d10_109 : decode prog_31_method_3_code 109 = .ok (.getfield 9, 3) := by decide +kernel
theorem d10_112 : decode prog_31_method_3_code 112 = .ok (.iload 6, 2) := by decide +kernel
theorem d10_114 : decode prog_31_method_3_code 114 = .ok (.aload_n 0, 1) := by decide +kernel
theorem d10_115 : decode prog_31_method_3_code 115 = .ok (.getfield 9, 3) := by decide +kernel
theorem d10_118 : decode prog_31_method_3_code 118 = .ok (.arraylength, 1) := by decide +kernel
theorem d10_119 : decode prog_31_method_3_code 119 = .ok (.iconst 2, 1) := by decide +kernel
theorem d10_120 : decode prog_31_method_3_code 120 = .ok (.imul, 1) := by decide +kernel
theorem d10_121 : decode prog_31_method_3_code 121 = .ok (.invokestatic 56, 3) := by decide +kernel
theorem d10_124 : decode prog_31_method_3_code 124 = .ok (.invokestatic 62, 3) := by decide +kernel
theorem d10_127 : decode prog_31_method_3_code 127 = .ok (.putfield 9, 3) := by decide +kernel
theorem d10_130 : decode prog_31_method_3_code 130 = .ok (.aload_n 0, 1) := by decide +kernel
theorem d10_131 : decode prog_31_method_3_code 131 = .ok (.getfield 49, 3) := by decide +kernel
theorem d10_134 : decode prog_31_method_3_code 134 = .ok (.aload_n 0, 1) := by decide +kernel
theorem d10_135 : decode prog_31_method_3_code 135 = .ok (.getfield 13, 3) := by decide +kernel
theorem d10_138 : decode prog_31_method_3_code 138 = .ok (.arraylength, 1) := by decide +kernel
theorem d10_139 : decode prog_31_method_3_code 139 = .ok (.if_icmp .ne 20, 3) := by decide +kernel
theorem d10_142 : decode prog_31_method_3_code 142 = .ok (.aload_n 0, 1) := by decide +kernel
theorem d10_143 : decode prog_31_method_3_code 143 = .ok (.aload_n 0, 1) := by decide +kernel
theorem d10_144 : decode prog_31_method_3_code 144 = .ok (.getfield 13, 3) := by decide +kernel
theorem d10_147 : decode prog_31_method_3_code 147 = .ok (.aload_n 0, 1) := by decide +kernel
theorem d10_148 : decode prog_31_method_3_code 148 = .ok (.getfield 49, 3) := by decide +kernel
theorem d10_151 : decode prog_31_method_3_code 151 = .ok (.iconst 2, 1) := by decide +kernel
theorem d10_152 : decode prog_31_method_3_code 152 = .ok (.imul, 1) := by decide +kernel
theorem d10_153 : decode prog_31_method_3_code 153 = .ok (.invokestatic 68, 3) := by decide +kernel
theorem d10_156 : decode prog_31_method_3_code 156 = .ok (.putfield 13, 3) := by decide +kernel
theorem d10_159 : decode prog_31_method_3_code 159 = .ok (.aload_n 1, 1) := by decide +kernel
theorem d10_160 : decode prog_31_method_3_code 160 = .ok (.iload_n 2, 1) := by decide +kernel
theorem d10_161 : decode prog_31_method_3_code 161 = .ok (.aload_n 0, 1) := by decide +kernel
theorem d10_162 : decode prog_31_method_3_code 162 = .ok (.getfield 9, 3) := by decide +kernel
theorem d10_165 : decode prog_31_method_3_code 165 = .ok (.iload 5, 2) := by decide +kernel
theorem d10_167 : decode prog_31_method_3_code 167 = .ok (.iload_n 3, 1) := by decide +kernel
theorem d10_168 : decode prog_31_method_3_code 168 = .ok (.iload_n 2, 1) := by decide +kernel
theorem d10_169 : decode prog_31_method_3_code 169 = .ok (.isub, 1) := by decide +kernel
theorem d10_170 : decode prog_31_method_3_code 170 = .ok (.invokestatic 71, 3) := by decide +kernel
theorem d10_173 : decode prog_31_method_3_code 173 = .ok (.aload_n 0, 1) := by decide +kernel
theorem d10_174 : decode prog_31_method_3_code 174 = .ok (.getfield 13, 3) := by decide +kernel
theorem d10_177 : decode prog_31_method_3_code 177 = .ok (.aload_n 0, 1) := by decide +kernel
theorem d10_178 : decode prog_31_method_3_code 178 = .ok (.getfield 49, 3) := by decide +kernel
theorem d10_181 : decode prog_31_method_3_code 181 = .ok (.iload 6, 2) := by decide +kernel
theorem d10_183 : decode prog_31_method_3_code 183 = .ok (.iastore, 1) := by decide +kernel
theorem d10_184 : decode prog_31_method_3_code 184 = .ok (.aload_n 0, 1) := by decide +kernel
theorem d10_185 : decode prog_31_method_3_code 185 = .ok (.getfield 17, 3) := by decide +kernel
theorem d10_188 : decode prog_31_method_3_code 188 = .ok (.iload 4, 2) := by decide +kernel
theorem d10_190 : decode prog_31_method_3_code 190 = .ok (.aload_n 0, 1) := by decide +kernel
theorem d10_191 : decode prog_31_method_3_code 191 = .ok (.getfield 49, 3) := by decide +kernel
theorem d10_194 : decode prog_31_method_3_code 194 = .ok (.iconst 1, 1) := by decide +kernel
theorem d10_195 : decode prog_31_method_3_code 195 = .ok (.iadd, 1) := by decide +kernel
theorem d10_196 : decode prog_31_method_3_code 196 = .ok (.iastore, 1) := by decide +kernel
theorem d10_197 : decode prog_31_method_3_code 197 = .ok (.aload_n 0, 1) := by decide +kernel
theorem d10_198 : decode prog_31_method_3_code 198 = .ok (.dup, 1) := by decide +kernel
theorem d10_199 : decode prog_31_method_3_code 199 = .ok (.getfield 49, 3) := by decide +kernel
theorem d10_202 : decode prog_31_method_3_code 202 = .ok (.dup_x1, 1) := by decide +kernel
theorem d10_203 : decode prog_31_method_3_code 203 = .ok (.iconst 1, 1) := by decide +kernel
theorem d10_204 : decode prog_31_method_3_code 204 = .ok (.iadd, 1) := by decide +kernel
theorem d10_205 : decode prog_31_method_3_code 205 = .ok (.putfield 49, 3) := by decide +kernel
theorem d10_208 : decode prog_31_method_3_code 208 = .ok (.ireturn, 1) := by decide +kernel
theorem pn_10 : plainFor (⟨"com/example/meritgrid/meritgrid/TextIndex", "add", "([BII)I"⟩ : MethodName) = true := by first | exact plainFor_of_name (by first | (simp [plainName, overriddenIn]; done) | decide +kernel) | decide +kernel
theorem pd_10 : parseMethodDescriptor "([BII)I" = some ⟨[(.array .byte), .int, .int], some .int⟩ := by decide +kernel
theorem ef_10 (m : MethodId) (o : Addr) (t : Addr) (at0 : Int32) (cn : Int32) : entryFrame m #[(.ref o), (.ref t), (.int at0), (.int cn)] 7 = mkF m 0 #[.val (.ref o), .val (.ref t), .val (.int at0), .val (.int cn), .unset, .unset, .unset] [] := by first | (simp [entryFrame, mkF, argsToLocals, Value.category]; done) | rfl
def Q10 (Z : State) (o : Addr) (t : Addr) (at0 : Int32) (cn : Int32) (rb : Addr) (kb : ClassId) (re : Addr) (ke : ClassId) (rt : Addr) (kt : ClassId) (k : ClassId) (z : Int32) (xt : List Int32) (A : Nat) (h0 : Heap) (n0 : Nat) (v : Option Value) (h : Heap) (L : List Loc) : Prop := ∃ i : Nat, v = some (.int 0) ∧ i < 32 ∧ Fr n0 L ∧ n0 ≤ h.size ∧ Keep h0 h [o, rb, re, rt] ∧ own_O Z h o rb kb re ke rt kt ([] ++ xt.take A) ([] ++ [Int32.ofNat A]) (own_t0.set i 1) 1
set_option maxRecDepth 65536 in
set_option maxHeartbeats 40000000 in
theorem rm10 (l : Launch) (Z : State) (a0 : Array Value) (hw : ∀ d ∈ tables_1, d.before a0 Z = true) (ws : List Jvm.Cond) (o : Addr) (t : Addr) (at0 : Int32) (cn : Int32) (rb : Addr) (kb : ClassId) (re : Addr) (ke : ClassId) (rt : Addr) (kt : ClassId) (k : ClassId) (z : Int32) (xt : List Int32) (A : Nat) (h0 : Heap) (n0 : Nat) (Z0 : n0 ≤ h0.size) (hO : own_O Z h0 o rb kb re ke rt kt [] [] own_t0 0) (hO' : own_O Z h0 o rb kb re ke rt kt [] [] own_t0 0) (hD : own_D n0 o rb re rt) (hT : own_A t o rb re rt) (hat : at0 = 0) (hc : cn = Int32.ofNat A) (F : Arv Z h0 t k .byte z (own_bl xt) (.int 0)) (hA : A ≤ z.toNatClampNeg) (hA' : A ≤ 3) (hx3 : A ≤ xt.length) :
    MetFree l (⟨"com/example/meritgrid/meritgrid/TextIndex", "add", "([BII)I"⟩ : MethodName) (head1 (Jvm.Cond.code (⟨"com/example/meritgrid/meritgrid/TextIndex", "add", "([BII)I"⟩ : MethodName) prog_31_method_3_code 7 (some .int) :: ws) ({ frames := 3, cells := 0, slots := 0, locals := 70 } : Room)) (fun as_ U => as_ = #[(.ref o), (.ref t), (.int at0), (.int cn)] ∧ Z.Warmed39 U.vm ∧ U.heap = h0) (fun _ _ _ _ _ => True) (fun _ U oc U' => ∃ v L, oc = .returned v ∧ Q10 Z o t at0 cn rb kb re ke rt kt k z xt A h0 n0 v U'.heap L ∧ FrameEnd U oc U' L ({ frames := 3, cells := 0, slots := 0, locals := 70 } : Room).cells ({ frames := 3, cells := 0, slots := 0, locals := 70 } : Room).slots) := by
  refine MetFree.of_bodySF pn_10 hisR ?_
  intro p e s m args below meth c s₁ Bd hml0 hP hK
  obtain ⟨rfl, hZ, hh⟩ := hP
  have K : ow_K p e below s m meth c Z "com/example/meritgrid/meritgrid/TextIndex" prog_31_method_3_code 7 (some .int) "add" (ow_Gl p e below s (Q10 Z o t at0 cn rb kb re ke rt kt k z xt A h0 n0) 0 0) := ⟨ow_Gl_bc, Bd.exec, Bd.bytes, hml0, findClass_of_methodNamed Bd.named, hZ, Bd.returns, Bd.notSynchronized, (name_of_methodNamed Bd.named Bd.method).1⟩
  have X0 : Stand p l e ({ frames := 3, cells := 0, slots := 0, locals := 70 } : Room) s m #[(.ref o), (.ref t), (.int at0), (.int cn)] below meth c s₁ [] 0 0 := Stand.of_body Bd
  have e0 : s₁.heap = h0 := by rw [← hh, Bd.state]; rfl
  have N0 := Fr.nil n0
  refine ow_entry (Q := (Q10 Z o t at0 cn rb kb re ke rt kt k z xt A h0 n0)) (ce := 0) (sl := 0) (ef_10 m o t at0 cn) ?_
  subst hat hc
  obtain ⟨oE, oB, oN, oT, oS, oZ, aB, aE, aT⟩ := hO'
  obtain ⟨g_o, g_b, g_e, g_t, n_ob, n_oe, n_ot, n_be, n_bt, n_et⟩ := hD
  obtain ⟨mt0, mt1, mt2, mt3⟩ := hT
  refine ow_aloadN K X0 (pc' := 1) o d10_0 rfl rfl ?_
  refine ow_aloadN K X0 (pc' := 2) t d10_1 rfl rfl ?_
  refine ow_iloadN K X0 (pc' := 3) (0 : Int32) d10_2 rfl rfl ?_
  refine ow_iloadN K X0 (pc' := 4) (Int32.ofNat A) d10_3 rfl rfl ?_
  refine ow_callR K X0 (pc' := 7) e0 (y' := (⟨"com/example/meritgrid/meritgrid/TextIndex", "add", "([BII)I"⟩ : MethodName)) (y := (⟨"com/example/meritgrid/meritgrid/TextIndex", "place", "([BII)I"⟩ : MethodName)) (rm8 l Z a0 hw [] o t (0 : Int32) (Int32.ofNat A) rb kb re ke rt kt [] [] 0 k z xt A h0 n0 Z0 hO hO rfl rfl F hA hA') oE rfl (hw _ (List.mem_of_getElem? (i := 28) rfl)) (hw _ (List.mem_of_getElem? (i := 32) rfl)) (hw _ (List.mem_of_getElem? (i := 30) rfl)) (hw _ (List.mem_of_getElem? (i := 31) rfl)) (hw _ (List.mem_of_getElem? (i := 4) rfl)) (hw _ (List.mem_of_getElem? (i := 33) rfl)) (by decide) (st := []) 0 (Nat.le_of_eq rfl) (by decide) (by decide) (by decide) (by decide) rfl [.ref t, .int (0 : Int32), .int (Int32.ofNat A)] rfl (lenOf pd_8 rfl) rfl d10_4 rfl ?_
  intro v1 T1 L1 X1 hQ1
  obtain ⟨i, rfl, hi, NNp, exp⟩ := hQ1
  have NXp := Fr.app N0 NNp
  refine ow_at (g := (mkF m 7 #[.val (.ref o), .val (.ref t), .val (.int (0 : Int32)), .val (.int (Int32.ofNat A)), .unset, .unset, .unset] [.int (Int32.ofNat i)])) ?_
  refine ow_istore K X1 (pc' := 9) (Ls' := #[.val (.ref o), .val (.ref t), .val (.int (0 : Int32)), .val (.int (Int32.ofNat A)), .val (.int (Int32.ofNat i)), .unset, .unset]) d10_7 rfl rfl ?_
  refine ow_aloadN K X1 (pc' := 10) o d10_9 rfl rfl ?_
  refine ow_getF K X1 (pc' := 13) exp (hw _ (List.mem_of_getElem? (i := 16) rfl)) oT d10_10 rfl ?_
  intro T2 X2 e2
  refine ow_iload K X2 (pc' := 15) (Int32.ofNat i) d10_13 rfl rfl ?_
  refine ow_iaload K X2 (pc' := 16) e2 aT i (.int (own_t0.getD i 0)) (ow_ix_nat (by omega)) (by show i < 32; omega) (own_bl_at _ _) d10_15 rfl ?_
  refine ow_ifY K X2 (pc' := 29) d10_16 (XT.i0_eq_t (own_t0_at i)) (by decide) (by decide) ?_
  refine ow_iconst K X2 (pc' := 30) (2 : Int32) d10_29 rfl (by decide) ?_
  refine ow_aloadN K X2 (pc' := 31) o d10_30 rfl rfl ?_
  refine ow_getF K X2 (pc' := 34) e2 (hw _ (List.mem_of_getElem? (i := 38) rfl)) oZ d10_31 rfl ?_
  intro T3 X3 e3
  refine ow_iconst K X3 (pc' := 35) (1 : Int32) d10_34 rfl (by decide) ?_
  refine ow_iadd K X3 (pc' := 36) (1 : Int32) d10_35 rfl (by decide) ?_
  refine ow_imul K X3 (pc' := 37) (2 : Int32) d10_36 rfl (by decide) ?_
  refine ow_aloadN K X3 (pc' := 38) o d10_37 rfl rfl ?_
  refine ow_getF K X3 (pc' := 41) e3 (hw _ (List.mem_of_getElem? (i := 16) rfl)) oT d10_38 rfl ?_
  intro T4 X4 e4
  refine ow_len K X4 (pc' := 42) e4 aT d10_41 rfl ?_
  refine ow_icmpY K X4 (pc' := 65) d10_42 (XT.ii_le_t (by decide)) (by decide) (by decide) ?_
  refine ow_aloadN K X4 (pc' := 66) o d10_65 rfl rfl ?_
  refine ow_getF K X4 (pc' := 69) e4 (hw _ (List.mem_of_getElem? (i := 38) rfl)) oZ d10_66 rfl ?_
  intro T5 X5 e5
  refine ow_ifN K X5 (pc' := 72) d10_69 rfl (XT.i0_ne_f rfl) ?_
  refine ow_iconst K X5 (pc' := 73) (0 : Int32) d10_72 rfl (by decide) ?_
  refine ow_goto K X5 (pc' := 87) d10_73 (by decide) (by decide) ?_
  refine ow_istore K X5 (pc' := 89) (Ls' := #[.val (.ref o), .val (.ref t), .val (.int (0 : Int32)), .val (.int (Int32.ofNat A)), .val (.int (Int32.ofNat i)), .val (.int (0 : Int32)), .unset]) d10_87 rfl rfl ?_
  refine ow_iload K X5 (pc' := 91) (0 : Int32) d10_89 rfl rfl ?_
  refine ow_iloadN K X5 (pc' := 92) (Int32.ofNat A) d10_91 rfl rfl ?_
  refine ow_iadd K X5 (pc' := 93) (Int32.ofNat A) d10_92 rfl (Int32.zero_add _) ?_
  refine ow_iloadN K X5 (pc' := 94) (0 : Int32) d10_93 rfl rfl ?_
  refine ow_isub K X5 (pc' := 95) (Int32.ofNat A) d10_94 rfl (Int32.sub_zero _) ?_
  refine ow_istore K X5 (pc' := 97) (Ls' := #[.val (.ref o), .val (.ref t), .val (.int (0 : Int32)), .val (.int (Int32.ofNat A)), .val (.int (Int32.ofNat i)), .val (.int (0 : Int32)), .val (.int (Int32.ofNat A))]) d10_95 rfl rfl ?_
  refine ow_iload K X5 (pc' := 99) (Int32.ofNat A) d10_97 rfl rfl ?_
  refine ow_aloadN K X5 (pc' := 100) o d10_99 rfl rfl ?_
  refine ow_getF K X5 (pc' := 103) e5 (hw _ (List.mem_of_getElem? (i := 11) rfl)) oB d10_100 rfl ?_
  intro T6 X6 e6
  refine ow_len K X6 (pc' := 104) e6 aB d10_103 rfl ?_
  refine ow_icmpY K X6 (pc' := 130) d10_104 (XT.ii_le_t (own_gen (i := 128) (by omega) (by decide))) (by decide) (by decide) ?_
  refine ow_aloadN K X6 (pc' := 131) o d10_130 rfl rfl ?_
  refine ow_getF K X6 (pc' := 134) e6 (hw _ (List.mem_of_getElem? (i := 38) rfl)) oZ d10_131 rfl ?_
  intro T7 X7 e7
  refine ow_aloadN K X7 (pc' := 135) o d10_134 rfl rfl ?_
  refine ow_getF K X7 (pc' := 138) e7 (hw _ (List.mem_of_getElem? (i := 14) rfl)) oN d10_135 rfl ?_
  intro T8 X8 e8
  refine ow_len K X8 (pc' := 139) e8 aE d10_138 rfl ?_
  refine ow_icmpY K X8 (pc' := 159) d10_139 (XT.ii_ne_t (by decide)) (by decide) (by decide) ?_
  refine ow_aloadN K X8 (pc' := 160) t d10_159 rfl rfl ?_
  refine ow_iloadN K X8 (pc' := 161) (0 : Int32) d10_160 rfl rfl ?_
  refine ow_aloadN K X8 (pc' := 162) o d10_161 rfl rfl ?_
  refine ow_getF K X8 (pc' := 165) e8 (hw _ (List.mem_of_getElem? (i := 11) rfl)) oB d10_162 rfl ?_
  intro T9 X9 e9
  refine ow_iload K X9 (pc' := 167) (0 : Int32) d10_165 rfl rfl ?_
  refine ow_iloadN K X9 (pc' := 168) (Int32.ofNat A) d10_167 rfl rfl ?_
  refine ow_iloadN K X9 (pc' := 169) (0 : Int32) d10_168 rfl rfl ?_
  refine ow_isub K X9 (pc' := 170) (Int32.ofNat A) d10_169 rfl (Int32.sub_zero _) ?_
  have F10 : Arv Z h0 rb kb .byte (128 : Int32) (own_bl [] ++ List.replicate A (Value.int 0)) (.int 0) := Arv.pad aB (pad_rep _ (.int 0) A)
  have cA : (Int32.ofNat A).toNatClampNeg = A := own_cl (by omega)
  refine ow_copy K X9 (pc' := 173) e9 (hw _ (List.mem_of_getElem? (i := 40) rfl)) (hw _ (List.mem_of_getElem? (i := 43) rfl)) (hw _ (List.mem_of_getElem? (i := 41) rfl)) (hw _ (List.mem_of_getElem? (i := 42) rfl)) F F10 rfl (by decide) (by decide) (own_nn (by omega)) (by rw [cA]; show 0 + A ≤ _; omega) (by rw [cA]; show 0 + A ≤ 128; omega) rfl (by rw [cA, List.length_append, own_bl_len, List.length_replicate]; show 0 + A ≤ _; simp) NXp g_b rfl 0 (Nat.le_of_eq rfl) (by decide) (by decide) d10_170 rfl ?_
  intro T11 h11 L11 X11 e11 N11 Kp11 V11
  have F12 : Exa Z h11 o "com/example/meritgrid/meritgrid/TextIndex" := oE.keep Kp11
  have F13 : Fld Z h11 o "com/example/meritgrid/meritgrid/TextIndex" "bytes" "[B" (.ref rb) := oB.keep Kp11 (ninS n_ob nin0)
  have F14 : Fld Z h11 o "com/example/meritgrid/meritgrid/TextIndex" "ends" "[I" (.ref re) := oN.keep Kp11 (ninS n_ob nin0)
  have F15 : Fld Z h11 o "com/example/meritgrid/meritgrid/TextIndex" "table" "[I" (.ref rt) := oT.keep Kp11 (ninS n_ob nin0)
  have F16 : Fld Z h11 o "com/example/meritgrid/meritgrid/TextIndex" "shift" "I" (.int (27 : Int32)) := oS.keep Kp11 (ninS n_ob nin0)
  have F17 : Fld Z h11 o "com/example/meritgrid/meritgrid/TextIndex" "size" "I" (.int 0) := oZ.keep Kp11 (ninS n_ob nin0)
  have F18 : Arv Z h11 re ke .int (16 : Int32) (own_bl []) (.int 0) := aE.keep Kp11 (ninS (Ne.symm n_be) nin0)
  have F19 : Arv Z h11 rt kt .int (32 : Int32) (own_bl own_t0) (.int 0) := aT.keep Kp11 (ninS (Ne.symm n_bt) nin0)
  have F20 : Arv Z h11 t k .byte z (own_bl xt) (.int 0) := F.keep Kp11 (ninS mt1 nin0)
  have Z21 : n0 ≤ h11.size := Nat.le_trans Z0 Kp11.1
  have F22 : Arv Z h11 rb kb .byte (128 : Int32) (own_bl ([] ++ xt.take A)) (.int 0) := Arv.pad V11 (own_cpl [] xt (A := 0) (B := A) rfl (by omega) (by omega) (by omega))
  have PP := (Keep.refl h0 [o, rb, re, rt]).trans Kp11 (allS (Or.inl (List.mem_of_getElem? (i := 1) rfl)) all0)
  refine ow_aloadN K X11 (pc' := 174) o d10_173 rfl rfl ?_
  refine ow_getF K X11 (pc' := 177) e11 (hw _ (List.mem_of_getElem? (i := 14) rfl)) F14 d10_174 rfl ?_
  intro T23 X23 e23
  refine ow_aloadN K X23 (pc' := 178) o d10_177 rfl rfl ?_
  refine ow_getF K X23 (pc' := 181) e23 (hw _ (List.mem_of_getElem? (i := 38) rfl)) F17 d10_178 rfl ?_
  intro T24 X24 e24
  refine ow_iload K X24 (pc' := 183) (Int32.ofNat A) d10_181 rfl rfl ?_
  have F25 : Arv Z h11 re ke .int (16 : Int32) (own_bl [] ++ [Value.int 0]) (.int 0) := Arv.pad F18 (pad_rep _ (.int 0) 1)
  refine ow_iastore K X24 (pc' := 184) e24 F25 0 (own_bl ([] ++ [(Int32.ofNat A)])) ⟨by decide, by decide⟩ (by decide) (by simp [own_bl]) (own_bl_app [] _) d10_183 rfl ?_
  intro T26 h26 X26 e26 W26 F26
  have F27 : Exa Z h26 o "com/example/meritgrid/meritgrid/TextIndex" := Exa.wr W26 F12
  have F28 : Fld Z h26 o "com/example/meritgrid/meritgrid/TextIndex" "bytes" "[B" (.ref rb) := Fld.other W26 F13 (Or.inl n_oe)
  have F29 : Fld Z h26 o "com/example/meritgrid/meritgrid/TextIndex" "ends" "[I" (.ref re) := Fld.other W26 F14 (Or.inl n_oe)
  have F30 : Fld Z h26 o "com/example/meritgrid/meritgrid/TextIndex" "table" "[I" (.ref rt) := Fld.other W26 F15 (Or.inl n_oe)
  have F31 : Fld Z h26 o "com/example/meritgrid/meritgrid/TextIndex" "shift" "I" (.int (27 : Int32)) := Fld.other W26 F16 (Or.inl n_oe)
  have F32 : Fld Z h26 o "com/example/meritgrid/meritgrid/TextIndex" "size" "I" (.int 0) := Fld.other W26 F17 (Or.inl n_oe)
  have F33 : Arv Z h26 rb kb .byte (128 : Int32) (own_bl ([] ++ xt.take A)) (.int 0) := F22.other W26 n_be
  have F34 : Arv Z h26 rt kt .int (32 : Int32) (own_bl own_t0) (.int 0) := F19.other W26 (Ne.symm n_et)
  have F35 : Arv Z h26 t k .byte z (own_bl xt) (.int 0) := F20.other W26 mt2
  have Z36 : n0 ≤ h26.size := Nat.le_trans Z21 (Nat.le_of_eq W26.size.symm)
  have N37 := Fr.snoc X26 N11 g_e
  have P38 := PP.wr W26 (Or.inl (List.mem_of_getElem? (i := 2) rfl))
  refine ow_aloadN K X26 (pc' := 185) o d10_184 rfl rfl ?_
  refine ow_getF K X26 (pc' := 188) e26 (hw _ (List.mem_of_getElem? (i := 16) rfl)) F30 d10_185 rfl ?_
  intro T39 X39 e39
  refine ow_iload K X39 (pc' := 190) (Int32.ofNat i) d10_188 rfl rfl ?_
  refine ow_aloadN K X39 (pc' := 191) o d10_190 rfl rfl ?_
  refine ow_getF K X39 (pc' := 194) e39 (hw _ (List.mem_of_getElem? (i := 38) rfl)) F32 d10_191 rfl ?_
  intro T40 X40 e40
  refine ow_iconst K X40 (pc' := 195) (1 : Int32) d10_194 rfl (by decide) ?_
  refine ow_iadd K X40 (pc' := 196) (1 : Int32) d10_195 rfl (by decide) ?_
  refine ow_iastore K X40 (pc' := 197) e40 F34 i (own_bl (own_t0.set i (1 : Int32))) (ow_ix_nat (by omega)) (by show i < 32; omega) (by show _ < 32; omega) (own_bl_set own_t0 i _) d10_196 rfl ?_
  intro T41 h41 X41 e41 W41 F41
  have F42 : Exa Z h41 o "com/example/meritgrid/meritgrid/TextIndex" := Exa.wr W41 F27
  have F43 : Fld Z h41 o "com/example/meritgrid/meritgrid/TextIndex" "bytes" "[B" (.ref rb) := Fld.other W41 F28 (Or.inl n_ot)
  have F44 : Fld Z h41 o "com/example/meritgrid/meritgrid/TextIndex" "ends" "[I" (.ref re) := Fld.other W41 F29 (Or.inl n_ot)
  have F45 : Fld Z h41 o "com/example/meritgrid/meritgrid/TextIndex" "table" "[I" (.ref rt) := Fld.other W41 F30 (Or.inl n_ot)
  have F46 : Fld Z h41 o "com/example/meritgrid/meritgrid/TextIndex" "shift" "I" (.int (27 : Int32)) := Fld.other W41 F31 (Or.inl n_ot)
  have F47 : Fld Z h41 o "com/example/meritgrid/meritgrid/TextIndex" "size" "I" (.int 0) := Fld.other W41 F32 (Or.inl n_ot)
  have F48 : Arv Z h41 rb kb .byte (128 : Int32) (own_bl ([] ++ xt.take A)) (.int 0) := F33.other W41 n_bt
  have F49 : Arv Z h41 re ke .int (16 : Int32) (own_bl ([] ++ [(Int32.ofNat A)])) (.int 0) := F26.other W41 n_et
  have F50 : Arv Z h41 t k .byte z (own_bl xt) (.int 0) := F35.other W41 mt3
  have Z51 : n0 ≤ h41.size := Nat.le_trans Z36 (Nat.le_of_eq W41.size.symm)
  have N52 := Fr.snoc X41 N37 g_t
  have P53 := P38.wr W41 (Or.inl (List.mem_of_getElem? (i := 3) rfl))
  refine ow_aloadN K X41 (pc' := 198) o d10_197 rfl rfl ?_
  refine ow_dup K X41 (pc' := 199) d10_198 rfl rfl ?_
  refine ow_getF K X41 (pc' := 202) e41 (hw _ (List.mem_of_getElem? (i := 38) rfl)) F47 d10_199 rfl ?_
  intro T54 X54 e54
  refine ow_dupX1 K X54 (pc' := 203) d10_202 rfl rfl rfl ?_
  refine ow_iconst K X54 (pc' := 204) (1 : Int32) d10_203 rfl (by decide) ?_
  refine ow_iadd K X54 (pc' := 205) (1 : Int32) d10_204 rfl (by decide) ?_
  refine ow_putF K X54 (pc' := 208) e54 .int (hw _ (List.mem_of_getElem? (i := 38) rfl)) F47 F42 (Or.inl (hw _ (List.mem_of_getElem? (i := 39) rfl))) (hw _ (List.mem_of_getElem? (i := 3) rfl)) (by decide) rfl rfl d10_205 rfl ?_
  intro T55 h55 X55 e55 W55 F55 A55
  have F56 : Fld Z h55 o "com/example/meritgrid/meritgrid/TextIndex" "bytes" "[B" (.ref rb) := Fld.other W55 F43 (Or.inr (slot_ne (show Laid Z a0 "com/example/meritgrid/meritgrid/TextIndex" "com/example/meritgrid/meritgrid/TextIndex" "bytes" "[B" from Or.inl (hw _ (List.mem_of_getElem? (i := 12) rfl))) (show Laid Z a0 "com/example/meritgrid/meritgrid/TextIndex" "com/example/meritgrid/meritgrid/TextIndex" "size" "I" from Or.inl (hw _ (List.mem_of_getElem? (i := 39) rfl))) (by decide) (t := (.array .byte)) (t' := .int) (by decide) (by decide)))
  have F57 : Fld Z h55 o "com/example/meritgrid/meritgrid/TextIndex" "ends" "[I" (.ref re) := Fld.other W55 F44 (Or.inr (slot_ne (show Laid Z a0 "com/example/meritgrid/meritgrid/TextIndex" "com/example/meritgrid/meritgrid/TextIndex" "ends" "[I" from Or.inl (hw _ (List.mem_of_getElem? (i := 15) rfl))) (show Laid Z a0 "com/example/meritgrid/meritgrid/TextIndex" "com/example/meritgrid/meritgrid/TextIndex" "size" "I" from Or.inl (hw _ (List.mem_of_getElem? (i := 39) rfl))) (by decide) (t := (.array .int)) (t' := .int) (by decide) (by decide)))
  have F58 : Fld Z h55 o "com/example/meritgrid/meritgrid/TextIndex" "table" "[I" (.ref rt) := Fld.other W55 F45 (Or.inr (slot_ne (show Laid Z a0 "com/example/meritgrid/meritgrid/TextIndex" "com/example/meritgrid/meritgrid/TextIndex" "table" "[I" from Or.inl (hw _ (List.mem_of_getElem? (i := 17) rfl))) (show Laid Z a0 "com/example/meritgrid/meritgrid/TextIndex" "com/example/meritgrid/meritgrid/TextIndex" "size" "I" from Or.inl (hw _ (List.mem_of_getElem? (i := 39) rfl))) (by decide) (t := (.array .int)) (t' := .int) (by decide) (by decide)))
  have F59 : Fld Z h55 o "com/example/meritgrid/meritgrid/TextIndex" "shift" "I" (.int (27 : Int32)) := Fld.other W55 F46 (Or.inr (slot_ne (show Laid Z a0 "com/example/meritgrid/meritgrid/TextIndex" "com/example/meritgrid/meritgrid/TextIndex" "shift" "I" from Or.inl (hw _ (List.mem_of_getElem? (i := 24) rfl))) (show Laid Z a0 "com/example/meritgrid/meritgrid/TextIndex" "com/example/meritgrid/meritgrid/TextIndex" "size" "I" from Or.inl (hw _ (List.mem_of_getElem? (i := 39) rfl))) (by decide) (t := .int) (t' := .int) (by decide) (by decide)))
  have F60 : Arv Z h55 rb kb .byte (128 : Int32) (own_bl ([] ++ xt.take A)) (.int 0) := F48.other W55 (Ne.symm n_ob)
  have F61 : Arv Z h55 re ke .int (16 : Int32) (own_bl ([] ++ [(Int32.ofNat A)])) (.int 0) := F49.other W55 (Ne.symm n_oe)
  have F62 : Arv Z h55 rt kt .int (32 : Int32) (own_bl (own_t0.set i (1 : Int32))) (.int 0) := F41.other W55 (Ne.symm n_ot)
  have F63 : Arv Z h55 t k .byte z (own_bl xt) (.int 0) := F50.other W55 mt0
  have Z64 : n0 ≤ h55.size := Nat.le_trans Z51 (Nat.le_of_eq W55.size.symm)
  have N65 := Fr.snoc X55 N52 g_o
  have P66 := P53.wr W55 (Or.inl (List.mem_of_getElem? (i := 0) rfl))
  refine ow_retI K X55 .int rfl rfl (Or.inl rfl) d10_208 ?_ (by decide) (by decide)
  rw [e55]
  exact ⟨i, rfl, hi, N65, Z64, P66, ⟨A55, F56, F57, F58, F59, F55, F60, F61, F62⟩⟩
theorem d11_0 : decode prog_31_method_3_code 0 = .ok (.aload_n 0, 1) := by decide +kernel
theorem d11_1 : decode prog_31_method_3_code 1 = .ok (.aload_n 1, 1) := by decide +kernel
theorem d11_2 : decode prog_31_method_3_code 2 = .ok (.iload_n 2, 1) := by decide +kernel
theorem d11_3 : decode prog_31_method_3_code 3 = .ok (.iload_n 3, 1) := by decide +kernel
theorem d11_4 : decode prog_31_method_3_code 4 = .ok (.invokevirtual 46, 3) := by decide +kernel
theorem d11_7 : decode prog_31_method_3_code 7 = .ok (.istore 4, 2) := by decide +kernel
theorem d11_9 : decode prog_31_method_3_code 9 = .ok (.aload_n 0, 1) := by decide +kernel
theorem d11_10 : decode prog_31_method_3_code 10 = .ok (.getfield 17, 3) := by decide +kernel
theorem d11_13 : decode prog_31_method_3_code 13 = .ok (.iload 4, 2) := by decide +kernel
theorem d11_15 : decode prog_31_method_3_code 15 = .ok (.iaload, 1) := by decide +kernel
theorem d11_16 : decode prog_31_method_3_code 16 = .ok (.ifCond .eq 13, 3) := by decide +kernel
theorem d11_19 : decode prog_31_method_3_code 19 = .ok (.aload_n 0, 1) := by decide +kernel
theorem d11_20 : decode prog_31_method_3_code 20 = .ok (.getfield 17, 3) := by decide +kernel
theorem d11_23 : decode prog_31_method_3_code 23 = .ok (.iload 4, 2) := by decide +kernel
theorem d11_25 : decode prog_31_method_3_code 25 = .ok (.iaload, 1) := by decide +kernel
theorem d11_26 : decode prog_31_method_3_code 26 = .ok (.iconst 1, 1) := by decide +kernel
theorem d11_27 : decode prog_31_method_3_code 27 = .ok (.isub, 1) := by decide +kernel
theorem d11_28 : decode prog_31_method_3_code 28 = .ok (.ireturn, 1) := by decide +kernel
theorem d11_29 : decode prog_31_method_3_code 29 = .ok (.iconst 2, 1) := by decide +kernel
theorem d11_30 : decode prog_31_method_3_code 30 = .ok (.aload_n 0, 1) := by decide +kernel
theorem d11_31 : decode prog_31_method_3_code 31 = .ok (.getfield 49, 3) := by decide +kernel
theorem d11_34 : decode prog_31_method_3_code 34 = .ok (.iconst 1, 1) := by decide +kernel
theorem d11_35 : decode prog_31_method_3_code 35 = .ok (.iadd, 1) := by decide +kernel
theorem d11_36 : decode prog_31_method_3_code 36 = .ok (.imul, 1) := by decide +kernel
theorem d11_37 : decode prog_31_method_3_code 37 = .ok (.aload_n 0, 1) := by decide +kernel
theorem d11_38 : decode prog_31_method_3_code 38 = .ok (.getfield 17, 3) := by decide +kernel
theorem d11_41 : decode prog_31_method_3_code 41 = .ok (.arraylength, 1) := by decide +kernel
theorem d11_42 : decode prog_31_method_3_code 42 = .ok (.if_icmp .le 23, 3) := by decide +kernel
theorem d11_45 : decode prog_31_method_3_code 45 = .ok (.aload_n 0, 1) := by decide +kernel
theorem d11_46 : decode prog_31_method_3_code 46 = .ok (.aload_n 0, 1) := by decide +kernel
theorem d11_47 : decode prog_31_method_3_code 47 = .ok (.getfield 17, 3) := by decide +kernel
theorem d11_50 : decode prog_31_method_3_code 50 = .ok (.arraylength, 1) := by decide +kernel
theorem d11_51 : decode prog_31_method_3_code 51 = .ok (.iconst 2, 1) := by decide +kernel
theorem d11_52 : decode prog_31_method_3_code 52 = .ok (.imul, 1) := by decide +kernel
theorem d11_53 : decode prog_31_method_3_code 53 = .ok (.invokevirtual 52, 3) := by decide +kernel
theorem d11_56 : decode prog_31_method_3_code 56 = .ok (.aload_n 0, 1) := by decide +kernel
theorem d11_57 : decode prog_31_method_3_code 57 = .ok (.aload_n 1, 1) := by decide +kernel
theorem d11_58 : decode prog_31_method_3_code 58 = .ok (.iload_n 2, 1) := by decide +kernel
theorem d11_59 : decode prog_31_method_3_code 59 = .ok (.iload_n 3, 1) := by decide +kernel
theorem d11_60 : decode prog_31_method_3_code 60 = .ok (.invokevirtual 46, 3) := by decide +kernel
theorem d11_63 : decode prog_31_method_3_code 63 = .ok (.istore 4, 2) := by decide +kernel
theorem d11_65 : decode prog_31_method_3_code 65 = .ok (.aload_n 0, 1) := by decide +kernel
theorem d11_66 : decode prog_31_method_3_code 66 = .ok (.getfield 49, 3) := by decide +kernel
theorem d11_69 : decode prog_31_method_3_code 69 = .ok (.ifCond .ne 7, 3) := by decide +kernel
theorem d11_72 : decode prog_31_method_3_code 72 = .ok (.iconst 0, 1) := by decide +kernel
theorem d11_73 : decode prog_31_method_3_code 73 = .ok (.goto 14, 3) := by decide +kernel
theorem d11_76 : decode prog_31_method_3_code 76 = .ok (.aload_n 0, 1) := by decide +kernel
theorem d11_77 : decode prog_31_method_3_code 77 = .ok (.getfield 13, 3) := by decide +kernel
theorem d11_80 : decode prog_31_method_3_code 80 = .ok (.aload_n 0, 1) := by decide +kernel
theorem d11_81 : decode prog_31_method_3_code 81 = .ok (.getfield 49, 3) := by decide +kernel
theorem d11_84 : decode prog_31_method_3_code 84 = .ok (.iconst 1, 1) := by decide +kernel
theorem d11_85 : decode prog_31_method_3_code 85 = .ok (.isub, 1) := by decide +kernel
theorem d11_86 : decode prog_31_method_3_code 86 = .ok (.iaload, 1) := by decide +kernel
theorem d11_87 : decode prog_31_method_3_code 87 = .ok (.istore 5, 2) := by decide +kernel
theorem d11_89 : decode prog_31_method_3_code 89 = .ok (.iload 5, 2) := by decide +kernel
theorem d11_91 : decode prog_31_method_3_code 91 = .ok (.iload_n 3, 1) := by decide +kernel
theorem d11_92 : decode prog_31_method_3_code 92 = .ok (.iadd, 1) := by decide +kernel
theorem d11_93 : decode prog_31_method_3_code 93 = .ok (.iload_n 2, 1) := by decide +kernel
theorem d11_94 : decode prog_31_method_3_code 94 = .ok (.isub, 1) := by decide +kernel
theorem d11_95 : decode prog_31_method_3_code 95 = .ok (.istore 6, 2) := by decide +kernel
theorem d11_97 : decode prog_31_method_3_code 97 = .ok (.iload 6, 2) := by decide +kernel
theorem d11_99 : decode prog_31_method_3_code 99 = .ok (.aload_n 0, 1) := by decide +kernel
theorem d11_100 : decode prog_31_method_3_code 100 = .ok (.getfield 9, 3) := by decide +kernel
theorem d11_103 : decode prog_31_method_3_code 103 = .ok (.arraylength, 1) := by decide +kernel
theorem d11_104 : decode prog_31_method_3_code 104 = .ok (.if_icmp .le 26, 3) := by decide +kernel
theorem d11_107 : decode prog_31_method_3_code 107 = .ok (.aload_n 0, 1) := by decide +kernel
theorem d11_108 : decode prog_31_method_3_code 108 = .ok (.aload_n 0, 1) := by decide +kernel
theorem d11_109 : decode prog_31_method_3_code 109 = .ok (.getfield 9, 3) := by decide +kernel
theorem d11_112 : decode prog_31_method_3_code 112 = .ok (.iload 6, 2) := by decide +kernel
theorem d11_114 : decode prog_31_method_3_code 114 = .ok (.aload_n 0, 1) := by decide +kernel
theorem d11_115 : decode prog_31_method_3_code 115 = .ok (.getfield 9, 3) := by decide +kernel
theorem d11_118 : decode prog_31_method_3_code 118 = .ok (.arraylength, 1) := by decide +kernel
theorem d11_119 : decode prog_31_method_3_code 119 = .ok (.iconst 2, 1) := by decide +kernel
theorem d11_120 : decode prog_31_method_3_code 120 = .ok (.imul, 1) := by decide +kernel
theorem d11_121 : decode prog_31_method_3_code 121 = .ok (.invokestatic 56, 3) := by decide +kernel
theorem d11_124 : decode prog_31_method_3_code 124 = .ok (.invokestatic 62, 3) := by decide +kernel
theorem d11_127 : decode prog_31_method_3_code 127 = .ok (.putfield 9, 3) := by decide +kernel
theorem d11_130 : decode prog_31_method_3_code 130 = .ok (.aload_n 0, 1) := by decide +kernel
theorem d11_131 : decode prog_31_method_3_code 131 = .ok (.getfield 49, 3) := by decide +kernel
theorem d11_134 : decode prog_31_method_3_code 134 = .ok (.aload_n 0, 1) := by decide +kernel
theorem d11_135 : decode prog_31_method_3_code 135 = .ok (.getfield 13, 3) := by decide +kernel
theorem d11_138 : decode prog_31_method_3_code 138 = .ok (.arraylength, 1) := by decide +kernel
theorem d11_139 : decode prog_31_method_3_code 139 = .ok (.if_icmp .ne 20, 3) := by decide +kernel
theorem d11_142 : decode prog_31_method_3_code 142 = .ok (.aload_n 0, 1) := by decide +kernel
theorem d11_143 : decode prog_31_method_3_code 143 = .ok (.aload_n 0, 1) := by decide +kernel
theorem d11_144 : decode prog_31_method_3_code 144 = .ok (.getfield 13, 3) := by decide +kernel
theorem d11_147 : decode prog_31_method_3_code 147 = .ok (.aload_n 0, 1) := by decide +kernel
theorem d11_148 : decode prog_31_method_3_code 148 = .ok (.getfield 49, 3) := by decide +kernel
theorem d11_151 : decode prog_31_method_3_code 151 = .ok (.iconst 2, 1) := by decide +kernel
theorem d11_152 : decode prog_31_method_3_code 152 = .ok (.imul, 1) := by decide +kernel
theorem d11_153 : decode prog_31_method_3_code 153 = .ok (.invokestatic 68, 3) := by decide +kernel
theorem d11_156 : decode prog_31_method_3_code 156 = .ok (.putfield 13, 3) := by decide +kernel
theorem d11_159 : decode prog_31_method_3_code 159 = .ok (.aload_n 1, 1) := by decide +kernel
theorem d11_160 : decode prog_31_method_3_code 160 = .ok (.iload_n 2, 1) := by decide +kernel
theorem d11_161 : decode prog_31_method_3_code 161 = .ok (.aload_n 0, 1) := by decide +kernel
theorem d11_162 : decode prog_31_method_3_code 162 = .ok (.getfield 9, 3) := by decide +kernel
theorem d11_165 : decode prog_31_method_3_code 165 = .ok (.iload 5, 2) := by decide +kernel
theorem d11_167 : decode prog_31_method_3_code 167 = .ok (.iload_n 3, 1) := by decide +kernel
theorem d11_168 : decode prog_31_method_3_code 168 = .ok (.iload_n 2, 1) := by decide +kernel
theorem d11_169 : decode prog_31_method_3_code 169 = .ok (.isub, 1) := by decide +kernel
theorem d11_170 : decode prog_31_method_3_code 170 = .ok (.invokestatic 71, 3) := by decide +kernel
theorem d11_173 : decode prog_31_method_3_code 173 = .ok (.aload_n 0, 1) := by decide +kernel
theorem d11_174 : decode prog_31_method_3_code 174 = .ok (.getfield 13, 3) := by decide +kernel
theorem d11_177 : decode prog_31_method_3_code 177 = .ok (.aload_n 0, 1) := by decide +kernel
theorem d11_178 : decode prog_31_method_3_code 178 = .ok (.getfield 49, 3) := by decide +kernel
theorem d11_181 : decode prog_31_method_3_code 181 = .ok (.iload 6, 2) := by decide +kernel
theorem d11_183 : decode prog_31_method_3_code 183 = .ok (.iastore, 1) := by decide +kernel
theorem d11_184 : decode prog_31_method_3_code 184 = .ok (.aload_n 0, 1) := by decide +kernel
theorem d11_185 : decode prog_31_method_3_code 185 = .ok (.getfield 17, 3) := by decide +kernel
theorem d11_188 : decode prog_31_method_3_code 188 = .ok (.iload 4, 2) := by decide +kernel
theorem d11_190 : decode prog_31_method_3_code 190 = .ok (.aload_n 0, 1) := by decide +kernel
theorem d11_191 : decode prog_31_method_3_code 191 = .ok (.getfield 49, 3) := by decide +kernel
theorem d11_194 : decode prog_31_method_3_code 194 = .ok (.iconst 1, 1) := by decide +kernel
theorem d11_195 : decode prog_31_method_3_code 195 = .ok (.iadd, 1) := by decide +kernel
theorem d11_196 : decode prog_31_method_3_code 196 = .ok (.iastore, 1) := by decide +kernel
theorem d11_197 : decode prog_31_method_3_code 197 = .ok (.aload_n 0, 1) := by decide +kernel
theorem d11_198 : decode prog_31_method_3_code 198 = .ok (.dup, 1) := by decide +kernel
theorem d11_199 : decode prog_31_method_3_code 199 = .ok (.getfield 49, 3) := by decide +kernel
theorem d11_202 : decode prog_31_method_3_code 202 = .ok (.dup_x1, 1) := by decide +kernel
theorem d11_203 : decode prog_31_method_3_code 203 = .ok (.iconst 1, 1) := by decide +kernel
theorem d11_204 : decode prog_31_method_3_code 204 = .ok (.iadd, 1) := by decide +kernel
theorem d11_205 : decode prog_31_method_3_code 205 = .ok (.putfield 49, 3) := by decide +kernel
theorem d11_208 : decode prog_31_method_3_code 208 = .ok (.ireturn, 1) := by decide +kernel
theorem pn_11 : plainFor (⟨"com/example/meritgrid/meritgrid/TextIndex", "add", "([BII)I"⟩ : MethodName) = true := by first | exact plainFor_of_name (by first | (simp [plainName, overriddenIn]; done) | decide +kernel) | decide +kernel
theorem pd_11 : parseMethodDescriptor "([BII)I" = some ⟨[(.array .byte), .int, .int], some .int⟩ := by decide +kernel
theorem ef_11 (m : MethodId) (o : Addr) (t : Addr) (at0 : Int32) (cn : Int32) : entryFrame m #[(.ref o), (.ref t), (.int at0), (.int cn)] 7 = mkF m 0 #[.val (.ref o), .val (.ref t), .val (.int at0), .val (.int cn), .unset, .unset, .unset] [] := by first | (simp [entryFrame, mkF, argsToLocals, Value.category]; done) | rfl
def Q11 (Z : State) (o : Addr) (t : Addr) (at0 : Int32) (cn : Int32) (rb : Addr) (kb : ClassId) (re : Addr) (ke : ClassId) (rt : Addr) (kt : ClassId) (xs : List Int32) (A : Nat) (i1 : Nat) (k : ClassId) (z : Int32) (xt : List Int32) (B : Nat) (h0 : Heap) (n0 : Nat) (v : Option Value) (h : Heap) (L : List Loc) : Prop := Fr n0 L ∧ n0 ≤ h.size ∧ Keep h0 h [o, rb, re, rt] ∧ ((v = some (.int 0) ∧ own_O Z h o rb kb re ke rt kt xs [Int32.ofNat A] (own_t0.set i1 1) 1) ∨ (v = some (.int 1) ∧ ∃ j : Nat, own_O Z h o rb kb re ke rt kt (xs ++ xt.take B) ([Int32.ofNat A] ++ [Int32.ofNat (A + B)]) ((own_t0.set i1 1).set j 2) 2))
set_option maxRecDepth 65536 in
set_option maxHeartbeats 40000000 in
theorem rm11 (l : Launch) (Z : State) (a0 : Array Value) (hw : ∀ d ∈ tables_1, d.before a0 Z = true) (ws : List Jvm.Cond) (o : Addr) (t : Addr) (at0 : Int32) (cn : Int32) (rb : Addr) (kb : ClassId) (re : Addr) (ke : ClassId) (rt : Addr) (kt : ClassId) (xs : List Int32) (A : Nat) (i1 : Nat) (k : ClassId) (z : Int32) (xt : List Int32) (B : Nat) (h0 : Heap) (n0 : Nat) (Z0 : n0 ≤ h0.size) (hO : own_O Z h0 o rb kb re ke rt kt xs [Int32.ofNat A] (own_t0.set i1 1) 1) (hO' : own_O Z h0 o rb kb re ke rt kt xs [Int32.ofNat A] (own_t0.set i1 1) 1) (hD : own_D n0 o rb re rt) (hT : own_A t o rb re rt) (hat : at0 = 0) (hc : cn = Int32.ofNat B) (F : Arv Z h0 t k .byte z (own_bl xt) (.int 0)) (hA : B ≤ z.toNatClampNeg) (hA' : B ≤ 3) (hx3 : B ≤ xt.length) (hi1 : i1 < 32) (hA3 : A ≤ 3) (hxs : xs.length = A) :
    MetFree l (⟨"com/example/meritgrid/meritgrid/TextIndex", "add", "([BII)I"⟩ : MethodName) (head1 (Jvm.Cond.code (⟨"com/example/meritgrid/meritgrid/TextIndex", "add", "([BII)I"⟩ : MethodName) prog_31_method_3_code 7 (some .int) :: ws) ({ frames := 3, cells := 0, slots := 0, locals := 70 } : Room)) (fun as_ U => as_ = #[(.ref o), (.ref t), (.int at0), (.int cn)] ∧ Z.Warmed39 U.vm ∧ U.heap = h0) (fun _ _ _ _ _ => True) (fun _ U oc U' => ∃ v L, oc = .returned v ∧ Q11 Z o t at0 cn rb kb re ke rt kt xs A i1 k z xt B h0 n0 v U'.heap L ∧ FrameEnd U oc U' L ({ frames := 3, cells := 0, slots := 0, locals := 70 } : Room).cells ({ frames := 3, cells := 0, slots := 0, locals := 70 } : Room).slots) := by
  refine MetFree.of_bodySF pn_11 hisR ?_
  intro p e s m args below meth c s₁ Bd hml0 hP hK
  obtain ⟨rfl, hZ, hh⟩ := hP
  have K : ow_K p e below s m meth c Z "com/example/meritgrid/meritgrid/TextIndex" prog_31_method_3_code 7 (some .int) "add" (ow_Gl p e below s (Q11 Z o t at0 cn rb kb re ke rt kt xs A i1 k z xt B h0 n0) 0 0) := ⟨ow_Gl_bc, Bd.exec, Bd.bytes, hml0, findClass_of_methodNamed Bd.named, hZ, Bd.returns, Bd.notSynchronized, (name_of_methodNamed Bd.named Bd.method).1⟩
  have X0 : Stand p l e ({ frames := 3, cells := 0, slots := 0, locals := 70 } : Room) s m #[(.ref o), (.ref t), (.int at0), (.int cn)] below meth c s₁ [] 0 0 := Stand.of_body Bd
  have e0 : s₁.heap = h0 := by rw [← hh, Bd.state]; rfl
  have N0 := Fr.nil n0
  refine ow_entry (Q := (Q11 Z o t at0 cn rb kb re ke rt kt xs A i1 k z xt B h0 n0)) (ce := 0) (sl := 0) (ef_11 m o t at0 cn) ?_
  subst hat hc
  obtain ⟨oE, oB, oN, oT, oS, oZ, aB, aE, aT⟩ := hO'
  obtain ⟨g_o, g_b, g_e, g_t, n_ob, n_oe, n_ot, n_be, n_bt, n_et⟩ := hD
  obtain ⟨mt0, mt1, mt2, mt3⟩ := hT
  refine ow_aloadN K X0 (pc' := 1) o d11_0 rfl rfl ?_
  refine ow_aloadN K X0 (pc' := 2) t d11_1 rfl rfl ?_
  refine ow_iloadN K X0 (pc' := 3) (0 : Int32) d11_2 rfl rfl ?_
  refine ow_iloadN K X0 (pc' := 4) (Int32.ofNat B) d11_3 rfl rfl ?_
  refine ow_callR K X0 (pc' := 7) e0 (y' := (⟨"com/example/meritgrid/meritgrid/TextIndex", "add", "([BII)I"⟩ : MethodName)) (y := (⟨"com/example/meritgrid/meritgrid/TextIndex", "place", "([BII)I"⟩ : MethodName)) (rm9 l Z a0 hw [] o t (0 : Int32) (Int32.ofNat B) rb kb re ke rt kt xs [Int32.ofNat A] 1 k z xt B i1 A h0 n0 Z0 hO hO rfl rfl F hA hA' hi1 rfl hA3) oE rfl (hw _ (List.mem_of_getElem? (i := 28) rfl)) (hw _ (List.mem_of_getElem? (i := 32) rfl)) (hw _ (List.mem_of_getElem? (i := 30) rfl)) (hw _ (List.mem_of_getElem? (i := 31) rfl)) (hw _ (List.mem_of_getElem? (i := 4) rfl)) (hw _ (List.mem_of_getElem? (i := 33) rfl)) (by decide) (st := []) 0 (Nat.le_of_eq rfl) (by decide) (by decide) (by decide) (by decide) rfl [.ref t, .int (0 : Int32), .int (Int32.ofNat B)] rfl (lenOf pd_9 rfl) rfl d11_4 rfl ?_
  intro v1 T1 L1 X1 hQ1
  obtain ⟨j, rfl, hj, NNp, exp⟩ := hQ1
  have NXp := Fr.app N0 NNp
  refine ow_at (g := (mkF m 7 #[.val (.ref o), .val (.ref t), .val (.int (0 : Int32)), .val (.int (Int32.ofNat B)), .unset, .unset, .unset] [.int (Int32.ofNat j)])) ?_
  have htj := own_t1_at (j := j) 1 hi1
  refine ow_istore K X1 (pc' := 9) (Ls' := #[.val (.ref o), .val (.ref t), .val (.int (0 : Int32)), .val (.int (Int32.ofNat B)), .val (.int (Int32.ofNat j)), .unset, .unset]) d11_7 rfl rfl ?_
  refine ow_aloadN K X1 (pc' := 10) o d11_9 rfl rfl ?_
  refine ow_getF K X1 (pc' := 13) exp (hw _ (List.mem_of_getElem? (i := 16) rfl)) oT d11_10 rfl ?_
  intro T2 X2 e2
  refine ow_iload K X2 (pc' := 15) (Int32.ofNat j) d11_13 rfl rfl ?_
  refine ow_iaload K X2 (pc' := 16) e2 aT j (.int ((own_t0.set i1 1).getD j 0)) (ow_ix_nat (by omega)) (by show j < 32; omega) (own_bl_at _ _) d11_15 rfl ?_
  by_cases hz : ((own_t0.set i1 1).getD j 0) = 0
  · refine ow_ifY K X2 (pc' := 29) d11_16 (XT.i0_eq_t hz) (by decide) (by decide) ?_
    refine ow_iconst K X2 (pc' := 30) (2 : Int32) d11_29 rfl (by decide) ?_
    refine ow_aloadN K X2 (pc' := 31) o d11_30 rfl rfl ?_
    refine ow_getF K X2 (pc' := 34) e2 (hw _ (List.mem_of_getElem? (i := 38) rfl)) oZ d11_31 rfl ?_
    intro T3 X3 e3
    refine ow_iconst K X3 (pc' := 35) (1 : Int32) d11_34 rfl (by decide) ?_
    refine ow_iadd K X3 (pc' := 36) (2 : Int32) d11_35 rfl (by decide) ?_
    refine ow_imul K X3 (pc' := 37) (4 : Int32) d11_36 rfl (by decide) ?_
    refine ow_aloadN K X3 (pc' := 38) o d11_37 rfl rfl ?_
    refine ow_getF K X3 (pc' := 41) e3 (hw _ (List.mem_of_getElem? (i := 16) rfl)) oT d11_38 rfl ?_
    intro T4 X4 e4
    refine ow_len K X4 (pc' := 42) e4 aT d11_41 rfl ?_
    refine ow_icmpY K X4 (pc' := 65) d11_42 (XT.ii_le_t (by decide)) (by decide) (by decide) ?_
    refine ow_aloadN K X4 (pc' := 66) o d11_65 rfl rfl ?_
    refine ow_getF K X4 (pc' := 69) e4 (hw _ (List.mem_of_getElem? (i := 38) rfl)) oZ d11_66 rfl ?_
    intro T5 X5 e5
    refine ow_ifY K X5 (pc' := 76) d11_69 (XT.i0_ne_t (by decide)) (by decide) (by decide) ?_
    refine ow_aloadN K X5 (pc' := 77) o d11_76 rfl rfl ?_
    refine ow_getF K X5 (pc' := 80) e5 (hw _ (List.mem_of_getElem? (i := 14) rfl)) oN d11_77 rfl ?_
    intro T6 X6 e6
    refine ow_aloadN K X6 (pc' := 81) o d11_80 rfl rfl ?_
    refine ow_getF K X6 (pc' := 84) e6 (hw _ (List.mem_of_getElem? (i := 38) rfl)) oZ d11_81 rfl ?_
    intro T7 X7 e7
    refine ow_iconst K X7 (pc' := 85) (1 : Int32) d11_84 rfl (by decide) ?_
    refine ow_isub K X7 (pc' := 86) (0 : Int32) d11_85 rfl (by decide) ?_
    refine ow_iaload K X7 (pc' := 87) e7 aE 0 (.int (Int32.ofNat A)) ⟨by decide, by decide⟩ (by decide) rfl d11_86 rfl ?_
    refine ow_istore K X7 (pc' := 89) (Ls' := #[.val (.ref o), .val (.ref t), .val (.int (0 : Int32)), .val (.int (Int32.ofNat B)), .val (.int (Int32.ofNat j)), .val (.int (Int32.ofNat A)), .unset]) d11_87 rfl rfl ?_
    refine ow_iload K X7 (pc' := 91) (Int32.ofNat A) d11_89 rfl rfl ?_
    refine ow_iloadN K X7 (pc' := 92) (Int32.ofNat B) d11_91 rfl rfl ?_
    refine ow_iadd K X7 (pc' := 93) (Int32.ofNat (A + B)) d11_92 rfl (own_addn (by omega)) ?_
    refine ow_iloadN K X7 (pc' := 94) (0 : Int32) d11_93 rfl rfl ?_
    refine ow_isub K X7 (pc' := 95) (Int32.ofNat (A + B)) d11_94 rfl (Int32.sub_zero _) ?_
    refine ow_istore K X7 (pc' := 97) (Ls' := #[.val (.ref o), .val (.ref t), .val (.int (0 : Int32)), .val (.int (Int32.ofNat B)), .val (.int (Int32.ofNat j)), .val (.int (Int32.ofNat A)), .val (.int (Int32.ofNat (A + B)))]) d11_95 rfl rfl ?_
    refine ow_iload K X7 (pc' := 99) (Int32.ofNat (A + B)) d11_97 rfl rfl ?_
    refine ow_aloadN K X7 (pc' := 100) o d11_99 rfl rfl ?_
    refine ow_getF K X7 (pc' := 103) e7 (hw _ (List.mem_of_getElem? (i := 11) rfl)) oB d11_100 rfl ?_
    intro T8 X8 e8
    refine ow_len K X8 (pc' := 104) e8 aB d11_103 rfl ?_
    refine ow_icmpY K X8 (pc' := 130) d11_104 (XT.ii_le_t (own_gen (i := 128) (by omega) (by decide))) (by decide) (by decide) ?_
    refine ow_aloadN K X8 (pc' := 131) o d11_130 rfl rfl ?_
    refine ow_getF K X8 (pc' := 134) e8 (hw _ (List.mem_of_getElem? (i := 38) rfl)) oZ d11_131 rfl ?_
    intro T9 X9 e9
    refine ow_aloadN K X9 (pc' := 135) o d11_134 rfl rfl ?_
    refine ow_getF K X9 (pc' := 138) e9 (hw _ (List.mem_of_getElem? (i := 14) rfl)) oN d11_135 rfl ?_
    intro T10 X10 e10
    refine ow_len K X10 (pc' := 139) e10 aE d11_138 rfl ?_
    refine ow_icmpY K X10 (pc' := 159) d11_139 (XT.ii_ne_t (by decide)) (by decide) (by decide) ?_
    refine ow_aloadN K X10 (pc' := 160) t d11_159 rfl rfl ?_
    refine ow_iloadN K X10 (pc' := 161) (0 : Int32) d11_160 rfl rfl ?_
    refine ow_aloadN K X10 (pc' := 162) o d11_161 rfl rfl ?_
    refine ow_getF K X10 (pc' := 165) e10 (hw _ (List.mem_of_getElem? (i := 11) rfl)) oB d11_162 rfl ?_
    intro T11 X11 e11
    refine ow_iload K X11 (pc' := 167) (Int32.ofNat A) d11_165 rfl rfl ?_
    refine ow_iloadN K X11 (pc' := 168) (Int32.ofNat B) d11_167 rfl rfl ?_
    refine ow_iloadN K X11 (pc' := 169) (0 : Int32) d11_168 rfl rfl ?_
    refine ow_isub K X11 (pc' := 170) (Int32.ofNat B) d11_169 rfl (Int32.sub_zero _) ?_
    have F12 : Arv Z h0 rb kb .byte (128 : Int32) (own_bl xs ++ List.replicate B (Value.int 0)) (.int 0) := Arv.pad aB (pad_rep _ (.int 0) B)
    have cA : (Int32.ofNat B).toNatClampNeg = B := own_cl (by omega)
    have cS : (Int32.ofNat A).toNatClampNeg = A := own_cl (by omega)
    refine ow_copy K X11 (pc' := 173) e11 (hw _ (List.mem_of_getElem? (i := 40) rfl)) (hw _ (List.mem_of_getElem? (i := 43) rfl)) (hw _ (List.mem_of_getElem? (i := 41) rfl)) (hw _ (List.mem_of_getElem? (i := 42) rfl)) F F12 rfl (by decide) (own_nn (by omega)) (own_nn (by omega)) (by rw [cA]; show 0 + B ≤ _; omega) (by rw [cS, cA]; show A + B ≤ 128; omega) rfl (by rw [cS, cA, List.length_append, own_bl_len, List.length_replicate, hxs]; show A + B ≤ _; exact Nat.le_refl _) NXp g_b rfl 0 (Nat.le_of_eq rfl) (by decide) (by decide) d11_170 rfl ?_
    intro T13 h13 L13 X13 e13 N13 Kp13 V13
    have F14 : Exa Z h13 o "com/example/meritgrid/meritgrid/TextIndex" := oE.keep Kp13
    have F15 : Fld Z h13 o "com/example/meritgrid/meritgrid/TextIndex" "bytes" "[B" (.ref rb) := oB.keep Kp13 (ninS n_ob nin0)
    have F16 : Fld Z h13 o "com/example/meritgrid/meritgrid/TextIndex" "ends" "[I" (.ref re) := oN.keep Kp13 (ninS n_ob nin0)
    have F17 : Fld Z h13 o "com/example/meritgrid/meritgrid/TextIndex" "table" "[I" (.ref rt) := oT.keep Kp13 (ninS n_ob nin0)
    have F18 : Fld Z h13 o "com/example/meritgrid/meritgrid/TextIndex" "shift" "I" (.int (27 : Int32)) := oS.keep Kp13 (ninS n_ob nin0)
    have F19 : Fld Z h13 o "com/example/meritgrid/meritgrid/TextIndex" "size" "I" (.int (1 : Int32)) := oZ.keep Kp13 (ninS n_ob nin0)
    have F20 : Arv Z h13 re ke .int (16 : Int32) (own_bl [Int32.ofNat A]) (.int 0) := aE.keep Kp13 (ninS (Ne.symm n_be) nin0)
    have F21 : Arv Z h13 rt kt .int (32 : Int32) (own_bl (own_t0.set i1 1)) (.int 0) := aT.keep Kp13 (ninS (Ne.symm n_bt) nin0)
    have F22 : Arv Z h13 t k .byte z (own_bl xt) (.int 0) := F.keep Kp13 (ninS mt1 nin0)
    have Z23 : n0 ≤ h13.size := Nat.le_trans Z0 Kp13.1
    have F24 : Arv Z h13 rb kb .byte (128 : Int32) (own_bl (xs ++ xt.take B)) (.int 0) := Arv.pad V13 (own_cpl xs xt (A := A) (B := B) hxs (by omega) (by omega) (by omega))
    have PP := (Keep.refl h0 [o, rb, re, rt]).trans Kp13 (allS (Or.inl (List.mem_of_getElem? (i := 1) rfl)) all0)
    refine ow_aloadN K X13 (pc' := 174) o d11_173 rfl rfl ?_
    refine ow_getF K X13 (pc' := 177) e13 (hw _ (List.mem_of_getElem? (i := 14) rfl)) F16 d11_174 rfl ?_
    intro T25 X25 e25
    refine ow_aloadN K X25 (pc' := 178) o d11_177 rfl rfl ?_
    refine ow_getF K X25 (pc' := 181) e25 (hw _ (List.mem_of_getElem? (i := 38) rfl)) F19 d11_178 rfl ?_
    intro T26 X26 e26
    refine ow_iload K X26 (pc' := 183) (Int32.ofNat (A + B)) d11_181 rfl rfl ?_
    have F27 : Arv Z h13 re ke .int (16 : Int32) (own_bl [Int32.ofNat A] ++ [Value.int 0]) (.int 0) := Arv.pad F20 (pad_rep _ (.int 0) 1)
    refine ow_iastore K X26 (pc' := 184) e26 F27 1 (own_bl ([Int32.ofNat A] ++ [(Int32.ofNat (A + B))])) ⟨by decide, by decide⟩ (by decide) (by simp [own_bl]) (own_bl_app [Int32.ofNat A] _) d11_183 rfl ?_
    intro T28 h28 X28 e28 W28 F28
    have F29 : Exa Z h28 o "com/example/meritgrid/meritgrid/TextIndex" := Exa.wr W28 F14
    have F30 : Fld Z h28 o "com/example/meritgrid/meritgrid/TextIndex" "bytes" "[B" (.ref rb) := Fld.other W28 F15 (Or.inl n_oe)
    have F31 : Fld Z h28 o "com/example/meritgrid/meritgrid/TextIndex" "ends" "[I" (.ref re) := Fld.other W28 F16 (Or.inl n_oe)
    have F32 : Fld Z h28 o "com/example/meritgrid/meritgrid/TextIndex" "table" "[I" (.ref rt) := Fld.other W28 F17 (Or.inl n_oe)
    have F33 : Fld Z h28 o "com/example/meritgrid/meritgrid/TextIndex" "shift" "I" (.int (27 : Int32)) := Fld.other W28 F18 (Or.inl n_oe)
    have F34 : Fld Z h28 o "com/example/meritgrid/meritgrid/TextIndex" "size" "I" (.int (1 : Int32)) := Fld.other W28 F19 (Or.inl n_oe)
    have F35 : Arv Z h28 rb kb .byte (128 : Int32) (own_bl (xs ++ xt.take B)) (.int 0) := F24.other W28 n_be
    have F36 : Arv Z h28 rt kt .int (32 : Int32) (own_bl (own_t0.set i1 1)) (.int 0) := F21.other W28 (Ne.symm n_et)
    have F37 : Arv Z h28 t k .byte z (own_bl xt) (.int 0) := F22.other W28 mt2
    have Z38 : n0 ≤ h28.size := Nat.le_trans Z23 (Nat.le_of_eq W28.size.symm)
    have N39 := Fr.snoc X28 N13 g_e
    have P40 := PP.wr W28 (Or.inl (List.mem_of_getElem? (i := 2) rfl))
    refine ow_aloadN K X28 (pc' := 185) o d11_184 rfl rfl ?_
    refine ow_getF K X28 (pc' := 188) e28 (hw _ (List.mem_of_getElem? (i := 16) rfl)) F32 d11_185 rfl ?_
    intro T41 X41 e41
    refine ow_iload K X41 (pc' := 190) (Int32.ofNat j) d11_188 rfl rfl ?_
    refine ow_aloadN K X41 (pc' := 191) o d11_190 rfl rfl ?_
    refine ow_getF K X41 (pc' := 194) e41 (hw _ (List.mem_of_getElem? (i := 38) rfl)) F34 d11_191 rfl ?_
    intro T42 X42 e42
    refine ow_iconst K X42 (pc' := 195) (1 : Int32) d11_194 rfl (by decide) ?_
    refine ow_iadd K X42 (pc' := 196) (2 : Int32) d11_195 rfl (by decide) ?_
    refine ow_iastore K X42 (pc' := 197) e42 F36 j (own_bl ((own_t0.set i1 1).set j (2 : Int32))) (ow_ix_nat (by omega)) (by show j < 32; omega) (by rw [own_t1_len]; omega) (own_bl_set (own_t0.set i1 1) j _) d11_196 rfl ?_
    intro T43 h43 X43 e43 W43 F43
    have F44 : Exa Z h43 o "com/example/meritgrid/meritgrid/TextIndex" := Exa.wr W43 F29
    have F45 : Fld Z h43 o "com/example/meritgrid/meritgrid/TextIndex" "bytes" "[B" (.ref rb) := Fld.other W43 F30 (Or.inl n_ot)
    have F46 : Fld Z h43 o "com/example/meritgrid/meritgrid/TextIndex" "ends" "[I" (.ref re) := Fld.other W43 F31 (Or.inl n_ot)
    have F47 : Fld Z h43 o "com/example/meritgrid/meritgrid/TextIndex" "table" "[I" (.ref rt) := Fld.other W43 F32 (Or.inl n_ot)
    have F48 : Fld Z h43 o "com/example/meritgrid/meritgrid/TextIndex" "shift" "I" (.int (27 : Int32)) := Fld.other W43 F33 (Or.inl n_ot)
    have F49 : Fld Z h43 o "com/example/meritgrid/meritgrid/TextIndex" "size" "I" (.int (1 : Int32)) := Fld.other W43 F34 (Or.inl n_ot)
    have F50 : Arv Z h43 rb kb .byte (128 : Int32) (own_bl (xs ++ xt.take B)) (.int 0) := F35.other W43 n_bt
    have F51 : Arv Z h43 re ke .int (16 : Int32) (own_bl ([Int32.ofNat A] ++ [(Int32.ofNat (A + B))])) (.int 0) := F28.other W43 n_et
    have F52 : Arv Z h43 t k .byte z (own_bl xt) (.int 0) := F37.other W43 mt3
    have Z53 : n0 ≤ h43.size := Nat.le_trans Z38 (Nat.le_of_eq W43.size.symm)
    have N54 := Fr.snoc X43 N39 g_t
    have P55 := P40.wr W43 (Or.inl (List.mem_of_getElem? (i := 3) rfl))
    refine ow_aloadN K X43 (pc' := 198) o d11_197 rfl rfl ?_
    refine ow_dup K X43 (pc' := 199) d11_198 rfl rfl ?_
    refine ow_getF K X43 (pc' := 202) e43 (hw _ (List.mem_of_getElem? (i := 38) rfl)) F49 d11_199 rfl ?_
    intro T56 X56 e56
    refine ow_dupX1 K X56 (pc' := 203) d11_202 rfl rfl rfl ?_
    refine ow_iconst K X56 (pc' := 204) (1 : Int32) d11_203 rfl (by decide) ?_
    refine ow_iadd K X56 (pc' := 205) (2 : Int32) d11_204 rfl (by decide) ?_
    refine ow_putF K X56 (pc' := 208) e56 .int (hw _ (List.mem_of_getElem? (i := 38) rfl)) F49 F44 (Or.inl (hw _ (List.mem_of_getElem? (i := 39) rfl))) (hw _ (List.mem_of_getElem? (i := 3) rfl)) (by decide) rfl rfl d11_205 rfl ?_
    intro T57 h57 X57 e57 W57 F57 A57
    have F58 : Fld Z h57 o "com/example/meritgrid/meritgrid/TextIndex" "bytes" "[B" (.ref rb) := Fld.other W57 F45 (Or.inr (slot_ne (show Laid Z a0 "com/example/meritgrid/meritgrid/TextIndex" "com/example/meritgrid/meritgrid/TextIndex" "bytes" "[B" from Or.inl (hw _ (List.mem_of_getElem? (i := 12) rfl))) (show Laid Z a0 "com/example/meritgrid/meritgrid/TextIndex" "com/example/meritgrid/meritgrid/TextIndex" "size" "I" from Or.inl (hw _ (List.mem_of_getElem? (i := 39) rfl))) (by decide) (t := (.array .byte)) (t' := .int) (by decide) (by decide)))
    have F59 : Fld Z h57 o "com/example/meritgrid/meritgrid/TextIndex" "ends" "[I" (.ref re) := Fld.other W57 F46 (Or.inr (slot_ne (show Laid Z a0 "com/example/meritgrid/meritgrid/TextIndex" "com/example/meritgrid/meritgrid/TextIndex" "ends" "[I" from Or.inl (hw _ (List.mem_of_getElem? (i := 15) rfl))) (show Laid Z a0 "com/example/meritgrid/meritgrid/TextIndex" "com/example/meritgrid/meritgrid/TextIndex" "size" "I" from Or.inl (hw _ (List.mem_of_getElem? (i := 39) rfl))) (by decide) (t := (.array .int)) (t' := .int) (by decide) (by decide)))
    have F60 : Fld Z h57 o "com/example/meritgrid/meritgrid/TextIndex" "table" "[I" (.ref rt) := Fld.other W57 F47 (Or.inr (slot_ne (show Laid Z a0 "com/example/meritgrid/meritgrid/TextIndex" "com/example/meritgrid/meritgrid/TextIndex" "table" "[I" from Or.inl (hw _ (List.mem_of_getElem? (i := 17) rfl))) (show Laid Z a0 "com/example/meritgrid/meritgrid/TextIndex" "com/example/meritgrid/meritgrid/TextIndex" "size" "I" from Or.inl (hw _ (List.mem_of_getElem? (i := 39) rfl))) (by decide) (t := (.array .int)) (t' := .int) (by decide) (by decide)))
    have F61 : Fld Z h57 o "com/example/meritgrid/meritgrid/TextIndex" "shift" "I" (.int (27 : Int32)) := Fld.other W57 F48 (Or.inr (slot_ne (show Laid Z a0 "com/example/meritgrid/meritgrid/TextIndex" "com/example/meritgrid/meritgrid/TextIndex" "shift" "I" from Or.inl (hw _ (List.mem_of_getElem? (i := 24) rfl))) (show Laid Z a0 "com/example/meritgrid/meritgrid/TextIndex" "com/example/meritgrid/meritgrid/TextIndex" "size" "I" from Or.inl (hw _ (List.mem_of_getElem? (i := 39) rfl))) (by decide) (t := .int) (t' := .int) (by decide) (by decide)))
    have F62 : Arv Z h57 rb kb .byte (128 : Int32) (own_bl (xs ++ xt.take B)) (.int 0) := F50.other W57 (Ne.symm n_ob)
    have F63 : Arv Z h57 re ke .int (16 : Int32) (own_bl ([Int32.ofNat A] ++ [(Int32.ofNat (A + B))])) (.int 0) := F51.other W57 (Ne.symm n_oe)
    have F64 : Arv Z h57 rt kt .int (32 : Int32) (own_bl ((own_t0.set i1 1).set j (2 : Int32))) (.int 0) := F43.other W57 (Ne.symm n_ot)
    have F65 : Arv Z h57 t k .byte z (own_bl xt) (.int 0) := F52.other W57 mt0
    have Z66 : n0 ≤ h57.size := Nat.le_trans Z53 (Nat.le_of_eq W57.size.symm)
    have N67 := Fr.snoc X57 N54 g_o
    have P68 := P55.wr W57 (Or.inl (List.mem_of_getElem? (i := 0) rfl))
    refine ow_retI K X57 .int rfl rfl (Or.inl rfl) d11_208 ?_ (by decide) (by decide)
    rw [e57]
    exact ⟨N67, Z66, P68, Or.inr ⟨rfl, j, ⟨A57, F58, F59, F60, F61, F57, F62, F63, F64⟩⟩⟩
  · refine ow_ifN K X2 (pc' := 19) d11_16 rfl (XT.i0_eq_f hz) ?_
    have e1 : i1 = j := Classical.byContradiction fun q => hz (by rw [htj, if_neg q])
    rw [if_pos e1] at htj
    refine ow_aloadN K X2 (pc' := 20) o d11_19 rfl rfl ?_
    refine ow_getF K X2 (pc' := 23) e2 (hw _ (List.mem_of_getElem? (i := 16) rfl)) oT d11_20 rfl ?_
    intro T69 X69 e69
    refine ow_iload K X69 (pc' := 25) (Int32.ofNat j) d11_23 rfl rfl ?_
    refine ow_iaload K X69 (pc' := 26) e69 aT j (.int (1 : Int32)) (ow_ix_nat (by omega)) (by show j < 32; omega) (by rw [own_bl_at, htj]) d11_25 rfl ?_
    refine ow_iconst K X69 (pc' := 27) (1 : Int32) d11_26 rfl (by decide) ?_
    refine ow_isub K X69 (pc' := 28) (0 : Int32) d11_27 rfl (by decide) ?_
    refine ow_retI K X69 .int rfl rfl (Or.inl rfl) d11_28 ?_ (by decide) (by decide)
    rw [e69]
    exact ⟨NXp, Z0, (Keep.refl h0 [o, rb, re, rt]), Or.inl ⟨rfl, ⟨oE, oB, oN, oT, oS, oZ, aB, aE, aT⟩⟩⟩
def Q0 (n0 : Nat) (v : Option Value) (h : Heap) (L : List Loc) : Prop := v = some (.int 1) ∧ Fr n0 L
set_option maxRecDepth 65536 in
set_option maxHeartbeats 40000000 in
theorem t229 {p : Program} {l : Launch} {e : Env} {s : State} {m : MethodId} {args : Array Value} {below : List Frame} {meth : Method} {c : Code} {T : State} {locs : List Loc} {Z : State} {h : Heap} {a0 : Array Value} (hw : ∀ d ∈ tables_1, d.before a0 Z = true) {n0 : Nat} {q0 q1 q2 : Int64} {q3 nb nu : Int32} {ta tb pr o t : Addr} {k kp : ClassId} {A B f g TL : Nat} {xt ps : List Int32} (K : ow_K p e below s m meth c Z "com/example/meritgrid/meritgrid/TextIndexHoldsPinLaw" code 21 (some .boolean) "law" (ow_Gl p e below s (Q0 n0) 7 191)) (X0 : Stand p l e room_1 s m args below meth c T locs 7 191) (e0 : T.heap = h) (F : Arv Z h t k .byte (3 : Int32) (own_bl xt) (.int 0)) (FP : Arv Z h pr kp .byte (4 : Int32) (own_bl ps) (.int 0)) (hTL : TL ≤ 3) (hfg : f + g ≤ 4) (k1 : (TL = g ∧ own_P xt ps 0 f g) → ow_Gl p e below s (Q0 n0) 7 191 (T.setTop (mkF m 299 #[.val (.long q0), .second, .val (.long q1), .second, .val (.long q2), .second, .val (.int q3), .val (.int (Int32.ofNat A)), .val (.int (Int32.ofNat B)), .val (.ref ta), .val (.ref tb), .val (.ref pr), .val (.int (Int32.ofNat f)), .val (.int (Int32.ofNat g)), .val (.int (Int32.ofNat (f + g))), .val (.ref o), .val (.int nb), .val (.int nu), .val (.ref t), .val (.int (Int32.ofNat TL)), .unset] [.int (1 : Int32)]))) (k0 : ¬ (TL = g ∧ own_P xt ps 0 f g) → ow_Gl p e below s (Q0 n0) 7 191 (T.setTop (mkF m 299 #[.val (.long q0), .second, .val (.long q1), .second, .val (.long q2), .second, .val (.int q3), .val (.int (Int32.ofNat A)), .val (.int (Int32.ofNat B)), .val (.ref ta), .val (.ref tb), .val (.ref pr), .val (.int (Int32.ofNat f)), .val (.int (Int32.ofNat g)), .val (.int (Int32.ofNat (f + g))), .val (.ref o), .val (.int nb), .val (.int nu), .val (.ref t), .val (.int (Int32.ofNat TL)), .unset] [.int (0 : Int32)]))) :
    ow_Gl p e below s (Q0 n0) 7 191 (T.setTop (mkF m 229 #[.val (.long q0), .second, .val (.long q1), .second, .val (.long q2), .second, .val (.int q3), .val (.int (Int32.ofNat A)), .val (.int (Int32.ofNat B)), .val (.ref ta), .val (.ref tb), .val (.ref pr), .val (.int (Int32.ofNat f)), .val (.int (Int32.ofNat g)), .val (.int (Int32.ofNat (f + g))), .val (.ref o), .val (.int nb), .val (.int nu), .val (.ref t), .val (.int (Int32.ofNat TL)), .unset] [])) := by
  refine ow_iload K X0 (pc' := 231) (Int32.ofNat TL) at_229 rfl rfl ?_
  refine ow_iload K X0 (pc' := 233) (Int32.ofNat g) at_231 rfl rfl ?_
  by_cases hl : (Int32.ofNat TL) = (Int32.ofNat g)
  · refine ow_icmpN K X0 (pc' := 236) at_233 rfl (XT.ii_ne_f hl) ?_
    have hTg : TL = g := own_ofn_inj (by omega) (by omega) hl
    have ez : ∀ k, 0 + k = k := Nat.zero_add
    refine ow_cut (P := (TL < 1 ∨ xt.getD 0 0 = ps.getD (f + 0) 0) → ow_Gl p e below s (Q0 n0) 7 191 (T.setTop (mkF m 254 #[.val (.long q0), .second, .val (.long q1), .second, .val (.long q2), .second, .val (.int q3), .val (.int (Int32.ofNat A)), .val (.int (Int32.ofNat B)), .val (.ref ta), .val (.ref tb), .val (.ref pr), .val (.int (Int32.ofNat f)), .val (.int (Int32.ofNat g)), .val (.int (Int32.ofNat (f + g))), .val (.ref o), .val (.int nb), .val (.int nu), .val (.ref t), .val (.int (Int32.ofNat TL)), .unset] []))) (fun jn => ?_) (fun eq0 => ?_)
    · refine ow_iload K X0 (pc' := 238) (Int32.ofNat TL) at_236 rfl rfl ?_
      refine ow_iconst K X0 (pc' := 239) (1 : Int32) at_238 rfl (by decide) ?_
      by_cases hs0 : (Int32.ofNat TL) < (1 : Int32)
      · refine ow_icmpY K X0 (pc' := 254) at_239 (XT.ii_lt_t hs0) (by decide) (by decide) ?_
        exact jn (Or.inl (own_ltn' (k := 1) (by omega) (by decide) hs0))
      · refine ow_icmpN K X0 (pc' := 242) at_239 rfl (XT.ii_lt_f hs0) ?_
        have hge : ¬ TL < 1 := fun q => hs0 (own_ltn (n := 1) q (by decide))
        refine ow_aload K X0 (pc' := 244) t at_242 rfl rfl ?_
        refine ow_iconst K X0 (pc' := 245) (0 : Int32) at_244 rfl (by decide) ?_
        refine ow_baload K X0 (pc' := 246) e0 F 0 (.int (xt.getD 0 0)) ⟨by decide, by decide⟩ (by decide) (own_bl_at _ _) at_245 rfl ?_
        refine ow_aload K X0 (pc' := 248) pr at_246 rfl rfl ?_
        refine ow_iload K X0 (pc' := 250) (Int32.ofNat f) at_248 rfl rfl ?_
        refine ow_baload K X0 (pc' := 251) e0 FP f (.int (ps.getD f 0)) (ow_ix_nat (by omega)) (by show _ < 4; omega) (own_bl_at _ _) at_250 rfl ?_
        by_cases hq0 : (xt.getD 0 0) = (ps.getD f 0)
        · refine ow_icmpN K X0 (pc' := 254) at_251 rfl (XT.ii_ne_f hq0) ?_
          exact jn (Or.inr hq0)
        · refine ow_icmpY K X0 (pc' := 298) at_251 (XT.ii_ne_t hq0) (by decide) (by decide) ?_
          refine ow_iconst K X0 (pc' := 299) (0 : Int32) at_298 rfl (by decide) ?_
          exact k0 (fun z => hq0 (by have := z.2 0 (by omega); simpa using this))
    refine ow_cut (P := (TL < 2 ∨ xt.getD 1 0 = ps.getD (f + 1) 0) → ow_Gl p e below s (Q0 n0) 7 191 (T.setTop (mkF m 274 #[.val (.long q0), .second, .val (.long q1), .second, .val (.long q2), .second, .val (.int q3), .val (.int (Int32.ofNat A)), .val (.int (Int32.ofNat B)), .val (.ref ta), .val (.ref tb), .val (.ref pr), .val (.int (Int32.ofNat f)), .val (.int (Int32.ofNat g)), .val (.int (Int32.ofNat (f + g))), .val (.ref o), .val (.int nb), .val (.int nu), .val (.ref t), .val (.int (Int32.ofNat TL)), .unset] []))) (fun jn => ?_) (fun eq1 => ?_)
    · refine ow_iload K X0 (pc' := 256) (Int32.ofNat TL) at_254 rfl rfl ?_
      refine ow_iconst K X0 (pc' := 257) (2 : Int32) at_256 rfl (by decide) ?_
      by_cases hs1 : (Int32.ofNat TL) < (2 : Int32)
      · refine ow_icmpY K X0 (pc' := 274) at_257 (XT.ii_lt_t hs1) (by decide) (by decide) ?_
        exact jn (Or.inl (own_ltn' (k := 2) (by omega) (by decide) hs1))
      · refine ow_icmpN K X0 (pc' := 260) at_257 rfl (XT.ii_lt_f hs1) ?_
        have hge : ¬ TL < 2 := fun q => hs1 (own_ltn (n := 2) q (by decide))
        refine ow_aload K X0 (pc' := 262) t at_260 rfl rfl ?_
        refine ow_iconst K X0 (pc' := 263) (1 : Int32) at_262 rfl (by decide) ?_
        refine ow_baload K X0 (pc' := 264) e0 F 1 (.int (xt.getD 1 0)) ⟨by decide, by decide⟩ (by decide) (own_bl_at _ _) at_263 rfl ?_
        refine ow_aload K X0 (pc' := 266) pr at_264 rfl rfl ?_
        refine ow_iload K X0 (pc' := 268) (Int32.ofNat f) at_266 rfl rfl ?_
        refine ow_iconst K X0 (pc' := 269) (1 : Int32) at_268 rfl (by decide) ?_
        refine ow_iadd K X0 (pc' := 270) (Int32.ofNat (f + 1)) at_269 rfl (own_addn (i := f) (j := 1) (by omega)) ?_
        refine ow_baload K X0 (pc' := 271) e0 FP (f + 1) (.int (ps.getD (f + 1) 0)) (ow_ix_nat (by omega)) (by show _ < 4; omega) (own_bl_at _ _) at_270 rfl ?_
        by_cases hq1 : (xt.getD 1 0) = (ps.getD (f + 1) 0)
        · refine ow_icmpN K X0 (pc' := 274) at_271 rfl (XT.ii_ne_f hq1) ?_
          exact jn (Or.inr hq1)
        · refine ow_icmpY K X0 (pc' := 298) at_271 (XT.ii_ne_t hq1) (by decide) (by decide) ?_
          refine ow_iconst K X0 (pc' := 299) (0 : Int32) at_298 rfl (by decide) ?_
          exact k0 (fun z => hq1 (by have := z.2 1 (by omega); simpa using this))
    refine ow_cut (P := (TL < 3 ∨ xt.getD 2 0 = ps.getD (f + 2) 0) → ow_Gl p e below s (Q0 n0) 7 191 (T.setTop (mkF m 294 #[.val (.long q0), .second, .val (.long q1), .second, .val (.long q2), .second, .val (.int q3), .val (.int (Int32.ofNat A)), .val (.int (Int32.ofNat B)), .val (.ref ta), .val (.ref tb), .val (.ref pr), .val (.int (Int32.ofNat f)), .val (.int (Int32.ofNat g)), .val (.int (Int32.ofNat (f + g))), .val (.ref o), .val (.int nb), .val (.int nu), .val (.ref t), .val (.int (Int32.ofNat TL)), .unset] []))) (fun jn => ?_) (fun eq2 => ?_)
    · refine ow_iload K X0 (pc' := 276) (Int32.ofNat TL) at_274 rfl rfl ?_
      refine ow_iconst K X0 (pc' := 277) (3 : Int32) at_276 rfl (by decide) ?_
      by_cases hs2 : (Int32.ofNat TL) < (3 : Int32)
      · refine ow_icmpY K X0 (pc' := 294) at_277 (XT.ii_lt_t hs2) (by decide) (by decide) ?_
        exact jn (Or.inl (own_ltn' (k := 3) (by omega) (by decide) hs2))
      · refine ow_icmpN K X0 (pc' := 280) at_277 rfl (XT.ii_lt_f hs2) ?_
        have hge : ¬ TL < 3 := fun q => hs2 (own_ltn (n := 3) q (by decide))
        refine ow_aload K X0 (pc' := 282) t at_280 rfl rfl ?_
        refine ow_iconst K X0 (pc' := 283) (2 : Int32) at_282 rfl (by decide) ?_
        refine ow_baload K X0 (pc' := 284) e0 F 2 (.int (xt.getD 2 0)) ⟨by decide, by decide⟩ (by decide) (own_bl_at _ _) at_283 rfl ?_
        refine ow_aload K X0 (pc' := 286) pr at_284 rfl rfl ?_
        refine ow_iload K X0 (pc' := 288) (Int32.ofNat f) at_286 rfl rfl ?_
        refine ow_iconst K X0 (pc' := 289) (2 : Int32) at_288 rfl (by decide) ?_
        refine ow_iadd K X0 (pc' := 290) (Int32.ofNat (f + 2)) at_289 rfl (own_addn (i := f) (j := 2) (by omega)) ?_
        refine ow_baload K X0 (pc' := 291) e0 FP (f + 2) (.int (ps.getD (f + 2) 0)) (ow_ix_nat (by omega)) (by show _ < 4; omega) (own_bl_at _ _) at_290 rfl ?_
        by_cases hq2 : (xt.getD 2 0) = (ps.getD (f + 2) 0)
        · refine ow_icmpN K X0 (pc' := 294) at_291 rfl (XT.ii_ne_f hq2) ?_
          exact jn (Or.inr hq2)
        · refine ow_icmpY K X0 (pc' := 298) at_291 (XT.ii_ne_t hq2) (by decide) (by decide) ?_
          refine ow_iconst K X0 (pc' := 299) (0 : Int32) at_298 rfl (by decide) ?_
          exact k0 (fun z => hq2 (by have := z.2 2 (by omega); simpa using this))
    refine ow_iconst K X0 (pc' := 295) (1 : Int32) at_294 rfl (by decide) ?_
    refine ow_goto K X0 (pc' := 299) at_295 (by decide) (by decide) ?_
    refine k1 ⟨hTg, fun i hi => ?_⟩
    rw [Nat.zero_add]
    have hc : i = 0 ∨ i = 1 ∨ i = 2 := by omega
    rcases hc with rfl | rfl | rfl
    · rcases eq0 with q | q
      · exact absurd q (by omega)
      · exact q
    · rcases eq1 with q | q
      · exact absurd q (by omega)
      · exact q
    · rcases eq2 with q | q
      · exact absurd q (by omega)
      · exact q
  · refine ow_icmpY K X0 (pc' := 298) at_233 (XT.ii_ne_t hl) (by decide) (by decide) ?_
    refine ow_iconst K X0 (pc' := 299) (0 : Int32) at_298 rfl (by decide) ?_
    exact k0 (fun z => hl (by rw [z.1]))
set_option maxRecDepth 65536 in
set_option maxHeartbeats 40000000 in
theorem t299 {p : Program} {l : Launch} {e : Env} {s : State} {m : MethodId} {args : Array Value} {below : List Frame} {meth : Method} {c : Code} {T : State} {locs : List Loc} {Z : State} {h : Heap} {a0 : Array Value} (hw : ∀ d ∈ tables_1, d.before a0 Z = true) {n0 : Nat} {q0 q1 q2 : Int64} {q3 nb nu tl ex sz : Int32} {ta tb pr o t rb re rt : Addr} {kb ke kt kp : ClassId} {A B f g s0 ln nn : Nat} {xs es ts ps : List Int32} (K : ow_K p e below s m meth c Z "com/example/meritgrid/meritgrid/TextIndexHoldsPinLaw" code 21 (some .boolean) "law" (ow_Gl p e below s (Q0 n0) 7 191)) (X0 : Stand p l e room_1 s m args below meth c T locs 7 191) (e0 : T.heap = h) (N0 : Fr n0 locs) (Z0 : n0 ≤ h.size) (hE : Exa Z h o "com/example/meritgrid/meritgrid/TextIndex") (hO : own_O Z h o rb kb re ke rt kt xs es ts sz) (FP : Arv Z h pr kp .byte (4 : Int32) (own_bl ps) (.int 0)) (hst : (nu = 0 ∧ s0 = 0) ∨ (nu = 1 ∧ es.getD 0 0 = Int32.ofNat s0)) (hnn : ow_Ix nu nn) (hn1 : nn ≤ 1) (hen : es.getD nn 0 = Int32.ofNat (s0 + ln)) (hs : s0 + ln ≤ 100) (hfg : f + g ≤ 4) (hx : (ex = 1 ∧ (ln = g ∧ own_P xs ps s0 f g)) ∨ (ex = 0 ∧ ¬ (ln = g ∧ own_P xs ps s0 f g))) :
    ow_Gl p e below s (Q0 n0) 7 191 (T.setTop (mkF m 299 #[.val (.long q0), .second, .val (.long q1), .second, .val (.long q2), .second, .val (.int q3), .val (.int (Int32.ofNat A)), .val (.int (Int32.ofNat B)), .val (.ref ta), .val (.ref tb), .val (.ref pr), .val (.int (Int32.ofNat f)), .val (.int (Int32.ofNat g)), .val (.int (Int32.ofNat (f + g))), .val (.ref o), .val (.int nb), .val (.int nu), .val (.ref t), .val (.int tl), .unset] [.int ex])) := by
  refine ow_istore K X0 (pc' := 301) (Ls' := #[.val (.long q0), .second, .val (.long q1), .second, .val (.long q2), .second, .val (.int q3), .val (.int (Int32.ofNat A)), .val (.int (Int32.ofNat B)), .val (.ref ta), .val (.ref tb), .val (.ref pr), .val (.int (Int32.ofNat f)), .val (.int (Int32.ofNat g)), .val (.int (Int32.ofNat (f + g))), .val (.ref o), .val (.int nb), .val (.int nu), .val (.ref t), .val (.int tl), .val (.int ex)]) at_299 rfl rfl ?_
  refine ow_aload K X0 (pc' := 303) o at_301 rfl rfl ?_
  refine ow_iload K X0 (pc' := 305) nu at_303 rfl rfl ?_
  refine ow_aload K X0 (pc' := 307) pr at_305 rfl rfl ?_
  refine ow_iload K X0 (pc' := 309) (Int32.ofNat f) at_307 rfl rfl ?_
  refine ow_iload K X0 (pc' := 311) (Int32.ofNat (f + g)) at_309 rfl rfl ?_
  refine ow_callV K X0 (pc' := 314) e0 (y := (⟨"com/example/meritgrid/meritgrid/TextIndex", "holds", "(I[BII)Z"⟩ : MethodName)) (rm7 l Z a0 hw [] o nu pr (Int32.ofNat f) (Int32.ofNat (f + g)) rb kb re ke rt kt xs es ts sz kp (4 : Int32) ps s0 ln f g nn h n0 Z0 rfl rfl hO hO FP hst hnn hn1 hen hs hfg (by omega)) hE (hw _ (List.mem_of_getElem? (i := 53) rfl)) (hw _ (List.mem_of_getElem? (i := 45) rfl)) (hw _ (List.mem_of_getElem? (i := 47) rfl)) (hw _ (List.mem_of_getElem? (i := 46) rfl)) (hw _ (List.mem_of_getElem? (i := 4) rfl)) (hw _ (List.mem_of_getElem? (i := 48) rfl)) (by decide) (st := []) 0 (Nat.le_of_eq rfl) (by decide) (by decide) (by decide) (by decide) rfl [.int nu, .ref pr, .int (Int32.ofNat f), .int (Int32.ofNat (f + g))] rfl (lenOf pd_7 rfl) rfl at_311 rfl ?_
  intro v1 T1 L1 X1 hQ1
  obtain ⟨hv, NNk, exk⟩ := hQ1
  have NXk := Fr.app N0 NNk
  have hv' : v1 = some (.int ex) := by
    rcases hv with ⟨q1, q2⟩ | ⟨q1, q2⟩
    · rcases hx with ⟨x1, x2⟩ | ⟨x1, x2⟩
      · rw [q1, x1]
      · exact absurd q2 x2
    · rcases hx with ⟨x1, x2⟩ | ⟨x1, x2⟩
      · exact absurd x2 q2
      · rw [q1, x1]
  subst hv'
  refine ow_at (g := (mkF m 314 #[.val (.long q0), .second, .val (.long q1), .second, .val (.long q2), .second, .val (.int q3), .val (.int (Int32.ofNat A)), .val (.int (Int32.ofNat B)), .val (.ref ta), .val (.ref tb), .val (.ref pr), .val (.int (Int32.ofNat f)), .val (.int (Int32.ofNat g)), .val (.int (Int32.ofNat (f + g))), .val (.ref o), .val (.int nb), .val (.int nu), .val (.ref t), .val (.int tl), .val (.int ex)] [.int ex])) ?_
  refine ow_iload K X1 (pc' := 316) ex at_314 rfl rfl ?_
  refine ow_icmpN K X1 (pc' := 319) at_316 rfl (XT.ii_ne_f (rfl : ex = ex)) ?_
  refine ow_iconst K X1 (pc' := 320) (1 : Int32) at_319 rfl (by decide) ?_
  refine ow_goto K X1 (pc' := 324) at_320 (by decide) (by decide) ?_
  exact ow_retI K X1 .boolean rfl (by decide) (Or.inr (Or.inl rfl)) at_324 ⟨rfl, NXk⟩ (by decide) (by decide)
theorem own_P_take {xa xb ps : List Int32} {A f g : Nat} (hA : A ≤ xa.length) : (A = g ∧ own_P (xa.take A ++ xb) ps 0 f g) ↔ (A = g ∧ own_P xa ps 0 f g) := by
  have e : ∀ i, i < A → (xa.take A ++ xb).getD (0 + i) 0 = xa.getD (0 + i) 0 := fun i hi => by
    simp only [Nat.zero_add, List.getD_eq_getElem?_getD]
    rw [List.getElem?_append_left (by rw [List.length_take]; omega), List.getElem?_take_of_lt hi]
  constructor
  · rintro ⟨rfl, q⟩; exact ⟨rfl, fun i hi => (e i hi).symm.trans (q i hi)⟩
  · rintro ⟨rfl, q⟩; exact ⟨rfl, fun i hi => (e i hi).trans (q i hi)⟩
theorem own_P_drop {xa xb ps : List Int32} {A B f g : Nat} (hA : xa.length = A) (hB : B ≤ xb.length) : (B = g ∧ own_P (xa ++ xb.take B) ps A f g) ↔ (B = g ∧ own_P xb ps 0 f g) := by
  have e : ∀ i, i < B → (xa ++ xb.take B).getD (A + i) 0 = xb.getD (0 + i) 0 := fun i hi => by
    simp only [Nat.zero_add, List.getD_eq_getElem?_getD]
    rw [List.getElem?_append_right (by omega), hA, Nat.add_sub_cancel_left, List.getElem?_take_of_lt hi]
  constructor
  · rintro ⟨rfl, q⟩; exact ⟨rfl, fun i hi => (e i hi).symm.trans (q i hi)⟩
  · rintro ⟨rfl, q⟩; exact ⟨rfl, fun i hi => (e i hi).trans (q i hi)⟩
theorem pn_0 : plainName "com/example/meritgrid/meritgrid/TextIndexHoldsPinLaw" = true := by first | (simp [plainName, overriddenIn]; done) | decide +kernel
theorem ef_0 (m : MethodId) (q0 : Int64) (q1 : Int64) (q2 : Int64) (q3 : Int32) : entryFrame m #[(.long q0), (.long q1), (.long q2), (.int q3)] maxLocals = mkF m 0 #[.val (.long q0), .second, .val (.long q1), .second, .val (.long q2), .second, .val (.int q3), .unset, .unset, .unset, .unset, .unset, .unset, .unset, .unset, .unset, .unset, .unset, .unset, .unset, .unset] [] := by first | (simp [entryFrame, mkF, argsToLocals, Value.category, maxLocals]; done) | rfl
set_option maxRecDepth 65536 in
set_option maxHeartbeats 40000000 in
theorem rm0 (l : Launch) (Z : State) (a0 : Array Value) (hw : ∀ d ∈ tables_1, d.before a0 Z = true) (ws : List Jvm.Cond) (q0 : Int64) (q1 : Int64) (q2 : Int64) (q3 : Int32) (h0 : Heap) (n0 : Nat) (Z0 : n0 ≤ h0.size) :
    MetFree l x (head1 (Jvm.Cond.code x code maxLocals ret :: ws) room_1) (fun as_ U => as_ = #[(.long q0), (.long q1), (.long q2), (.int q3)] ∧ Z.Warmed39 U.vm ∧ U.heap = h0) (fun _ _ _ _ _ => True) (fun _ U o U' => ∃ v L, o = .returned v ∧ Q0 n0 v U'.heap L ∧ FrameEnd U o U' L 7 191) := by
  refine MetFree.of_bodySF (plainFor_of_name pn_0) hisR ?_
  intro p e s m args below meth c s₁ Bd hml0 hP hK
  obtain ⟨rfl, hZ, hh⟩ := hP
  have K : ow_K p e below s m meth c Z "com/example/meritgrid/meritgrid/TextIndexHoldsPinLaw" code 21 (some .boolean) "law" (ow_Gl p e below s (Q0 n0) 7 191) := ⟨ow_Gl_bc, Bd.exec, Bd.bytes, hml0, findClass_of_methodNamed Bd.named, hZ, Bd.returns, Bd.notSynchronized, (name_of_methodNamed Bd.named Bd.method).1⟩
  have X0 : Stand p l e room_1 s m #[(.long q0), (.long q1), (.long q2), (.int q3)] below meth c s₁ [] 0 0 := Stand.of_body Bd
  have e0 : s₁.heap = h0 := by rw [← hh, Bd.state]; rfl
  have N0 := Fr.nil n0
  refine ow_entry (Q := (Q0 n0)) (ce := 7) (sl := 191) (ef_0 m q0 q1 q2 q3) ?_
  obtain ⟨A, hA3, hA⟩ := own_and3L (XT.ushrL q0 (24 : Int32))
  obtain ⟨B, hB3, hB⟩ := own_and3L (XT.ushrL q1 (24 : Int32))
  refine ow_lloadN K X0 (pc' := 1) q0 at_0 rfl rfl ?_
  refine ow_bipush K X0 (pc' := 3) (24 : Int32) at_1 rfl (by decide) ?_
  refine ow_lushr K X0 (pc' := 4) (XT.ushrL q0 (24 : Int32)) at_3 rfl rfl ?_
  refine ow_ldc2 K X0 (pc' := 7) (3 : Int64) at_4 rfl (hw _ (List.mem_of_getElem? (i := 0) rfl)) ?_
  refine ow_land K X0 (pc' := 8) ((XT.ushrL q0 (24 : Int32)) &&& (3 : Int64)) at_7 rfl rfl ?_
  refine ow_l2i K X0 (pc' := 9) (Int32.ofNat A) at_8 rfl hA ?_
  refine ow_istore K X0 (pc' := 11) (Ls' := #[.val (.long q0), .second, .val (.long q1), .second, .val (.long q2), .second, .val (.int q3), .val (.int (Int32.ofNat A)), .unset, .unset, .unset, .unset, .unset, .unset, .unset, .unset, .unset, .unset, .unset, .unset, .unset]) at_9 rfl rfl ?_
  refine ow_lloadN K X0 (pc' := 12) q1 at_11 rfl rfl ?_
  refine ow_bipush K X0 (pc' := 14) (24 : Int32) at_12 rfl (by decide) ?_
  refine ow_lushr K X0 (pc' := 15) (XT.ushrL q1 (24 : Int32)) at_14 rfl rfl ?_
  refine ow_ldc2 K X0 (pc' := 18) (3 : Int64) at_15 rfl (hw _ (List.mem_of_getElem? (i := 0) rfl)) ?_
  refine ow_land K X0 (pc' := 19) ((XT.ushrL q1 (24 : Int32)) &&& (3 : Int64)) at_18 rfl rfl ?_
  refine ow_l2i K X0 (pc' := 20) (Int32.ofNat B) at_19 rfl hB ?_
  refine ow_istore K X0 (pc' := 22) (Ls' := #[.val (.long q0), .second, .val (.long q1), .second, .val (.long q2), .second, .val (.int q3), .val (.int (Int32.ofNat A)), .val (.int (Int32.ofNat B)), .unset, .unset, .unset, .unset, .unset, .unset, .unset, .unset, .unset, .unset, .unset, .unset]) at_20 rfl rfl ?_
  refine ow_iconst K X0 (pc' := 23) (3 : Int32) at_22 rfl (by decide) ?_
  refine ow_newP K X0 (pc' := 25) e0 (hw _ (List.mem_of_getElem? (i := 1) rfl)) (by decide) 3 (by decide) (by decide) (by decide) (by decide) at_23 rfl ?_
  intro T1 h1 k1 ta X1 e1 E1 g1 A1
  have ge2 : n0 ≤ ta := Nat.le_trans Z0 (Nat.le_of_eq g1.symm)
  have Z3 : n0 ≤ h1.size := Nat.le_trans Z0 E1.1
  have F4 : Arv Z h1 ta k1 .byte (3 : Int32) [.int 0, .int 0, .int 0] (.int 0) := Arv.pad A1 (pad_rep [] (.int 0) 3)
  refine ow_dup K X1 (pc' := 26) at_25 rfl rfl ?_
  refine ow_iconst K X1 (pc' := 27) (0 : Int32) at_26 rfl (by decide) ?_
  refine ow_lloadN K X1 (pc' := 28) q0 at_27 rfl rfl ?_
  refine ow_l2i K X1 (pc' := 29) ((q0).toInt32) at_28 rfl rfl ?_
  refine ow_i2b K X1 (pc' := 30) ((((q0).toInt32)).toInt8.toInt32) at_29 rfl rfl ?_
  refine ow_bastore K X1 (pc' := 31) e1 F4 0 [.int (nar .byte (q0.toInt32.toInt8.toInt32)), .int 0, .int 0] ⟨by decide, by decide⟩ (by decide) (by simp) rfl at_30 rfl ?_
  intro T5 h5 X5 e5 W5 F5
  have Z6 : n0 ≤ h5.size := Nat.le_trans Z3 (Nat.le_of_eq W5.size.symm)
  have N7 := Fr.snoc X5 N0 ge2
  refine ow_dup K X5 (pc' := 32) at_31 rfl rfl ?_
  refine ow_iconst K X5 (pc' := 33) (1 : Int32) at_32 rfl (by decide) ?_
  refine ow_lloadN K X5 (pc' := 34) q0 at_33 rfl rfl ?_
  refine ow_bipush K X5 (pc' := 36) (8 : Int32) at_34 rfl (by decide) ?_
  refine ow_lushr K X5 (pc' := 37) (XT.ushrL q0 (8 : Int32)) at_36 rfl rfl ?_
  refine ow_l2i K X5 (pc' := 38) (((XT.ushrL q0 (8 : Int32))).toInt32) at_37 rfl rfl ?_
  refine ow_i2b K X5 (pc' := 39) (((((XT.ushrL q0 (8 : Int32))).toInt32)).toInt8.toInt32) at_38 rfl rfl ?_
  refine ow_bastore K X5 (pc' := 40) e5 F5 1 [.int (nar .byte (q0.toInt32.toInt8.toInt32)), .int (nar .byte ((XT.ushrL q0 (8 : Int32)).toInt32.toInt8.toInt32)), .int 0] ⟨by decide, by decide⟩ (by decide) (by simp) rfl at_39 rfl ?_
  intro T8 h8 X8 e8 W8 F8
  have Z9 : n0 ≤ h8.size := Nat.le_trans Z6 (Nat.le_of_eq W8.size.symm)
  have N10 := Fr.snoc X8 N7 ge2
  refine ow_dup K X8 (pc' := 41) at_40 rfl rfl ?_
  refine ow_iconst K X8 (pc' := 42) (2 : Int32) at_41 rfl (by decide) ?_
  refine ow_lloadN K X8 (pc' := 43) q0 at_42 rfl rfl ?_
  refine ow_bipush K X8 (pc' := 45) (16 : Int32) at_43 rfl (by decide) ?_
  refine ow_lushr K X8 (pc' := 46) (XT.ushrL q0 (16 : Int32)) at_45 rfl rfl ?_
  refine ow_l2i K X8 (pc' := 47) (((XT.ushrL q0 (16 : Int32))).toInt32) at_46 rfl rfl ?_
  refine ow_i2b K X8 (pc' := 48) (((((XT.ushrL q0 (16 : Int32))).toInt32)).toInt8.toInt32) at_47 rfl rfl ?_
  refine ow_bastore K X8 (pc' := 49) e8 F8 2 [.int (nar .byte (q0.toInt32.toInt8.toInt32)), .int (nar .byte ((XT.ushrL q0 (8 : Int32)).toInt32.toInt8.toInt32)), .int (nar .byte ((XT.ushrL q0 (16 : Int32)).toInt32.toInt8.toInt32))] ⟨by decide, by decide⟩ (by decide) (by simp) rfl at_48 rfl ?_
  intro T11 h11 X11 e11 W11 F11
  have Z12 : n0 ≤ h11.size := Nat.le_trans Z9 (Nat.le_of_eq W11.size.symm)
  have N13 := Fr.snoc X11 N10 ge2
  refine ow_astore K X11 (pc' := 51) (Ls' := #[.val (.long q0), .second, .val (.long q1), .second, .val (.long q2), .second, .val (.int q3), .val (.int (Int32.ofNat A)), .val (.int (Int32.ofNat B)), .val (.ref ta), .unset, .unset, .unset, .unset, .unset, .unset, .unset, .unset, .unset, .unset, .unset]) at_49 rfl rfl ?_
  refine ow_iconst K X11 (pc' := 52) (3 : Int32) at_51 rfl (by decide) ?_
  refine ow_newP K X11 (pc' := 54) e11 (hw _ (List.mem_of_getElem? (i := 1) rfl)) (by decide) 3 (by decide) (by decide) (by decide) (by decide) at_52 rfl ?_
  intro T14 h14 k14 tb X14 e14 E14 g14 A14
  have ne15 : ta ≠ tb := ow_ne F11.lt g14
  have ge16 : n0 ≤ tb := Nat.le_trans Z12 (Nat.le_of_eq g14.symm)
  have F17 : Arv Z h14 ta k1 .byte (3 : Int32) [.int (nar .byte (q0.toInt32.toInt8.toInt32)), .int (nar .byte ((XT.ushrL q0 (8 : Int32)).toInt32.toInt8.toInt32)), .int (nar .byte ((XT.ushrL q0 (16 : Int32)).toInt32.toInt8.toInt32))] (.int 0) := F11.ext E14
  have Z18 : n0 ≤ h14.size := Nat.le_trans Z12 E14.1
  have F19 : Arv Z h14 tb k14 .byte (3 : Int32) [.int 0, .int 0, .int 0] (.int 0) := Arv.pad A14 (pad_rep [] (.int 0) 3)
  refine ow_dup K X14 (pc' := 55) at_54 rfl rfl ?_
  refine ow_iconst K X14 (pc' := 56) (0 : Int32) at_55 rfl (by decide) ?_
  refine ow_lloadN K X14 (pc' := 57) q1 at_56 rfl rfl ?_
  refine ow_l2i K X14 (pc' := 58) ((q1).toInt32) at_57 rfl rfl ?_
  refine ow_i2b K X14 (pc' := 59) ((((q1).toInt32)).toInt8.toInt32) at_58 rfl rfl ?_
  refine ow_bastore K X14 (pc' := 60) e14 F19 0 [.int (nar .byte (q1.toInt32.toInt8.toInt32)), .int 0, .int 0] ⟨by decide, by decide⟩ (by decide) (by simp) rfl at_59 rfl ?_
  intro T20 h20 X20 e20 W20 F20
  have F21 : Arv Z h20 ta k1 .byte (3 : Int32) [.int (nar .byte (q0.toInt32.toInt8.toInt32)), .int (nar .byte ((XT.ushrL q0 (8 : Int32)).toInt32.toInt8.toInt32)), .int (nar .byte ((XT.ushrL q0 (16 : Int32)).toInt32.toInt8.toInt32))] (.int 0) := F17.other W20 ne15
  have Z22 : n0 ≤ h20.size := Nat.le_trans Z18 (Nat.le_of_eq W20.size.symm)
  have N23 := Fr.snoc X20 N13 ge16
  refine ow_dup K X20 (pc' := 61) at_60 rfl rfl ?_
  refine ow_iconst K X20 (pc' := 62) (1 : Int32) at_61 rfl (by decide) ?_
  refine ow_lloadN K X20 (pc' := 63) q1 at_62 rfl rfl ?_
  refine ow_bipush K X20 (pc' := 65) (8 : Int32) at_63 rfl (by decide) ?_
  refine ow_lushr K X20 (pc' := 66) (XT.ushrL q1 (8 : Int32)) at_65 rfl rfl ?_
  refine ow_l2i K X20 (pc' := 67) (((XT.ushrL q1 (8 : Int32))).toInt32) at_66 rfl rfl ?_
  refine ow_i2b K X20 (pc' := 68) (((((XT.ushrL q1 (8 : Int32))).toInt32)).toInt8.toInt32) at_67 rfl rfl ?_
  refine ow_bastore K X20 (pc' := 69) e20 F20 1 [.int (nar .byte (q1.toInt32.toInt8.toInt32)), .int (nar .byte ((XT.ushrL q1 (8 : Int32)).toInt32.toInt8.toInt32)), .int 0] ⟨by decide, by decide⟩ (by decide) (by simp) rfl at_68 rfl ?_
  intro T24 h24 X24 e24 W24 F24
  have F25 : Arv Z h24 ta k1 .byte (3 : Int32) [.int (nar .byte (q0.toInt32.toInt8.toInt32)), .int (nar .byte ((XT.ushrL q0 (8 : Int32)).toInt32.toInt8.toInt32)), .int (nar .byte ((XT.ushrL q0 (16 : Int32)).toInt32.toInt8.toInt32))] (.int 0) := F21.other W24 ne15
  have Z26 : n0 ≤ h24.size := Nat.le_trans Z22 (Nat.le_of_eq W24.size.symm)
  have N27 := Fr.snoc X24 N23 ge16
  refine ow_dup K X24 (pc' := 70) at_69 rfl rfl ?_
  refine ow_iconst K X24 (pc' := 71) (2 : Int32) at_70 rfl (by decide) ?_
  refine ow_lloadN K X24 (pc' := 72) q1 at_71 rfl rfl ?_
  refine ow_bipush K X24 (pc' := 74) (16 : Int32) at_72 rfl (by decide) ?_
  refine ow_lushr K X24 (pc' := 75) (XT.ushrL q1 (16 : Int32)) at_74 rfl rfl ?_
  refine ow_l2i K X24 (pc' := 76) (((XT.ushrL q1 (16 : Int32))).toInt32) at_75 rfl rfl ?_
  refine ow_i2b K X24 (pc' := 77) (((((XT.ushrL q1 (16 : Int32))).toInt32)).toInt8.toInt32) at_76 rfl rfl ?_
  refine ow_bastore K X24 (pc' := 78) e24 F24 2 [.int (nar .byte (q1.toInt32.toInt8.toInt32)), .int (nar .byte ((XT.ushrL q1 (8 : Int32)).toInt32.toInt8.toInt32)), .int (nar .byte ((XT.ushrL q1 (16 : Int32)).toInt32.toInt8.toInt32))] ⟨by decide, by decide⟩ (by decide) (by simp) rfl at_77 rfl ?_
  intro T28 h28 X28 e28 W28 F28
  have F29 : Arv Z h28 ta k1 .byte (3 : Int32) [.int (nar .byte (q0.toInt32.toInt8.toInt32)), .int (nar .byte ((XT.ushrL q0 (8 : Int32)).toInt32.toInt8.toInt32)), .int (nar .byte ((XT.ushrL q0 (16 : Int32)).toInt32.toInt8.toInt32))] (.int 0) := F25.other W28 ne15
  have Z30 : n0 ≤ h28.size := Nat.le_trans Z26 (Nat.le_of_eq W28.size.symm)
  have N31 := Fr.snoc X28 N27 ge16
  refine ow_astore K X28 (pc' := 80) (Ls' := #[.val (.long q0), .second, .val (.long q1), .second, .val (.long q2), .second, .val (.int q3), .val (.int (Int32.ofNat A)), .val (.int (Int32.ofNat B)), .val (.ref ta), .val (.ref tb), .unset, .unset, .unset, .unset, .unset, .unset, .unset, .unset, .unset, .unset]) at_78 rfl rfl ?_
  refine ow_iconst K X28 (pc' := 81) (4 : Int32) at_80 rfl (by decide) ?_
  refine ow_newP K X28 (pc' := 83) e28 (hw _ (List.mem_of_getElem? (i := 1) rfl)) (by decide) 4 (by decide) (by decide) (by decide) (by decide) at_81 rfl ?_
  intro T32 h32 k32 pr X32 e32 E32 g32 A32
  have ne33 : ta ≠ pr := ow_ne F29.lt g32
  have ne34 : tb ≠ pr := ow_ne F28.lt g32
  have ge35 : n0 ≤ pr := Nat.le_trans Z30 (Nat.le_of_eq g32.symm)
  have F36 : Arv Z h32 ta k1 .byte (3 : Int32) [.int (nar .byte (q0.toInt32.toInt8.toInt32)), .int (nar .byte ((XT.ushrL q0 (8 : Int32)).toInt32.toInt8.toInt32)), .int (nar .byte ((XT.ushrL q0 (16 : Int32)).toInt32.toInt8.toInt32))] (.int 0) := F29.ext E32
  have F37 : Arv Z h32 tb k14 .byte (3 : Int32) [.int (nar .byte (q1.toInt32.toInt8.toInt32)), .int (nar .byte ((XT.ushrL q1 (8 : Int32)).toInt32.toInt8.toInt32)), .int (nar .byte ((XT.ushrL q1 (16 : Int32)).toInt32.toInt8.toInt32))] (.int 0) := F28.ext E32
  have Z38 : n0 ≤ h32.size := Nat.le_trans Z30 E32.1
  have F39 : Arv Z h32 pr k32 .byte (4 : Int32) [.int 0, .int 0, .int 0, .int 0] (.int 0) := Arv.pad A32 (pad_rep [] (.int 0) 4)
  refine ow_dup K X32 (pc' := 84) at_83 rfl rfl ?_
  refine ow_iconst K X32 (pc' := 85) (0 : Int32) at_84 rfl (by decide) ?_
  refine ow_lload K X32 (pc' := 87) q2 at_85 rfl rfl ?_
  refine ow_l2i K X32 (pc' := 88) ((q2).toInt32) at_87 rfl rfl ?_
  refine ow_i2b K X32 (pc' := 89) ((((q2).toInt32)).toInt8.toInt32) at_88 rfl rfl ?_
  refine ow_bastore K X32 (pc' := 90) e32 F39 0 [.int (nar .byte (q2.toInt32.toInt8.toInt32)), .int 0, .int 0, .int 0] ⟨by decide, by decide⟩ (by decide) (by simp) rfl at_89 rfl ?_
  intro T40 h40 X40 e40 W40 F40
  have F41 : Arv Z h40 ta k1 .byte (3 : Int32) [.int (nar .byte (q0.toInt32.toInt8.toInt32)), .int (nar .byte ((XT.ushrL q0 (8 : Int32)).toInt32.toInt8.toInt32)), .int (nar .byte ((XT.ushrL q0 (16 : Int32)).toInt32.toInt8.toInt32))] (.int 0) := F36.other W40 ne33
  have F42 : Arv Z h40 tb k14 .byte (3 : Int32) [.int (nar .byte (q1.toInt32.toInt8.toInt32)), .int (nar .byte ((XT.ushrL q1 (8 : Int32)).toInt32.toInt8.toInt32)), .int (nar .byte ((XT.ushrL q1 (16 : Int32)).toInt32.toInt8.toInt32))] (.int 0) := F37.other W40 ne34
  have Z43 : n0 ≤ h40.size := Nat.le_trans Z38 (Nat.le_of_eq W40.size.symm)
  have N44 := Fr.snoc X40 N31 ge35
  refine ow_dup K X40 (pc' := 91) at_90 rfl rfl ?_
  refine ow_iconst K X40 (pc' := 92) (1 : Int32) at_91 rfl (by decide) ?_
  refine ow_lload K X40 (pc' := 94) q2 at_92 rfl rfl ?_
  refine ow_bipush K X40 (pc' := 96) (8 : Int32) at_94 rfl (by decide) ?_
  refine ow_lushr K X40 (pc' := 97) (XT.ushrL q2 (8 : Int32)) at_96 rfl rfl ?_
  refine ow_l2i K X40 (pc' := 98) (((XT.ushrL q2 (8 : Int32))).toInt32) at_97 rfl rfl ?_
  refine ow_i2b K X40 (pc' := 99) (((((XT.ushrL q2 (8 : Int32))).toInt32)).toInt8.toInt32) at_98 rfl rfl ?_
  refine ow_bastore K X40 (pc' := 100) e40 F40 1 [.int (nar .byte (q2.toInt32.toInt8.toInt32)), .int (nar .byte ((XT.ushrL q2 (8 : Int32)).toInt32.toInt8.toInt32)), .int 0, .int 0] ⟨by decide, by decide⟩ (by decide) (by simp) rfl at_99 rfl ?_
  intro T45 h45 X45 e45 W45 F45
  have F46 : Arv Z h45 ta k1 .byte (3 : Int32) [.int (nar .byte (q0.toInt32.toInt8.toInt32)), .int (nar .byte ((XT.ushrL q0 (8 : Int32)).toInt32.toInt8.toInt32)), .int (nar .byte ((XT.ushrL q0 (16 : Int32)).toInt32.toInt8.toInt32))] (.int 0) := F41.other W45 ne33
  have F47 : Arv Z h45 tb k14 .byte (3 : Int32) [.int (nar .byte (q1.toInt32.toInt8.toInt32)), .int (nar .byte ((XT.ushrL q1 (8 : Int32)).toInt32.toInt8.toInt32)), .int (nar .byte ((XT.ushrL q1 (16 : Int32)).toInt32.toInt8.toInt32))] (.int 0) := F42.other W45 ne34
  have Z48 : n0 ≤ h45.size := Nat.le_trans Z43 (Nat.le_of_eq W45.size.symm)
  have N49 := Fr.snoc X45 N44 ge35
  refine ow_dup K X45 (pc' := 101) at_100 rfl rfl ?_
  refine ow_iconst K X45 (pc' := 102) (2 : Int32) at_101 rfl (by decide) ?_
  refine ow_lload K X45 (pc' := 104) q2 at_102 rfl rfl ?_
  refine ow_bipush K X45 (pc' := 106) (16 : Int32) at_104 rfl (by decide) ?_
  refine ow_lushr K X45 (pc' := 107) (XT.ushrL q2 (16 : Int32)) at_106 rfl rfl ?_
  refine ow_l2i K X45 (pc' := 108) (((XT.ushrL q2 (16 : Int32))).toInt32) at_107 rfl rfl ?_
  refine ow_i2b K X45 (pc' := 109) (((((XT.ushrL q2 (16 : Int32))).toInt32)).toInt8.toInt32) at_108 rfl rfl ?_
  refine ow_bastore K X45 (pc' := 110) e45 F45 2 [.int (nar .byte (q2.toInt32.toInt8.toInt32)), .int (nar .byte ((XT.ushrL q2 (8 : Int32)).toInt32.toInt8.toInt32)), .int (nar .byte ((XT.ushrL q2 (16 : Int32)).toInt32.toInt8.toInt32)), .int 0] ⟨by decide, by decide⟩ (by decide) (by simp) rfl at_109 rfl ?_
  intro T50 h50 X50 e50 W50 F50
  have F51 : Arv Z h50 ta k1 .byte (3 : Int32) [.int (nar .byte (q0.toInt32.toInt8.toInt32)), .int (nar .byte ((XT.ushrL q0 (8 : Int32)).toInt32.toInt8.toInt32)), .int (nar .byte ((XT.ushrL q0 (16 : Int32)).toInt32.toInt8.toInt32))] (.int 0) := F46.other W50 ne33
  have F52 : Arv Z h50 tb k14 .byte (3 : Int32) [.int (nar .byte (q1.toInt32.toInt8.toInt32)), .int (nar .byte ((XT.ushrL q1 (8 : Int32)).toInt32.toInt8.toInt32)), .int (nar .byte ((XT.ushrL q1 (16 : Int32)).toInt32.toInt8.toInt32))] (.int 0) := F47.other W50 ne34
  have Z53 : n0 ≤ h50.size := Nat.le_trans Z48 (Nat.le_of_eq W50.size.symm)
  have N54 := Fr.snoc X50 N49 ge35
  refine ow_dup K X50 (pc' := 111) at_110 rfl rfl ?_
  refine ow_iconst K X50 (pc' := 112) (3 : Int32) at_111 rfl (by decide) ?_
  refine ow_lload K X50 (pc' := 114) q2 at_112 rfl rfl ?_
  refine ow_bipush K X50 (pc' := 116) (24 : Int32) at_114 rfl (by decide) ?_
  refine ow_lushr K X50 (pc' := 117) (XT.ushrL q2 (24 : Int32)) at_116 rfl rfl ?_
  refine ow_l2i K X50 (pc' := 118) (((XT.ushrL q2 (24 : Int32))).toInt32) at_117 rfl rfl ?_
  refine ow_i2b K X50 (pc' := 119) (((((XT.ushrL q2 (24 : Int32))).toInt32)).toInt8.toInt32) at_118 rfl rfl ?_
  refine ow_bastore K X50 (pc' := 120) e50 F50 3 [.int (nar .byte (q2.toInt32.toInt8.toInt32)), .int (nar .byte ((XT.ushrL q2 (8 : Int32)).toInt32.toInt8.toInt32)), .int (nar .byte ((XT.ushrL q2 (16 : Int32)).toInt32.toInt8.toInt32)), .int (nar .byte ((XT.ushrL q2 (24 : Int32)).toInt32.toInt8.toInt32))] ⟨by decide, by decide⟩ (by decide) (by simp) rfl at_119 rfl ?_
  intro T55 h55 X55 e55 W55 F55
  have F56 : Arv Z h55 ta k1 .byte (3 : Int32) [.int (nar .byte (q0.toInt32.toInt8.toInt32)), .int (nar .byte ((XT.ushrL q0 (8 : Int32)).toInt32.toInt8.toInt32)), .int (nar .byte ((XT.ushrL q0 (16 : Int32)).toInt32.toInt8.toInt32))] (.int 0) := F51.other W55 ne33
  have F57 : Arv Z h55 tb k14 .byte (3 : Int32) [.int (nar .byte (q1.toInt32.toInt8.toInt32)), .int (nar .byte ((XT.ushrL q1 (8 : Int32)).toInt32.toInt8.toInt32)), .int (nar .byte ((XT.ushrL q1 (16 : Int32)).toInt32.toInt8.toInt32))] (.int 0) := F52.other W55 ne34
  have Z58 : n0 ≤ h55.size := Nat.le_trans Z53 (Nat.le_of_eq W55.size.symm)
  have N59 := Fr.snoc X55 N54 ge35
  obtain ⟨xa, hxa⟩ : ∃ u : List Int32, u = [(nar .byte (q0.toInt32.toInt8.toInt32)), (nar .byte ((XT.ushrL q0 (8 : Int32)).toInt32.toInt8.toInt32)), (nar .byte ((XT.ushrL q0 (16 : Int32)).toInt32.toInt8.toInt32))] := ⟨_, rfl⟩
  have lxa : xa.length = 3 := by rw [hxa]; rfl
  have F60 : Arv Z h55 ta k1 .byte (3 : Int32) (own_bl xa) (.int 0) := by rw [hxa]; exact F56
  obtain ⟨xb, hxb⟩ : ∃ u : List Int32, u = [(nar .byte (q1.toInt32.toInt8.toInt32)), (nar .byte ((XT.ushrL q1 (8 : Int32)).toInt32.toInt8.toInt32)), (nar .byte ((XT.ushrL q1 (16 : Int32)).toInt32.toInt8.toInt32))] := ⟨_, rfl⟩
  have lxb : xb.length = 3 := by rw [hxb]; rfl
  have F61 : Arv Z h55 tb k14 .byte (3 : Int32) (own_bl xb) (.int 0) := by rw [hxb]; exact F57
  obtain ⟨ps, hps⟩ : ∃ u : List Int32, u = [(nar .byte (q2.toInt32.toInt8.toInt32)), (nar .byte ((XT.ushrL q2 (8 : Int32)).toInt32.toInt8.toInt32)), (nar .byte ((XT.ushrL q2 (16 : Int32)).toInt32.toInt8.toInt32)), (nar .byte ((XT.ushrL q2 (24 : Int32)).toInt32.toInt8.toInt32))] := ⟨_, rfl⟩
  have lps : ps.length = 4 := by rw [hps]; rfl
  have F62 : Arv Z h55 pr k32 .byte (4 : Int32) (own_bl ps) (.int 0) := by rw [hps]; exact F55
  refine ow_astore K X55 (pc' := 122) (Ls' := #[.val (.long q0), .second, .val (.long q1), .second, .val (.long q2), .second, .val (.int q3), .val (.int (Int32.ofNat A)), .val (.int (Int32.ofNat B)), .val (.ref ta), .val (.ref tb), .val (.ref pr), .unset, .unset, .unset, .unset, .unset, .unset, .unset, .unset, .unset]) at_120 rfl rfl ?_
  refine ow_iload K X55 (pc' := 124) q3 at_122 rfl rfl ?_
  refine ow_iconst K X55 (pc' := 125) (1 : Int32) at_124 rfl (by decide) ?_
  obtain ⟨u1, hu1, hv1⟩ := own_and7 (XT.ushr q3 (1 : Int32))
  obtain ⟨u2, hu2, hv2⟩ := own_and7 (XT.ushr q3 (4 : Int32))
  obtain ⟨⟨f, hf⟩, hf1⟩ := own_rem7 ⟨u1, by omega⟩
  obtain ⟨hne, ⟨g, hg⟩, hfg, hg1⟩ := own_rem7b ⟨u2, by omega⟩ ⟨f, hf⟩
  dsimp only at hf1 hne hfg hg1
  refine ow_iushr K X55 (pc' := 126) (XT.ushr q3 (1 : Int32)) at_125 rfl rfl ?_
  refine ow_bipush K X55 (pc' := 128) (7 : Int32) at_126 rfl (by decide) ?_
  refine ow_iand K X55 (pc' := 129) (Int32.ofNat u1) at_128 rfl hv1 ?_
  refine ow_iconst K X55 (pc' := 130) (5 : Int32) at_129 rfl (by decide) ?_
  refine ow_irem K X55 (pc' := 131) (Int32.ofNat f) at_130 rfl (by decide) hf1 ?_
  refine ow_istore K X55 (pc' := 133) (Ls' := #[.val (.long q0), .second, .val (.long q1), .second, .val (.long q2), .second, .val (.int q3), .val (.int (Int32.ofNat A)), .val (.int (Int32.ofNat B)), .val (.ref ta), .val (.ref tb), .val (.ref pr), .val (.int (Int32.ofNat f)), .unset, .unset, .unset, .unset, .unset, .unset, .unset, .unset]) at_131 rfl rfl ?_
  refine ow_iload K X55 (pc' := 135) q3 at_133 rfl rfl ?_
  refine ow_iconst K X55 (pc' := 136) (4 : Int32) at_135 rfl (by decide) ?_
  refine ow_iushr K X55 (pc' := 137) (XT.ushr q3 (4 : Int32)) at_136 rfl rfl ?_
  refine ow_bipush K X55 (pc' := 139) (7 : Int32) at_137 rfl (by decide) ?_
  refine ow_iand K X55 (pc' := 140) (Int32.ofNat u2) at_139 rfl hv2 ?_
  refine ow_iconst K X55 (pc' := 141) (5 : Int32) at_140 rfl (by decide) ?_
  refine ow_iload K X55 (pc' := 143) (Int32.ofNat f) at_141 rfl rfl ?_
  refine ow_isub K X55 (pc' := 144) ((5 : Int32) - (Int32.ofNat f)) at_143 rfl rfl ?_
  refine ow_irem K X55 (pc' := 145) (Int32.ofNat g) at_144 rfl hne hg1 ?_
  refine ow_istore K X55 (pc' := 147) (Ls' := #[.val (.long q0), .second, .val (.long q1), .second, .val (.long q2), .second, .val (.int q3), .val (.int (Int32.ofNat A)), .val (.int (Int32.ofNat B)), .val (.ref ta), .val (.ref tb), .val (.ref pr), .val (.int (Int32.ofNat f)), .val (.int (Int32.ofNat g)), .unset, .unset, .unset, .unset, .unset, .unset, .unset]) at_145 rfl rfl ?_
  refine ow_iload K X55 (pc' := 149) (Int32.ofNat f) at_147 rfl rfl ?_
  refine ow_iload K X55 (pc' := 151) (Int32.ofNat g) at_149 rfl rfl ?_
  refine ow_iadd K X55 (pc' := 152) (Int32.ofNat (f + g)) at_151 rfl (own_addn (by omega)) ?_
  refine ow_istore K X55 (pc' := 154) (Ls' := #[.val (.long q0), .second, .val (.long q1), .second, .val (.long q2), .second, .val (.int q3), .val (.int (Int32.ofNat A)), .val (.int (Int32.ofNat B)), .val (.ref ta), .val (.ref tb), .val (.ref pr), .val (.int (Int32.ofNat f)), .val (.int (Int32.ofNat g)), .val (.int (Int32.ofNat (f + g))), .unset, .unset, .unset, .unset, .unset, .unset]) at_152 rfl rfl ?_
  refine ow_newO K X55 (pc' := 157) e55 (hw _ (List.mem_of_getElem? (i := 2) rfl)) (hw _ (List.mem_of_getElem? (i := 3) rfl)) (hw _ (List.mem_of_getElem? (i := 4) rfl)) (by decide) (by decide) at_154 rfl ?_
  intro T63 h63 o X63 e63 E63 g63 A63 D63
  have ne64 : ta ≠ o := ow_ne F60.lt g63
  have ne65 : tb ≠ o := ow_ne F61.lt g63
  have ne66 : pr ≠ o := ow_ne F62.lt g63
  have ge67 : n0 ≤ o := Nat.le_trans Z58 (Nat.le_of_eq g63.symm)
  have F68 : Arv Z h63 ta k1 .byte (3 : Int32) (own_bl xa) (.int 0) := F60.ext E63
  have F69 : Arv Z h63 tb k14 .byte (3 : Int32) (own_bl xb) (.int 0) := F61.ext E63
  have F70 : Arv Z h63 pr k32 .byte (4 : Int32) (own_bl ps) (.int 0) := F62.ext E63
  have Z71 : n0 ≤ h63.size := Nat.le_trans Z58 E63.1
  have F72 : Fld Z h63 o "com/example/meritgrid/meritgrid/TextIndex" "bytes" "[B" (.null) := D63 (Or.inl (hw _ (List.mem_of_getElem? (i := 12) rfl))) (ty := (.array .byte)) (by decide)
  have F73 : Fld Z h63 o "com/example/meritgrid/meritgrid/TextIndex" "ends" "[I" (.null) := D63 (Or.inl (hw _ (List.mem_of_getElem? (i := 15) rfl))) (ty := (.array .int)) (by decide)
  have F74 : Fld Z h63 o "com/example/meritgrid/meritgrid/TextIndex" "table" "[I" (.null) := D63 (Or.inl (hw _ (List.mem_of_getElem? (i := 17) rfl))) (ty := (.array .int)) (by decide)
  have F75 : Fld Z h63 o "com/example/meritgrid/meritgrid/TextIndex" "shift" "I" (.int 0) := D63 (Or.inl (hw _ (List.mem_of_getElem? (i := 24) rfl))) (ty := .int) (by decide)
  have F76 : Fld Z h63 o "com/example/meritgrid/meritgrid/TextIndex" "size" "I" (.int 0) := D63 (Or.inl (hw _ (List.mem_of_getElem? (i := 39) rfl))) (ty := .int) (by decide)
  refine ow_dup K X63 (pc' := 158) at_157 rfl rfl ?_
  refine ow_callP K X63 (pc' := 161) e63 (y := (⟨"com/example/meritgrid/meritgrid/TextIndex", "<init>", "()V"⟩ : MethodName)) (rm2 l Z a0 hw [] o h63 n0 Z71 A63 F72 F73 F74 F75 F76 ge67) rfl (hw _ (List.mem_of_getElem? (i := 5) rfl)) (hw _ (List.mem_of_getElem? (i := 6) rfl)) (hw _ (List.mem_of_getElem? (i := 4) rfl)) (hw _ (List.mem_of_getElem? (i := 7) rfl)) (by decide) (st := [.ref o]) 1 (Nat.le_of_eq rfl) (by decide) (by decide) (by decide) (by decide) rfl [] rfl (lenOf pd_2 rfl) rfl at_158 rfl ?_
  intro v77 T77 L77 X77 hQ77
  obtain ⟨rfl, NNi, Zi, Ki, rb, kb, re, ke, rt, kt, hD, hlb, hle, hlt, hO1⟩ := hQ77
  have NXi := Fr.app N59 NNi
  have F78 : Arv Z T77.heap ta k1 .byte (3 : Int32) (own_bl xa) (.int 0) := F68.keep Ki (ninS ne64 nin0)
  have F79 : Arv Z T77.heap tb k14 .byte (3 : Int32) (own_bl xb) (.int 0) := F69.keep Ki (ninS ne65 nin0)
  have F80 : Arv Z T77.heap pr k32 .byte (4 : Int32) (own_bl ps) (.int 0) := F70.keep Ki (ninS ne66 nin0)
  have Z81 : n0 ≤ T77.heap.size := Nat.le_trans Z71 Ki.1
  refine ow_at (g := (mkF m 161 #[.val (.long q0), .second, .val (.long q1), .second, .val (.long q2), .second, .val (.int q3), .val (.int (Int32.ofNat A)), .val (.int (Int32.ofNat B)), .val (.ref ta), .val (.ref tb), .val (.ref pr), .val (.int (Int32.ofNat f)), .val (.int (Int32.ofNat g)), .val (.int (Int32.ofNat (f + g))), .unset, .unset, .unset, .unset, .unset, .unset] [.ref o])) ?_
  have hTta : own_A ta o rb re rt := ⟨ne64, Nat.ne_of_lt (Nat.lt_of_lt_of_le F68.lt hlb), Nat.ne_of_lt (Nat.lt_of_lt_of_le F68.lt hle), Nat.ne_of_lt (Nat.lt_of_lt_of_le F68.lt hlt)⟩
  have hTtb : own_A tb o rb re rt := ⟨ne65, Nat.ne_of_lt (Nat.lt_of_lt_of_le F69.lt hlb), Nat.ne_of_lt (Nat.lt_of_lt_of_le F69.lt hle), Nat.ne_of_lt (Nat.lt_of_lt_of_le F69.lt hlt)⟩
  have hTpr : own_A pr o rb re rt := ⟨ne66, Nat.ne_of_lt (Nat.lt_of_lt_of_le F70.lt hlb), Nat.ne_of_lt (Nat.lt_of_lt_of_le F70.lt hle), Nat.ne_of_lt (Nat.lt_of_lt_of_le F70.lt hlt)⟩
  refine ow_astore K X77 (pc' := 163) (Ls' := #[.val (.long q0), .second, .val (.long q1), .second, .val (.long q2), .second, .val (.int q3), .val (.int (Int32.ofNat A)), .val (.int (Int32.ofNat B)), .val (.ref ta), .val (.ref tb), .val (.ref pr), .val (.int (Int32.ofNat f)), .val (.int (Int32.ofNat g)), .val (.int (Int32.ofNat (f + g))), .val (.ref o), .unset, .unset, .unset, .unset, .unset]) at_161 rfl rfl ?_
  refine ow_aload K X77 (pc' := 165) o at_163 rfl rfl ?_
  refine ow_aload K X77 (pc' := 167) ta at_165 rfl rfl ?_
  refine ow_iconst K X77 (pc' := 168) (0 : Int32) at_167 rfl (by decide) ?_
  refine ow_iload K X77 (pc' := 170) (Int32.ofNat A) at_168 rfl rfl ?_
  have hE1 := hO1.1
  refine ow_callV K X77 (pc' := 173) (rfl : T77.heap = T77.heap) (y := (⟨"com/example/meritgrid/meritgrid/TextIndex", "add", "([BII)I"⟩ : MethodName)) (rm10 l Z a0 hw [] o ta (0 : Int32) (Int32.ofNat A) rb kb re ke rt kt k1 (3 : Int32) xa A T77.heap n0 Zi hO1 hO1 hD hTta rfl rfl F78 hA3 hA3 (by omega)) hE1 (hw _ (List.mem_of_getElem? (i := 25) rfl)) (hw _ (List.mem_of_getElem? (i := 26) rfl)) (hw _ (List.mem_of_getElem? (i := 28) rfl)) (hw _ (List.mem_of_getElem? (i := 27) rfl)) (hw _ (List.mem_of_getElem? (i := 4) rfl)) (hw _ (List.mem_of_getElem? (i := 29) rfl)) (by decide) (st := []) 0 (Nat.le_of_eq rfl) (by decide) (by decide) (by decide) (by decide) rfl [.ref ta, .int (0 : Int32), .int (Int32.ofNat A)] rfl (lenOf pd_10 rfl) rfl at_170 rfl ?_
  intro v82 T82 L82 X82 hQ82
  obtain ⟨i1, rfl, hi1, NNa, Za, Ka, hO2⟩ := hQ82
  have NXa := Fr.app NXi NNa
  have F83 : Arv Z T82.heap ta k1 .byte (3 : Int32) (own_bl xa) (.int 0) := F78.keep Ka (ninS hTta.1 (ninS hTta.2.1 (ninS hTta.2.2.1 (ninS hTta.2.2.2 nin0))))
  have F84 : Arv Z T82.heap tb k14 .byte (3 : Int32) (own_bl xb) (.int 0) := F79.keep Ka (ninS hTtb.1 (ninS hTtb.2.1 (ninS hTtb.2.2.1 (ninS hTtb.2.2.2 nin0))))
  have F85 : Arv Z T82.heap pr k32 .byte (4 : Int32) (own_bl ps) (.int 0) := F80.keep Ka (ninS hTpr.1 (ninS hTpr.2.1 (ninS hTpr.2.2.1 (ninS hTpr.2.2.2 nin0))))
  refine ow_at (g := (mkF m 173 #[.val (.long q0), .second, .val (.long q1), .second, .val (.long q2), .second, .val (.int q3), .val (.int (Int32.ofNat A)), .val (.int (Int32.ofNat B)), .val (.ref ta), .val (.ref tb), .val (.ref pr), .val (.int (Int32.ofNat f)), .val (.int (Int32.ofNat g)), .val (.int (Int32.ofNat (f + g))), .val (.ref o), .unset, .unset, .unset, .unset, .unset] [.int 0])) ?_
  refine ow_pop K X82 (pc' := 174) at_173 rfl rfl ?_
  refine ow_aload K X82 (pc' := 176) o at_174 rfl rfl ?_
  refine ow_aload K X82 (pc' := 178) tb at_176 rfl rfl ?_
  refine ow_iconst K X82 (pc' := 179) (0 : Int32) at_178 rfl (by decide) ?_
  refine ow_iload K X82 (pc' := 181) (Int32.ofNat B) at_179 rfl rfl ?_
  have hE2 := hO2.1
  refine ow_callV K X82 (pc' := 184) (rfl : T82.heap = T82.heap) (y := (⟨"com/example/meritgrid/meritgrid/TextIndex", "add", "([BII)I"⟩ : MethodName)) (rm11 l Z a0 hw [] o tb (0 : Int32) (Int32.ofNat B) rb kb re ke rt kt (xa.take A) A i1 k14 (3 : Int32) xb B T82.heap n0 Za hO2 hO2 hD hTtb rfl rfl F84 hB3 hB3 (by omega) hi1 hA3 (by rw [List.length_take]; omega)) hE2 (hw _ (List.mem_of_getElem? (i := 25) rfl)) (hw _ (List.mem_of_getElem? (i := 26) rfl)) (hw _ (List.mem_of_getElem? (i := 28) rfl)) (hw _ (List.mem_of_getElem? (i := 27) rfl)) (hw _ (List.mem_of_getElem? (i := 4) rfl)) (hw _ (List.mem_of_getElem? (i := 29) rfl)) (by decide) (st := []) 0 (Nat.le_of_eq rfl) (by decide) (by decide) (by decide) (by decide) rfl [.ref tb, .int (0 : Int32), .int (Int32.ofNat B)] rfl (lenOf pd_11 rfl) rfl at_181 rfl ?_
  intro v86 T86 L86 X86 hQ86
  obtain ⟨NNb, Zb, Kb, hcase⟩ := hQ86
  have NXb := Fr.app NXa NNb
  have F87 : Arv Z T86.heap ta k1 .byte (3 : Int32) (own_bl xa) (.int 0) := F83.keep Kb (ninS hTta.1 (ninS hTta.2.1 (ninS hTta.2.2.1 (ninS hTta.2.2.2 nin0))))
  have F88 : Arv Z T86.heap tb k14 .byte (3 : Int32) (own_bl xb) (.int 0) := F84.keep Kb (ninS hTtb.1 (ninS hTtb.2.1 (ninS hTtb.2.2.1 (ninS hTtb.2.2.2 nin0))))
  have F89 : Arv Z T86.heap pr k32 .byte (4 : Int32) (own_bl ps) (.int 0) := F85.keep Kb (ninS hTpr.1 (ninS hTpr.2.1 (ninS hTpr.2.2.1 (ninS hTpr.2.2.2 nin0))))
  rcases hcase with ⟨rfl, hO3⟩ | ⟨rfl, j, hO3⟩
  · refine ow_at (g := (mkF m 184 #[.val (.long q0), .second, .val (.long q1), .second, .val (.long q2), .second, .val (.int q3), .val (.int (Int32.ofNat A)), .val (.int (Int32.ofNat B)), .val (.ref ta), .val (.ref tb), .val (.ref pr), .val (.int (Int32.ofNat f)), .val (.int (Int32.ofNat g)), .val (.int (Int32.ofNat (f + g))), .val (.ref o), .unset, .unset, .unset, .unset, .unset] [.int 0])) ?_
    refine ow_istore K X86 (pc' := 186) (Ls' := #[.val (.long q0), .second, .val (.long q1), .second, .val (.long q2), .second, .val (.int q3), .val (.int (Int32.ofNat A)), .val (.int (Int32.ofNat B)), .val (.ref ta), .val (.ref tb), .val (.ref pr), .val (.int (Int32.ofNat f)), .val (.int (Int32.ofNat g)), .val (.int (Int32.ofNat (f + g))), .val (.ref o), .val (.int 0), .unset, .unset, .unset, .unset]) at_184 rfl rfl ?_
    refine ow_iload K X86 (pc' := 188) q3 at_186 rfl rfl ?_
    refine ow_iconst K X86 (pc' := 189) (1 : Int32) at_188 rfl (by decide) ?_
    refine ow_iand K X86 (pc' := 190) (q3 &&& (1 : Int32)) at_189 rfl rfl ?_
    by_cases hcm : (q3 &&& (1 : Int32)) = 0
    · refine ow_ifY K X86 (pc' := 198) at_190 (XT.i0_eq_t hcm) (by decide) (by decide) ?_
      refine ow_iconst K X86 (pc' := 199) (0 : Int32) at_198 rfl (by decide) ?_
      refine ow_istore K X86 (pc' := 201) (Ls' := #[.val (.long q0), .second, .val (.long q1), .second, .val (.long q2), .second, .val (.int q3), .val (.int (Int32.ofNat A)), .val (.int (Int32.ofNat B)), .val (.ref ta), .val (.ref tb), .val (.ref pr), .val (.int (Int32.ofNat f)), .val (.int (Int32.ofNat g)), .val (.int (Int32.ofNat (f + g))), .val (.ref o), .val (.int 0), .val (.int (0 : Int32)), .unset, .unset, .unset]) at_199 rfl rfl ?_
      refine ow_iload K X86 (pc' := 203) (0 : Int32) at_201 rfl rfl ?_
      refine ow_ifN K X86 (pc' := 206) at_203 rfl (XT.i0_ne_f rfl) ?_
      refine ow_aload K X86 (pc' := 208) ta at_206 rfl rfl ?_
      refine ow_goto K X86 (pc' := 213) at_208 (by decide) (by decide) ?_
      refine ow_astore K X86 (pc' := 215) (Ls' := #[.val (.long q0), .second, .val (.long q1), .second, .val (.long q2), .second, .val (.int q3), .val (.int (Int32.ofNat A)), .val (.int (Int32.ofNat B)), .val (.ref ta), .val (.ref tb), .val (.ref pr), .val (.int (Int32.ofNat f)), .val (.int (Int32.ofNat g)), .val (.int (Int32.ofNat (f + g))), .val (.ref o), .val (.int 0), .val (.int (0 : Int32)), .val (.ref ta), .unset, .unset]) at_213 rfl rfl ?_
      refine ow_iload K X86 (pc' := 217) (0 : Int32) at_215 rfl rfl ?_
      refine ow_ifN K X86 (pc' := 220) at_217 rfl (XT.i0_ne_f rfl) ?_
      refine ow_iload K X86 (pc' := 222) (Int32.ofNat A) at_220 rfl rfl ?_
      refine ow_goto K X86 (pc' := 227) at_222 (by decide) (by decide) ?_
      refine ow_istore K X86 (pc' := 229) (Ls' := #[.val (.long q0), .second, .val (.long q1), .second, .val (.long q2), .second, .val (.int q3), .val (.int (Int32.ofNat A)), .val (.int (Int32.ofNat B)), .val (.ref ta), .val (.ref tb), .val (.ref pr), .val (.int (Int32.ofNat f)), .val (.int (Int32.ofNat g)), .val (.int (Int32.ofNat (f + g))), .val (.ref o), .val (.int 0), .val (.int (0 : Int32)), .val (.ref ta), .val (.int (Int32.ofNat A)), .unset]) at_227 rfl rfl ?_
      refine t229 hw K X86 (rfl : T86.heap = T86.heap) F87 F89 hA3 hfg (fun hc => ?_) (fun hc => ?_)
      · have hO4 : own_O Z T86.heap o rb kb re ke rt kt (xa.take A ++ []) [Int32.ofNat A] (own_t0.set i1 1) 1 := by rw [List.append_nil]; exact hO3
        exact t299 hw K X86 (rfl : T86.heap = T86.heap) NXb Zb hO4.1 hO4 F89 (Or.inl ⟨rfl, rfl⟩) (nn := 0) ⟨by decide, by decide⟩ (by decide) (by rw [Nat.zero_add]; rfl) (by omega) hfg (Or.inl ⟨rfl, (own_P_take (xb := []) (by omega)).mpr hc⟩)
      · have hO4 : own_O Z T86.heap o rb kb re ke rt kt (xa.take A ++ []) [Int32.ofNat A] (own_t0.set i1 1) 1 := by rw [List.append_nil]; exact hO3
        exact t299 hw K X86 (rfl : T86.heap = T86.heap) NXb Zb hO4.1 hO4 F89 (Or.inl ⟨rfl, rfl⟩) (nn := 0) ⟨by decide, by decide⟩ (by decide) (by rw [Nat.zero_add]; rfl) (by omega) hfg (Or.inr ⟨rfl, fun q => hc ((own_P_take (xb := []) (by omega)).mp q)⟩)
    · refine ow_ifN K X86 (pc' := 193) at_190 rfl (XT.i0_eq_f hcm) ?_
      refine ow_iload K X86 (pc' := 195) 0 at_193 rfl rfl ?_
      refine ow_goto K X86 (pc' := 199) at_195 (by decide) (by decide) ?_
      refine ow_istore K X86 (pc' := 201) (Ls' := #[.val (.long q0), .second, .val (.long q1), .second, .val (.long q2), .second, .val (.int q3), .val (.int (Int32.ofNat A)), .val (.int (Int32.ofNat B)), .val (.ref ta), .val (.ref tb), .val (.ref pr), .val (.int (Int32.ofNat f)), .val (.int (Int32.ofNat g)), .val (.int (Int32.ofNat (f + g))), .val (.ref o), .val (.int 0), .val (.int 0), .unset, .unset, .unset]) at_199 rfl rfl ?_
      refine ow_iload K X86 (pc' := 203) 0 at_201 rfl rfl ?_
      refine ow_ifN K X86 (pc' := 206) at_203 rfl (XT.i0_ne_f rfl) ?_
      refine ow_aload K X86 (pc' := 208) ta at_206 rfl rfl ?_
      refine ow_goto K X86 (pc' := 213) at_208 (by decide) (by decide) ?_
      refine ow_astore K X86 (pc' := 215) (Ls' := #[.val (.long q0), .second, .val (.long q1), .second, .val (.long q2), .second, .val (.int q3), .val (.int (Int32.ofNat A)), .val (.int (Int32.ofNat B)), .val (.ref ta), .val (.ref tb), .val (.ref pr), .val (.int (Int32.ofNat f)), .val (.int (Int32.ofNat g)), .val (.int (Int32.ofNat (f + g))), .val (.ref o), .val (.int 0), .val (.int 0), .val (.ref ta), .unset, .unset]) at_213 rfl rfl ?_
      refine ow_iload K X86 (pc' := 217) 0 at_215 rfl rfl ?_
      refine ow_ifN K X86 (pc' := 220) at_217 rfl (XT.i0_ne_f rfl) ?_
      refine ow_iload K X86 (pc' := 222) (Int32.ofNat A) at_220 rfl rfl ?_
      refine ow_goto K X86 (pc' := 227) at_222 (by decide) (by decide) ?_
      refine ow_istore K X86 (pc' := 229) (Ls' := #[.val (.long q0), .second, .val (.long q1), .second, .val (.long q2), .second, .val (.int q3), .val (.int (Int32.ofNat A)), .val (.int (Int32.ofNat B)), .val (.ref ta), .val (.ref tb), .val (.ref pr), .val (.int (Int32.ofNat f)), .val (.int (Int32.ofNat g)), .val (.int (Int32.ofNat (f + g))), .val (.ref o), .val (.int 0), .val (.int 0), .val (.ref ta), .val (.int (Int32.ofNat A)), .unset]) at_227 rfl rfl ?_
      refine t229 hw K X86 (rfl : T86.heap = T86.heap) F87 F89 hA3 hfg (fun hc => ?_) (fun hc => ?_)
      · have hO4 : own_O Z T86.heap o rb kb re ke rt kt (xa.take A ++ []) [Int32.ofNat A] (own_t0.set i1 1) 1 := by rw [List.append_nil]; exact hO3
        exact t299 hw K X86 (rfl : T86.heap = T86.heap) NXb Zb hO4.1 hO4 F89 (Or.inl ⟨rfl, rfl⟩) (nn := 0) ⟨by decide, by decide⟩ (by decide) (by rw [Nat.zero_add]; rfl) (by omega) hfg (Or.inl ⟨rfl, (own_P_take (xb := []) (by omega)).mpr hc⟩)
      · have hO4 : own_O Z T86.heap o rb kb re ke rt kt (xa.take A ++ []) [Int32.ofNat A] (own_t0.set i1 1) 1 := by rw [List.append_nil]; exact hO3
        exact t299 hw K X86 (rfl : T86.heap = T86.heap) NXb Zb hO4.1 hO4 F89 (Or.inl ⟨rfl, rfl⟩) (nn := 0) ⟨by decide, by decide⟩ (by decide) (by rw [Nat.zero_add]; rfl) (by omega) hfg (Or.inr ⟨rfl, fun q => hc ((own_P_take (xb := []) (by omega)).mp q)⟩)
  · refine ow_at (g := (mkF m 184 #[.val (.long q0), .second, .val (.long q1), .second, .val (.long q2), .second, .val (.int q3), .val (.int (Int32.ofNat A)), .val (.int (Int32.ofNat B)), .val (.ref ta), .val (.ref tb), .val (.ref pr), .val (.int (Int32.ofNat f)), .val (.int (Int32.ofNat g)), .val (.int (Int32.ofNat (f + g))), .val (.ref o), .unset, .unset, .unset, .unset, .unset] [.int (1 : Int32)])) ?_
    refine ow_istore K X86 (pc' := 186) (Ls' := #[.val (.long q0), .second, .val (.long q1), .second, .val (.long q2), .second, .val (.int q3), .val (.int (Int32.ofNat A)), .val (.int (Int32.ofNat B)), .val (.ref ta), .val (.ref tb), .val (.ref pr), .val (.int (Int32.ofNat f)), .val (.int (Int32.ofNat g)), .val (.int (Int32.ofNat (f + g))), .val (.ref o), .val (.int (1 : Int32)), .unset, .unset, .unset, .unset]) at_184 rfl rfl ?_
    refine ow_iload K X86 (pc' := 188) q3 at_186 rfl rfl ?_
    refine ow_iconst K X86 (pc' := 189) (1 : Int32) at_188 rfl (by decide) ?_
    refine ow_iand K X86 (pc' := 190) (q3 &&& (1 : Int32)) at_189 rfl rfl ?_
    by_cases hcm : (q3 &&& (1 : Int32)) = 0
    · refine ow_ifY K X86 (pc' := 198) at_190 (XT.i0_eq_t hcm) (by decide) (by decide) ?_
      refine ow_iconst K X86 (pc' := 199) (0 : Int32) at_198 rfl (by decide) ?_
      refine ow_istore K X86 (pc' := 201) (Ls' := #[.val (.long q0), .second, .val (.long q1), .second, .val (.long q2), .second, .val (.int q3), .val (.int (Int32.ofNat A)), .val (.int (Int32.ofNat B)), .val (.ref ta), .val (.ref tb), .val (.ref pr), .val (.int (Int32.ofNat f)), .val (.int (Int32.ofNat g)), .val (.int (Int32.ofNat (f + g))), .val (.ref o), .val (.int (1 : Int32)), .val (.int (0 : Int32)), .unset, .unset, .unset]) at_199 rfl rfl ?_
      refine ow_iload K X86 (pc' := 203) (0 : Int32) at_201 rfl rfl ?_
      refine ow_ifN K X86 (pc' := 206) at_203 rfl (XT.i0_ne_f rfl) ?_
      refine ow_aload K X86 (pc' := 208) ta at_206 rfl rfl ?_
      refine ow_goto K X86 (pc' := 213) at_208 (by decide) (by decide) ?_
      refine ow_astore K X86 (pc' := 215) (Ls' := #[.val (.long q0), .second, .val (.long q1), .second, .val (.long q2), .second, .val (.int q3), .val (.int (Int32.ofNat A)), .val (.int (Int32.ofNat B)), .val (.ref ta), .val (.ref tb), .val (.ref pr), .val (.int (Int32.ofNat f)), .val (.int (Int32.ofNat g)), .val (.int (Int32.ofNat (f + g))), .val (.ref o), .val (.int (1 : Int32)), .val (.int (0 : Int32)), .val (.ref ta), .unset, .unset]) at_213 rfl rfl ?_
      refine ow_iload K X86 (pc' := 217) (0 : Int32) at_215 rfl rfl ?_
      refine ow_ifN K X86 (pc' := 220) at_217 rfl (XT.i0_ne_f rfl) ?_
      refine ow_iload K X86 (pc' := 222) (Int32.ofNat A) at_220 rfl rfl ?_
      refine ow_goto K X86 (pc' := 227) at_222 (by decide) (by decide) ?_
      refine ow_istore K X86 (pc' := 229) (Ls' := #[.val (.long q0), .second, .val (.long q1), .second, .val (.long q2), .second, .val (.int q3), .val (.int (Int32.ofNat A)), .val (.int (Int32.ofNat B)), .val (.ref ta), .val (.ref tb), .val (.ref pr), .val (.int (Int32.ofNat f)), .val (.int (Int32.ofNat g)), .val (.int (Int32.ofNat (f + g))), .val (.ref o), .val (.int (1 : Int32)), .val (.int (0 : Int32)), .val (.ref ta), .val (.int (Int32.ofNat A)), .unset]) at_227 rfl rfl ?_
      refine t229 hw K X86 (rfl : T86.heap = T86.heap) F87 F89 hA3 hfg (fun hc => ?_) (fun hc => ?_)
      · exact t299 hw K X86 (rfl : T86.heap = T86.heap) NXb Zb hO3.1 hO3 F89 (Or.inl ⟨rfl, rfl⟩) (nn := 0) ⟨by decide, by decide⟩ (by decide) (by rw [Nat.zero_add]; rfl) (by omega) hfg (Or.inl ⟨rfl, (own_P_take (by omega)).mpr hc⟩)
      · exact t299 hw K X86 (rfl : T86.heap = T86.heap) NXb Zb hO3.1 hO3 F89 (Or.inl ⟨rfl, rfl⟩) (nn := 0) ⟨by decide, by decide⟩ (by decide) (by rw [Nat.zero_add]; rfl) (by omega) hfg (Or.inr ⟨rfl, fun q => hc ((own_P_take (by omega)).mp q)⟩)
    · refine ow_ifN K X86 (pc' := 193) at_190 rfl (XT.i0_eq_f hcm) ?_
      refine ow_iload K X86 (pc' := 195) (1 : Int32) at_193 rfl rfl ?_
      refine ow_goto K X86 (pc' := 199) at_195 (by decide) (by decide) ?_
      refine ow_istore K X86 (pc' := 201) (Ls' := #[.val (.long q0), .second, .val (.long q1), .second, .val (.long q2), .second, .val (.int q3), .val (.int (Int32.ofNat A)), .val (.int (Int32.ofNat B)), .val (.ref ta), .val (.ref tb), .val (.ref pr), .val (.int (Int32.ofNat f)), .val (.int (Int32.ofNat g)), .val (.int (Int32.ofNat (f + g))), .val (.ref o), .val (.int (1 : Int32)), .val (.int (1 : Int32)), .unset, .unset, .unset]) at_199 rfl rfl ?_
      refine ow_iload K X86 (pc' := 203) (1 : Int32) at_201 rfl rfl ?_
      refine ow_ifY K X86 (pc' := 211) at_203 (XT.i0_ne_t (by decide)) (by decide) (by decide) ?_
      refine ow_aload K X86 (pc' := 213) tb at_211 rfl rfl ?_
      refine ow_astore K X86 (pc' := 215) (Ls' := #[.val (.long q0), .second, .val (.long q1), .second, .val (.long q2), .second, .val (.int q3), .val (.int (Int32.ofNat A)), .val (.int (Int32.ofNat B)), .val (.ref ta), .val (.ref tb), .val (.ref pr), .val (.int (Int32.ofNat f)), .val (.int (Int32.ofNat g)), .val (.int (Int32.ofNat (f + g))), .val (.ref o), .val (.int (1 : Int32)), .val (.int (1 : Int32)), .val (.ref tb), .unset, .unset]) at_213 rfl rfl ?_
      refine ow_iload K X86 (pc' := 217) (1 : Int32) at_215 rfl rfl ?_
      refine ow_ifY K X86 (pc' := 225) at_217 (XT.i0_ne_t (by decide)) (by decide) (by decide) ?_
      refine ow_iload K X86 (pc' := 227) (Int32.ofNat B) at_225 rfl rfl ?_
      refine ow_istore K X86 (pc' := 229) (Ls' := #[.val (.long q0), .second, .val (.long q1), .second, .val (.long q2), .second, .val (.int q3), .val (.int (Int32.ofNat A)), .val (.int (Int32.ofNat B)), .val (.ref ta), .val (.ref tb), .val (.ref pr), .val (.int (Int32.ofNat f)), .val (.int (Int32.ofNat g)), .val (.int (Int32.ofNat (f + g))), .val (.ref o), .val (.int (1 : Int32)), .val (.int (1 : Int32)), .val (.ref tb), .val (.int (Int32.ofNat B)), .unset]) at_227 rfl rfl ?_
      refine t229 hw K X86 (rfl : T86.heap = T86.heap) F88 F89 hB3 hfg (fun hc => ?_) (fun hc => ?_)
      · exact t299 hw K X86 (rfl : T86.heap = T86.heap) NXb Zb hO3.1 hO3 F89 (Or.inr ⟨rfl, rfl⟩) (nn := 1) ⟨by decide, by decide⟩ (by decide) rfl (by omega) hfg (Or.inl ⟨rfl, (own_P_drop (by rw [List.length_take]; omega) (by omega)).mpr hc⟩)
      · exact t299 hw K X86 (rfl : T86.heap = T86.heap) NXb Zb hO3.1 hO3 F89 (Or.inr ⟨rfl, rfl⟩) (nn := 1) ⟨by decide, by decide⟩ (by decide) rfl (by omega) hfg (Or.inr ⟨rfl, fun q => hc ((own_P_drop (by rw [List.length_take]; omega) (by omega)).mp q)⟩)
set_option maxRecDepth 65536 in
set_option maxHeartbeats 40000000 in
theorem comes_1 {Post : Tables → Env → Array Value → State → Outcome → State → Prop} (hpost : ∀ tb e args s v u, (limb_1_1.after args s (.returned v) u = true ∧ limb_1_2.after args s (.returned v) u = true ∧ True) → FrameEnd s (.returned v) u (Jvm.fieldLocs frame_1_writes args s ++ Jvm.arrayLocs frame_1_arrays args s ++ Jvm.staticLocs frame_1_statics s) 24 448 → Post tb e args s (.returned v) u) :
    ArmFor flags0 classFile x code maxLocals ret World_1 tables_1 room_1 Calls_1 rest_1 Pre_1 Post := by
  intro l hfl _ _ p e ha hc hk s m args below hf hA hF happ hP
  obtain ⟨hcalls, hrest, hpre⟩ := hP
  obtain ⟨-, -, -, hnamed, -, -, -, hat⟩ := (Spec.applies_iff hf).mp happ
  obtain ⟨hg, hn⟩ := and_e (Cond.before_iff.mp (show (Jvm.Cond.and given_1 narrow_1).before args s = true from hpre))
  obtain ⟨hcount, b0⟩ := and_e hg
  obtain ⟨a0, b1⟩ := and_e b0
  obtain ⟨a1, b2⟩ := and_e b1
  obtain ⟨a2, b3⟩ := and_e b2
  obtain ⟨w0, w1, w2, w3, rfl⟩ : ∃ w0 w1 w2 w3 : Value, args = #[w0, w1, w2, w3] := by
    have hs : args.size = 4 := by simpa [Cond.value, given_1] using hcount
    obtain ⟨L⟩ := args
    match L, hs with
    | [w0, w1, w2, w3], _ => exact ⟨w0, w1, w2, w3, rfl⟩
  have hw := fun d (hd : d ∈ tables_1) => atoms_spec (ws := Jvm.Cond.code x code maxLocals ret :: tables_1) hat d (List.mem_cons_of_mem _ hd)
  obtain ⟨i0, f0⟩ := isL_v a0
  obtain rfl : w0 = (.long i0) := Option.some.inj f0
  obtain ⟨i1, f1⟩ := isL_v a1
  obtain rfl : w1 = (.long i1) := Option.some.inj f1
  obtain ⟨i2, f2⟩ := isL_v a2
  obtain rfl : w2 = (.long i2) := Option.some.inj f2
  obtain ⟨i3, f3⟩ := is_v b3
  obtain rfl : w3 = (.int i3) := Option.some.inj f3
  obtain ⟨n, o, h1, h2, h3, _, L, rfl, ⟨rfl, N⟩, hq⟩ := rm0 l s _ hw tables_1 i0 i1 i2 i3 s.heap s.heap.size (Nat.le_refl _) p e ha hc hk s m _ below hf ((Spec.applies_iff_loose hf).mp happ).1 ⟨rfl, State.Warmed39.refl s, rfl⟩ trivial
  refine ⟨n, _, h1, h2, h3, hpost _ _ _ _ _ _ ⟨Cond.after_iff.mpr rfl, Cond.after_iff.mpr (eq_i res_at (Term.int_eval (1)) rfl), trivial⟩ ⟨hq.1, hq.2.1, (hq.2.2.sift fun y hy => Or.inr (N y hy)).mono (by decide) (by decide)⟩⟩
theorem main_1_1 : Claimed_1_1 := comes_1 fun _ _ _ _ _ _ h hF => ⟨h.1, hF⟩
theorem main_1_2 : Claimed_1_2 := comes_1 fun _ _ _ _ _ _ h hF => ⟨h.2.1, hF⟩
end Jvm.Pilot.@@N@@
namespace Jvm.Pilot.@@N@@
open Jvm Jvm.ClassFile Sem Op Lib Jvm.Free Jvm.Stand Jvm.Pilot.@@N@@.Jvm.D
/-! MADE BY PROGRAM (witnessworld.py) out of the Statement's table words and the real class files: 16 classes; the members and pool entries that the words name. The judged class is class 1, her method 1. -/
namespace start1
open Jvm.ClassFile
def u (s : String) : CpInfo := .utf8 (stringToUtf16 s)
/-- a pool by its gaps: so many unusable entries, then the entry; so many at the end -/
def gap : Nat → List CpInfo → List CpInfo
  | 0, r => r
  | n + 1, r => .unusable :: gap n r
def poolList (es : List (Nat × CpInfo)) (last : Nat) : List CpInfo := es.foldr (fun e r => gap e.1 (e.2 :: r)) (gap last [])
def pool (es : List (Nat × CpInfo)) (last : Nat) : Array CpInfo := ⟨poolList es last⟩
def fileOf (pool : Array CpInfo) (this : Nat) (attrs : Array Attribute := #[]) (ms : Array MethodInfo := #[]) (fl : Nat := 33) (sup : Nat := 0) (ifs : Array Nat := #[]) (fds : Array FieldInfo := #[]) : ClassFile where
  minorVersion := 0
  majorVersion := 65
  constantPool := pool
  accessFlags := fl
  thisClass := this
  superClass := sup
  interfaces := ifs
  fields := fds
  methods := ms
  attributes := attrs
def plain (name : String) (sup : Option ClassId) : Class where
  name := name
  kind := .ordinary
  loader := none
  accessFlags := 33
  super := sup
  interfaces := #[]
  cf := none
  fields := #[]
  methods := #[]
  instanceTypes := #[]
  staticTypes := #[]
  resolved := #[]
  callSites := []
  init := .initialized
  statics := none
  mirror := none

def pool0 : Array CpInfo := pool [(5, u "<init>"), (0, u "()V"), (1, .class_ 10), (1, u "java/lang/Object")] 113

def k0c0 : Code := { maxStack := 0, maxLocals := 1, code := object_method_1_code, exceptionTable := #[], attributes := #[] }
def k0m0 : Method := { name := "<init>", desc := "()V", sig := { parameters := [], returnType := none }, accessFlags := 1, code := some k0c0 }
/-- java/lang/Object -/
def k0 : Class := { plain "java/lang/Object" none with
  accessFlags := 33
  interfaces := #[]
  cf := some (fileOf pool0 8 #[] #[{ accessFlags := 1, nameIndex := 5, descriptorIndex := 6, attributes := #[] }] 33 0 #[] #[])
  fields := #[]
  methods := #[k0m0]
  instanceTypes := #[]
  staticTypes := #[]
  resolved := Array.replicate 124 none
  statics := none }

def pool1 : Array CpInfo := pool [(2, .class_ 4), (0, .nameAndType 5 6), (0, u "java/lang/Object"), (0, u "<init>"), (0, u "()V"), (0, .long 3), (1, .class_ 10), (0, u "com/example/meritgrid/meritgrid/TextIndex"), (0, .methodref 9 3), (0, .methodref 9 13), (0, .nameAndType 14 15), (0, u "add"), (0, u "([BII)I"), (0, .methodref 9 17), (0, .nameAndType 18 19), (0, u "holds"), (0, u "(I[BII)Z"), (0, .class_ 21), (0, u "com/example/meritgrid/meritgrid/TextIndexHoldsPinLaw"), (2, u "law"), (0, u "(JJJI)Z")] 5

def k1m0 : Method := { name := "<init>", desc := "()V", sig := { parameters := [], returnType := none }, accessFlags := 1, code := none }
def k1c1 : Code := { maxStack := 6, maxLocals := 21, code := code, exceptionTable := #[], attributes := #[] }
def k1m1 : Method := { name := "law", desc := "(JJJI)Z", sig := { parameters := [.long, .long, .long, .int], returnType := some .boolean }, accessFlags := 9, code := some k1c1 }
/-- com/example/meritgrid/meritgrid/TextIndexHoldsPinLaw -/
def k1 : Class := { plain "com/example/meritgrid/meritgrid/TextIndexHoldsPinLaw" (some 0) with
  accessFlags := 49
  interfaces := #[]
  cf := some (fileOf pool1 20 #[] #[{ accessFlags := 1, nameIndex := 5, descriptorIndex := 6, attributes := #[] }, { accessFlags := 9, nameIndex := 24, descriptorIndex := 25, attributes := #[] }] 49 2 #[] #[])
  fields := #[]
  methods := #[k1m0, k1m1]
  instanceTypes := #[]
  staticTypes := #[]
  resolved := Array.replicate 31 none
  statics := none }

def pool2 : Array CpInfo := pool [(1, .methodref 2 3), (0, .class_ 4), (0, .nameAndType 5 6), (0, u "java/lang/Object"), (0, u "<init>"), (0, u "()V"), (0, .class_ 8), (0, u "com/example/meritgrid/meritgrid/TextIndex"), (0, .fieldref 7 10), (0, .nameAndType 11 12), (0, u "bytes"), (0, u "[B"), (0, .fieldref 7 14), (0, .nameAndType 15 16), (0, u "ends"), (0, u "[I"), (0, .fieldref 7 18), (0, .nameAndType 19 16), (0, u "table"), (0, .class_ 21), (0, u "java/lang/Integer"), (0, .methodref 20 23), (0, .nameAndType 24 25), (0, u "numberOfTrailingZeros"), (0, u "(I)I"), (0, .fieldref 7 27), (0, .nameAndType 28 29), (0, u "shift"), (0, u "I"), (14, u "add"), (0, u "([BII)I"), (0, .methodref 7 47), (0, .nameAndType 48 45), (0, u "place"), (0, .fieldref 7 50), (0, .nameAndType 51 29), (0, u "size"), (19, .methodref 72 73), (0, .class_ 74), (0, .nameAndType 75 76), (0, u "java/lang/System"), (0, u "arraycopy"), (0, u "(Ljava/lang/Object;ILjava/lang/Object;II)V"), (0, .methodref 7 78), (0, .nameAndType 79 25), (0, u "start"), (6, .methodref 7 87), (0, .nameAndType 88 45), (0, u "hash"), (0, .integer 2654435769), (0, .methodref 7 91), (0, .nameAndType 92 93), (0, u "holds"), (0, u "(I[BII)Z"), (0, .class_ 95), (0, u "java/lang/Long"), (0, .methodref 94 97), (0, .nameAndType 98 99), (0, u "rotateLeft"), (0, u "(JI)J"), (0, .methodref 7 101), (0, .nameAndType 102 103), (0, u "word"), (0, u "([BII)J"), (0, .long 11400714819323198485), (3, u "FIRST_ROOM"), (2, u "SPREAD"), (0, u "WORD_SPREAD"), (0, u "J")] 9

def k2c0 : Code := { maxStack := 3, maxLocals := 1, code := prog_31_method_1_code, exceptionTable := #[], attributes := #[] }
def k2m0 : Method := { name := "<init>", desc := "()V", sig := { parameters := [], returnType := none }, accessFlags := 0, code := some k2c0 }
def k2c1 : Code := { maxStack := 6, maxLocals := 7, code := prog_31_method_3_code, exceptionTable := #[], attributes := #[] }
def k2m1 : Method := { name := "add", desc := "([BII)I", sig := { parameters := [(.array .byte), .int, .int], returnType := some .int }, accessFlags := 0, code := some k2c1 }
def k2c2 : Code := { maxStack := 4, maxLocals := 7, code := prog_31_method_4_code, exceptionTable := #[], attributes := #[] }
def k2m2 : Method := { name := "holds", desc := "(I[BII)Z", sig := { parameters := [.int, (.array .byte), .int, .int], returnType := some .boolean }, accessFlags := 0, code := some k2c2 }
def k2c3 : Code := { maxStack := 5, maxLocals := 6, code := prog_31_method_9_code, exceptionTable := #[], attributes := #[] }
def k2m3 : Method := { name := "place", desc := "([BII)I", sig := { parameters := [(.array .byte), .int, .int], returnType := some .int }, accessFlags := 2, code := some k2c3 }
def k2c4 : Code := { maxStack := 6, maxLocals := 6, code := prog_31_method_11_code, exceptionTable := #[], attributes := #[] }
def k2m4 : Method := { name := "hash", desc := "([BII)I", sig := { parameters := [(.array .byte), .int, .int], returnType := some .int }, accessFlags := 10, code := some k2c4 }
def k2c5 : Code := { maxStack := 5, maxLocals := 6, code := prog_31_method_12_code, exceptionTable := #[], attributes := #[] }
def k2m5 : Method := { name := "word", desc := "([BII)J", sig := { parameters := [(.array .byte), .int, .int], returnType := some .long }, accessFlags := 10, code := some k2c5 }
def k2c6 : Code := { maxStack := 3, maxLocals := 2, code := prog_31_method_13_code, exceptionTable := #[], attributes := #[] }
def k2m6 : Method := { name := "start", desc := "(I)I", sig := { parameters := [.int], returnType := some .int }, accessFlags := 2, code := some k2c6 }
/-- com/example/meritgrid/meritgrid/TextIndex -/
def k2 : Class := { plain "com/example/meritgrid/meritgrid/TextIndex" (some 0) with
  accessFlags := 48
  interfaces := #[]
  cf := some (fileOf pool2 7 #[] #[{ accessFlags := 0, nameIndex := 5, descriptorIndex := 6, attributes := #[] }, { accessFlags := 0, nameIndex := 44, descriptorIndex := 45, attributes := #[] }, { accessFlags := 0, nameIndex := 92, descriptorIndex := 93, attributes := #[] }, { accessFlags := 2, nameIndex := 48, descriptorIndex := 45, attributes := #[] }, { accessFlags := 10, nameIndex := 88, descriptorIndex := 45, attributes := #[] }, { accessFlags := 10, nameIndex := 102, descriptorIndex := 103, attributes := #[] }, { accessFlags := 2, nameIndex := 79, descriptorIndex := 25, attributes := #[] }] 48 2 #[] #[{ accessFlags := 26, nameIndex := 108, descriptorIndex := 29, attributes := #[] }, { accessFlags := 26, nameIndex := 111, descriptorIndex := 29, attributes := #[] }, { accessFlags := 26, nameIndex := 112, descriptorIndex := 113, attributes := #[] }, { accessFlags := 2, nameIndex := 11, descriptorIndex := 12, attributes := #[] }, { accessFlags := 2, nameIndex := 15, descriptorIndex := 16, attributes := #[] }, { accessFlags := 2, nameIndex := 19, descriptorIndex := 16, attributes := #[] }, { accessFlags := 2, nameIndex := 28, descriptorIndex := 29, attributes := #[] }, { accessFlags := 2, nameIndex := 51, descriptorIndex := 29, attributes := #[] }])
  fields := #[{ name := "FIRST_ROOM", type := .int, accessFlags := 26, slot := 0, constantValue := 0 }, { name := "SPREAD", type := .int, accessFlags := 26, slot := 1, constantValue := 0 }, { name := "WORD_SPREAD", type := .long, accessFlags := 26, slot := 2, constantValue := 0 }, { name := "bytes", type := (.array .byte), accessFlags := 2, slot := 0, constantValue := 0 }, { name := "ends", type := (.array .int), accessFlags := 2, slot := 1, constantValue := 0 }, { name := "table", type := (.array .int), accessFlags := 2, slot := 2, constantValue := 0 }, { name := "shift", type := .int, accessFlags := 2, slot := 3, constantValue := 0 }, { name := "size", type := .int, accessFlags := 2, slot := 4, constantValue := 0 }]
  methods := #[k2m0, k2m1, k2m2, k2m3, k2m4, k2m5, k2m6]
  instanceTypes := #[(.array .byte), (.array .int), (.array .int), .int, .int]
  staticTypes := #[.int, .int, .long]
  resolved := Array.replicate 123 none
  statics := none }

def pool3 : Array CpInfo := pool [(1, .class_ 2), (0, u "java/io/Serializable"), (0, .class_ 4), (0, u "java/lang/Object")] 2

/-- java/io/Serializable -/
def k3 : Class := { plain "java/io/Serializable" (some 0) with
  accessFlags := 1537
  interfaces := #[]
  cf := some (fileOf pool3 1 #[] #[] 1537 3 #[] #[])
  fields := #[]
  methods := #[]
  instanceTypes := #[]
  staticTypes := #[]
  resolved := Array.replicate 7 none
  statics := none }

def pool4 : Array CpInfo := pool [(2, .class_ 4), (1, u "java/lang/Object"), (0, u "<init>"), (0, u "()V"), (1, .class_ 10), (1, u "java/lang/Number"), (2, .class_ 14), (0, u "java/io/Serializable"), (0, u "serialVersionUID"), (0, u "J")] 20

def k4m0 : Method := { name := "<init>", desc := "()V", sig := { parameters := [], returnType := none }, accessFlags := 1, code := none }
/-- java/lang/Number -/
def k4 : Class := { plain "java/lang/Number" (some 0) with
  accessFlags := 1057
  interfaces := #[3]
  cf := some (fileOf pool4 8 #[] #[{ accessFlags := 1, nameIndex := 5, descriptorIndex := 6, attributes := #[] }] 1057 2 #[13] #[{ accessFlags := 26, nameIndex := 15, descriptorIndex := 16, attributes := #[] }])
  fields := #[{ name := "serialVersionUID", type := .long, accessFlags := 26, slot := 0, constantValue := 0 }]
  methods := #[k4m0]
  instanceTypes := #[]
  staticTypes := #[.long]
  resolved := Array.replicate 37 none
  statics := none }

def pool5 : Array CpInfo := pool [(1, .class_ 2), (0, u "java/lang/Comparable"), (0, .class_ 4), (0, u "java/lang/Object")] 7

/-- java/lang/Comparable -/
def k5 : Class := { plain "java/lang/Comparable" (some 0) with
  accessFlags := 1537
  interfaces := #[]
  cf := some (fileOf pool5 1 #[] #[] 1537 3 #[] #[])
  fields := #[]
  methods := #[]
  instanceTypes := #[]
  staticTypes := #[]
  resolved := Array.replicate 12 none
  statics := none }

def pool6 : Array CpInfo := pool [(1, .class_ 2), (0, u "java/lang/constant/Constable"), (0, .class_ 4), (0, u "java/lang/Object")] 6

/-- java/lang/constant/Constable -/
def k6 : Class := { plain "java/lang/constant/Constable" (some 0) with
  accessFlags := 1537
  interfaces := #[]
  cf := some (fileOf pool6 1 #[] #[] 1537 3 #[] #[])
  fields := #[]
  methods := #[]
  instanceTypes := #[]
  staticTypes := #[]
  resolved := Array.replicate 11 none
  statics := none }

def pool7 : Array CpInfo := pool [(1, .class_ 2), (0, u "java/lang/constant/ConstantDesc"), (0, .class_ 4), (0, u "java/lang/Object")] 32

/-- java/lang/constant/ConstantDesc -/
def k7 : Class := { plain "java/lang/constant/ConstantDesc" (some 0) with
  accessFlags := 1537
  interfaces := #[]
  cf := some (fileOf pool7 1 #[] #[] 1537 3 #[] #[])
  fields := #[]
  methods := #[]
  instanceTypes := #[]
  staticTypes := #[]
  resolved := Array.replicate 37 none
  statics := none }

def pool8 : Array CpInfo := pool [(1, .class_ 2), (0, u "java/lang/Integer"), (16, u "digits"), (0, u "[C"), (33, u "(I)I"), (30, u "DigitOnes"), (0, u "[B"), (2, u "DigitTens"), (99, .class_ 190), (0, u "java/lang/Integer$IntegerCache"), (3, u "I"), (8, .class_ 204), (0, u "java/lang/Number"), (2, u "value"), (56, .integer 65536), (37, u "TYPE"), (0, u "Ljava/lang/Class;"), (0, .class_ 305), (0, u "java/lang/Comparable"), (0, .class_ 307), (0, u "java/lang/constant/Constable"), (0, .class_ 309), (0, u "java/lang/constant/ConstantDesc"), (0, u "MIN_VALUE"), (1, u "MAX_VALUE"), (3, u "SIZE"), (1, u "BYTES"), (1, u "serialVersionUID"), (0, u "J"), (84, u "numberOfTrailingZeros")] 46

def k8c0 : Code := { maxStack := 3, maxLocals := 2, code := jdk_33_method_48_code, exceptionTable := #[], attributes := #[] }
def k8m0 : Method := { name := "numberOfTrailingZeros", desc := "(I)I", sig := { parameters := [.int], returnType := some .int }, accessFlags := 9, code := some k8c0 }
/-- java/lang/Integer -/
def k8 : Class := { plain "java/lang/Integer" (some 4) with
  accessFlags := 49
  interfaces := #[5, 6, 7]
  cf := some (fileOf pool8 1 #[.nestMembers #[189]] #[{ accessFlags := 9, nameIndex := 406, descriptorIndex := 54, attributes := #[] }] 49 203 #[304, 306, 308] #[{ accessFlags := 25, nameIndex := 310, descriptorIndex := 194, attributes := #[] }, { accessFlags := 25, nameIndex := 312, descriptorIndex := 194, attributes := #[] }, { accessFlags := 25, nameIndex := 302, descriptorIndex := 303, attributes := #[] }, { accessFlags := 24, nameIndex := 19, descriptorIndex := 20, attributes := #[] }, { accessFlags := 24, nameIndex := 89, descriptorIndex := 86, attributes := #[] }, { accessFlags := 24, nameIndex := 85, descriptorIndex := 86, attributes := #[] }, { accessFlags := 18, nameIndex := 207, descriptorIndex := 194, attributes := #[] }, { accessFlags := 25, nameIndex := 316, descriptorIndex := 194, attributes := #[] }, { accessFlags := 25, nameIndex := 318, descriptorIndex := 194, attributes := #[] }, { accessFlags := 26, nameIndex := 320, descriptorIndex := 321, attributes := #[] }])
  fields := #[{ name := "MIN_VALUE", type := .int, accessFlags := 25, slot := 0, constantValue := 0 }, { name := "MAX_VALUE", type := .int, accessFlags := 25, slot := 1, constantValue := 0 }, { name := "TYPE", type := (.object "java/lang/Class"), accessFlags := 25, slot := 2, constantValue := 0 }, { name := "digits", type := (.array .char), accessFlags := 24, slot := 3, constantValue := 0 }, { name := "DigitTens", type := (.array .byte), accessFlags := 24, slot := 4, constantValue := 0 }, { name := "DigitOnes", type := (.array .byte), accessFlags := 24, slot := 5, constantValue := 0 }, { name := "value", type := .int, accessFlags := 18, slot := 0, constantValue := 0 }, { name := "SIZE", type := .int, accessFlags := 25, slot := 6, constantValue := 0 }, { name := "BYTES", type := .int, accessFlags := 25, slot := 7, constantValue := 0 }, { name := "serialVersionUID", type := .long, accessFlags := 26, slot := 8, constantValue := 0 }]
  methods := #[k8m0]
  instanceTypes := #[.int]
  staticTypes := #[.int, .int, (.object "java/lang/Class"), (.array .char), (.array .byte), (.array .byte), .int, .int, .long]
  resolved := Array.replicate 453 none
  statics := none }

def pool9 : Array CpInfo := pool [(2, .class_ 4), (1, u "java/lang/Object"), (0, u "<init>"), (0, u "()V"), (1, .class_ 10), (1, u "java/lang/System"), (0, u "allowSecurityManager"), (0, u "I"), (16, u "cons"), (0, u "Ljava/io/Console;"), (77, .class_ 110), (1, u "java/lang/System$CallersHolder"), (43, u "initialErrStream"), (0, u "Ljava/io/PrintStream;"), (19, u "security"), (0, u "Ljava/lang/SecurityManager;"), (31, .class_ 209), (0, u "java/lang/System$1"), (7, u "props"), (0, u "Ljava/util/Properties;"), (2, u "lineSeparator"), (0, u "Ljava/lang/String;"), (96, .class_ 321), (1, u "java/lang/System$LoggerFinder"), (5, .class_ 328), (0, u "java/lang/System$Logger"), (67, u "err"), (2, u "out"), (91, u "notSupportedJnuEncoding"), (15, u "in"), (17, u "initialIn"), (0, u "Ljava/io/InputStream;"), (35, u "bootLayer"), (0, u "Ljava/lang/ModuleLayer;"), (99, .class_ 664), (0, u "java/lang/System$2"), (9, u "NEVER"), (2, u "MAYBE"), (49, u "arraycopy"), (0, u "(Ljava/lang/Object;ILjava/lang/Object;II)V"), (72, .class_ 802), (0, u "java/lang/System$Logger$Level")] 31

def k9m0 : Method := { name := "<init>", desc := "()V", sig := { parameters := [], returnType := none }, accessFlags := 2, code := none }
def k9m1 : Method := { name := "arraycopy", desc := "(Ljava/lang/Object;ILjava/lang/Object;II)V", sig := { parameters := [(.object "java/lang/Object"), .int, (.object "java/lang/Object"), .int, .int], returnType := none }, accessFlags := 265, code := none }
/-- java/lang/System -/
def k9 : Class := { plain "java/lang/System" (some 0) with
  accessFlags := 49
  interfaces := #[]
  cf := some (fileOf pool9 8 #[.nestMembers #[319, 327, 801, 108, 663, 208]] #[{ accessFlags := 2, nameIndex := 5, descriptorIndex := 6, attributes := #[] }, { accessFlags := 265, nameIndex := 727, descriptorIndex := 728, attributes := #[] }] 49 2 #[] #[{ accessFlags := 25, nameIndex := 507, descriptorIndex := 526, attributes := #[] }, { accessFlags := 25, nameIndex := 399, descriptorIndex := 155, attributes := #[] }, { accessFlags := 25, nameIndex := 396, descriptorIndex := 155, attributes := #[] }, { accessFlags := 10, nameIndex := 525, descriptorIndex := 526, attributes := #[] }, { accessFlags := 26, nameIndex := 674, descriptorIndex := 12, attributes := #[] }, { accessFlags := 26, nameIndex := 677, descriptorIndex := 12, attributes := #[] }, { accessFlags := 10, nameIndex := 11, descriptorIndex := 12, attributes := #[] }, { accessFlags := 74, nameIndex := 175, descriptorIndex := 176, attributes := #[] }, { accessFlags := 10, nameIndex := 491, descriptorIndex := 222, attributes := #[] }, { accessFlags := 74, nameIndex := 29, descriptorIndex := 30, attributes := #[] }, { accessFlags := 74, nameIndex := 154, descriptorIndex := 155, attributes := #[] }, { accessFlags := 10, nameIndex := 217, descriptorIndex := 218, attributes := #[] }, { accessFlags := 10, nameIndex := 221, descriptorIndex := 222, attributes := #[] }, { accessFlags := 8, nameIndex := 562, descriptorIndex := 563, attributes := #[] }])
  fields := #[{ name := "in", type := (.object "java/io/InputStream"), accessFlags := 25, slot := 0, constantValue := 0 }, { name := "out", type := (.object "java/io/PrintStream"), accessFlags := 25, slot := 1, constantValue := 0 }, { name := "err", type := (.object "java/io/PrintStream"), accessFlags := 25, slot := 2, constantValue := 0 }, { name := "initialIn", type := (.object "java/io/InputStream"), accessFlags := 10, slot := 3, constantValue := 0 }, { name := "NEVER", type := .int, accessFlags := 26, slot := 4, constantValue := 0 }, { name := "MAYBE", type := .int, accessFlags := 26, slot := 5, constantValue := 0 }, { name := "allowSecurityManager", type := .int, accessFlags := 10, slot := 6, constantValue := 0 }, { name := "security", type := (.object "java/lang/SecurityManager"), accessFlags := 74, slot := 7, constantValue := 0 }, { name := "notSupportedJnuEncoding", type := (.object "java/lang/String"), accessFlags := 10, slot := 8, constantValue := 0 }, { name := "cons", type := (.object "java/io/Console"), accessFlags := 74, slot := 9, constantValue := 0 }, { name := "initialErrStream", type := (.object "java/io/PrintStream"), accessFlags := 74, slot := 10, constantValue := 0 }, { name := "props", type := (.object "java/util/Properties"), accessFlags := 10, slot := 11, constantValue := 0 }, { name := "lineSeparator", type := (.object "java/lang/String"), accessFlags := 10, slot := 12, constantValue := 0 }, { name := "bootLayer", type := (.object "java/lang/ModuleLayer"), accessFlags := 8, slot := 13, constantValue := 0 }]
  methods := #[k9m0, k9m1]
  instanceTypes := #[]
  staticTypes := #[(.object "java/io/InputStream"), (.object "java/io/PrintStream"), (.object "java/io/PrintStream"), (.object "java/io/InputStream"), .int, .int, .int, (.object "java/lang/SecurityManager"), (.object "java/lang/String"), (.object "java/io/Console"), (.object "java/io/PrintStream"), (.object "java/util/Properties"), (.object "java/lang/String"), (.object "java/lang/ModuleLayer")]
  resolved := Array.replicate 834 none
  statics := none }

def pool10 : Array CpInfo := pool [(1, .class_ 2), (0, u "java/lang/Long"), (232, .class_ 237), (1, u "java/lang/Long$LongCache"), (33, .class_ 272), (0, u "java/lang/Number"), (2, u "value"), (0, u "J"), (84, u "TYPE"), (0, u "Ljava/lang/Class;"), (0, .class_ 364), (0, u "java/lang/Comparable"), (0, .class_ 366), (0, u "java/lang/constant/Constable"), (0, .class_ 368), (0, u "java/lang/constant/ConstantDesc"), (0, u "MIN_VALUE"), (1, u "MAX_VALUE"), (4, u "SIZE"), (0, u "I"), (1, u "BYTES"), (1, u "serialVersionUID"), (95, u "rotateLeft"), (0, u "(JI)J")] 45

def k10c0 : Code := { maxStack := 5, maxLocals := 3, code := jdk_35_method_51_code, exceptionTable := #[], attributes := #[] }
def k10m0 : Method := { name := "rotateLeft", desc := "(JI)J", sig := { parameters := [.long, .int], returnType := some .long }, accessFlags := 9, code := some k10c0 }
/-- java/lang/Long -/
def k10 : Class := { plain "java/lang/Long" (some 4) with
  accessFlags := 49
  interfaces := #[5, 6, 7]
  cf := some (fileOf pool10 1 #[.nestMembers #[235]] #[{ accessFlags := 9, nameIndex := 477, descriptorIndex := 478, attributes := #[] }] 49 271 #[363, 365, 367] #[{ accessFlags := 25, nameIndex := 369, descriptorIndex := 276, attributes := #[] }, { accessFlags := 25, nameIndex := 371, descriptorIndex := 276, attributes := #[] }, { accessFlags := 25, nameIndex := 361, descriptorIndex := 362, attributes := #[] }, { accessFlags := 18, nameIndex := 275, descriptorIndex := 276, attributes := #[] }, { accessFlags := 25, nameIndex := 376, descriptorIndex := 377, attributes := #[] }, { accessFlags := 25, nameIndex := 379, descriptorIndex := 377, attributes := #[] }, { accessFlags := 26, nameIndex := 381, descriptorIndex := 276, attributes := #[] }])
  fields := #[{ name := "MIN_VALUE", type := .long, accessFlags := 25, slot := 0, constantValue := 0 }, { name := "MAX_VALUE", type := .long, accessFlags := 25, slot := 1, constantValue := 0 }, { name := "TYPE", type := (.object "java/lang/Class"), accessFlags := 25, slot := 2, constantValue := 0 }, { name := "value", type := .long, accessFlags := 18, slot := 0, constantValue := 0 }, { name := "SIZE", type := .int, accessFlags := 25, slot := 3, constantValue := 0 }, { name := "BYTES", type := .int, accessFlags := 25, slot := 4, constantValue := 0 }, { name := "serialVersionUID", type := .long, accessFlags := 26, slot := 5, constantValue := 0 }]
  methods := #[k10m0]
  instanceTypes := #[.long]
  staticTypes := #[.long, .long, (.object "java/lang/Class"), .int, .int, .long]
  resolved := Array.replicate 524 none
  statics := none }

def pool11 : Array CpInfo := pool [(1, u "java/lang/Cloneable"), (0, .class_ 1), (0, u "java/lang/Object"), (0, .class_ 3)] 3

/-- java/lang/Cloneable -/
def k11 : Class := { plain "java/lang/Cloneable" (some 0) with
  accessFlags := 1537
  interfaces := #[]
  cf := some (fileOf pool11 2 #[] #[] 1537 4 #[] #[])
  fields := #[]
  methods := #[]
  instanceTypes := #[]
  staticTypes := #[]
  resolved := Array.replicate 8 none
  statics := none }

/-- the primitive byte -/
def k12 : Class := { plain "byte" none with kind := .primitive 'B', accessFlags := 0x411 }
/-- [B -/
def k13 : Class := { plain "[B" (some 0) with kind := .array 12 .byte, interfaces := #[11, 3], accessFlags := 1041 }

/-- the primitive int -/
def k14 : Class := { plain "int" none with kind := .primitive 'I', accessFlags := 0x411 }
/-- [I -/
def k15 : Class := { plain "[I" (some 0) with kind := .array 14 .int, interfaces := #[11, 3], accessFlags := 1041 }

def heap : Heap := #[]
def classes : Array Class := #[k0, k1, k2, k3, k4, k5, k6, k7, k8, k9, k10, k11, k12, k13, k14, k15]
def interned : List (Array UInt16 × Addr) := []
def slotsUsed : Nat := 0
def theMethod : MethodId := ⟨1, 1⟩
def args0 : Array Value := #[.long 5, .long 6, .long 7, .int 3]
def aboutOver (below : List Frame) : State where
  vm := { classes := classes, interned := interned.toArray }
  heap := heap
  slotsUsed := slotsUsed
  threads := #[{ frames := .invoking theMethod args0 :: below }]
def below0 : List Frame := [.native { method := ⟨0, 0⟩, args := #[] }]
def about1 : State := aboutOver below0
def p0 : Program := .bare "" "" ""
def e0 : Env := launch0.env 0 0 0
theorem w_frames : about1.frames = Frame.invoking theMethod args0 :: below0 := rfl
set_option maxRecDepth 65536 in
theorem w_args : argsFit about1.vm theMethod args0 = true := by decide +kernel
set_option maxRecDepth 65536 in
theorem w_heap : heapFits about1 = true := by decide +kernel
set_option maxRecDepth 65536 in
theorem w_runnable : about1.curStatus? = some .runnable := by decide +kernel
set_option maxRecDepth 65536 in
theorem w_alone : about1.alone = true := by decide +kernel
set_option maxRecDepth 65536 in
theorem w_named : about1.methodNamed? x = some theMethod := by decide +kernel
set_option maxRecDepth 65536 in
theorem w_hears : about1.hears theMethod below0 = true := by decide +kernel
set_option maxRecDepth 65536 in
theorem w_ripe : about1.ripe theMethod args0 below0 = true := by decide +kernel
theorem w_running : about1.status = .running := rfl
set_option maxRecDepth 65536 in
theorem w_room : about1.hasRoom e0.platform room_1 = true :=
  launch0.hasRoom_least _ room_1 (by decide +kernel) (by decide +kernel) (by decide +kernel) (by decide +kernel) (by decide +kernel) (by decide +kernel)
theorem allAtoms_all (ts : List Jvm.Cond) (a : Array Jvm.Value) (st : Jvm.State) : (allAtoms ts).before a st = ts.all (fun c => c.before a st) := by
  induction ts with
  | nil => rfl
  | cons c t ih =>
    show (Jvm.Cond.and c (allAtoms t)).before a st = _
    rw [Jvm.Cond.before_and, ih, List.all_cons]
def words1 : List Jvm.Cond := Jvm.Cond.code x code maxLocals ret :: tables_1
/-- a 'code' word, met by the world's own term for the bytes: nothing is compared byte by byte -/
theorem code_word {y : MethodName} {bytes : ByteArray} {mx : Nat} {rt : Option FieldType} {a : Array Value} {s : State} {m : MethodId} {meth : Method} {c : Code} (h1 : s.methodNamed? y = some m) (h2 : s.vm.method? m = some meth) (h3 : meth.code = some c) (h4 : c.code = bytes)
    (h5 : (c.maxLocals == mx && c.exceptionTable.isEmpty && decide (c.maxStack ≤ mostOperands) && decide (meth.sig.returnType = rt) && !meth.locks && decide (parseMethodDescriptor y.desc = some meth.sig)) = true) : (Jvm.Cond.code y bytes mx rt).before a s = true := by
  simp only [Bool.and_eq_true, beq_iff_eq, Bool.not_eq_true', decide_eq_true_eq] at h5
  obtain ⟨⟨⟨⟨⟨g1, g2⟩, g3⟩, g4⟩, g5⟩, g6⟩ := h5
  simp [Cond.before, Cond.holds, Cond.value, h1, h2, h3, h4, g1, g2, g3, g4, g5, g6]
def isCode : Jvm.Cond → Bool
  | .code _ _ _ _ => true
  | _ => false
theorem all_split {L : List Jvm.Cond} {P : Jvm.Cond → Bool} (h1 : L.all (fun c => isCode c || P c) = true) (h2 : ∀ c ∈ L.filter isCode, P c = true) : L.all P = true := by
  refine List.all_eq_true.mpr fun c hc => ?_
  have h := List.all_eq_true.mp h1 c hc
  rcases Bool.eq_false_or_eq_true (isCode c) with hi | hi
  · exact h2 c (List.mem_filter.mpr ⟨hc, hi⟩)
  · simpa [hi] using h
set_option maxRecDepth 65536 in
theorem w_c0 : (Jvm.Cond.code x code maxLocals ret).before args0 about1 = true := code_word (m := ⟨1, 1⟩) (meth := k1m1) (c := k1c1) (by decide +kernel) rfl rfl rfl (by decide +kernel)
set_option maxRecDepth 65536 in
theorem w_c1 : (Jvm.Cond.code ({ cls := "com/example/meritgrid/meritgrid/TextIndex", name := "<init>", desc := "()V" } : Jvm.MethodName) prog_31_method_1_code (1 : Nat) (Option.none : Option Jvm.ClassFile.FieldType)).before args0 about1 = true := code_word (m := ⟨2, 0⟩) (meth := k2m0) (c := k2c0) (by decide +kernel) rfl rfl rfl (by decide +kernel)
set_option maxRecDepth 65536 in
theorem w_c2 : (Jvm.Cond.code ({ cls := "java/lang/Object", name := "<init>", desc := "()V" } : Jvm.MethodName) object_method_1_code (1 : Nat) (Option.none : Option Jvm.ClassFile.FieldType)).before args0 about1 = true := code_word (m := ⟨0, 0⟩) (meth := k0m0) (c := k0c0) (by decide +kernel) rfl rfl rfl (by decide +kernel)
set_option maxRecDepth 65536 in
theorem w_c3 : (Jvm.Cond.code ({ cls := "java/lang/Integer", name := "numberOfTrailingZeros", desc := "(I)I" } : Jvm.MethodName) jdk_33_method_48_code (2 : Nat) (Option.some Jvm.ClassFile.FieldType.int)).before args0 about1 = true := code_word (m := ⟨8, 0⟩) (meth := k8m0) (c := k8c0) (by decide +kernel) rfl rfl rfl (by decide +kernel)
set_option maxRecDepth 65536 in
theorem w_c4 : (Jvm.Cond.code ({ cls := "com/example/meritgrid/meritgrid/TextIndex", name := "add", desc := "([BII)I" } : Jvm.MethodName) prog_31_method_3_code (7 : Nat) (Option.some Jvm.ClassFile.FieldType.int)).before args0 about1 = true := code_word (m := ⟨2, 1⟩) (meth := k2m1) (c := k2c1) (by decide +kernel) rfl rfl rfl (by decide +kernel)
set_option maxRecDepth 65536 in
theorem w_c5 : (Jvm.Cond.code ({ cls := "com/example/meritgrid/meritgrid/TextIndex", name := "place", desc := "([BII)I" } : Jvm.MethodName) prog_31_method_9_code (6 : Nat) (Option.some Jvm.ClassFile.FieldType.int)).before args0 about1 = true := code_word (m := ⟨2, 3⟩) (meth := k2m3) (c := k2c3) (by decide +kernel) rfl rfl rfl (by decide +kernel)
set_option maxRecDepth 65536 in
theorem w_c6 : (Jvm.Cond.code ({ cls := "com/example/meritgrid/meritgrid/TextIndex", name := "hash", desc := "([BII)I" } : Jvm.MethodName) prog_31_method_11_code (6 : Nat) (Option.some Jvm.ClassFile.FieldType.int)).before args0 about1 = true := code_word (m := ⟨2, 4⟩) (meth := k2m4) (c := k2c4) (by decide +kernel) rfl rfl rfl (by decide +kernel)
set_option maxRecDepth 65536 in
theorem w_c7 : (Jvm.Cond.code ({ cls := "com/example/meritgrid/meritgrid/TextIndex", name := "holds", desc := "(I[BII)Z" } : Jvm.MethodName) prog_31_method_4_code (7 : Nat) (Option.some Jvm.ClassFile.FieldType.boolean)).before args0 about1 = true := code_word (m := ⟨2, 2⟩) (meth := k2m2) (c := k2c2) (by decide +kernel) rfl rfl rfl (by decide +kernel)
set_option maxRecDepth 65536 in
theorem w_c8 : (Jvm.Cond.code ({ cls := "com/example/meritgrid/meritgrid/TextIndex", name := "start", desc := "(I)I" } : Jvm.MethodName) prog_31_method_13_code (2 : Nat) (Option.some Jvm.ClassFile.FieldType.int)).before args0 about1 = true := code_word (m := ⟨2, 6⟩) (meth := k2m6) (c := k2c6) (by decide +kernel) rfl rfl rfl (by decide +kernel)
set_option maxRecDepth 65536 in
theorem w_c9 : (Jvm.Cond.code ({ cls := "java/lang/Long", name := "rotateLeft", desc := "(JI)J" } : Jvm.MethodName) jdk_35_method_51_code (3 : Nat) (Option.some Jvm.ClassFile.FieldType.long)).before args0 about1 = true := code_word (m := ⟨10, 0⟩) (meth := k10m0) (c := k10c0) (by decide +kernel) rfl rfl rfl (by decide +kernel)
set_option maxRecDepth 65536 in
theorem w_c10 : (Jvm.Cond.code ({ cls := "com/example/meritgrid/meritgrid/TextIndex", name := "word", desc := "([BII)J" } : Jvm.MethodName) prog_31_method_12_code (6 : Nat) (Option.some Jvm.ClassFile.FieldType.long)).before args0 about1 = true := code_word (m := ⟨2, 5⟩) (meth := k2m5) (c := k2c5) (by decide +kernel) rfl rfl rfl (by decide +kernel)
def codes1 : List Jvm.Cond := [Jvm.Cond.code x code maxLocals ret, Jvm.Cond.code ({ cls := "com/example/meritgrid/meritgrid/TextIndex", name := "<init>", desc := "()V" } : Jvm.MethodName) prog_31_method_1_code (1 : Nat) (Option.none : Option Jvm.ClassFile.FieldType), Jvm.Cond.code ({ cls := "java/lang/Object", name := "<init>", desc := "()V" } : Jvm.MethodName) object_method_1_code (1 : Nat) (Option.none : Option Jvm.ClassFile.FieldType), Jvm.Cond.code ({ cls := "java/lang/Integer", name := "numberOfTrailingZeros", desc := "(I)I" } : Jvm.MethodName) jdk_33_method_48_code (2 : Nat) (Option.some Jvm.ClassFile.FieldType.int), Jvm.Cond.code ({ cls := "com/example/meritgrid/meritgrid/TextIndex", name := "add", desc := "([BII)I" } : Jvm.MethodName) prog_31_method_3_code (7 : Nat) (Option.some Jvm.ClassFile.FieldType.int), Jvm.Cond.code ({ cls := "com/example/meritgrid/meritgrid/TextIndex", name := "place", desc := "([BII)I" } : Jvm.MethodName) prog_31_method_9_code (6 : Nat) (Option.some Jvm.ClassFile.FieldType.int), Jvm.Cond.code ({ cls := "com/example/meritgrid/meritgrid/TextIndex", name := "hash", desc := "([BII)I" } : Jvm.MethodName) prog_31_method_11_code (6 : Nat) (Option.some Jvm.ClassFile.FieldType.int), Jvm.Cond.code ({ cls := "com/example/meritgrid/meritgrid/TextIndex", name := "holds", desc := "(I[BII)Z" } : Jvm.MethodName) prog_31_method_4_code (7 : Nat) (Option.some Jvm.ClassFile.FieldType.boolean), Jvm.Cond.code ({ cls := "com/example/meritgrid/meritgrid/TextIndex", name := "start", desc := "(I)I" } : Jvm.MethodName) prog_31_method_13_code (2 : Nat) (Option.some Jvm.ClassFile.FieldType.int), Jvm.Cond.code ({ cls := "java/lang/Long", name := "rotateLeft", desc := "(JI)J" } : Jvm.MethodName) jdk_35_method_51_code (3 : Nat) (Option.some Jvm.ClassFile.FieldType.long), Jvm.Cond.code ({ cls := "com/example/meritgrid/meritgrid/TextIndex", name := "word", desc := "([BII)J" } : Jvm.MethodName) prog_31_method_12_code (6 : Nat) (Option.some Jvm.ClassFile.FieldType.long)]
set_option maxRecDepth 65536 in
theorem codes_eq : words1.filter isCode = codes1 := rfl
theorem w_codes : ∀ c ∈ words1.filter isCode, c.before args0 about1 = true := by
  rw [codes_eq]
  intro c hc
  simp only [codes1, List.mem_cons, List.not_mem_nil, or_false] at hc
  rcases hc with rfl | rfl | rfl | rfl | rfl | rfl | rfl | rfl | rfl | rfl | rfl
  · exact w_c0
  · exact w_c1
  · exact w_c2
  · exact w_c3
  · exact w_c4
  · exact w_c5
  · exact w_c6
  · exact w_c7
  · exact w_c8
  · exact w_c9
  · exact w_c10
set_option maxRecDepth 65536 in
theorem w_t1 : (words1.take 24).all (fun c => isCode c || c.before args0 about1) = true := by decide +kernel
set_option maxRecDepth 65536 in
theorem w_t2 : ((words1.drop 24).take 24).all (fun c => isCode c || c.before args0 about1) = true := by decide +kernel
set_option maxRecDepth 65536 in
theorem w_t3 : ((words1.drop 24).drop 24).all (fun c => isCode c || c.before args0 about1) = true := by decide +kernel
theorem w_tables : (allAtoms (Jvm.Cond.code x code maxLocals ret :: tables_1)).before args0 about1 = true := by
  rw [allAtoms_all]
  show words1.all (fun c => c.before args0 about1) = true
  refine all_split ?_ w_codes
  rw [← List.take_append_drop 24 words1, List.all_append, w_t1, ← List.take_append_drop 24 (words1.drop 24), List.all_append, w_t2, w_t3]
  rfl
set_option maxRecDepth 65536 in
theorem w_case : (Jvm.Cond.and given_1 narrow_1).before args0 about1 = true := by decide +kernel
theorem w_applies : (headSpec (Jvm.Cond.code x code maxLocals ret :: tables_1) room_1).applies x e0.platform about1 = true :=
  (Spec.applies_iff w_frames).mpr ⟨w_running, w_runnable, w_alone, w_named, w_hears, w_ripe, w_room, w_tables⟩
theorem atStart : AtStart classFile x code maxLocals ret World_1 tables_1 room_1 Calls_1 rest_1 Pre_1 launch0 p0 e0 about1 theMethod args0 below0 :=
  ⟨lists_1, trivial, launch0.admits_env _ _ _, launch0.least_env, fairChoices_fair.cas, fairChoices_fair.clock, w_frames, w_args, w_heap, w_applies, trivial, trivial, w_case⟩
end start1
theorem witness_1 : WitnessClaimed_1 := ⟨start1.p0, start1.e0, start1.about1, start1.theMethod, start1.args0, start1.below0, start1.atStart⟩
end Jvm.Pilot.@@N@@
