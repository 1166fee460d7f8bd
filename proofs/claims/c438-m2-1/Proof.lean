import JvmDerived
import JvmDerived.Pilot.@@N@@Statement
import JvmDerived.Pilot.@@N@@Code
set_option linter.unusedVariables false
set_option linter.unusedSimpArgs false
namespace Jvm.RoadKit
open Sem ClassFile Op Lib Jvm.Stand Jvm.Free Jvm.LawKit
section New
variable {p : Program} {l : Launch} {e : Env} {R : Room} {s : State} {m : MethodId} {args : Array Value} {below : List Frame} {meth : Method} {c : Code} {T : State} {locs : List Loc} {cells slots : Nat}
theorem retI (X : Stand p l e R s m args below meth c T locs cells slots) (hx : p.tables.exec = Jvm.exec) {pc : Nat} {Ls : Array Slot} {z : Int32} {rest : List Value} (hret : meth.sig.returnType = some .int) (hd : decode c.code pc = .ok (.ireturn, 1)) {fs : List Frame}
    (hl : ∀ (f : JFrame) (acts : List Action), f.method = m → f.locked = none → f.entered = [] → (doReturn e (T.setTop f) acts (some (.int z))).1 = T.setFrames fs) : Steps p.tables e below (T.setTop (mkF m pc Ls (.int z :: rest))) (T.setFrames fs) := by
  have hm' : T.vm.method? m = some meth := X.method'
  have hn : narrow .int (.int z) = .int z := rfl
  show Steps p.tables e below (T.setTop { method := m, pc := pc, locals := Ls, stack := _ :: rest, locked := none }) _
  jvm_step X.here [X.here.top, hx, hd, hm', hret, hn]
  first | (intro acts; rw [hl _ acts rfl rfl rfl]) | rw [hl _ _ rfl rfl rfl]
  exact Steps.refl _
end New
end Jvm.RoadKit
namespace Jvm.Pilot.@@N@@
namespace Own
open Jvm Jvm.ClassFile Sem Op Lib Jvm.Free Jvm.Stand Jvm.LawKit Jvm.RoadKit Bundle
/-- from this frame on the method comes to an end of which P holds -/
def Run (tb : Tables) (e : Env) (below : List Frame) (P : State → Prop) (T : State) (g : JFrame) : Prop := ∃ t, Steps tb e below (T.setTop g) t ∧ P t
theorem Run.of {tb : Tables} {e : Env} {below : List Frame} {P : State → Prop} {T T' : State} {g g' : JFrame} (st : ∀ target, Steps tb e below (T'.setTop g') target → Steps tb e below (T.setTop g) target) (k : Run tb e below P T' g') : Run tb e below P T g := by
  obtain ⟨t, h, hp⟩ := k; exact ⟨t, st _ h, hp⟩
theorem Run.tr {tb : Tables} {e : Env} {below : List Frame} {P : State → Prop} {T T' : State} {g g' : JFrame} (st : Steps tb e below (T.setTop g) (T'.setTop g')) (k : Run tb e below P T' g') : Run tb e below P T g := by
  obtain ⟨t, h, hp⟩ := k; exact ⟨t, st.trans h, hp⟩
/-- what is kept up while the heap grows and safe cells are written -/
def Cl (Z : State) (Inv : Heap → Prop) (Sf : Heap → Addr → Prop) : Prop :=
  (∀ (h h' : Heap) (ws : List Addr), Keep h h' ws → (∀ x ∈ ws, Sf h x) → Inv h → Inv h' ∧ ∀ x, Sf h x → Sf h' x) ∧
  (∀ (h : Heap) (x : Addr), h.size ≤ x → Sf h x) ∧
  (∀ (h : Heap) (x : Addr) (C : String), Exa Z h x C → C ≠ "java/lang/String" → C ≠ "[B" → Sf h x) ∧
  (∀ (h : Heap) (x : Addr) (c : Cell) (ty : FieldType), Arr Z h x c ty → ty ≠ .byte → Sf h x)
/-- where the walk of a body stands -/
def WP (p : Program) (l : Launch) (e : Env) (R : Room) (s : State) (m : MethodId) (args : Array Value) (below : List Frame) (meth : Method) (c : Code) (Z : State) (own mname : String) (bytes : ByteArray) (maxL : Nat) (ret : Option FieldType) (n0 : Nat) (Inv : Heap → Prop) (Sf : Heap → Addr → Prop) (T : State) (h : Heap) (locs : List Loc) (cells slots : Nat) : Prop :=
  Stand p l e R s m args below meth c T locs cells slots ∧ T.heap = h ∧ Z.Warmed39 s.vm ∧ s.vm.findClass own = some m.cls ∧ Fr n0 locs ∧ Old Z n0 h ∧ Inv h ∧ (p.tables.exec = Jvm.exec ∧ c.code = bytes ∧ c.maxLocals = maxL ∧ meth.sig.returnType = ret ∧ meth.locks = false ∧ meth.name = mname) ∧ Cl Z Inv Sf
theorem ext_keep {h h' : Heap} (E : Ext h h') : Keep h h' [] := (Keep.refl h []).ext E
theorem keep_id (h : Heap) : Keep h h [] := Keep.refl h []
theorem own_n {a b : Nat} (h : a < b) : a < b := h
theorem own_ne {a b : Nat} (h : a < b ∨ b < a) : a ≠ b := by omega
theorem own_ni {a b : Nat} (h : a ≠ b) : a < b ∨ b < a := by omega
theorem fr1 {k : Nat} {a : Addr} {sl : Nat} (q : k ≤ a) : Fr k [(⟨a, sl⟩ : Loc)] := fun y hy => by cases List.mem_singleton.mp hy; exact q
section Kit
variable {p : Program} {l : Launch} {e : Env} {R : Room} {s : State} {m : MethodId} {args : Array Value} {below : List Frame} {meth : Method} {c : Code} {Z : State} {own mname : String} {bytes : ByteArray} {maxL : Nat} {ret : Option FieldType} {n0 : Nat} {Inv : Heap → Prop} {Sf : Heap → Addr → Prop} {T : State} {h : Heap} {locs : List Loc} {cells slots : Nat} {a0 : Array Value} {P : State → Prop} {pc pc' : Nat} {Ls Ls' : Array Slot} {st : List Value}
theorem WP.hx (X : WP p l e R s m args below meth c Z own mname bytes maxL ret n0 Inv Sf T h locs cells slots) : p.tables.exec = Jvm.exec := X.2.2.2.2.2.2.2.1.1
theorem WP.hby (X : WP p l e R s m args below meth c Z own mname bytes maxL ret n0 Inv Sf T h locs cells slots) : c.code = bytes := X.2.2.2.2.2.2.2.1.2.1
theorem WP.hml (X : WP p l e R s m args below meth c Z own mname bytes maxL ret n0 Inv Sf T h locs cells slots) : c.maxLocals = maxL := X.2.2.2.2.2.2.2.1.2.2.1
theorem WP.hret (X : WP p l e R s m args below meth c Z own mname bytes maxL ret n0 Inv Sf T h locs cells slots) : meth.sig.returnType = ret := X.2.2.2.2.2.2.2.1.2.2.2.1
theorem WP.hlk (X : WP p l e R s m args below meth c Z own mname bytes maxL ret n0 Inv Sf T h locs cells slots) : meth.locks = false := X.2.2.2.2.2.2.2.1.2.2.2.2.1
theorem WP.hnm (X : WP p l e R s m args below meth c Z own mname bytes maxL ret n0 Inv Sf T h locs cells slots) : meth.name = mname := X.2.2.2.2.2.2.2.1.2.2.2.2.2
theorem WP.cl (X : WP p l e R s m args below meth c Z own mname bytes maxL ret n0 Inv Sf T h locs cells slots) : Cl Z Inv Sf := X.2.2.2.2.2.2.2.2
theorem WP.inv (X : WP p l e R s m args below meth c Z own mname bytes maxL ret n0 Inv Sf T h locs cells slots) : Inv h := X.2.2.2.2.2.2.1
theorem WP.old (X : WP p l e R s m args below meth c Z own mname bytes maxL ret n0 Inv Sf T h locs cells slots) : Old Z n0 h := X.2.2.2.2.2.1
theorem WP.n0le (X : WP p l e R s m args below meth c Z own mname bytes maxL ret n0 Inv Sf T h locs cells slots) : n0 ≤ h.size := X.old.1 ▸ X.old.2.1
theorem WP.fr (X : WP p l e R s m args below meth c Z own mname bytes maxL ret n0 Inv Sf T h locs cells slots) : Fr n0 locs := X.2.2.2.2.1
theorem WP.hown (X : WP p l e R s m args below meth c Z own mname bytes maxL ret n0 Inv Sf T h locs cells slots) : s.vm.findClass own = some m.cls := X.2.2.2.1
theorem WP.hZ (X : WP p l e R s m args below meth c Z own mname bytes maxL ret n0 Inv Sf T h locs cells slots) : Z.Warmed39 s.vm := X.2.2.1
theorem WP.eT (X : WP p l e R s m args below meth c Z own mname bytes maxL ret n0 Inv Sf T h locs cells slots) : T.heap = h := X.2.1
theorem WP.mv (X : WP p l e R s m args below meth c Z own mname bytes maxL ret n0 Inv Sf T h locs cells slots) {T' : State} {h' : Heap} {locs' : List Loc} {cells' slots' : Nat} (X' : Stand p l e R s m args below meth c T' locs' cells' slots') (e' : T'.heap = h') {ws : List Addr} (K : Keep h h' ws) (hs : ∀ x ∈ ws, Sf h x ∧ n0 ≤ x) (N : Fr n0 locs') : WP p l e R s m args below meth c Z own mname bytes maxL ret n0 Inv Sf T' h' locs' cells' slots' :=
  ⟨X', e', X.hZ, X.hown, N, X.old.keep K (fun x q => (hs x q).2), (X.cl.1 h h' ws K (fun x q => (hs x q).1) X.inv).1, X.2.2.2.2.2.2.2.1, X.cl⟩
theorem WP.same (X : WP p l e R s m args below meth c Z own mname bytes maxL ret n0 Inv Sf T h locs cells slots) {T' : State} (X' : Stand p l e R s m args below meth c T' locs cells slots) (e' : T'.heap = h) : WP p l e R s m args below meth c Z own mname bytes maxL ret n0 Inv Sf T' h locs cells slots := X.mv X' e' (keep_id h) (fun _ q => nomatch q) X.fr
theorem WP.up (X : WP p l e R s m args below meth c Z own mname bytes maxL ret n0 Inv Sf T h locs cells slots) {cells' slots' : Nat} (h1 : cells ≤ cells') (h2 : slots ≤ slots') : WP p l e R s m args below meth c Z own mname bytes maxL ret n0 Inv Sf T h locs cells' slots' :=
  ⟨⟨X.1.admits, X.1.cas, X.1.clock, X.1.frames, X.1.room, X.1.hears, X.1.method, X.1.code, X.1.here, X.1.tail, X.1.warmed, X.1.limits, X.1.bytes, X.1.same.mono h1 h2⟩, X.2⟩
/-- a safe cell stays safe -/
theorem WP.sf (X : WP p l e R s m args below meth c Z own mname bytes maxL ret n0 Inv Sf T h locs cells slots) {h' : Heap} {ws : List Addr} {x : Addr} (K : Keep h h' ws) (hs : ∀ x ∈ ws, Sf h x ∧ n0 ≤ x) (q : Sf h x) : Sf h' x := (X.cl.1 h h' ws K (fun x q => (hs x q).1) X.inv).2 x q
theorem WP.sfN (X : WP p l e R s m args below meth c Z own mname bytes maxL ret n0 Inv Sf T h locs cells slots) {x : Addr} (q : h.size ≤ x) : Sf h x := X.cl.2.1 h x q
theorem WP.sfE (X : WP p l e R s m args below meth c Z own mname bytes maxL ret n0 Inv Sf T h locs cells slots) {x : Addr} {C : String} (E : Exa Z h x C) (h1 : C ≠ "java/lang/String" := by decide) (h2 : C ≠ "[B" := by decide) : Sf h x := X.cl.2.2.1 h x C E h1 h2
theorem WP.sfA (X : WP p l e R s m args below meth c Z own mname bytes maxL ret n0 Inv Sf T h locs cells slots) {x : Addr} {k : ClassId} {ty : FieldType} {z : Int32} {vs : List Value} {d : Value} (A : Arv Z h x k ty z vs d) (h1 : ty ≠ .byte := by decide) : Sf h x := by
  obtain ⟨c, A, -⟩ := A; exact X.cl.2.2.2 h x c ty A h1

theorem k_aloadN (X : WP p l e R s m args below meth c Z own mname bytes maxL ret n0 Inv Sf T h locs cells slots) {k : Fin 4} {v : Value} (hd : decode bytes pc = .ok (.aload_n k, 1)) (hl : Ls[k.val]? = some (.val v)) (hv : v.isRef = true) (hp : pc + 1 = pc') (q : Run p.tables e below P T (mkF m pc' Ls (v :: st))) : Run p.tables e below P T (mkF m pc Ls (st)) := by
  subst hp; exact Run.of (fun _ k => XS.aloadN X.1.here X.hx rfl (hb X.hby hd) hl hv k) q
theorem k_aload (X : WP p l e R s m args below meth c Z own mname bytes maxL ret n0 Inv Sf T h locs cells slots) {k : Nat} {v : Value} (hd : decode bytes pc = .ok (.aload k, 2)) (hl : Ls[k]? = some (.val v)) (hv : v.isRef = true) (hp : pc + 2 = pc') (q : Run p.tables e below P T (mkF m pc' Ls (v :: st))) : Run p.tables e below P T (mkF m pc Ls (st)) := by
  subst hp; exact Run.of (fun _ k => XS.aload X.1.here X.hx rfl (hb X.hby hd) hl hv k) q
theorem k_iloadN (X : WP p l e R s m args below meth c Z own mname bytes maxL ret n0 Inv Sf T h locs cells slots) {k : Fin 4} {v : Int32} (hd : decode bytes pc = .ok (.iload_n k, 1)) (hl : Ls[k.val]? = some (.val (.int v))) (hp : pc + 1 = pc') (q : Run p.tables e below P T (mkF m pc' Ls (.int v :: st))) : Run p.tables e below P T (mkF m pc Ls (st)) := by
  subst hp; exact Run.of (fun _ k => XS.iloadN X.1.here X.hx rfl (hb X.hby hd) hl k) q
theorem k_iload (X : WP p l e R s m args below meth c Z own mname bytes maxL ret n0 Inv Sf T h locs cells slots) {k : Nat} {v : Int32} (hd : decode bytes pc = .ok (.iload k, 2)) (hl : Ls[k]? = some (.val (.int v))) (hp : pc + 2 = pc') (q : Run p.tables e below P T (mkF m pc' Ls (.int v :: st))) : Run p.tables e below P T (mkF m pc Ls (st)) := by
  subst hp; exact Run.of (fun _ k => XS.iload X.1.here X.hx rfl (hb X.hby hd) hl k) q
theorem k_astoreN (X : WP p l e R s m args below meth c Z own mname bytes maxL ret n0 Inv Sf T h locs cells slots) {k : Fin 4} {v : Value} (hd : decode bytes pc = .ok (.astore_n k, 1)) (hv : v.isRef = true) (hl : storeLocals Ls k.val v = some Ls') (hp : pc + 1 = pc') (q : Run p.tables e below P T (mkF m pc' Ls' (st))) : Run p.tables e below P T (mkF m pc Ls (v :: st)) := by
  subst hp; exact Run.of (fun _ k => XS.astoreN X.1.here X.hx rfl (hb X.hby hd) rfl hv hl k) q
theorem k_astore (X : WP p l e R s m args below meth c Z own mname bytes maxL ret n0 Inv Sf T h locs cells slots) {k : Nat} {v : Value} (hd : decode bytes pc = .ok (.astore k, 2)) (hv : v.isRef = true) (hl : storeLocals Ls k v = some Ls') (hp : pc + 2 = pc') (q : Run p.tables e below P T (mkF m pc' Ls' (st))) : Run p.tables e below P T (mkF m pc Ls (v :: st)) := by
  subst hp; exact Run.of (fun _ k => XS.astore X.1.here X.hx rfl (hb X.hby hd) rfl hv hl k) q
theorem k_istoreN (X : WP p l e R s m args below meth c Z own mname bytes maxL ret n0 Inv Sf T h locs cells slots) {k : Fin 4} {v : Int32} (hd : decode bytes pc = .ok (.istore_n k, 1)) (hl : storeLocals Ls k.val (.int v) = some Ls') (hp : pc + 1 = pc') (q : Run p.tables e below P T (mkF m pc' Ls' (st))) : Run p.tables e below P T (mkF m pc Ls (.int v :: st)) := by
  subst hp; exact Run.of (fun _ k => XS.istoreN X.1.here X.hx rfl (hb X.hby hd) rfl hl k) q
theorem k_istore (X : WP p l e R s m args below meth c Z own mname bytes maxL ret n0 Inv Sf T h locs cells slots) {k : Nat} {v : Int32} (hd : decode bytes pc = .ok (.istore k, 2)) (hl : storeLocals Ls k (.int v) = some Ls') (hp : pc + 2 = pc') (q : Run p.tables e below P T (mkF m pc' Ls' (st))) : Run p.tables e below P T (mkF m pc Ls (.int v :: st)) := by
  subst hp; exact Run.of (fun _ k => XS.istore X.1.here X.hx rfl (hb X.hby hd) rfl hl k) q
theorem k_iconst (X : WP p l e R s m args below meth c Z own mname bytes maxL ret n0 Inv Sf T h locs cells slots) {k : Int} {w : Int32} (hd : decode bytes pc = .ok (.iconst k, 1)) (hv : Int32.ofInt k = w) (hp : pc + 1 = pc') (q : Run p.tables e below P T (mkF m pc' Ls (.int w :: st))) : Run p.tables e below P T (mkF m pc Ls (st)) := by
  subst hp; subst hv; exact Run.of (fun _ k => XS.iconst X.1.here X.hx rfl (hb X.hby hd)  k) q
theorem k_bipush (X : WP p l e R s m args below meth c Z own mname bytes maxL ret n0 Inv Sf T h locs cells slots) {k : Int} {w : Int32} (hd : decode bytes pc = .ok (.bipush k, 2)) (hv : (Int8.ofInt k).toInt32 = w) (hp : pc + 2 = pc') (q : Run p.tables e below P T (mkF m pc' Ls (.int w :: st))) : Run p.tables e below P T (mkF m pc Ls (st)) := by
  subst hp; subst hv; exact Run.of (fun _ k => XS.bipush X.1.here X.hx rfl (hb X.hby hd)  k) q
theorem k_sipush (X : WP p l e R s m args below meth c Z own mname bytes maxL ret n0 Inv Sf T h locs cells slots) {k : Int} {w : Int32} (hd : decode bytes pc = .ok (.sipush k, 3)) (hv : (Int16.ofInt k).toInt32 = w) (hp : pc + 3 = pc') (q : Run p.tables e below P T (mkF m pc' Ls (.int w :: st))) : Run p.tables e below P T (mkF m pc Ls (st)) := by
  subst hp; subst hv; exact Run.of (fun _ k => XS.sipush X.1.here X.hx rfl (hb X.hby hd)  k) q
theorem k_aconstNull (X : WP p l e R s m args below meth c Z own mname bytes maxL ret n0 Inv Sf T h locs cells slots)  (hd : decode bytes pc = .ok (.aconst_null, 1))  (hp : pc + 1 = pc') (q : Run p.tables e below P T (mkF m pc' Ls (.null :: st))) : Run p.tables e below P T (mkF m pc Ls (st)) := by
  subst hp; exact Run.of (fun _ k => XS.aconstNull X.1.here X.hx rfl (hb X.hby hd)  k) q
theorem k_iadd (X : WP p l e R s m args below meth c Z own mname bytes maxL ret n0 Inv Sf T h locs cells slots) {x y w : Int32} (hd : decode bytes pc = .ok (.iadd, 1)) (hv : x + y = w) (hp : pc + 1 = pc') (q : Run p.tables e below P T (mkF m pc' Ls (.int w :: st))) : Run p.tables e below P T (mkF m pc Ls (.int y :: .int x :: st)) := by
  subst hp; subst hv; exact Run.of (fun _ k => XS.iadd X.1.here X.hx rfl (hb X.hby hd) rfl k) q
theorem k_isub (X : WP p l e R s m args below meth c Z own mname bytes maxL ret n0 Inv Sf T h locs cells slots) {x y w : Int32} (hd : decode bytes pc = .ok (.isub, 1)) (hv : x - y = w) (hp : pc + 1 = pc') (q : Run p.tables e below P T (mkF m pc' Ls (.int w :: st))) : Run p.tables e below P T (mkF m pc Ls (.int y :: .int x :: st)) := by
  subst hp; subst hv; exact Run.of (fun _ k => XS.isub X.1.here X.hx rfl (hb X.hby hd) rfl k) q
theorem k_imul (X : WP p l e R s m args below meth c Z own mname bytes maxL ret n0 Inv Sf T h locs cells slots) {x y w : Int32} (hd : decode bytes pc = .ok (.imul, 1)) (hv : x * y = w) (hp : pc + 1 = pc') (q : Run p.tables e below P T (mkF m pc' Ls (.int w :: st))) : Run p.tables e below P T (mkF m pc Ls (.int y :: .int x :: st)) := by
  subst hp; subst hv; exact Run.of (fun _ k => XS.imul X.1.here X.hx rfl (hb X.hby hd) rfl k) q
theorem k_iand (X : WP p l e R s m args below meth c Z own mname bytes maxL ret n0 Inv Sf T h locs cells slots) {x y w : Int32} (hd : decode bytes pc = .ok (.iand, 1)) (hv : x &&& y = w) (hp : pc + 1 = pc') (q : Run p.tables e below P T (mkF m pc' Ls (.int w :: st))) : Run p.tables e below P T (mkF m pc Ls (.int y :: .int x :: st)) := by
  subst hp; subst hv; exact Run.of (fun _ k => XS.iand X.1.here X.hx rfl (hb X.hby hd) rfl k) q
theorem k_ior (X : WP p l e R s m args below meth c Z own mname bytes maxL ret n0 Inv Sf T h locs cells slots) {x y w : Int32} (hd : decode bytes pc = .ok (.ior, 1)) (hv : x ||| y = w) (hp : pc + 1 = pc') (q : Run p.tables e below P T (mkF m pc' Ls (.int w :: st))) : Run p.tables e below P T (mkF m pc Ls (.int y :: .int x :: st)) := by
  subst hp; subst hv; exact Run.of (fun _ k => XS.ior X.1.here X.hx rfl (hb X.hby hd) rfl k) q
theorem k_ixor (X : WP p l e R s m args below meth c Z own mname bytes maxL ret n0 Inv Sf T h locs cells slots) {x y w : Int32} (hd : decode bytes pc = .ok (.ixor, 1)) (hv : x ^^^ y = w) (hp : pc + 1 = pc') (q : Run p.tables e below P T (mkF m pc' Ls (.int w :: st))) : Run p.tables e below P T (mkF m pc Ls (.int y :: .int x :: st)) := by
  subst hp; subst hv; exact Run.of (fun _ k => XS.ixor X.1.here X.hx rfl (hb X.hby hd) rfl k) q
theorem k_ishl (X : WP p l e R s m args below meth c Z own mname bytes maxL ret n0 Inv Sf T h locs cells slots) {x y w : Int32} (hd : decode bytes pc = .ok (.ishl, 1)) (hv : (x <<< (y &&& 31)) = w) (hp : pc + 1 = pc') (q : Run p.tables e below P T (mkF m pc' Ls (.int w :: st))) : Run p.tables e below P T (mkF m pc Ls (.int y :: .int x :: st)) := by
  subst hp; subst hv; exact Run.of (fun _ k => XS.ishl X.1.here X.hx rfl (hb X.hby hd) rfl k) q
theorem k_ishr (X : WP p l e R s m args below meth c Z own mname bytes maxL ret n0 Inv Sf T h locs cells slots) {x y w : Int32} (hd : decode bytes pc = .ok (.ishr, 1)) (hv : (x >>> (y &&& 31)) = w) (hp : pc + 1 = pc') (q : Run p.tables e below P T (mkF m pc' Ls (.int w :: st))) : Run p.tables e below P T (mkF m pc Ls (.int y :: .int x :: st)) := by
  subst hp; subst hv; exact Run.of (fun _ k => XS.ishr X.1.here X.hx rfl (hb X.hby hd) rfl k) q
theorem k_iushr (X : WP p l e R s m args below meth c Z own mname bytes maxL ret n0 Inv Sf T h locs cells slots) {x y w : Int32} (hd : decode bytes pc = .ok (.iushr, 1)) (hv : ((x.toUInt32 >>> (y &&& 31).toUInt32).toInt32) = w) (hp : pc + 1 = pc') (q : Run p.tables e below P T (mkF m pc' Ls (.int w :: st))) : Run p.tables e below P T (mkF m pc Ls (.int y :: .int x :: st)) := by
  subst hp; subst hv; exact Run.of (fun _ k => XS.iushr X.1.here X.hx rfl (hb X.hby hd) rfl k) q
theorem k_irem (X : WP p l e R s m args below meth c Z own mname bytes maxL ret n0 Inv Sf T h locs cells slots) {x y w : Int32} (hd : decode bytes pc = .ok (.irem, 1)) (hy : y ≠ 0) (hv : x - (x / y) * y = w) (hp : pc + 1 = pc') (q : Run p.tables e below P T (mkF m pc' Ls (.int w :: st))) : Run p.tables e below P T (mkF m pc Ls (.int y :: .int x :: st)) := by
  subst hp; subst hv; exact Run.of (fun _ k => XS.irem X.1.here X.hx rfl (hb X.hby hd) rfl hy k) q
theorem k_idiv (X : WP p l e R s m args below meth c Z own mname bytes maxL ret n0 Inv Sf T h locs cells slots) {x y w : Int32} (hd : decode bytes pc = .ok (.idiv, 1)) (hy : y ≠ 0) (hv : x / y = w) (hp : pc + 1 = pc') (q : Run p.tables e below P T (mkF m pc' Ls (.int w :: st))) : Run p.tables e below P T (mkF m pc Ls (.int y :: .int x :: st)) := by
  subst hp; subst hv; exact Run.of (fun _ k => XS.idiv X.1.here X.hx rfl (hb X.hby hd) rfl hy k) q
theorem k_ineg (X : WP p l e R s m args below meth c Z own mname bytes maxL ret n0 Inv Sf T h locs cells slots) {x w : Int32} (hd : decode bytes pc = .ok (.ineg, 1)) (hv : -x = w) (hp : pc + 1 = pc') (q : Run p.tables e below P T (mkF m pc' Ls (.int w :: st))) : Run p.tables e below P T (mkF m pc Ls (.int x :: st)) := by
  subst hp; subst hv; exact Run.of (fun _ k => XS.ineg X.1.here X.hx rfl (hb X.hby hd) rfl k) q
theorem k_i2c (X : WP p l e R s m args below meth c Z own mname bytes maxL ret n0 Inv Sf T h locs cells slots) {x w : Int32} (hd : decode bytes pc = .ok (.i2c, 1)) (hv : x.toUInt32.toUInt16.toUInt32.toInt32 = w) (hp : pc + 1 = pc') (q : Run p.tables e below P T (mkF m pc' Ls (.int w :: st))) : Run p.tables e below P T (mkF m pc Ls (.int x :: st)) := by
  subst hp; subst hv; exact Run.of (fun _ k => XS.i2c X.1.here X.hx rfl (hb X.hby hd) rfl k) q
theorem k_i2b (X : WP p l e R s m args below meth c Z own mname bytes maxL ret n0 Inv Sf T h locs cells slots) {x w : Int32} (hd : decode bytes pc = .ok (.i2b, 1)) (hv : x.toInt8.toInt32 = w) (hp : pc + 1 = pc') (q : Run p.tables e below P T (mkF m pc' Ls (.int w :: st))) : Run p.tables e below P T (mkF m pc Ls (.int x :: st)) := by
  subst hp; subst hv; exact Run.of (fun _ k => XS.i2b X.1.here X.hx rfl (hb X.hby hd) rfl k) q
theorem k_iinc (X : WP p l e R s m args below meth c Z own mname bytes maxL ret n0 Inv Sf T h locs cells slots) {k : Nat} {cst : Int} {x w : Int32} (hd : decode bytes pc = .ok (.iinc k cst, 3)) (hl : Ls[k]? = some (.val (.int x))) (hv : x + Int32.ofInt cst = w) (hl' : storeLocals Ls k (.int w) = some Ls') (hp : pc + 3 = pc') (q : Run p.tables e below P T (mkF m pc' Ls' (st))) : Run p.tables e below P T (mkF m pc Ls (st)) := by
  subst hp; subst hv; exact Run.of (fun _ k => XS.iinc X.1.here X.hx rfl (hb X.hby hd) hl hl' k) q
theorem k_dup (X : WP p l e R s m args below meth c Z own mname bytes maxL ret n0 Inv Sf T h locs cells slots) {v : Value} (hd : decode bytes pc = .ok (.dup, 1)) (hc : v.category = 1) (hp : pc + 1 = pc') (q : Run p.tables e below P T (mkF m pc' Ls (v :: v :: st))) : Run p.tables e below P T (mkF m pc Ls (v :: st)) := by
  subst hp; exact Run.of (fun _ k => XS.dup X.1.here X.hx rfl (hb X.hby hd) rfl hc k) q
theorem k_pop (X : WP p l e R s m args below meth c Z own mname bytes maxL ret n0 Inv Sf T h locs cells slots) {v : Value} (hd : decode bytes pc = .ok (.pop, 1)) (hc : v.category = 1) (hp : pc + 1 = pc') (q : Run p.tables e below P T (mkF m pc' Ls (st))) : Run p.tables e below P T (mkF m pc Ls (v :: st)) := by
  subst hp; exact Run.of (fun _ k => XS.pop X.1.here X.hx rfl (hb X.hby hd) rfl hc k) q
theorem k_goto (X : WP p l e R s m args below meth c Z own mname bytes maxL ret n0 Inv Sf T h locs cells slots) {o : Int} (hd : decode bytes pc = .ok (.goto o, 3))  (ho : 0 ≤ (pc : Int) + o) (hp : ((pc : Int) + o).toNat = pc') (q : Run p.tables e below P T (mkF m pc' Ls (st))) : Run p.tables e below P T (mkF m pc Ls (st)) := by
  exact Run.of (fun _ k => XS.goto X.1.here X.hx rfl (pc0 := pc) (pc' := pc') rfl (hb X.hby hd)  ho hp k) q
theorem k_ifYes (X : WP p l e R s m args below meth c Z own mname bytes maxL ret n0 Inv Sf T h locs cells slots) {cd : ClassFile.Cond} {o : Int} {x : Int32} (hd : decode bytes pc = .ok (.ifCond cd o, 3)) (hc : ifCond.holds cd x = true) (ho : 0 ≤ (pc : Int) + o) (hp : ((pc : Int) + o).toNat = pc') (q : Run p.tables e below P T (mkF m pc' Ls (st))) : Run p.tables e below P T (mkF m pc Ls (.int x :: st)) := by
  exact Run.of (fun _ k => XS.ifYes X.1.here X.hx rfl (pc0 := pc) (pc' := pc') rfl (hb X.hby hd) rfl hc ho hp k) q
theorem k_ifNo (X : WP p l e R s m args below meth c Z own mname bytes maxL ret n0 Inv Sf T h locs cells slots) {cd : ClassFile.Cond} {o : Int} {x : Int32} (hd : decode bytes pc = .ok (.ifCond cd o, 3)) (hc : ifCond.holds cd x = false) (hp : pc + 3 = pc') (q : Run p.tables e below P T (mkF m pc' Ls (st))) : Run p.tables e below P T (mkF m pc Ls (.int x :: st)) := by
  subst hp; exact Run.of (fun _ k => XS.ifNo X.1.here X.hx rfl (hb X.hby hd) rfl hc k) q
theorem k_icmpYes (X : WP p l e R s m args below meth c Z own mname bytes maxL ret n0 Inv Sf T h locs cells slots) {cd : ClassFile.Cond} {o : Int} {x y : Int32} (hd : decode bytes pc = .ok (.if_icmp cd o, 3)) (hc : if_icmp.holds cd x y = true) (ho : 0 ≤ (pc : Int) + o) (hp : ((pc : Int) + o).toNat = pc') (q : Run p.tables e below P T (mkF m pc' Ls (st))) : Run p.tables e below P T (mkF m pc Ls (.int y :: .int x :: st)) := by
  exact Run.of (fun _ k => XS.icmpYes X.1.here X.hx rfl (pc0 := pc) (pc' := pc') rfl (hb X.hby hd) rfl hc ho hp k) q
theorem k_icmpNo (X : WP p l e R s m args below meth c Z own mname bytes maxL ret n0 Inv Sf T h locs cells slots) {cd : ClassFile.Cond} {o : Int} {x y : Int32} (hd : decode bytes pc = .ok (.if_icmp cd o, 3)) (hc : if_icmp.holds cd x y = false) (hp : pc + 3 = pc') (q : Run p.tables e below P T (mkF m pc' Ls (st))) : Run p.tables e below P T (mkF m pc Ls (.int y :: .int x :: st)) := by
  subst hp; exact Run.of (fun _ k => XS.icmpNo X.1.here X.hx rfl (hb X.hby hd) rfl hc k) q
theorem k_ifnullYes (X : WP p l e R s m args below meth c Z own mname bytes maxL ret n0 Inv Sf T h locs cells slots) {o : Int} (hd : decode bytes pc = .ok (.ifnull o, 3))  (ho : 0 ≤ (pc : Int) + o) (hp : ((pc : Int) + o).toNat = pc') (q : Run p.tables e below P T (mkF m pc' Ls (st))) : Run p.tables e below P T (mkF m pc Ls (.null :: st)) := by
  exact Run.of (fun _ k => XS.ifnullYes X.1.here X.hx rfl (pc0 := pc) (pc' := pc') rfl (hb X.hby hd) rfl ho hp k) q
theorem k_ifnullNo (X : WP p l e R s m args below meth c Z own mname bytes maxL ret n0 Inv Sf T h locs cells slots) {o : Int} {a : Addr} (hd : decode bytes pc = .ok (.ifnull o, 3))  (hp : pc + 3 = pc') (q : Run p.tables e below P T (mkF m pc' Ls (st))) : Run p.tables e below P T (mkF m pc Ls (.ref a :: st)) := by
  subst hp; exact Run.of (fun _ k => XS.ifnullNo X.1.here X.hx rfl (hb X.hby hd) rfl k) q
theorem k_ifnonnullYes (X : WP p l e R s m args below meth c Z own mname bytes maxL ret n0 Inv Sf T h locs cells slots) {o : Int} {a : Addr} (hd : decode bytes pc = .ok (.ifnonnull o, 3))  (ho : 0 ≤ (pc : Int) + o) (hp : ((pc : Int) + o).toNat = pc') (q : Run p.tables e below P T (mkF m pc' Ls (st))) : Run p.tables e below P T (mkF m pc Ls (.ref a :: st)) := by
  exact Run.of (fun _ k => XS.ifnonnullYes X.1.here X.hx rfl (pc0 := pc) (pc' := pc') rfl (hb X.hby hd) rfl ho hp k) q
theorem k_ifnonnullNo (X : WP p l e R s m args below meth c Z own mname bytes maxL ret n0 Inv Sf T h locs cells slots) {o : Int} (hd : decode bytes pc = .ok (.ifnonnull o, 3))  (hp : pc + 3 = pc') (q : Run p.tables e below P T (mkF m pc' Ls (st))) : Run p.tables e below P T (mkF m pc Ls (.null :: st)) := by
  subst hp; exact Run.of (fun _ k => XS.ifnonnullNo X.1.here X.hx rfl (hb X.hby hd) rfl k) q
theorem k_acmp (X : WP p l e R s m args below meth c Z own mname bytes maxL ret n0 Inv Sf T h locs cells slots) {cd : ACond} {x y : Value} {o : Int} (same : Bool) (hd : decode bytes pc = .ok (.if_acmp cd o, 3)) (h1 : x.isRef = true) (h2 : y.isRef = true) (hq : decide (x = y) = same) (ho : 0 ≤ (pc : Int) + o) (hp : pc' = if acV cd same = true then ((pc : Int) + o).toNat else pc + 3) (q : Run p.tables e below P T (mkF m pc' Ls st)) : Run p.tables e below P T (mkF m pc Ls (y :: x :: st)) :=
  Run.of (fun _ k => Jvm.RoadKit.acmp (g := mkF m pc Ls (y :: x :: st)) X.1 X.hx rfl h1 h2 (pc0 := pc) (pc' := pc') (same := same) rfl (hb X.hby hd) rfl hq ho hp k) q
theorem k_getF (X : WP p l e R s m args below meth c Z own mname bytes maxL ret n0 Inv Sf T h locs cells slots) {R0 O n d host : String} {index : Nat} {a : Addr} {v : Value} (hd : decode bytes pc = .ok (.getfield index, 3)) (w : (Cond.fieldLink own index R0 n d).before a0 Z = true ∨ (Cond.fieldLinkNest own index R0 n d host).before a0 Z = true) (via : Via Z R0 O n d) (F : Fld Z h a O n d v) (hp : pc + 3 = pc')
    (q : ∀ T', WP p l e R s m args below meth c Z own mname bytes maxL ret n0 Inv Sf T' h locs cells slots → Run p.tables e below P T' (mkF m pc' Ls (v :: st))) : Run p.tables e below P T (mkF m pc Ls (.ref a :: st)) := by
  subst hp
  obtain ⟨T', X', e', k⟩ := Jvm.RoadKit.getF X.1 X.hx X.hZ X.hown w via X.eT F (g := mkF m pc Ls (.ref a :: st)) rfl rfl (hb X.hby hd)
  exact Run.of k (q T' (X.same X' e'))
theorem k_getS (X : WP p l e R s m args below meth c Z own mname bytes maxL ret n0 Inv Sf T h locs cells slots) {R0 O n d host : String} {index : Nat} {v : Value} (hd : decode bytes pc = .ok (.getstatic index, 3)) (w : (Cond.fieldLink own index R0 n d).before a0 Z = true ∨ (Cond.fieldLinkNest own index R0 n d host).before a0 Z = true) (via : Via Z R0 O n d) (F : Sta Z h O n d v) (hp : pc + 3 = pc')
    (q : ∀ T', WP p l e R s m args below meth c Z own mname bytes maxL ret n0 Inv Sf T' h locs cells slots → Run p.tables e below P T' (mkF m pc' Ls (v :: st))) : Run p.tables e below P T (mkF m pc Ls st) := by
  subst hp
  obtain ⟨T', X', e', k⟩ := Jvm.RoadKit.getS2 X.1 X.hx X.hZ X.hown w via X.eT F (g := mkF m pc Ls st) rfl (hb X.hby hd)
  exact Run.of k (q T' (X.same X' e'))
theorem k_putF (X : WP p l e R s m args below meth c Z own mname bytes maxL ret n0 Inv Sf T h locs cells slots) {R0 O n d host C : String} {index kk : Nat} {ty : FieldType} {a : Addr} {v old : Value} (hd : decode bytes pc = .ok (.putfield index, 3)) (w : (Cond.fieldLink own index R0 n d).before a0 Z = true ∨ (Cond.fieldLinkNest own index R0 n d host).before a0 Z = true) (via : Via Z R0 O n d) (F : Fld Z h a O n d old) (E : Exa Z h a C)
    (L : (Cond.lays C O n d).before a0 Z = true ∨ ((Cond.laysFinal C O n d).before a0 Z = true ∧ own = O ∧ meth.name = "<init>")) (wi : (Cond.instantiable C kk).before a0 Z = true) (hty : parseFieldDescriptor d = some ty) (hn : narrow ty v = v) (hf : fits ty v = true) (hsf : Sf h a) (hge : n0 ≤ a) (hp : pc + 3 = pc')
    (q : ∀ T' h' L', WP p l e R s m args below meth c Z own mname bytes maxL ret n0 Inv Sf T' h' L' cells slots → Wr h h' a (Jvm.RoadKit.slotOf Z O n d) v → Keep h h' [a] → Run p.tables e below P T' (mkF m pc' Ls st)) : Run p.tables e below P T (mkF m pc Ls (v :: .ref a :: st)) := by
  subst hp
  obtain ⟨T', h', X', e', W, k⟩ := Jvm.RoadKit.putF X.1 X.hx X.hZ X.hown w via X.eT F E L wi hty hn hf (g := mkF m pc Ls (v :: .ref a :: st)) rfl rfl (hb X.hby hd)
  have K := Keep.of_wr W
  exact Run.of k (q T' h' _ (X.mv X' e' K (allS ⟨hsf, hge⟩ all0) (X.fr.app (fr1 hge))) W K)
theorem k_newO (X : WP p l e R s m args below meth c Z own mname bytes maxL ret n0 Inv Sf T h locs cells slots) {C : String} {index n : Nat} (hd : decode bytes pc = .ok (.new index, 3)) (w : (Cond.classLink own index C).before a0 Z = true) (wi : (Cond.instantiable C n).before a0 Z = true) (wz : (Cond.initialized C).before a0 Z = true) (hc : cells + 1 ≤ R.cells) (hl : slots + n ≤ R.slots) (hp : pc + 3 = pc')
    (q : ∀ T' h' (b : Nat), b = h.size → WP p l e R s m args below meth c Z own mname bytes maxL ret n0 Inv Sf T' h' locs (cells + 1) (slots + n) → Keep h h' [] → Exa Z h' b C → (∀ {O nm d : String} {ty : FieldType}, Laid Z a0 C O nm d → parseFieldDescriptor d = some ty → Fld Z h' b O nm d (defaultValue ty)) → Sf h' b → b < h'.size → n0 ≤ b → Run p.tables e below P T' (mkF m pc' Ls (.ref b :: st))) : Run p.tables e below P T (mkF m pc Ls st) := by
  subst hp
  obtain ⟨T', h', X', e', E, A, D, -, k⟩ := Jvm.RoadKit.newO X.1 X.hx X.hZ X.hown w wi wz X.eT (g := mkF m pc Ls st) rfl (hb X.hby hd) hc hl
  have K := ext_keep E
  exact Run.of k (q T' h' h.size rfl (X.mv X' e' K (fun _ q => nomatch q) X.fr) K A (fun L t => D L t) (X.sf K (fun _ q => nomatch q) (X.sfN (Nat.le_refl _))) (own_n A.lt) X.n0le)
theorem k_newP (X : WP p l e R s m args below meth c Z own mname bytes maxL ret n0 Inv Sf T h locs cells slots) {aty : ArrayType} {n : Int32} {cap : Nat} (hd : decode bytes pc = .ok (.newarray aty, 2)) (w : (Cond.arrayClass (newarray.typeOf aty)).before a0 Z = true) (hn : ¬ n < 0) (hcap : n.toNatClampNeg ≤ cap) (hb' : cap * 8 ≤ 536870912) (hc : cells + 1 ≤ R.cells) (hl : slots + cap ≤ R.slots) (hp : pc + 2 = pc')
    (q : ∀ T' h' (b : Nat) k, b = h.size → WP p l e R s m args below meth c Z own mname bytes maxL ret n0 Inv Sf T' h' locs (cells + 1) (slots + cap) → Keep h h' [] → Arv Z h' b k (newarray.typeOf aty) n [] (defaultValue (newarray.typeOf aty)) → Sf h' b → b < h'.size → n0 ≤ b → Run p.tables e below P T' (mkF m pc' Ls (.ref b :: st))) : Run p.tables e below P T (mkF m pc Ls (.int n :: st)) := by
  subst hp
  obtain ⟨T', h', cA, X', e', E, A, k⟩ := Jvm.RoadKit.newP X.1 X.hx X.hZ w X.eT (g := mkF m pc Ls (.int n :: st)) rfl (hb X.hby hd) rfl hn hcap hb' hc hl
  have K := ext_keep E
  exact Run.of k (q T' h' h.size cA rfl (X.mv X' e' K (fun _ q => nomatch q) X.fr) K (Arv.new A hn) (X.sf K (fun _ q => nomatch q) (X.sfN (Nat.le_refl _))) (own_n A.lt) X.n0le)
theorem k_arlen (X : WP p l e R s m args below meth c Z own mname bytes maxL ret n0 Inv Sf T h locs cells slots) {a : Addr} {k : ClassId} {ty : FieldType} {z : Int32} {vs : List Value} {d : Value} (hd : decode bytes pc = .ok (.arraylength, 1)) (A : Arv Z h a k ty z vs d) (hp : pc + 1 = pc') (q : Run p.tables e below P T (mkF m pc' Ls (.int z :: st))) : Run p.tables e below P T (mkF m pc Ls (.ref a :: st)) := by
  subst hp
  obtain ⟨cl, A, -, S, N, -, -⟩ := A
  refine Run.of (X.1.arraylength X.hx (by rw [X.eT]; exact A.1) (State.isArrayOf_alike X.hZ.alike A.2.1) (g := mkF m pc Ls (.ref a :: st)) rfl rfl (hb X.hby hd)) ?_
  rw [len_of S N]; exact q
theorem k_initO (X : WP p l e R s m args below meth c Z own mname bytes maxL ret n0 Inv Sf T h locs cells slots) {idx W : Nat} {a : Addr} (hd : decode bytes pc = .ok (.invokespecial idx, 3)) (w1 : (Cond.methodLink own idx Lib.objectInit).before a0 Z = true) (w2 : (Cond.instanceMethod Lib.objectInit).before a0 Z = true) (w3 : (Cond.code Lib.objectInit ⟨#[0xb1]⟩ 1 none).before a0 Z = true)
    (hsz : Ls.size = maxL) (hf : 1 ≤ R.frames) (hW : (st.map fun v => v.category).sum ≤ W) (hl : W + 12 ≤ R.locals) (hp : pc + 3 = pc')
    (q : ∀ T', WP p l e R s m args below meth c Z own mname bytes maxL ret n0 Inv Sf T' h locs cells slots → Run p.tables e below P T' (mkF m pc' Ls st)) : Run p.tables e below P T (mkF m pc Ls (.ref a :: st)) := by
  subst hp
  obtain ⟨T', X', e', k⟩ := Jvm.RoadKit.initO X.1 X.hx X.hZ X.hown w1 w2 w3 X.eT (g := mkF m pc Ls (.ref a :: st)) rfl (by rw [X.hml]; exact hsz) rfl (hb X.hby hd) hf (W := W) (by show 2 * 0 + _ ≤ _; omega) hl
  exact Run.of k (q T' (X.same X' e'))
theorem k_castY (X : WP p l e R s m args below meth c Z own mname bytes maxL ret n0 Inv Sf T h locs cells slots) {K : String} {index : Nat} {a : Addr} (hd : decode bytes pc = .ok (.checkcast index, 3)) (w : (Cond.classLink own index K).before a0 Z = true) (F : Ins Z h a K true) (hp : pc + 3 = pc')
    (q : ∀ T', WP p l e R s m args below meth c Z own mname bytes maxL ret n0 Inv Sf T' h locs cells slots → Run p.tables e below P T' (mkF m pc' Ls (.ref a :: st))) : Run p.tables e below P T (mkF m pc Ls (.ref a :: st)) := by
  subst hp
  obtain ⟨T', X', e', k⟩ := Jvm.RoadKit.castY X.1 X.hx X.hZ X.hown w X.eT F (g := mkF m pc Ls (.ref a :: st)) rfl rfl (hb X.hby hd)
  exact Run.of k (q T' (X.same X' e'))
theorem k_instY (X : WP p l e R s m args below meth c Z own mname bytes maxL ret n0 Inv Sf T h locs cells slots) {K : String} {index : Nat} {a : Addr} (hd : decode bytes pc = .ok (.instanceof index, 3)) (w : (Cond.classLink own index K).before a0 Z = true) (F : Ins Z h a K true) (hp : pc + 3 = pc')
    (q : ∀ T', WP p l e R s m args below meth c Z own mname bytes maxL ret n0 Inv Sf T' h locs cells slots → Run p.tables e below P T' (mkF m pc' Ls (.int 1 :: st))) : Run p.tables e below P T (mkF m pc Ls (.ref a :: st)) := by
  subst hp
  obtain ⟨T', X', e', k⟩ := Jvm.RoadKit.instY X.1 X.hx X.hZ X.hown w X.eT F (g := mkF m pc Ls (.ref a :: st)) rfl rfl (hb X.hby hd)
  exact Run.of k (q T' (X.same X' e'))
theorem k_castore (X : WP p l e R s m args below meth c Z own mname bytes maxL ret n0 Inv Sf T h locs cells slots) {a : Addr} {k : ClassId} {z j x w : Int32} {vs : List Value} {d : Value} (i : Nat) (hd : decode bytes pc = .ok (.castore, 1)) (A : Arv Z h a k .char z vs d) (hj0 : ¬ j < 0) (hjz : j < z) (hj : j.toNatClampNeg = i) (hi : i < vs.length) (hw : nar .char x = w) {vs' : List Value} (hvs : vs.set i (.int w) = vs') (hsf : Sf h a) (hge : n0 ≤ a) (hp : pc + 1 = pc')
    (q : ∀ T' h' L', WP p l e R s m args below meth c Z own mname bytes maxL ret n0 Inv Sf T' h' L' cells slots → Keep h h' [a] → Arv Z h' a k .char z vs' d → Run p.tables e below P T' (mkF m pc' Ls st)) : Run p.tables e below P T (mkF m pc Ls (.int x :: .int j :: .ref a :: st)) := by
  subst hp hw hvs
  obtain ⟨cl, A, q1, S, N, H, G⟩ := A
  obtain ⟨T', h', X', e', W, kk⟩ := Jvm.RoadKit.stC X.1 X.hx X.hZ X.eT A (j := j) (inb_of S ⟨hj0, hjz⟩) (g := mkF m pc Ls (.int x :: .int j :: .ref a :: st)) rfl rfl (hb X.hby hd)
  have K := Keep.of_wr W
  exact Run.of kk (q T' h' _ (X.mv X' e' K (allS ⟨hsf, hge⟩ all0) (X.fr.app (fr1 hge))) K (Arv.set A q1 S N H G (fits_nar_char _) W i hj hi))
theorem k_bastore (X : WP p l e R s m args below meth c Z own mname bytes maxL ret n0 Inv Sf T h locs cells slots) {a : Addr} {k : ClassId} {z j x w : Int32} {vs : List Value} {d : Value} (i : Nat) (hd : decode bytes pc = .ok (.bastore, 1)) (A : Arv Z h a k .byte z vs d) (hj0 : ¬ j < 0) (hjz : j < z) (hj : j.toNatClampNeg = i) (hi : i < vs.length) (hw : nar .byte x = w) {vs' : List Value} (hvs : vs.set i (.int w) = vs') (hsf : Sf h a) (hge : n0 ≤ a) (hp : pc + 1 = pc')
    (q : ∀ T' h' L', WP p l e R s m args below meth c Z own mname bytes maxL ret n0 Inv Sf T' h' L' cells slots → Keep h h' [a] → Arv Z h' a k .byte z vs' d → Run p.tables e below P T' (mkF m pc' Ls st)) : Run p.tables e below P T (mkF m pc Ls (.int x :: .int j :: .ref a :: st)) := by
  subst hp hw hvs
  obtain ⟨cl, A, q1, S, N, H, G⟩ := A
  obtain ⟨T', h', X', e', W, kk⟩ := Jvm.RoadKit.stB X.1 X.hx X.hZ X.eT A (j := j) (inb_of S ⟨hj0, hjz⟩) (g := mkF m pc Ls (.int x :: .int j :: .ref a :: st)) rfl rfl (hb X.hby hd)
  have K := Keep.of_wr W
  exact Run.of kk (q T' h' _ (X.mv X' e' K (allS ⟨hsf, hge⟩ all0) (X.fr.app (fr1 hge))) K (Arv.set A q1 S N H G (fits_nar_byte _) W i hj hi))
theorem k_iastore (X : WP p l e R s m args below meth c Z own mname bytes maxL ret n0 Inv Sf T h locs cells slots) {a : Addr} {k : ClassId} {z j x w : Int32} {vs : List Value} {d : Value} (i : Nat) (hd : decode bytes pc = .ok (.iastore, 1)) (A : Arv Z h a k .int z vs d) (hj0 : ¬ j < 0) (hjz : j < z) (hj : j.toNatClampNeg = i) (hi : i < vs.length) (hw : x = w) {vs' : List Value} (hvs : vs.set i (.int w) = vs') (hsf : Sf h a) (hge : n0 ≤ a) (hp : pc + 1 = pc')
    (q : ∀ T' h' L', WP p l e R s m args below meth c Z own mname bytes maxL ret n0 Inv Sf T' h' L' cells slots → Keep h h' [a] → Arv Z h' a k .int z vs' d → Run p.tables e below P T' (mkF m pc' Ls st)) : Run p.tables e below P T (mkF m pc Ls (.int x :: .int j :: .ref a :: st)) := by
  subst hp hw hvs
  obtain ⟨cl, A, q1, S, N, H, G⟩ := A
  obtain ⟨T', h', X', e', W, kk⟩ := Jvm.RoadKit.stI X.1 X.hx X.hZ X.eT A (j := j) (inb_of S ⟨hj0, hjz⟩) (g := mkF m pc Ls (.int x :: .int j :: .ref a :: st)) rfl rfl (hb X.hby hd)
  have K := Keep.of_wr W
  exact Run.of kk (q T' h' _ (X.mv X' e' K (allS ⟨hsf, hge⟩ all0) (X.fr.app (fr1 hge))) K (Arv.set A q1 S N H G rfl W i hj hi))
theorem k_caload (X : WP p l e R s m args below meth c Z own mname bytes maxL ret n0 Inv Sf T h locs cells slots) {a : Addr} {k : ClassId} {z j : Int32} {vs : List Value} {d v : Value} (hd : decode bytes pc = .ok (.caload, 1)) (A : Arv Z h a k .char z vs d) (hj0 : ¬ j < 0) (hjz : j < z) (hv : vs.getD j.toNatClampNeg d = v) (hp : pc + 1 = pc') (q : Run p.tables e below P T (mkF m pc' Ls (v :: st))) : Run p.tables e below P T (mkF m pc Ls (.int j :: .ref a :: st)) := by
  subst hp
  obtain ⟨cl, A, q1, S, N, H, G⟩ := A
  exact Run.of (X.1.caload X.hx (j := j) (v := v) (by rw [X.eT]; exact A.1) (State.isArrayOf_alike X.hZ.alike A.2.1) A.2.2 (inb_of S ⟨hj0, hjz⟩) (H.at (inb_of S ⟨hj0, hjz⟩) hv) (g := mkF m pc Ls (.int j :: .ref a :: st)) rfl rfl (hb X.hby hd)) q
theorem k_baload (X : WP p l e R s m args below meth c Z own mname bytes maxL ret n0 Inv Sf T h locs cells slots) {a : Addr} {k : ClassId} {z j : Int32} {vs : List Value} {d v : Value} (hd : decode bytes pc = .ok (.baload, 1)) (A : Arv Z h a k .byte z vs d) (hj0 : ¬ j < 0) (hjz : j < z) (hv : vs.getD j.toNatClampNeg d = v) (hp : pc + 1 = pc') (q : Run p.tables e below P T (mkF m pc' Ls (v :: st))) : Run p.tables e below P T (mkF m pc Ls (.int j :: .ref a :: st)) := by
  subst hp
  obtain ⟨cl, A, q1, S, N, H, G⟩ := A
  exact Run.of (X.1.baloadBytes X.hx (j := j) (v := v) (by rw [X.eT]; exact A.1) (State.isArrayOf_alike X.hZ.alike A.2.1) A.2.2 (inb_of S ⟨hj0, hjz⟩) (H.at (inb_of S ⟨hj0, hjz⟩) hv) (g := mkF m pc Ls (.int j :: .ref a :: st)) rfl rfl (hb X.hby hd)) q
theorem k_iaload (X : WP p l e R s m args below meth c Z own mname bytes maxL ret n0 Inv Sf T h locs cells slots) {a : Addr} {k : ClassId} {z j : Int32} {vs : List Value} {d v : Value} (hd : decode bytes pc = .ok (.iaload, 1)) (A : Arv Z h a k .int z vs d) (hj0 : ¬ j < 0) (hjz : j < z) (hv : vs.getD j.toNatClampNeg d = v) (hp : pc + 1 = pc') (q : Run p.tables e below P T (mkF m pc' Ls (v :: st))) : Run p.tables e below P T (mkF m pc Ls (.int j :: .ref a :: st)) := by
  subst hp
  obtain ⟨cl, A, q1, S, N, H, G⟩ := A
  exact Run.of (X.1.iaload X.hx (j := j) (v := v) (by rw [X.eT]; exact A.1) (State.isArrayOf_alike X.hZ.alike A.2.1) A.2.2 (inb_of S ⟨hj0, hjz⟩) (H.at (inb_of S ⟨hj0, hjz⟩) hv) (g := mkF m pc Ls (.int j :: .ref a :: st)) rfl rfl (hb X.hby hd)) q
theorem k_aaload (X : WP p l e R s m args below meth c Z own mname bytes maxL ret n0 Inv Sf T h locs cells slots) {a : Addr} {k : ClassId} {z j : Int32} {vs : List Value} {d v : Value} {ty : FieldType} (hd : decode bytes pc = .ok (.aaload, 1)) (A : Arv Z h a k ty z vs d) (hr : ty.isReference = true) (hj0 : ¬ j < 0) (hjz : j < z) (hv : vs.getD j.toNatClampNeg d = v) (hp : pc + 1 = pc') (q : Run p.tables e below P T (mkF m pc' Ls (v :: st))) : Run p.tables e below P T (mkF m pc Ls (.int j :: .ref a :: st)) := by
  subst hp
  obtain ⟨cl, A, q1, S, N, H, G⟩ := A
  exact Run.of (X.1.aaload X.hx (j := j) (v := v) (by rw [X.eT]; exact A.1) (State.isArrayOf_alike X.hZ.alike A.2.1) hr A.2.2 (inb_of S ⟨hj0, hjz⟩) (H.at (inb_of S ⟨hj0, hjz⟩) hv) (g := mkF m pc Ls (.int j :: .ref a :: st)) rfl rfl (hb X.hby hd)) q
theorem k_castNull (X : WP p l e R s m args below meth c Z own mname bytes maxL ret n0 Inv Sf T h locs cells slots) {index : Nat} (hd : decode bytes pc = .ok (.checkcast index, 3)) (hp : pc + 3 = pc') (q : Run p.tables e below P T (mkF m pc' Ls (.null :: st))) : Run p.tables e below P T (mkF m pc Ls (.null :: st)) := by
  subst hp; exact Run.of (X.1.checkcastNull X.hx (g := mkF m pc Ls (.null :: st)) rfl rfl (hb X.hby hd)) q
theorem k_instNull (X : WP p l e R s m args below meth c Z own mname bytes maxL ret n0 Inv Sf T h locs cells slots) {index : Nat} (hd : decode bytes pc = .ok (.instanceof index, 3)) (hp : pc + 3 = pc') (q : Run p.tables e below P T (mkF m pc' Ls (.int 0 :: st))) : Run p.tables e below P T (mkF m pc Ls (.null :: st)) := by
  subst hp; exact Run.of (X.1.instanceofNull X.hx (g := mkF m pc Ls (.null :: st)) rfl rfl (hb X.hby hd)) q
theorem k_clone (X : WP p l e R s m args below meth c Z own mname bytes maxL ret n0 Inv Sf T h locs cells slots) {ad : String} {index W cap : Nat} {a : Addr} {k : ClassId} {ty : FieldType} {z : Int32} {vs : List Value} {d : Value} (hd : decode bytes pc = .ok (.invokevirtual index, 3)) (w1 : (Cond.methodLink own index ⟨ad, "clone", "()Ljava/lang/Object;"⟩).before a0 Z = true) (w2 : (Cond.sameMethod ad "java/lang/Object" "clone" "()Ljava/lang/Object;").before a0 Z = true) (w3 : (Cond.native ⟨"java/lang/Object", "clone", "()Ljava/lang/Object;"⟩).before a0 Z = true)
    (w4 : (Cond.instanceMethod ⟨"java/lang/Object", "clone", "()Ljava/lang/Object;"⟩).before a0 Z = true) (w5 : (Cond.selects ad ⟨ad, "clone", "()Ljava/lang/Object;"⟩ ⟨"java/lang/Object", "clone", "()Ljava/lang/Object;"⟩).before a0 Z = true) (w6 : (Cond.castable ad "java/lang/Cloneable").before a0 Z = true) (F : Arv Z h a k ty z vs d) (E : Exa Z h a ad) (hsz : Ls.size = maxL)
    (hf : 1 ≤ R.frames) (hW : (st.map fun v => v.category).sum ≤ W) (hl : W + 14 ≤ R.locals) (hcap : z.toNatClampNeg ≤ cap) (hc : cells + 1 ≤ R.cells) (hsl : slots + cap ≤ R.slots) (hp : pc + 3 = pc')
    (q : ∀ T' h' (b : Nat), b = h.size → WP p l e R s m args below meth c Z own mname bytes maxL ret n0 Inv Sf T' h' locs (cells + 1) (slots + cap) → Keep h h' [] → Arv Z h' b k ty z vs d → Exa Z h' b ad → Sf h' b → b < h'.size → n0 ≤ b → Run p.tables e below P T' (mkF m pc' Ls (.ref b :: st))) : Run p.tables e below P T (mkF m pc Ls (.ref a :: st)) := by
  subst hp
  obtain ⟨T', h', X', e', E', A', B', kk⟩ := Jvm.RoadKit.cloneH X.1 X.hx X.hZ X.hown w1 w2 w3 w4 w5 w6 X.eT F.arh E (g := mkF m pc Ls (.ref a :: st)) rfl (by rw [X.hml]; exact hsz) rfl (hb X.hby hd) hf (W := W) (by show 2 * 0 + _ ≤ _; omega) hl hcap hc hsl
  have K := ext_keep E'
  exact Run.of kk (q T' h' h.size rfl (X.mv X' e' K (fun _ q => nomatch q) X.fr) K A' B' (X.sf K (fun _ q => nomatch q) (X.sfN (Nat.le_refl _))) (own_n B'.lt) X.n0le)
theorem k_ldcI (X : WP p l e R s m args below meth c Z own mname bytes maxL ret n0 Inv Sf T h locs cells slots) {index : Nat} {v : Int32} (hd : decode bytes pc = .ok (.ldc index, 2)) (w : (Cond.constant own index v).before a0 Z = true) (hp : pc + 2 = pc') (q : Run p.tables e below P T (mkF m pc' Ls (.int v :: st))) : Run p.tables e below P T (mkF m pc Ls st) := by
  subst hp; exact Run.of (X.1.ldcInt X.hx X.hown (mvT X.hZ w) (g := mkF m pc Ls st) rfl (hb X.hby hd)) q
/-- the contract of a body that interns nothing -/
def MetF (l : Launch) (tw : List Jvm.Cond) (Z : State) (n0 : Nat) (y : MethodName) (bytes : ByteArray) (maxL : Nat) (ret : Option FieldType) (rm : Room) (as' : Array Value) (h : Heap) (ws : List Addr) (Q : Option Value → Heap → Prop) : Prop :=
  MetFree l y (head1 (Jvm.Cond.code y bytes maxL ret :: tw) rm) (fun a U => a = as' ∧ Z.Warmed39 U.vm ∧ U.heap = h) (fun _ _ _ _ _ => True) (fun _ U o U' => ∃ v L, o = .returned v ∧ ((Keep h U'.heap ws ∧ Q v U'.heap) ∧ Fr n0 L) ∧ FrameEnd U o U' L rm.cells rm.slots)
/-- its end -/
def PF (s : State) (below : List Frame) (n0 : Nat) (h0 : Heap) (ws : List Addr) (Q : Option Value → Heap → Prop) (k n : Nat) (t : State) : Prop := ∃ o, t.status = .running ∧ Ended t below o ∧ ∃ v L, o = .returned v ∧ ((Keep h0 t.heap ws ∧ Q v t.heap) ∧ Fr n0 L) ∧ FrameEnd s o t L k n
theorem clF (Z : State) : Cl Z (fun _ => True) (fun _ _ => True) := ⟨fun _ _ _ _ _ _ => ⟨trivial, fun _ _ => trivial⟩, fun _ _ _ => trivial, fun _ _ _ _ _ _ => trivial, fun _ _ _ _ _ _ => trivial⟩
theorem MetF.mono {l : Launch} {tw : List Jvm.Cond} {Z : State} {n0 : Nat} {y : MethodName} {bytes : ByteArray} {maxL : Nat} {ret : Option FieldType} {rm : Room} {as' : Array Value} {h : Heap} {ws : List Addr} {Q Q' : Option Value → Heap → Prop} (hM : MetF l tw Z n0 y bytes maxL ret rm as' h ws Q) (hq : ∀ r h', Q r h' → Q' r h') : MetF l tw Z n0 y bytes maxL ret rm as' h ws Q' := by
  intro p e ha hc hk s m args below hf happ hP hK
  obtain ⟨n, o, r1, r2, r3, v, L, e1, ⟨⟨K, q⟩, N⟩, r4⟩ := hM p e ha hc hk s m args below hf happ hP hK
  exact ⟨n, o, r1, r2, r3, v, L, e1, ⟨⟨K, hq _ _ q⟩, N⟩, r4⟩
theorem metF {y : MethodName} {bytes : ByteArray} {maxL : Nat} {ret : Option FieldType} {rm : Room} {as' : Array Value} {ws : List Addr} {Q : Option Value → Heap → Prop} {tw : List Jvm.Cond} (hpl : plainFor y = true) (Z0 : Old Z n0 h) {Ls : Array Slot} (hef : ∀ m, entryFrame m as' maxL = mkF m 0 Ls [])
    (body : ∀ p e s m below meth c T, WP p l e rm s m as' below meth c Z y.cls y.name bytes maxL ret n0 (fun _ => True) (fun _ _ => True) T h [] 0 0 → Run p.tables e below (PF s below n0 h ws Q rm.cells rm.slots) T (mkF m 0 Ls [])) : MetF l tw Z n0 y bytes maxL ret rm as' h ws Q := by
  refine MetFree.of_bodySF hpl hisR ?_
  intro p e s m args below meth c s₁ Bd hml0 hP hK
  obtain ⟨rfl, hZ, hh⟩ := hP
  have e0 : s₁.heap = h := by rw [← hh, Bd.state]; rfl
  obtain ⟨t, hs, o, hr, he, hq⟩ := body p e s m below meth c s₁ ⟨Stand.of_body Bd, e0, hZ, findClass_of_methodNamed Bd.named, Fr.nil n0, Z0, trivial, ⟨Bd.exec, Bd.bytes, hml0, Bd.returns, BodyLoose.notSynchronized Bd, (name_of_methodNamed Bd.named Bd.method).1⟩, clF Z⟩
  rw [← hef] at hs
  exact ⟨t, o, hs, hr, he, hq⟩

theorem k_retFI (X : WP p l e R s m args below meth c Z own mname bytes maxL ret n0 Inv Sf T h locs cells slots) {z : Int32} {ws : List Addr} {Q : Option Value → Heap → Prop} {k n : Nat} {h0 : Heap} (hd : decode bytes pc = .ok (.ireturn, 1)) (hr : ret = some .int) (K : Keep h0 h ws) (hQ : Q (some (.int z)) h) (hk : cells ≤ k) (hs : slots ≤ n) : Run p.tables e below (PF s below n0 h0 ws Q k n) T (mkF m pc Ls (.int z :: st)) := by
  have hlk := X.hlk
  obtain ⟨fs, hl, hrun, hended, hW, hsame⟩ := X.1.leave (v := some (.int z)) (fun q => by rw [X.hret, hr] at q; cases q)
  refine ⟨_, Jvm.RoadKit.retI X.1 X.hx (X.hret.trans hr) (hb X.hby hd) hl, _, hrun, hended, _, _, rfl, ⟨⟨?_, ?_⟩, X.fr⟩, ⟨_, rfl⟩, hW, hsame.mono hk hs⟩
  · show Keep h0 T.heap ws; rw [X.eT]; exact K
  · show Q _ T.heap; rw [X.eT]; exact hQ
theorem k_retFN (X : WP p l e R s m args below meth c Z own mname bytes maxL ret n0 Inv Sf T h locs cells slots) {z w : Int32} {ws : List Addr} {Q : Option Value → Heap → Prop} {k n : Nat} {h0 : Heap} (hd : decode bytes pc = .ok (.ireturn, 1)) {t : FieldType} (hr : ret = some t) (ht : t = .boolean ∨ t = .byte ∨ t = .char ∨ t = .short) (hnz : nar t z = w) (K : Keep h0 h ws) (hQ : Q (some (.int w)) h) (hk : cells ≤ k) (hs : slots ≤ n) : Run p.tables e below (PF s below n0 h0 ws Q k n) T (mkF m pc Ls (.int z :: st)) := by
  have hlk := X.hlk
  obtain ⟨fs, hl, hrun, hended, hW, hsame⟩ := X.1.leave (v := some (.int w)) (fun q => by rw [X.hret, hr] at q; cases q)
  refine ⟨_, Jvm.RoadKit.retN X.1 X.hx (X.hret.trans hr) ht (hb X.hby hd) (by rw [hnz]; exact hl), _, hrun, hended, _, _, rfl, ⟨⟨?_, ?_⟩, X.fr⟩, ⟨_, rfl⟩, hW, hsame.mono hk hs⟩
  · show Keep h0 T.heap ws; rw [X.eT]; exact K
  · show Q _ T.heap; rw [X.eT]; exact hQ
theorem k_retFA (X : WP p l e R s m args below meth c Z own mname bytes maxL ret n0 Inv Sf T h locs cells slots) {v : Value} {ws : List Addr} {Q : Option Value → Heap → Prop} {k n : Nat} {h0 : Heap} (hd : decode bytes pc = .ok (.areturn, 1)) {t : FieldType} (hr : ret = some t) (hn : narrow t v = v) (ht : t.isReference = true) (hv : v.isRef = true) (K : Keep h0 h ws) (hQ : Q (some (v)) h) (hk : cells ≤ k) (hs : slots ≤ n) : Run p.tables e below (PF s below n0 h0 ws Q k n) T (mkF m pc Ls (v :: st)) := by
  have hlk := X.hlk
  obtain ⟨fs, hl, hrun, hended, hW, hsame⟩ := X.1.leave (v := some (v)) (fun q => by rw [X.hret, hr] at q; cases q)
  refine ⟨_, Jvm.RoadKit.retOut X.1 X.hx (X.hret.trans hr) hn (Or.inr (Or.inr (Or.inr (Or.inr ⟨rfl, ht, hv⟩)))) (hb X.hby hd) hl, _, hrun, hended, _, _, rfl, ⟨⟨?_, ?_⟩, X.fr⟩, ⟨_, rfl⟩, hW, hsame.mono hk hs⟩
  · show Keep h0 T.heap ws; rw [X.eT]; exact K
  · show Q _ T.heap; rw [X.eT]; exact hQ
theorem k_retFV (X : WP p l e R s m args below meth c Z own mname bytes maxL ret n0 Inv Sf T h locs cells slots) {ws : List Addr} {Q : Option Value → Heap → Prop} {k n : Nat} {h0 : Heap} (hd : decode bytes pc = .ok (.return_, 1)) (hr : ret = none) (K : Keep h0 h ws) (hQ : Q none h) (hk : cells ≤ k) (hs : slots ≤ n) : Run p.tables e below (PF s below n0 h0 ws Q k n) T (mkF m pc Ls []) := by
  have hlk := X.hlk
  obtain ⟨fs, hl, hrun, hended, hW, hsame⟩ := X.1.leave (v := none) (fun _ => rfl)
  refine ⟨_, X.1.returnOut X.hx (X.hret.trans hr) (hb X.hby hd) hl, _, hrun, hended, _, _, rfl, ⟨⟨?_, ?_⟩, X.fr⟩, ⟨_, rfl⟩, hW, hsame.mono hk hs⟩
  · show Keep h0 T.heap ws; rw [X.eT]; exact K
  · show Q _ T.heap; rw [X.eT]; exact hQ
/-- what an interning walk keeps up: the literals of EL say their text -/
def InvH (Z : State) (a0 : Array Value) (EL : List (String × Nat)) (s0 : State) (v : Vm) (h : Heap) : Prop := EW Z a0 EL ∧ Z.Warmed39 v ∧ (∃ k0, s0.Since v k0 ∧ k0 ≤ h.size) ∧ CHr Z EL s0.vm s0.heap v h
theorem clH {EL : List (String × Nat)} {s0 : State} {v : Vm} (hal : Z.vm.Alike v) : Cl Z (InvH Z a0 EL s0 v) (Safe Z EL v) :=
  ⟨fun h h' ws K hs I => ⟨⟨I.1, I.2.1, by obtain ⟨k0, a, b⟩ := I.2.2.1; exact ⟨k0, a, Nat.le_trans b K.1⟩, I.2.2.2.trans (CHr.keep K hs I.2.2.2.1)⟩, fun x q => Safe.keep K hs I.2.2.2.1 q⟩, fun h x q => Safe.new q, fun h x C E h1 h2 => Safe.exa hal E h1 h2, fun h x c ty A ht => Safe.arr hal A ht⟩
/-- the contract of a body that may load literals -/
def MetH (l : Launch) (tw : List Jvm.Cond) (Z : State) (EL : List (String × Nat)) (n0 : Nat) (y : MethodName) (bytes : ByteArray) (maxL : Nat) (ret : Option FieldType) (rm : Room) (as' : Array Value) (h : Heap) (ws : List Addr) (Q : Option Value → Vm → Heap → Prop) : Prop :=
  MetFree l y (head1 (Jvm.Cond.code y bytes maxL ret :: tw) rm) (fun a U => a = as' ∧ Z.Warmed39 U.vm ∧ U.heap = h ∧ CHv Z EL U.vm h ∧ ∀ x ∈ ws, Safe Z EL U.vm h x) (fun _ _ _ _ _ => True)
    (fun _ U o U' => ∃ v L, o = .returned v ∧ ((Keep h U'.heap ws ∧ Q v U'.vm U'.heap) ∧ Fr n0 L) ∧ CHr Z EL U.vm U.heap U'.vm U'.heap ∧ ReturnedEndW U o U' L rm.cells rm.slots)
def PH (Z : State) (EL : List (String × Nat)) (s : State) (below : List Frame) (n0 : Nat) (h0 : Heap) (ws : List Addr) (Q : Option Value → Vm → Heap → Prop) (k n : Nat) (t : State) : Prop := ∃ o, t.status = .running ∧ Ended t below o ∧ ∃ v L, o = .returned v ∧ ((Keep h0 t.heap ws ∧ Q v t.vm t.heap) ∧ Fr n0 L) ∧ CHr Z EL s.vm s.heap t.vm t.heap ∧ ReturnedEndW s o t L k n
theorem metH {EL : List (String × Nat)} {y : MethodName} {bytes : ByteArray} {maxL : Nat} {ret : Option FieldType} {rm : Room} {as' : Array Value} {ws : List Addr} {Q : Option Value → Vm → Heap → Prop} {tw : List Jvm.Cond} (hEL : EW Z a0 EL) (hpl : plainFor y = true) (Z0 : Old Z n0 h) {Ls : Array Slot} (hef : ∀ m, entryFrame m as' maxL = mkF m 0 Ls [])
    (body : ∀ p e s m below meth c T v, WP p l e rm (s.setVm v) m as' below meth c Z y.cls y.name bytes maxL ret n0 (InvH Z a0 EL s v) (Safe Z EL v) T h [] 0 0 → (∀ x ∈ ws, Safe Z EL v h x) → Run p.tables e below (PH Z EL s below n0 h ws Q rm.cells rm.slots) T (mkF m 0 Ls [])) : MetH l tw Z EL n0 y bytes maxL ret rm as' h ws Q := by
  refine MetFree.of_bodySF hpl hisR ?_
  intro p e s m args below meth c s₁ Bd hml0 hP hK
  obtain ⟨rfl, hZ, hh, hC, hS⟩ := hP
  have e0 : s₁.heap = h := by rw [← hh, Bd.state]; rfl
  have I : InvH Z a0 EL s s.vm h := ⟨hEL, hZ, ⟨s.heap.size, (State.WarmedH.refl s).since _, by rw [hh]; exact Nat.le_refl _⟩, by rw [hh]; exact CHr.refl hC⟩
  obtain ⟨t, hs, o, hr, he, hq⟩ := body p e s m below meth c s₁ s.vm ⟨Stand.of_body Bd, e0, hZ, findClass_of_methodNamed Bd.named, Fr.nil n0, Z0, I, ⟨Bd.exec, Bd.bytes, hml0, Bd.returns, BodyLoose.notSynchronized Bd, (name_of_methodNamed Bd.named Bd.method).1⟩, clH hZ.alike⟩ hS
  rw [← hef] at hs
  exact ⟨t, o, hs, hr, he, hq⟩

theorem k_retHI {EL : List (String × Nat)} {v : Vm} (X : WP p l e R (s.setVm v) m args below meth c Z own mname bytes maxL ret n0 (InvH Z a0 EL s v) (Safe Z EL v) T h locs cells slots) {z : Int32} {ws : List Addr} {Q : Option Value → Vm → Heap → Prop} {k n : Nat} {h0 : Heap} (hd : decode bytes pc = .ok (.ireturn, 1)) (hr : ret = some .int) (K : Keep h0 h ws) (hQ : ∀ v', CHr Z EL v h v' h → Q (some (.int z)) v' h) (hk : cells ≤ k) (hs : slots ≤ n) : Run p.tables e below (PH Z EL s below n0 h0 ws Q k n) T (mkF m pc Ls (.int z :: st)) := by
  have hlk := X.hlk
  obtain ⟨hEL, hWv, ⟨k0, hS, hk0⟩, hC⟩ := X.inv
  obtain ⟨fs, hl, hrun, hended, hRW⟩ := X.1.leaveW hS (by rw [X.eT]; exact hk0) (v := some (.int z)) (fun q => by rw [X.hret, hr] at q; cases q)
  have hC' : CHr Z EL v h T.vm h := CHv.at X.1 hWv hEL hC.1
  refine ⟨_, Jvm.RoadKit.retI X.1 X.hx (X.hret.trans hr) (hb X.hby hd) hl, _, hrun, hended, _, _, rfl, ⟨⟨?_, ?_⟩, X.fr⟩, ?_, hRW.1, hRW.2.1, hRW.2.2.1, hRW.2.2.2.mono hk hs⟩
  · show Keep h0 T.heap ws; rw [X.eT]; exact K
  · show Q _ T.vm T.heap; rw [X.eT]; exact hQ _ hC'
  · show CHr Z EL s.vm s.heap T.vm T.heap; rw [X.eT]; exact hC.trans hC'
theorem k_retHN {EL : List (String × Nat)} {v : Vm} (X : WP p l e R (s.setVm v) m args below meth c Z own mname bytes maxL ret n0 (InvH Z a0 EL s v) (Safe Z EL v) T h locs cells slots) {z w : Int32} {ws : List Addr} {Q : Option Value → Vm → Heap → Prop} {k n : Nat} {h0 : Heap} (hd : decode bytes pc = .ok (.ireturn, 1)) {t : FieldType} (hr : ret = some t) (ht : t = .boolean ∨ t = .byte ∨ t = .char ∨ t = .short) (hnz : nar t z = w) (K : Keep h0 h ws) (hQ : ∀ v', CHr Z EL v h v' h → Q (some (.int w)) v' h) (hk : cells ≤ k) (hs : slots ≤ n) : Run p.tables e below (PH Z EL s below n0 h0 ws Q k n) T (mkF m pc Ls (.int z :: st)) := by
  have hlk := X.hlk
  obtain ⟨hEL, hWv, ⟨k0, hS, hk0⟩, hC⟩ := X.inv
  obtain ⟨fs, hl, hrun, hended, hRW⟩ := X.1.leaveW hS (by rw [X.eT]; exact hk0) (v := some (.int w)) (fun q => by rw [X.hret, hr] at q; cases q)
  have hC' : CHr Z EL v h T.vm h := CHv.at X.1 hWv hEL hC.1
  refine ⟨_, Jvm.RoadKit.retN X.1 X.hx (X.hret.trans hr) ht (hb X.hby hd) (by rw [hnz]; exact hl), _, hrun, hended, _, _, rfl, ⟨⟨?_, ?_⟩, X.fr⟩, ?_, hRW.1, hRW.2.1, hRW.2.2.1, hRW.2.2.2.mono hk hs⟩
  · show Keep h0 T.heap ws; rw [X.eT]; exact K
  · show Q _ T.vm T.heap; rw [X.eT]; exact hQ _ hC'
  · show CHr Z EL s.vm s.heap T.vm T.heap; rw [X.eT]; exact hC.trans hC'
theorem k_retHA {EL : List (String × Nat)} {v : Vm} (X : WP p l e R (s.setVm v) m args below meth c Z own mname bytes maxL ret n0 (InvH Z a0 EL s v) (Safe Z EL v) T h locs cells slots) {x : Value} {ws : List Addr} {Q : Option Value → Vm → Heap → Prop} {k n : Nat} {h0 : Heap} (hd : decode bytes pc = .ok (.areturn, 1)) {t : FieldType} (hr : ret = some t) (hn : narrow t x = x) (ht : t.isReference = true) (hv : x.isRef = true) (K : Keep h0 h ws) (hQ : ∀ v', CHr Z EL v h v' h → Q (some (x)) v' h) (hk : cells ≤ k) (hs : slots ≤ n) : Run p.tables e below (PH Z EL s below n0 h0 ws Q k n) T (mkF m pc Ls (x :: st)) := by
  have hlk := X.hlk
  obtain ⟨hEL, hWv, ⟨k0, hS, hk0⟩, hC⟩ := X.inv
  obtain ⟨fs, hl, hrun, hended, hRW⟩ := X.1.leaveW hS (by rw [X.eT]; exact hk0) (v := some (x)) (fun q => by rw [X.hret, hr] at q; cases q)
  have hC' : CHr Z EL v h T.vm h := CHv.at X.1 hWv hEL hC.1
  refine ⟨_, Jvm.RoadKit.retOut X.1 X.hx (X.hret.trans hr) hn (Or.inr (Or.inr (Or.inr (Or.inr ⟨rfl, ht, hv⟩)))) (hb X.hby hd) hl, _, hrun, hended, _, _, rfl, ⟨⟨?_, ?_⟩, X.fr⟩, ?_, hRW.1, hRW.2.1, hRW.2.2.1, hRW.2.2.2.mono hk hs⟩
  · show Keep h0 T.heap ws; rw [X.eT]; exact K
  · show Q _ T.vm T.heap; rw [X.eT]; exact hQ _ hC'
  · show CHr Z EL s.vm s.heap T.vm T.heap; rw [X.eT]; exact hC.trans hC'
theorem k_retHV {EL : List (String × Nat)} {v : Vm} (X : WP p l e R (s.setVm v) m args below meth c Z own mname bytes maxL ret n0 (InvH Z a0 EL s v) (Safe Z EL v) T h locs cells slots) {ws : List Addr} {Q : Option Value → Vm → Heap → Prop} {k n : Nat} {h0 : Heap} (hd : decode bytes pc = .ok (.return_, 1)) (hr : ret = none) (K : Keep h0 h ws) (hQ : ∀ v', CHr Z EL v h v' h → Q none v' h) (hk : cells ≤ k) (hs : slots ≤ n) : Run p.tables e below (PH Z EL s below n0 h0 ws Q k n) T (mkF m pc Ls []) := by
  have hlk := X.hlk
  obtain ⟨hEL, hWv, ⟨k0, hS, hk0⟩, hC⟩ := X.inv
  obtain ⟨fs, hl, hrun, hended, hRW⟩ := X.1.leaveW hS (by rw [X.eT]; exact hk0) (v := none) (fun _ => rfl)
  have hC' : CHr Z EL v h T.vm h := CHv.at X.1 hWv hEL hC.1
  refine ⟨_, X.1.returnOut X.hx (X.hret.trans hr) (hb X.hby hd) hl, _, hrun, hended, _, _, rfl, ⟨⟨?_, ?_⟩, X.fr⟩, ?_, hRW.1, hRW.2.1, hRW.2.2.1, hRW.2.2.2.mono hk hs⟩
  · show Keep h0 T.heap ws; rw [X.eT]; exact K
  · show Q _ T.vm T.heap; rw [X.eT]; exact hQ _ hC'
  · show CHr Z EL s.vm s.heap T.vm T.heap; rw [X.eT]; exact hC.trans hC'
theorem WP.reH {EL : List (String × Nat)} {v : Vm} (X : WP p l e R (s.setVm v) m args below meth c Z own mname bytes maxL ret n0 (InvH Z a0 EL s v) (Safe Z EL v) T h locs cells slots) {v' : Vm} {T' : State} {h' : Heap} {locs' : List Loc} {cells' slots' : Nat} (X' : Stand p l e R (s.setVm v') m args below meth c T' locs' cells' slots') (e' : T'.heap = h') {ws : List Addr} (K : Keep h h' ws) {k1 : Nat} (hS : s.Since v' k1) (hk : k1 ≤ h'.size) (hW : Z.Warmed39 v') (ho : v'.findClass own = some m.cls) (hC : CHr Z EL v h v' h') (hge : ∀ x ∈ ws, n0 ≤ x) (N : Fr n0 locs') : WP p l e R (s.setVm v') m args below meth c Z own mname bytes maxL ret n0 (InvH Z a0 EL s v') (Safe Z EL v') T' h' locs' cells' slots' :=
  ⟨X', e', hW, ho, N, X.old.keep K hge, ⟨X.inv.1, hW, ⟨k1, hS, hk⟩, X.inv.2.2.2.trans hC⟩, X.2.2.2.2.2.2.2.1, clH hW.alike⟩
theorem k_ldcO {EL : List (String × Nat)} {v : Vm} (X : WP p l e R (s.setVm v) m args below meth c Z own mname bytes maxL ret n0 (InvH Z a0 EL s v) (Safe Z EL v) T h locs cells slots) {text : String} {index n : Nat} (hd : decode bytes pc = .ok (.ldc index, 2)) (w : (Cond.stringLink own index text).before a0 Z = true) (wS : ∀ a ∈ Bundle.stringAtoms, a.before a0 Z = true) (hn : 4 * text.toList.length ≤ n) (hbig : n ≤ 536870912) (hc : cells + 2 ≤ R.cells) (hl : slots + (n + 4) ≤ R.slots) (hp : pc + 2 = pc')
    (q : ∀ a v' T' h', WP p l e R (s.setVm v') m args below meth c Z own mname bytes maxL ret n0 (InvH Z a0 EL s v') (Safe Z EL v') T' h' locs (cells + 2) (slots + (n + 4)) → Keep h h' [] → CHr Z EL v h v' h' → Run p.tables e below P T' (mkF m pc' Ls (.ref a :: st))) : Run p.tables e below P T (mkF m pc Ls st) := by
  subst hp
  obtain ⟨hEL, hWv, ⟨k0, hS, hk0⟩, hC⟩ := X.inv
  obtain ⟨a, T', h', k1, X', e', E, hS', hk1, hZ', ho', hC', -, k⟩ := ldcOH X.1 X.hx hWv X.hown w wS X.eT hS hk0 hEL hC.1 (g := mkF m pc Ls st) rfl (hb X.hby hd) hn hbig hc hl
  have K := ext_keep E
  exact Run.of k (q a T'.vm T' h' (X.reH X' e' K hS' hk1 hZ' ho' hC' (fun _ q => nomatch q) X.fr) K hC')
theorem k_ldcR {EL : List (String × Nat)} {v : Vm} (X : WP p l e R (s.setVm v) m args below meth c Z own mname bytes maxL ret n0 (InvH Z a0 EL s v) (Safe Z EL v) T h locs cells slots) {text : String} {index n : Nat} (hd : decode bytes pc = .ok (.ldc index, 2)) (w : (Cond.stringLink own index text).before a0 Z = true) (wS : ∀ a ∈ Bundle.stringAtoms, a.before a0 Z = true) (hmem : (own, index) ∈ EL) {vs : List Value} {z : Int32} (ht : (∀ c ∈ text.toList, c.toNat < 256) ∧ text.toList.map (fun c => Value.int (Jvm.Lit.byteI c.toNat.toUInt16)) = vs) (hz : ¬ z < 0) (hlv : z.toNatClampNeg = vs.length)
    (hn : 4 * text.toList.length ≤ n) (hbig : n ≤ 536870912) (hc : cells + 2 ≤ R.cells) (hl : slots + (n + 4) ≤ R.slots) (hp : pc + 2 = pc')
    (q : ∀ a b kb v' T' h', WP p l e R (s.setVm v') m args below meth c Z own mname bytes maxL ret n0 (InvH Z a0 EL s v') (Safe Z EL v') T' h' locs (cells + 2) (slots + (n + 4)) → Keep h h' [] → CHr Z EL v h v' h' → Exa Z h' a "java/lang/String" → Fld Z h' a "java/lang/String" "coder" "B" (.int 0) → Fld Z h' a "java/lang/String" "value" "[B" (.ref b) → Arv Z h' b kb .byte z vs (.int 0) → (∀ x, Safe Z EL v' h' x → x ≠ a ∧ x ≠ b) → Run p.tables e below P T' (mkF m pc' Ls (.ref a :: st))) : Run p.tables e below P T (mkF m pc Ls st) := by
  subst hp
  obtain ⟨hEL, hWv, ⟨k0, hS, hk0⟩, hC⟩ := X.inv
  obtain ⟨a, T', h', k1, b, kb, X', e', E, hS', hk1, hZ', ho', A, F1, F2, V, -, -, hC', -, hne, k⟩ := ldcCH X.1 X.hx hWv X.hown w wS X.eT hS hk0 hEL hmem hC.1 ht hz hlv (g := mkF m pc Ls st) rfl (hb X.hby hd) hn hbig hc hl
  have K := ext_keep E
  exact Run.of k (q a b kb T'.vm T' h' (X.reH X' e' K hS' hk1 hZ' ho' hC' (fun _ q => nomatch q) X.fr) K hC' A F1 F2 V hne)
theorem backH {EL : List (String × Nat)} {v : Vm} {y : MethodName} {bytes : ByteArray} {maxL : Nat} {ret : Option FieldType} {rm : Room} {len W : Nat} {as' : Array Value} {ws : List Addr} {Q : Option Value → Vm → Heap → Prop}
    (hM : MetH l [] Z EL n0 y bytes maxL ret rm as' h ws Q) (hZ : Z.Warmed39 v) (wc : (Cond.code y bytes maxL ret).before a0 Z = true) (wz : (Cond.initialized y.cls).before a0 Z = true) (hf : rm.frames + 1 ≤ R.frames) (hl : W + (maxL + 11) + rm.locals ≤ R.locals) (hEL : EW Z a0 EL) (H : CHv Z EL v h) (hs : ∀ x ∈ ws, x < h.size ∧ Safe Z EL v h x) :
    BackS l R p e below (s.setVm v) args y len W (fun A a => a = as' ∧ A.U.heap = h ∧ A.cells + rm.cells ≤ R.cells ∧ A.slots + rm.slots ≤ R.slots)
      (fun A _ r B => ∃ L, ((Keep h B.U.heap ws ∧ Q r B.U.vm B.U.heap) ∧ Fr n0 L) ∧ B.locs = A.locs ++ L ∧ B.cells = A.cells + rm.cells ∧ B.slots = A.slots + rm.slots ∧ CHr Z EL v h B.U.vm B.U.heap) :=
  BackS.of_freeW (bytes := bytes) (maxL := maxL) (ret := ret) (E := fun _ first o t L k n => k = rm.cells ∧ n = rm.slots ∧ (∃ r, o = .returned r ∧ ((Keep h t.heap ws ∧ Q r t.vm t.heap) ∧ Fr n0 L)) ∧ CHr Z EL first.vm first.heap t.vm t.heap) hM hf hl
    (fun m meth c A a Y hp => have hU : Z.Warmed39 A.U.vm := wtrans (s := s.setVm v) hZ Y.warmed
      ⟨by show (Cond.and _ .tt).before a A.U = true; rw [Cond.before_and, Jvm.RoadKit.mv hU wc]; rfl, Jvm.RoadKit.mv hU wc, Jvm.RoadKit.mv hU wz, hp.2.2.1, hp.2.2.2⟩)
    (fun m meth c A a g mk Y hp => ⟨hp.1, wtrans (s := s.setVm v) hZ Y.warmed, hp.2.1, (CHv.at Y hZ hEL H).1, fun x hx => (CHv.at Y hZ hEL H).safe (hs x hx).1 (hs x hx).2⟩) (fun _ _ _ _ _ _ _ _ _ => trivial)
    (fun _ _ _ _ ⟨r, L, h1, h2, h3, h4⟩ => ⟨L, _, _, h4, rfl, rfl, ⟨r, h1, h2⟩, h3⟩)
    (fun m meth c A a g mk r t L k n Y hp _ _ ⟨e1, e2, ⟨r', e3, e4⟩, e5⟩ => by
      cases e3; subst e1 e2
      refine ⟨L, e4, rfl, rfl, rfl, (CHv.at Y hZ hEL H).trans ?_⟩
      rw [← hp.2.1]; exact e5)
theorem k_callSVF (X : WP p l e R s m args below meth c Z own mname bytes maxL ret n0 Inv Sf T h locs cells slots) {y : MethodName} {index W : Nat} {bytes' : ByteArray} {maxL' : Nat} {ret' : Option FieldType} {rm : Room} {ws : List Addr} {Q : Value → Heap → Prop}  {argsL rest stk : List Value} {ps : List FieldType} {rt : Option FieldType} (hd : decode bytes pc = .ok (.invokestatic index, 3)) (w1 : (Cond.methodLink own index y).before a0 Z = true) (w2 : (Cond.static y).before a0 Z = true) (wz : (Cond.initialized y.cls).before a0 Z = true) (wc : (Cond.code y bytes' maxL' ret').before a0 Z = true) (hy : y.cls ≠ "java/lang/invoke/MethodHandle" ∧ y.cls ≠ "java/lang/invoke/VarHandle")  (hM : MetF l [] Z n0 y bytes' maxL' ret' rm argsL.toArray h ws (fun r h' => ∃ w, r = some w ∧ Q w h')) (hstk : stk = argsL.reverse ++ rest) (hpd : parseMethodDescriptor y.desc = some ⟨ps, rt⟩) (hlen : argsL.length = ps.length) (hsz : Ls.size = maxL) (hfr : rm.frames + 1 ≤ R.frames) (hW : (rest.map fun v => v.category).sum ≤ W) (hlo : W + (maxL' + 11) + rm.locals ≤ R.locals) (hc : cells + rm.cells ≤ R.cells) (hs : slots + rm.slots ≤ R.slots) (hsf : ∀ x ∈ ws, Sf h x ∧ n0 ≤ x) (hp : pc + 3 = pc')
    (q : ∀ w T' h' L', WP p l e R s m args below meth c Z own mname bytes maxL ret n0 Inv Sf T' h' L' (cells + rm.cells) (slots + rm.slots) → Keep h h' ws → Q w h' → Run p.tables e below P T' (mkF m pc' Ls (w :: rest))) : Run p.tables e below P T (mkF m pc Ls stk) := by
  subst hp
  have bk := backOf (R := R) (p := p) (e := e) (below := below) (args := args) (len := 3) (W := W) (Q := fun r h' L => (Keep h h' ws ∧ (fun r h' => ∃ w, r = some w ∧ Q w h') r h') ∧ Fr n0 L) hM X.hZ wc wz hfr hlo
  obtain ⟨r, _, ⟨T', L', k', n'⟩, -, X', ⟨Lc, hQ, l1, l2, l3⟩, kk⟩ := Jvm.LawKit.callS X.1 X.hx (y := y) X.hown (mvT X.hZ w1) (mvT X.hZ w2) (mvT X.hZ wz) (mvT X.hZ wc) hy bk (g := mkF m pc Ls stk) rfl (by rw [X.hml]; exact hsz) (argsL := argsL) (rest := rest) (lenOf hpd hlen) hstk (by show 2 * 0 + _ ≤ _; omega) (hb X.hby hd) (fun _ _ => ⟨rfl, X.eT, hc, hs⟩)
  dsimp only [Pt.U, Pt.locs, Pt.cells, Pt.slots] at X' l1 l2 l3 kk hQ
  subst l1 l2 l3
  obtain ⟨⟨K, w, rfl, hQ⟩, N⟩ := hQ
  exact Run.of kk (q _ _ _ _ (X.mv X' rfl K hsf (X.fr.app N)) K hQ)
theorem k_callSNF (X : WP p l e R s m args below meth c Z own mname bytes maxL ret n0 Inv Sf T h locs cells slots) {y : MethodName} {index W : Nat} {bytes' : ByteArray} {maxL' : Nat} {ret' : Option FieldType} {rm : Room} {ws : List Addr} {Q : Heap → Prop}  {argsL rest stk : List Value} {ps : List FieldType} {rt : Option FieldType} (hd : decode bytes pc = .ok (.invokestatic index, 3)) (w1 : (Cond.methodLink own index y).before a0 Z = true) (w2 : (Cond.static y).before a0 Z = true) (wz : (Cond.initialized y.cls).before a0 Z = true) (wc : (Cond.code y bytes' maxL' ret').before a0 Z = true) (hy : y.cls ≠ "java/lang/invoke/MethodHandle" ∧ y.cls ≠ "java/lang/invoke/VarHandle")  (hM : MetF l [] Z n0 y bytes' maxL' ret' rm argsL.toArray h ws (fun r h' => r = none ∧ Q h')) (hstk : stk = argsL.reverse ++ rest) (hpd : parseMethodDescriptor y.desc = some ⟨ps, rt⟩) (hlen : argsL.length = ps.length) (hsz : Ls.size = maxL) (hfr : rm.frames + 1 ≤ R.frames) (hW : (rest.map fun v => v.category).sum ≤ W) (hlo : W + (maxL' + 11) + rm.locals ≤ R.locals) (hc : cells + rm.cells ≤ R.cells) (hs : slots + rm.slots ≤ R.slots) (hsf : ∀ x ∈ ws, Sf h x ∧ n0 ≤ x) (hp : pc + 3 = pc')
    (q : ∀ T' h' L', WP p l e R s m args below meth c Z own mname bytes maxL ret n0 Inv Sf T' h' L' (cells + rm.cells) (slots + rm.slots) → Keep h h' ws → Q h' → Run p.tables e below P T' (mkF m pc' Ls (rest))) : Run p.tables e below P T (mkF m pc Ls stk) := by
  subst hp
  have bk := backOf (R := R) (p := p) (e := e) (below := below) (args := args) (len := 3) (W := W) (Q := fun r h' L => (Keep h h' ws ∧ (fun r h' => r = none ∧ Q h') r h') ∧ Fr n0 L) hM X.hZ wc wz hfr hlo
  obtain ⟨r, _, ⟨T', L', k', n'⟩, -, X', ⟨Lc, hQ, l1, l2, l3⟩, kk⟩ := Jvm.LawKit.callS X.1 X.hx (y := y) X.hown (mvT X.hZ w1) (mvT X.hZ w2) (mvT X.hZ wz) (mvT X.hZ wc) hy bk (g := mkF m pc Ls stk) rfl (by rw [X.hml]; exact hsz) (argsL := argsL) (rest := rest) (lenOf hpd hlen) hstk (by show 2 * 0 + _ ≤ _; omega) (hb X.hby hd) (fun _ _ => ⟨rfl, X.eT, hc, hs⟩)
  dsimp only [Pt.U, Pt.locs, Pt.cells, Pt.slots] at X' l1 l2 l3 kk hQ
  subst l1 l2 l3
  obtain ⟨⟨K, rfl, hQ⟩, N⟩ := hQ
  exact Run.of kk (q _ _ _ (X.mv X' rfl K hsf (X.fr.app N)) K hQ)
theorem k_callSVH {EL : List (String × Nat)} {v : Vm} (X : WP p l e R (s.setVm v) m args below meth c Z own mname bytes maxL ret n0 (InvH Z a0 EL s v) (Safe Z EL v) T h locs cells slots) {y : MethodName} {index W : Nat} {bytes' : ByteArray} {maxL' : Nat} {ret' : Option FieldType} {rm : Room} {ws : List Addr} {Q : Value → Vm → Heap → Prop}  {argsL rest stk : List Value} {ps : List FieldType} {rt : Option FieldType} (hd : decode bytes pc = .ok (.invokestatic index, 3)) (w1 : (Cond.methodLink own index y).before a0 Z = true) (w2 : (Cond.static y).before a0 Z = true) (wz : (Cond.initialized y.cls).before a0 Z = true) (wc : (Cond.code y bytes' maxL' ret').before a0 Z = true) (hy : y.cls ≠ "java/lang/invoke/MethodHandle" ∧ y.cls ≠ "java/lang/invoke/VarHandle")  (hM : MetH l [] Z EL n0 y bytes' maxL' ret' rm argsL.toArray h ws (fun r v' h' => ∃ w, r = some w ∧ Q w v' h')) (hstk : stk = argsL.reverse ++ rest) (hpd : parseMethodDescriptor y.desc = some ⟨ps, rt⟩) (hlen : argsL.length = ps.length) (hsz : Ls.size = maxL) (hfr : rm.frames + 1 ≤ R.frames) (hW : (rest.map fun v => v.category).sum ≤ W) (hlo : W + (maxL' + 11) + rm.locals ≤ R.locals) (hc : cells + rm.cells ≤ R.cells) (hs : slots + rm.slots ≤ R.slots) (hsf : ∀ x ∈ ws, (x < h.size ∧ Safe Z EL v h x) ∧ n0 ≤ x) (hp : pc + 3 = pc')
    (q : ∀ w v' T' h' L', WP p l e R (s.setVm v') m args below meth c Z own mname bytes maxL ret n0 (InvH Z a0 EL s v') (Safe Z EL v') T' h' L' (cells + rm.cells) (slots + rm.slots) → Keep h h' ws → CHr Z EL v h v' h' → Q w v' h' → Run p.tables e below P T' (mkF m pc' Ls (w :: rest))) : Run p.tables e below P T (mkF m pc Ls stk) := by
  subst hp
  obtain ⟨hEL, hWv, ⟨k0, hS, hk0⟩, hC⟩ := X.inv
  have bk := backH (R := R) (p := p) (e := e) (below := below) (s := s) (args := args) (len := 3) (W := W) hM hWv wc wz hfr hlo hEL hC.1 (fun x q => (hsf x q).1)
  obtain ⟨r, _, ⟨T', L', k', n'⟩, -, X', hS2, hgr, ⟨Lc, hQ, l1, l2, l3, hC'⟩, kk⟩ := callSS X.1 X.hx (y := y) X.hown (mvT X.hZ w1) (mvT X.hZ w2) (mvT X.hZ wz) (mvT X.hZ wc) hy bk (g := mkF m pc Ls stk) rfl (by rw [X.hml]; exact hsz) (argsL := argsL) (rest := rest) (lenOf hpd hlen) hstk (by show 2 * 0 + _ ≤ _; omega) (hb X.hby hd) (fun _ _ => ⟨rfl, X.eT, hc, hs⟩)
  dsimp only [Pt.U, Pt.locs, Pt.cells, Pt.slots] at X' l1 l2 l3 kk hQ hS2 hgr hC'
  subst l1 l2 l3
  obtain ⟨⟨K, w, rfl, hQ⟩, N⟩ := hQ
  obtain ⟨X2, hS3, hZ2, ho2⟩ := rebS hS (show k0 ≤ T.heap.size by rw [X.eT]; exact hk0) X' hS2 hgr X.hZ X.hown
  exact Run.tr kk (q _ _ _ _ _ (X.reH X2 rfl K hS3 (Nat.le_refl _) hZ2 ho2 hC' (fun x q => (hsf x q).2) (X.fr.app N)) K hC' hQ)
theorem k_callSNH {EL : List (String × Nat)} {v : Vm} (X : WP p l e R (s.setVm v) m args below meth c Z own mname bytes maxL ret n0 (InvH Z a0 EL s v) (Safe Z EL v) T h locs cells slots) {y : MethodName} {index W : Nat} {bytes' : ByteArray} {maxL' : Nat} {ret' : Option FieldType} {rm : Room} {ws : List Addr} {Q : Vm → Heap → Prop}  {argsL rest stk : List Value} {ps : List FieldType} {rt : Option FieldType} (hd : decode bytes pc = .ok (.invokestatic index, 3)) (w1 : (Cond.methodLink own index y).before a0 Z = true) (w2 : (Cond.static y).before a0 Z = true) (wz : (Cond.initialized y.cls).before a0 Z = true) (wc : (Cond.code y bytes' maxL' ret').before a0 Z = true) (hy : y.cls ≠ "java/lang/invoke/MethodHandle" ∧ y.cls ≠ "java/lang/invoke/VarHandle")  (hM : MetH l [] Z EL n0 y bytes' maxL' ret' rm argsL.toArray h ws (fun r v' h' => r = none ∧ Q v' h')) (hstk : stk = argsL.reverse ++ rest) (hpd : parseMethodDescriptor y.desc = some ⟨ps, rt⟩) (hlen : argsL.length = ps.length) (hsz : Ls.size = maxL) (hfr : rm.frames + 1 ≤ R.frames) (hW : (rest.map fun v => v.category).sum ≤ W) (hlo : W + (maxL' + 11) + rm.locals ≤ R.locals) (hc : cells + rm.cells ≤ R.cells) (hs : slots + rm.slots ≤ R.slots) (hsf : ∀ x ∈ ws, (x < h.size ∧ Safe Z EL v h x) ∧ n0 ≤ x) (hp : pc + 3 = pc')
    (q : ∀ v' T' h' L', WP p l e R (s.setVm v') m args below meth c Z own mname bytes maxL ret n0 (InvH Z a0 EL s v') (Safe Z EL v') T' h' L' (cells + rm.cells) (slots + rm.slots) → Keep h h' ws → CHr Z EL v h v' h' → Q v' h' → Run p.tables e below P T' (mkF m pc' Ls (rest))) : Run p.tables e below P T (mkF m pc Ls stk) := by
  subst hp
  obtain ⟨hEL, hWv, ⟨k0, hS, hk0⟩, hC⟩ := X.inv
  have bk := backH (R := R) (p := p) (e := e) (below := below) (s := s) (args := args) (len := 3) (W := W) hM hWv wc wz hfr hlo hEL hC.1 (fun x q => (hsf x q).1)
  obtain ⟨r, _, ⟨T', L', k', n'⟩, -, X', hS2, hgr, ⟨Lc, hQ, l1, l2, l3, hC'⟩, kk⟩ := callSS X.1 X.hx (y := y) X.hown (mvT X.hZ w1) (mvT X.hZ w2) (mvT X.hZ wz) (mvT X.hZ wc) hy bk (g := mkF m pc Ls stk) rfl (by rw [X.hml]; exact hsz) (argsL := argsL) (rest := rest) (lenOf hpd hlen) hstk (by show 2 * 0 + _ ≤ _; omega) (hb X.hby hd) (fun _ _ => ⟨rfl, X.eT, hc, hs⟩)
  dsimp only [Pt.U, Pt.locs, Pt.cells, Pt.slots] at X' l1 l2 l3 kk hQ hS2 hgr hC'
  subst l1 l2 l3
  obtain ⟨⟨K, rfl, hQ⟩, N⟩ := hQ
  obtain ⟨X2, hS3, hZ2, ho2⟩ := rebS hS (show k0 ≤ T.heap.size by rw [X.eT]; exact hk0) X' hS2 hgr X.hZ X.hown
  exact Run.tr kk (q _ _ _ _ (X.reH X2 rfl K hS3 (Nat.le_refl _) hZ2 ho2 hC' (fun x q => (hsf x q).2) (X.fr.app N)) K hC' hQ)
theorem k_callPNF (X : WP p l e R s m args below meth c Z own mname bytes maxL ret n0 Inv Sf T h locs cells slots) {y : MethodName} {index W : Nat} {bytes' : ByteArray} {maxL' : Nat} {ret' : Option FieldType} {rm : Room} {ws : List Addr} {Q : Heap → Prop} {a : Addr} {argsL rest stk : List Value} {ps : List FieldType} {rt : Option FieldType} (hd : decode bytes pc = .ok (.invokespecial index, 3)) (w1 : (Cond.methodLink own index y).before a0 Z = true) (w2 : (Cond.instanceMethod y).before a0 Z = true) (wz : (Cond.initialized y.cls).before a0 Z = true) (wc : (Cond.code y bytes' maxL' ret').before a0 Z = true) (hy : y.cls ≠ "java/lang/invoke/MethodHandle" ∧ y.cls ≠ "java/lang/invoke/VarHandle") (hin : y.name = "<init>") (hrn : ret' = none) (hM : MetF l [] Z n0 y bytes' maxL' ret' rm (.ref a :: argsL).toArray h ws (fun r h' => r = none ∧ Q h')) (hstk : stk = argsL.reverse ++ .ref a :: rest) (hpd : parseMethodDescriptor y.desc = some ⟨ps, rt⟩) (hlen : argsL.length = ps.length) (hsz : Ls.size = maxL) (hfr : rm.frames + 1 ≤ R.frames) (hW : (rest.map fun v => v.category).sum ≤ W) (hlo : W + (maxL' + 11) + rm.locals ≤ R.locals) (hc : cells + rm.cells ≤ R.cells) (hs : slots + rm.slots ≤ R.slots) (hsf : ∀ x ∈ ws, Sf h x ∧ n0 ≤ x) (hp : pc + 3 = pc')
    (q : ∀ T' h' L', WP p l e R s m args below meth c Z own mname bytes maxL ret n0 Inv Sf T' h' L' (cells + rm.cells) (slots + rm.slots) → Keep h h' ws → Q h' → Run p.tables e below P T' (mkF m pc' Ls (rest))) : Run p.tables e below P T (mkF m pc Ls stk) := by
  subst hp
  have bk := backOf (R := R) (p := p) (e := e) (below := below) (args := args) (len := 3) (W := W) (Q := fun r h' L => (Keep h h' ws ∧ (fun r h' => r = none ∧ Q h') r h') ∧ Fr n0 L) hM X.hZ wc wz hfr hlo
  obtain ⟨r, _, ⟨T', L', k', n'⟩, -, X', ⟨Lc, hQ, l1, l2, l3⟩, kk⟩ := X.1.specialBack X.hx (y := y) hin X.hown (mvT X.hZ w1) (mvT X.hZ w2) (bytes := bytes') (maxL := maxL') (mvT X.hZ (hrn ▸ wc)) hy bk (g := mkF m pc Ls stk) rfl (by rw [X.hml]; exact hsz) (Steps.refl _) (a := a) (argsL := argsL) (rest := rest) (lenOf hpd hlen) hstk (by show 2 * 0 + _ ≤ _; omega) (hb X.hby hd) (fun _ _ => ⟨rfl, X.eT, hc, hs⟩)
  dsimp only [Pt.U, Pt.locs, Pt.cells, Pt.slots] at X' l1 l2 l3 kk hQ
  subst l1 l2 l3
  obtain ⟨⟨K, rfl, hQ⟩, N⟩ := hQ
  exact Run.tr kk (q _ _ _ (X.mv X' rfl K hsf (X.fr.app N)) K hQ)
theorem k_callPNH {EL : List (String × Nat)} {v : Vm} (X : WP p l e R (s.setVm v) m args below meth c Z own mname bytes maxL ret n0 (InvH Z a0 EL s v) (Safe Z EL v) T h locs cells slots) {y : MethodName} {index W : Nat} {bytes' : ByteArray} {maxL' : Nat} {ret' : Option FieldType} {rm : Room} {ws : List Addr} {Q : Vm → Heap → Prop} {a : Addr} {argsL rest stk : List Value} {ps : List FieldType} {rt : Option FieldType} (hd : decode bytes pc = .ok (.invokespecial index, 3)) (w1 : (Cond.methodLink own index y).before a0 Z = true) (w2 : (Cond.instanceMethod y).before a0 Z = true) (wz : (Cond.initialized y.cls).before a0 Z = true) (wc : (Cond.code y bytes' maxL' ret').before a0 Z = true) (hy : y.cls ≠ "java/lang/invoke/MethodHandle" ∧ y.cls ≠ "java/lang/invoke/VarHandle") (hin : y.name = "<init>") (hrn : ret' = none) (hM : MetH l [] Z EL n0 y bytes' maxL' ret' rm (.ref a :: argsL).toArray h ws (fun r v' h' => r = none ∧ Q v' h')) (hstk : stk = argsL.reverse ++ .ref a :: rest) (hpd : parseMethodDescriptor y.desc = some ⟨ps, rt⟩) (hlen : argsL.length = ps.length) (hsz : Ls.size = maxL) (hfr : rm.frames + 1 ≤ R.frames) (hW : (rest.map fun v => v.category).sum ≤ W) (hlo : W + (maxL' + 11) + rm.locals ≤ R.locals) (hc : cells + rm.cells ≤ R.cells) (hs : slots + rm.slots ≤ R.slots) (hsf : ∀ x ∈ ws, (x < h.size ∧ Safe Z EL v h x) ∧ n0 ≤ x) (hp : pc + 3 = pc')
    (q : ∀ v' T' h' L', WP p l e R (s.setVm v') m args below meth c Z own mname bytes maxL ret n0 (InvH Z a0 EL s v') (Safe Z EL v') T' h' L' (cells + rm.cells) (slots + rm.slots) → Keep h h' ws → CHr Z EL v h v' h' → Q v' h' → Run p.tables e below P T' (mkF m pc' Ls (rest))) : Run p.tables e below P T (mkF m pc Ls stk) := by
  subst hp
  obtain ⟨hEL, hWv, ⟨k0, hS, hk0⟩, hC⟩ := X.inv
  have bk := backH (R := R) (p := p) (e := e) (below := below) (s := s) (args := args) (len := 3) (W := W) hM hWv wc wz hfr hlo hEL hC.1 (fun x q => (hsf x q).1)
  obtain ⟨r, _, ⟨T', L', k', n'⟩, -, X', hS2, hgr, ⟨Lc, hQ, l1, l2, l3, hC'⟩, kk⟩ := X.1.specialBackS X.hx (y := y) hin X.hown (mvT X.hZ w1) (mvT X.hZ w2) (bytes := bytes') (maxL := maxL') (mvT X.hZ (hrn ▸ wc)) hy bk (g := mkF m pc Ls stk) rfl (by rw [X.hml]; exact hsz) (Steps.refl _) (a := a) (argsL := argsL) (rest := rest) (lenOf hpd hlen) hstk (by show 2 * 0 + _ ≤ _; omega) (hb X.hby hd) (fun _ _ => ⟨rfl, X.eT, hc, hs⟩)
  dsimp only [Pt.U, Pt.locs, Pt.cells, Pt.slots] at X' l1 l2 l3 kk hQ hS2 hgr hC'
  subst l1 l2 l3
  obtain ⟨⟨K, rfl, hQ⟩, N⟩ := hQ
  obtain ⟨X2, hS3, hZ2, ho2⟩ := rebS hS (show k0 ≤ T.heap.size by rw [X.eT]; exact hk0) X' hS2 hgr X.hZ X.hown
  exact Run.tr kk (q _ _ _ _ (X.reH X2 rfl K hS3 (Nat.le_refl _) hZ2 ho2 hC' (fun x q => (hsf x q).2) (X.fr.app N)) K hC' hQ)
theorem k_callVVF (X : WP p l e R s m args below meth c Z own mname bytes maxL ret n0 Inv Sf T h locs cells slots) {y : MethodName} {index W : Nat} {bytes' : ByteArray} {maxL' : Nat} {ret' : Option FieldType} {rm : Room} {ws : List Addr} {Q : Value → Heap → Prop} {a : Addr} {y0 : MethodName} {C : String} {argsL rest stk : List Value} {ps : List FieldType} {rt : Option FieldType} (hd : decode bytes pc = .ok (.invokevirtual index, 3)) (w1 : (Cond.methodLink own index y0).before a0 Z = true) (w2 : (Cond.declares y0).before a0 Z = true) (w3 : (Cond.selects C y0 y).before a0 Z = true) (w4 : (Cond.instanceMethod y).before a0 Z = true) (wz : (Cond.initialized y.cls).before a0 Z = true) (wc : (Cond.code y bytes' maxL' ret').before a0 Z = true) (hy : y0.cls ≠ "java/lang/invoke/MethodHandle" ∧ y0.cls ≠ "java/lang/invoke/VarHandle") (hnf : NotFace s y0) (E : Exa Z h a C) (hM : MetF l [] Z n0 y bytes' maxL' ret' rm (.ref a :: argsL).toArray h ws (fun r h' => ∃ w, r = some w ∧ Q w h')) (hstk : stk = argsL.reverse ++ .ref a :: rest) (hpd : parseMethodDescriptor y0.desc = some ⟨ps, rt⟩) (hlen : argsL.length = ps.length) (hsz : Ls.size = maxL) (hfr : rm.frames + 1 ≤ R.frames) (hW : (rest.map fun v => v.category).sum ≤ W) (hlo : W + (maxL' + 11) + rm.locals ≤ R.locals) (hc : cells + rm.cells ≤ R.cells) (hs : slots + rm.slots ≤ R.slots) (hsf : ∀ x ∈ ws, Sf h x ∧ n0 ≤ x) (hp : pc + 3 = pc')
    (q : ∀ w T' h' L', WP p l e R s m args below meth c Z own mname bytes maxL ret n0 Inv Sf T' h' L' (cells + rm.cells) (slots + rm.slots) → Keep h h' ws → Q w h' → Run p.tables e below P T' (mkF m pc' Ls (w :: rest))) : Run p.tables e below P T (mkF m pc Ls stk) := by
  subst hp
  obtain ⟨cq, kq, qa, qb, qc⟩ := isOf (T := T) X.hZ X.eT E
  have bk := backOf (R := R) (p := p) (e := e) (below := below) (args := args) (len := 3) (W := W) (Q := fun r h' L => (Keep h h' ws ∧ (fun r h' => ∃ w, r = some w ∧ Q w h') r h') ∧ Fr n0 L) hM X.hZ wc wz hfr hlo
  obtain ⟨r, _, ⟨T', L', k', n'⟩, -, X', ⟨Lc, hQ, l1, l2, l3⟩, kk⟩ := X.1.virtualBack X.hx (y := y0) (z := y) X.hown (mvT X.hZ w1) (mvT X.hZ w2) hnf (mvT X.hZ w3) (mvT X.hZ w4) hy bk qa qc (g := mkF m pc Ls stk) rfl (by rw [X.hml]; exact hsz) (Steps.refl _) (argsL := argsL) (rest := rest) (lenOf hpd hlen) hstk (by show 2 * 0 + _ ≤ _; omega) (hb X.hby hd) (fun _ _ => ⟨rfl, X.eT, hc, hs⟩)
  dsimp only [Pt.U, Pt.locs, Pt.cells, Pt.slots] at X' l1 l2 l3 kk hQ
  subst l1 l2 l3
  obtain ⟨⟨K, w, rfl, hQ⟩, N⟩ := hQ
  exact Run.tr kk (q _ _ _ _ (X.mv X' rfl K hsf (X.fr.app N)) K hQ)
theorem k_callVNF (X : WP p l e R s m args below meth c Z own mname bytes maxL ret n0 Inv Sf T h locs cells slots) {y : MethodName} {index W : Nat} {bytes' : ByteArray} {maxL' : Nat} {ret' : Option FieldType} {rm : Room} {ws : List Addr} {Q : Heap → Prop} {a : Addr} {y0 : MethodName} {C : String} {argsL rest stk : List Value} {ps : List FieldType} {rt : Option FieldType} (hd : decode bytes pc = .ok (.invokevirtual index, 3)) (w1 : (Cond.methodLink own index y0).before a0 Z = true) (w2 : (Cond.declares y0).before a0 Z = true) (w3 : (Cond.selects C y0 y).before a0 Z = true) (w4 : (Cond.instanceMethod y).before a0 Z = true) (wz : (Cond.initialized y.cls).before a0 Z = true) (wc : (Cond.code y bytes' maxL' ret').before a0 Z = true) (hy : y0.cls ≠ "java/lang/invoke/MethodHandle" ∧ y0.cls ≠ "java/lang/invoke/VarHandle") (hnf : NotFace s y0) (E : Exa Z h a C) (hM : MetF l [] Z n0 y bytes' maxL' ret' rm (.ref a :: argsL).toArray h ws (fun r h' => r = none ∧ Q h')) (hstk : stk = argsL.reverse ++ .ref a :: rest) (hpd : parseMethodDescriptor y0.desc = some ⟨ps, rt⟩) (hlen : argsL.length = ps.length) (hsz : Ls.size = maxL) (hfr : rm.frames + 1 ≤ R.frames) (hW : (rest.map fun v => v.category).sum ≤ W) (hlo : W + (maxL' + 11) + rm.locals ≤ R.locals) (hc : cells + rm.cells ≤ R.cells) (hs : slots + rm.slots ≤ R.slots) (hsf : ∀ x ∈ ws, Sf h x ∧ n0 ≤ x) (hp : pc + 3 = pc')
    (q : ∀ T' h' L', WP p l e R s m args below meth c Z own mname bytes maxL ret n0 Inv Sf T' h' L' (cells + rm.cells) (slots + rm.slots) → Keep h h' ws → Q h' → Run p.tables e below P T' (mkF m pc' Ls (rest))) : Run p.tables e below P T (mkF m pc Ls stk) := by
  subst hp
  obtain ⟨cq, kq, qa, qb, qc⟩ := isOf (T := T) X.hZ X.eT E
  have bk := backOf (R := R) (p := p) (e := e) (below := below) (args := args) (len := 3) (W := W) (Q := fun r h' L => (Keep h h' ws ∧ (fun r h' => r = none ∧ Q h') r h') ∧ Fr n0 L) hM X.hZ wc wz hfr hlo
  obtain ⟨r, _, ⟨T', L', k', n'⟩, -, X', ⟨Lc, hQ, l1, l2, l3⟩, kk⟩ := X.1.virtualBack X.hx (y := y0) (z := y) X.hown (mvT X.hZ w1) (mvT X.hZ w2) hnf (mvT X.hZ w3) (mvT X.hZ w4) hy bk qa qc (g := mkF m pc Ls stk) rfl (by rw [X.hml]; exact hsz) (Steps.refl _) (argsL := argsL) (rest := rest) (lenOf hpd hlen) hstk (by show 2 * 0 + _ ≤ _; omega) (hb X.hby hd) (fun _ _ => ⟨rfl, X.eT, hc, hs⟩)
  dsimp only [Pt.U, Pt.locs, Pt.cells, Pt.slots] at X' l1 l2 l3 kk hQ
  subst l1 l2 l3
  obtain ⟨⟨K, rfl, hQ⟩, N⟩ := hQ
  exact Run.tr kk (q _ _ _ (X.mv X' rfl K hsf (X.fr.app N)) K hQ)
theorem k_callVVH {EL : List (String × Nat)} {v : Vm} (X : WP p l e R (s.setVm v) m args below meth c Z own mname bytes maxL ret n0 (InvH Z a0 EL s v) (Safe Z EL v) T h locs cells slots) {y : MethodName} {index W : Nat} {bytes' : ByteArray} {maxL' : Nat} {ret' : Option FieldType} {rm : Room} {ws : List Addr} {Q : Value → Vm → Heap → Prop} {a : Addr} {y0 : MethodName} {C : String} {argsL rest stk : List Value} {ps : List FieldType} {rt : Option FieldType} (hd : decode bytes pc = .ok (.invokevirtual index, 3)) (w1 : (Cond.methodLink own index y0).before a0 Z = true) (w2 : (Cond.declares y0).before a0 Z = true) (w3 : (Cond.selects C y0 y).before a0 Z = true) (w4 : (Cond.instanceMethod y).before a0 Z = true) (wz : (Cond.initialized y.cls).before a0 Z = true) (wc : (Cond.code y bytes' maxL' ret').before a0 Z = true) (hy : y0.cls ≠ "java/lang/invoke/MethodHandle" ∧ y0.cls ≠ "java/lang/invoke/VarHandle") (hnf : NotFace (s.setVm v) y0) (E : Exa Z h a C) (hM : MetH l [] Z EL n0 y bytes' maxL' ret' rm (.ref a :: argsL).toArray h ws (fun r v' h' => ∃ w, r = some w ∧ Q w v' h')) (hstk : stk = argsL.reverse ++ .ref a :: rest) (hpd : parseMethodDescriptor y0.desc = some ⟨ps, rt⟩) (hlen : argsL.length = ps.length) (hsz : Ls.size = maxL) (hfr : rm.frames + 1 ≤ R.frames) (hW : (rest.map fun v => v.category).sum ≤ W) (hlo : W + (maxL' + 11) + rm.locals ≤ R.locals) (hc : cells + rm.cells ≤ R.cells) (hs : slots + rm.slots ≤ R.slots) (hsf : ∀ x ∈ ws, (x < h.size ∧ Safe Z EL v h x) ∧ n0 ≤ x) (hp : pc + 3 = pc')
    (q : ∀ w v' T' h' L', WP p l e R (s.setVm v') m args below meth c Z own mname bytes maxL ret n0 (InvH Z a0 EL s v') (Safe Z EL v') T' h' L' (cells + rm.cells) (slots + rm.slots) → Keep h h' ws → CHr Z EL v h v' h' → Q w v' h' → Run p.tables e below P T' (mkF m pc' Ls (w :: rest))) : Run p.tables e below P T (mkF m pc Ls stk) := by
  subst hp
  obtain ⟨cq, kq, qa, qb, qc⟩ := isOf (T := T) X.hZ X.eT E
  obtain ⟨hEL, hWv, ⟨k0, hS, hk0⟩, hC⟩ := X.inv
  have bk := backH (R := R) (p := p) (e := e) (below := below) (s := s) (args := args) (len := 3) (W := W) hM hWv wc wz hfr hlo hEL hC.1 (fun x q => (hsf x q).1)
  obtain ⟨r, _, ⟨T', L', k', n'⟩, -, X', hS2, hgr, ⟨Lc, hQ, l1, l2, l3, hC'⟩, kk⟩ := X.1.virtualBackS X.hx (y := y0) (z := y) X.hown (mvT X.hZ w1) (mvT X.hZ w2) hnf (mvT X.hZ w3) (mvT X.hZ w4) hy bk qa qc (g := mkF m pc Ls stk) rfl (by rw [X.hml]; exact hsz) (Steps.refl _) (argsL := argsL) (rest := rest) (lenOf hpd hlen) hstk (by show 2 * 0 + _ ≤ _; omega) (hb X.hby hd) (fun _ _ => ⟨rfl, X.eT, hc, hs⟩)
  dsimp only [Pt.U, Pt.locs, Pt.cells, Pt.slots] at X' l1 l2 l3 kk hQ hS2 hgr hC'
  subst l1 l2 l3
  obtain ⟨⟨K, w, rfl, hQ⟩, N⟩ := hQ
  obtain ⟨X2, hS3, hZ2, ho2⟩ := rebS hS (show k0 ≤ T.heap.size by rw [X.eT]; exact hk0) X' hS2 hgr X.hZ X.hown
  exact Run.tr kk (q _ _ _ _ _ (X.reH X2 rfl K hS3 (Nat.le_refl _) hZ2 ho2 hC' (fun x q => (hsf x q).2) (X.fr.app N)) K hC' hQ)
theorem k_callVNH {EL : List (String × Nat)} {v : Vm} (X : WP p l e R (s.setVm v) m args below meth c Z own mname bytes maxL ret n0 (InvH Z a0 EL s v) (Safe Z EL v) T h locs cells slots) {y : MethodName} {index W : Nat} {bytes' : ByteArray} {maxL' : Nat} {ret' : Option FieldType} {rm : Room} {ws : List Addr} {Q : Vm → Heap → Prop} {a : Addr} {y0 : MethodName} {C : String} {argsL rest stk : List Value} {ps : List FieldType} {rt : Option FieldType} (hd : decode bytes pc = .ok (.invokevirtual index, 3)) (w1 : (Cond.methodLink own index y0).before a0 Z = true) (w2 : (Cond.declares y0).before a0 Z = true) (w3 : (Cond.selects C y0 y).before a0 Z = true) (w4 : (Cond.instanceMethod y).before a0 Z = true) (wz : (Cond.initialized y.cls).before a0 Z = true) (wc : (Cond.code y bytes' maxL' ret').before a0 Z = true) (hy : y0.cls ≠ "java/lang/invoke/MethodHandle" ∧ y0.cls ≠ "java/lang/invoke/VarHandle") (hnf : NotFace (s.setVm v) y0) (E : Exa Z h a C) (hM : MetH l [] Z EL n0 y bytes' maxL' ret' rm (.ref a :: argsL).toArray h ws (fun r v' h' => r = none ∧ Q v' h')) (hstk : stk = argsL.reverse ++ .ref a :: rest) (hpd : parseMethodDescriptor y0.desc = some ⟨ps, rt⟩) (hlen : argsL.length = ps.length) (hsz : Ls.size = maxL) (hfr : rm.frames + 1 ≤ R.frames) (hW : (rest.map fun v => v.category).sum ≤ W) (hlo : W + (maxL' + 11) + rm.locals ≤ R.locals) (hc : cells + rm.cells ≤ R.cells) (hs : slots + rm.slots ≤ R.slots) (hsf : ∀ x ∈ ws, (x < h.size ∧ Safe Z EL v h x) ∧ n0 ≤ x) (hp : pc + 3 = pc')
    (q : ∀ v' T' h' L', WP p l e R (s.setVm v') m args below meth c Z own mname bytes maxL ret n0 (InvH Z a0 EL s v') (Safe Z EL v') T' h' L' (cells + rm.cells) (slots + rm.slots) → Keep h h' ws → CHr Z EL v h v' h' → Q v' h' → Run p.tables e below P T' (mkF m pc' Ls (rest))) : Run p.tables e below P T (mkF m pc Ls stk) := by
  subst hp
  obtain ⟨cq, kq, qa, qb, qc⟩ := isOf (T := T) X.hZ X.eT E
  obtain ⟨hEL, hWv, ⟨k0, hS, hk0⟩, hC⟩ := X.inv
  have bk := backH (R := R) (p := p) (e := e) (below := below) (s := s) (args := args) (len := 3) (W := W) hM hWv wc wz hfr hlo hEL hC.1 (fun x q => (hsf x q).1)
  obtain ⟨r, _, ⟨T', L', k', n'⟩, -, X', hS2, hgr, ⟨Lc, hQ, l1, l2, l3, hC'⟩, kk⟩ := X.1.virtualBackS X.hx (y := y0) (z := y) X.hown (mvT X.hZ w1) (mvT X.hZ w2) hnf (mvT X.hZ w3) (mvT X.hZ w4) hy bk qa qc (g := mkF m pc Ls stk) rfl (by rw [X.hml]; exact hsz) (Steps.refl _) (argsL := argsL) (rest := rest) (lenOf hpd hlen) hstk (by show 2 * 0 + _ ≤ _; omega) (hb X.hby hd) (fun _ _ => ⟨rfl, X.eT, hc, hs⟩)
  dsimp only [Pt.U, Pt.locs, Pt.cells, Pt.slots] at X' l1 l2 l3 kk hQ hS2 hgr hC'
  subst l1 l2 l3
  obtain ⟨⟨K, rfl, hQ⟩, N⟩ := hQ
  obtain ⟨X2, hS3, hZ2, ho2⟩ := rebS hS (show k0 ≤ T.heap.size by rw [X.eT]; exact hk0) X' hS2 hgr X.hZ X.hown
  exact Run.tr kk (q _ _ _ _ (X.reH X2 rfl K hS3 (Nat.le_refl _) hZ2 ho2 hC' (fun x q => (hsf x q).2) (X.fr.app N)) K hC' hQ)
theorem k_callIVF (X : WP p l e R s m args below meth c Z own mname bytes maxL ret n0 Inv Sf T h locs cells slots) {y : MethodName} {index W : Nat} {bytes' : ByteArray} {maxL' : Nat} {ret' : Option FieldType} {rm : Room} {ws : List Addr} {Q : Value → Heap → Prop} {a : Addr} {y0 : MethodName} {C : String} {count : Nat} {argsL rest stk : List Value} {ps : List FieldType} {rt : Option FieldType} (hd : decode bytes pc = .ok (.invokeinterface index count, 5)) (w1 : (Cond.methodLink own index y0).before args s = true) (w2 : (Cond.declares y0).before args s = true) (w5 : (Cond.interfaceMethod y0.cls y0.cls y0.name y0.desc).before args s = true) (w3 : (Cond.selects C y0 y).before args s = true) (w4 : (Cond.instanceMethod y).before args s = true) (w6 : (Cond.publicMethod y).before args s = true) (w7 : (Cond.unhidden C y0.name y0.desc).before args s = true) (w8 : (Cond.castable C y0.cls).before args s = true) (wz : (Cond.initialized y.cls).before a0 Z = true) (wc : (Cond.code y bytes' maxL' ret').before a0 Z = true) (hy : y0.cls ≠ "java/lang/invoke/MethodHandle" ∧ y0.cls ≠ "java/lang/invoke/VarHandle") (E : Exa Z h a C) (hM : MetF l [] Z n0 y bytes' maxL' ret' rm (.ref a :: argsL).toArray h ws (fun r h' => ∃ w, r = some w ∧ Q w h')) (hstk : stk = argsL.reverse ++ .ref a :: rest) (hpd : parseMethodDescriptor y0.desc = some ⟨ps, rt⟩) (hlen : argsL.length = ps.length) (hsz : Ls.size = maxL) (hfr : rm.frames + 1 ≤ R.frames) (hW : (rest.map fun v => v.category).sum ≤ W) (hlo : W + (maxL' + 11) + rm.locals ≤ R.locals) (hc : cells + rm.cells ≤ R.cells) (hs : slots + rm.slots ≤ R.slots) (hsf : ∀ x ∈ ws, Sf h x ∧ n0 ≤ x) (hp : pc + 5 = pc')
    (q : ∀ w T' h' L', WP p l e R s m args below meth c Z own mname bytes maxL ret n0 Inv Sf T' h' L' (cells + rm.cells) (slots + rm.slots) → Keep h h' ws → Q w h' → Run p.tables e below P T' (mkF m pc' Ls (w :: rest))) : Run p.tables e below P T (mkF m pc Ls stk) := by
  subst hp
  obtain ⟨cq, kq, qa, qb, qc⟩ := isOf (T := T) X.hZ X.eT E
  have bk := backOf (R := R) (p := p) (e := e) (below := below) (args := args) (len := 5) (W := W) (Q := fun r h' L => (Keep h h' ws ∧ (fun r h' => ∃ w, r = some w ∧ Q w h') r h') ∧ Fr n0 L) hM X.hZ wc wz hfr hlo
  obtain ⟨r, _, ⟨T', L', k', n'⟩, -, X', ⟨Lc, hQ, l1, l2, l3⟩, kk⟩ := X.1.interfaceBack X.hx (xi := y0) (y := y) X.hown w1 w2 w5 w3 w4 w6 w7 w8 hy bk qa qb qc (g := mkF m pc Ls stk) rfl (by rw [X.hml]; exact hsz) (Steps.refl _) (argsL := argsL) (rest := rest) (lenOf hpd hlen) hstk (by show 2 * 0 + _ ≤ _; omega) (hb X.hby hd) (fun _ _ => ⟨rfl, X.eT, hc, hs⟩)
  dsimp only [Pt.U, Pt.locs, Pt.cells, Pt.slots] at X' l1 l2 l3 kk hQ
  subst l1 l2 l3
  obtain ⟨⟨K, w, rfl, hQ⟩, N⟩ := hQ
  exact Run.tr kk (q _ _ _ _ (X.mv X' rfl K hsf (X.fr.app N)) K hQ)
theorem k_callINF (X : WP p l e R s m args below meth c Z own mname bytes maxL ret n0 Inv Sf T h locs cells slots) {y : MethodName} {index W : Nat} {bytes' : ByteArray} {maxL' : Nat} {ret' : Option FieldType} {rm : Room} {ws : List Addr} {Q : Heap → Prop} {a : Addr} {y0 : MethodName} {C : String} {count : Nat} {argsL rest stk : List Value} {ps : List FieldType} {rt : Option FieldType} (hd : decode bytes pc = .ok (.invokeinterface index count, 5)) (w1 : (Cond.methodLink own index y0).before args s = true) (w2 : (Cond.declares y0).before args s = true) (w5 : (Cond.interfaceMethod y0.cls y0.cls y0.name y0.desc).before args s = true) (w3 : (Cond.selects C y0 y).before args s = true) (w4 : (Cond.instanceMethod y).before args s = true) (w6 : (Cond.publicMethod y).before args s = true) (w7 : (Cond.unhidden C y0.name y0.desc).before args s = true) (w8 : (Cond.castable C y0.cls).before args s = true) (wz : (Cond.initialized y.cls).before a0 Z = true) (wc : (Cond.code y bytes' maxL' ret').before a0 Z = true) (hy : y0.cls ≠ "java/lang/invoke/MethodHandle" ∧ y0.cls ≠ "java/lang/invoke/VarHandle") (E : Exa Z h a C) (hM : MetF l [] Z n0 y bytes' maxL' ret' rm (.ref a :: argsL).toArray h ws (fun r h' => r = none ∧ Q h')) (hstk : stk = argsL.reverse ++ .ref a :: rest) (hpd : parseMethodDescriptor y0.desc = some ⟨ps, rt⟩) (hlen : argsL.length = ps.length) (hsz : Ls.size = maxL) (hfr : rm.frames + 1 ≤ R.frames) (hW : (rest.map fun v => v.category).sum ≤ W) (hlo : W + (maxL' + 11) + rm.locals ≤ R.locals) (hc : cells + rm.cells ≤ R.cells) (hs : slots + rm.slots ≤ R.slots) (hsf : ∀ x ∈ ws, Sf h x ∧ n0 ≤ x) (hp : pc + 5 = pc')
    (q : ∀ T' h' L', WP p l e R s m args below meth c Z own mname bytes maxL ret n0 Inv Sf T' h' L' (cells + rm.cells) (slots + rm.slots) → Keep h h' ws → Q h' → Run p.tables e below P T' (mkF m pc' Ls (rest))) : Run p.tables e below P T (mkF m pc Ls stk) := by
  subst hp
  obtain ⟨cq, kq, qa, qb, qc⟩ := isOf (T := T) X.hZ X.eT E
  have bk := backOf (R := R) (p := p) (e := e) (below := below) (args := args) (len := 5) (W := W) (Q := fun r h' L => (Keep h h' ws ∧ (fun r h' => r = none ∧ Q h') r h') ∧ Fr n0 L) hM X.hZ wc wz hfr hlo
  obtain ⟨r, _, ⟨T', L', k', n'⟩, -, X', ⟨Lc, hQ, l1, l2, l3⟩, kk⟩ := X.1.interfaceBack X.hx (xi := y0) (y := y) X.hown w1 w2 w5 w3 w4 w6 w7 w8 hy bk qa qb qc (g := mkF m pc Ls stk) rfl (by rw [X.hml]; exact hsz) (Steps.refl _) (argsL := argsL) (rest := rest) (lenOf hpd hlen) hstk (by show 2 * 0 + _ ≤ _; omega) (hb X.hby hd) (fun _ _ => ⟨rfl, X.eT, hc, hs⟩)
  dsimp only [Pt.U, Pt.locs, Pt.cells, Pt.slots] at X' l1 l2 l3 kk hQ
  subst l1 l2 l3
  obtain ⟨⟨K, rfl, hQ⟩, N⟩ := hQ
  exact Run.tr kk (q _ _ _ (X.mv X' rfl K hsf (X.fr.app N)) K hQ)
end Kit
end Own
end Jvm.Pilot.@@N@@
namespace Jvm.Pilot.@@N@@
open Jvm Jvm.ClassFile Sem Op Lib Jvm.Free Jvm.Stand Jvm.LawKit Jvm.RoadKit Bundle Jvm.Pilot.@@N@@.Jvm.D
section OwnProof
open Own
theorem own_nat {i : Nat} (h : i < 2147483648) : (Int32.ofNat i).toInt = (i : Int) := by
  rw [Int32.toInt_ofNat', show Int32.size = 4294967296 from rfl]; exact Int.bmod_eq_of_le (by omega) (by omega)
theorem own_nz {n : Nat} (h0 : 0 < n) (h1 : n < 2147483648) : ¬ Int32.ofNat n = 0 := fun q => by
  have e := congrArg Int32.toInt q
  rw [own_nat h1, show (0 : Int32).toInt = 0 from by decide] at e
  omega
theorem own_clamp {i : Nat} (h : i < 2147483648) : (Int32.ofNat i).toNatClampNeg = i := by
  show (Int32.ofNat i).toInt.toNat = i
  rw [own_nat h]; rfl
theorem own_nn {i : Nat} (h : i < 2147483648) : ¬ (Int32.ofNat i < 0) := by
  rw [Int32.lt_iff_toInt_lt, own_nat h]; show ¬ ((i : Int) < 0); omega
theorem own_lt {i n : Nat} (h : i < n) (hn : n < 2147483648) : Int32.ofNat i < Int32.ofNat n := by
  rw [Int32.lt_iff_toInt_lt, own_nat (by omega), own_nat hn]; omega
theorem own_succ (i : Nat) : Int32.ofNat i + Int32.ofInt 1 = Int32.ofNat (i + 1) := by
  rw [Int32.ofNat_add]; rfl
theorem own_shl1 {i : Nat} (h : i < 1073741824) : Int32.ofNat i <<< ((1 : Int32) &&& 31) = Int32.ofNat (2 * i) := by
  apply Int32.toInt_inj.mp
  have q := c_ishl (Int32.ofNat i) 1 1 (by decide)
  rw [own_nat (by omega)] at q
  rw [own_nat (by omega)]
  have := rng32 (Int32.ofNat i <<< ((1 : Int32) &&& 31))
  omega
theorem own_i2b (x : Int32) : nar .byte (x.toInt8.toInt32) = x.toInt8.toInt32 := by
  show x.toInt8.toInt32.toInt8.toInt32 = x.toInt8.toInt32
  rw [Int8.toInt8_toInt32]
def own_lo (c : Int32) : Value := .int c.toInt8.toInt32
/-- the bytes of a compact String -/
def own_lat (cs : List Int32) : List Value := cs.map own_lo
theorem own_latlen (cs : List Int32) : (own_lat cs).length = cs.length := by simp [own_lat]
theorem own_getc (cs : List Int32) (i : Nat) : (cs.map Value.int).getD i (.int 0) = .int (cs.getD i 0) := by
  simp only [List.getD_eq_getElem?_getD, List.getElem?_map]
  cases cs[i]? <;> rfl
theorem own_getc' (cs : List Int32) {i : Nat} (h : i < 2147483648) : (cs.map Value.int).getD (Int32.ofNat i).toNatClampNeg (.int 0) = .int (cs.getD i 0) := by
  rw [own_clamp h]; exact own_getc cs i
theorem own_turn (cs : List Int32) (vs : List Value) (i : Nat) (hi : i < cs.length) (hv : vs.length = cs.length) : ((cs.take i).map own_lo ++ vs.drop i).set i (.int (cs.getD i 0).toInt8.toInt32) = (cs.take (i + 1)).map own_lo ++ vs.drop (i + 1) := by
  apply List.ext_getElem?
  intro j
  by_cases hj : j = i
  · subst hj
    have h1 : j < ((cs.take j).map own_lo ++ vs.drop j).length := by simp; omega
    rw [List.getElem?_set_self h1, List.getElem?_append_left (by simp; omega)]
    simp [hi, own_lo, List.getD_eq_getElem?_getD]
  · rw [List.getElem?_set_ne (by omega)]
    by_cases hlt : j < i
    · rw [List.getElem?_append_left (by simp; omega), List.getElem?_append_left (by simp; omega)]
      simp [hlt, show j < i + 1 by omega]
    · rw [List.getElem?_append_right (by simp; omega), List.getElem?_append_right (by simp; omega)]
      simp only [List.length_map, List.length_take, List.getElem?_drop]
      congr 1; omega
theorem own_store {x0 x1 x2 x3 x4 x5 s6 : Slot} {v : Int32} (h : One s6) (h5 : ∃ w : Int32, x5 = .val (.int w)) : storeLocals #[x0, x1, x2, x3, x4, x5, s6] 6 (.int v) = some #[x0, x1, x2, x3, x4, x5, .val (.int v)] := by
  obtain ⟨w5, rfl⟩ := h5
  rcases h with rfl | ⟨w, rfl, hw⟩
  · rfl
  · cases w <;> first | rfl | (simp [Value.category] at hw)
/-- the first place of a sign above 255, or the length -/
def own_fst : List Int32 → Nat
  | [] => 0
  | c :: cs => if 255 < c then 0 else own_fst cs + 1
theorem own_fst_le : ∀ cs : List Int32, own_fst cs ≤ cs.length
  | [] => Nat.le_refl _
  | c :: cs => by
    unfold own_fst; split
    · simp
    · have := own_fst_le cs; simp; omega
theorem own_fst_lo : ∀ (cs : List Int32) (i : Nat), i < own_fst cs → ¬ 255 < cs.getD i 0
  | [], i, h => by simp [own_fst] at h
  | c :: cs, i, h => by
    unfold own_fst at h; split at h
    · omega
    · rename_i hc
      cases i with
      | zero => simpa using hc
      | succ i => simpa using own_fst_lo cs i (by omega)
theorem own_fst_hi : ∀ (cs : List Int32), own_fst cs < cs.length → 255 < cs.getD (own_fst cs) 0
  | [], h => by simp at h
  | c :: cs, h => by
    unfold own_fst at h ⊢; split
    · rename_i hc; simpa using hc
    · rename_i hc
      rw [if_neg hc] at h
      simpa using own_fst_hi cs (by simpa using h)
theorem own_fst_all : ∀ (cs : List Int32), (∀ c ∈ cs, ¬ 255 < c) → own_fst cs = cs.length
  | [], _ => rfl
  | c :: cs, h => by
    unfold own_fst
    rw [if_neg (h c (by simp)), own_fst_all cs fun x hx => h x (by simp [hx])]; simp
theorem own_rng {Z : State} {h : Heap} {b : Addr} {kb : ClassId} {z : Int32} {cs : List Int32} (A : Arv Z h b kb .char z (cs.map Value.int) (.int 0)) (hz : z = Int32.ofNat cs.length) (hn : cs.length < 2147483648) : ∀ i, i < cs.length → ¬ cs.getD i 0 < 0 ∧ ¬ 65535 < cs.getD i 0 := by
  intro i hi
  obtain ⟨cl, -, -, S, -, -, Gq⟩ := A
  have q := Gq i (by rw [S, hz, own_clamp hn]; exact hi)
  rw [own_getc] at q
  exact rng_char q
theorem own_and255 (x : Int32) : ¬ 255 < x &&& 255 := by
  have q := (c_and x 255 (by decide)).2
  rw [Int32.lt_iff_toInt_lt]; show ¬ ((255 : Int) < _); exact Int.not_lt.mpr q
theorem own_al0 : ∀ c ∈ ([] : List Int32), ¬ 255 < c := fun _ q => nomatch q
theorem own_alS {c : Int32} {L : List Int32} (q : ¬ 255 < c) (r : ∀ x ∈ L, ¬ 255 < x) : ∀ x ∈ c :: L, ¬ 255 < x := fun x z => (List.mem_cons.mp z).elim (fun u => u ▸ q) (r x)
def own_hi (c : Int32) : Value := .int (c >>> ((8 : Int32) &&& 31)).toInt8.toInt32
/-- the bytes of a String that is not compact -/
def own_u16 : List Int32 → List Value
  | [] => []
  | c :: cs => own_lo c :: own_hi c :: own_u16 cs
theorem own_u16len : ∀ cs : List Int32, (own_u16 cs).length = 2 * cs.length
  | [] => rfl
  | c :: cs => by simp [own_u16, own_u16len cs]; omega
theorem own_u16lo : ∀ (cs : List Int32) (j : Nat) (d : Value), j < cs.length → (own_u16 cs).getD (2 * j) d = own_lo (cs.getD j 0)
  | [], j, d, h => by simp at h
  | c :: cs, 0, d, h => by simp [own_u16]
  | c :: cs, j + 1, d, h => by
    have e : 2 * (j + 1) = 2 * j + 1 + 1 := by omega
    rw [e]; simpa [own_u16] using own_u16lo cs j d (by simpa using h)
theorem own_u16hi : ∀ (cs : List Int32) (j : Nat) (d : Value), j < cs.length → (own_u16 cs).getD (2 * j + 1) d = own_hi (cs.getD j 0)
  | [], j, d, h => by simp at h
  | c :: cs, 0, d, h => by simp [own_u16]
  | c :: cs, j + 1, d, h => by
    have e : 2 * (j + 1) + 1 = 2 * j + 1 + 1 + 1 := by omega
    rw [e]; simpa [own_u16] using own_u16hi cs j d (by simpa using h)
theorem own_u16turn : ∀ (cs : List Int32) (i : Nat), i < cs.length → ((own_u16 (cs.take i) ++ List.replicate (2 * (cs.length - i)) (Value.int (0 : Int32))).set (2 * i) (own_lo (cs.getD i 0))).set (2 * i + 1) (own_hi (cs.getD i 0)) = own_u16 (cs.take (i + 1)) ++ List.replicate (2 * (cs.length - (i + 1))) (Value.int (0 : Int32))
  | [], i, h => by simp at h
  | c :: cs, 0, h => by
    have e : 2 * ((c :: cs).length - 0) = 2 * cs.length + 1 + 1 := by simp; omega
    rw [e]; simp [own_u16, List.replicate_succ]
  | c :: cs, i + 1, h => by
    have e : 2 * (i + 1) = 2 * i + 1 + 1 := by omega
    have e2 : (c :: cs).length - (i + 1) = cs.length - i := by simp
    have e3 : (c :: cs).length - (i + 1 + 1) = cs.length - (i + 1) := by simp
    have q := own_u16turn cs i (by simpa using h)
    rw [e, e2, e3]
    simpa [own_u16] using q
theorem own_u16l (cs : List Int32) (i : Nat) (h : i ≤ cs.length) : (own_u16 (cs.take i) ++ List.replicate (2 * (cs.length - i)) (Value.int (0 : Int32))).length = 2 * cs.length := by
  rw [List.length_append, own_u16len, List.length_take, List.length_replicate, Nat.min_eq_left h]; omega
theorem own_shr0 (x : Int32) : x >>> ((0 : Int32) &&& 31) = x := by
  apply Int32.toInt_inj.mp
  rw [c_ishr x 0 0 (by decide)]; simp
theorem own_shl0 (x : Int32) : x <<< ((0 : Int32) &&& 31) = x := by
  apply Int32.toInt_inj.mp
  have q := c_ishl x 0 0 (by decide)
  have h1 := rng32 x; have h2 := rng32 (x <<< ((0 : Int32) &&& 31))
  omega
theorem own_join {c : Int32} (h0 : ¬ c < 0) (h1 : ¬ 65535 < c) : (((c.toInt8.toInt32 &&& 255) ||| (((c >>> ((8 : Int32) &&& 31)).toInt8.toInt32 &&& 255) <<< ((8 : Int32) &&& 31))).toUInt32.toUInt16.toUInt32.toInt32) = c := by
  have k0 : 0 ≤ c.toInt := by rw [Int32.lt_iff_toInt_lt] at h0; exact Int.not_lt.mp h0
  have k1 : c.toInt ≤ 65535 := by rw [Int32.lt_iff_toInt_lt] at h1; exact Int.not_lt.mp h1
  have a1 := c_i2b c
  have a2 := c_mask c.toInt8.toInt32 255 8 (by decide) (by decide)
  have b0 := c_ishr c 8 8 (by decide)
  have b1 := c_i2b (c >>> ((8 : Int32) &&& 31))
  have b2 := c_mask (c >>> ((8 : Int32) &&& 31)).toInt8.toInt32 255 8 (by decide) (by decide)
  generalize (c >>> ((8 : Int32) &&& 31)).toInt8.toInt32 = y at b1 b2 ⊢
  generalize c.toInt8.toInt32 = x at a1 a2 ⊢
  have b3 := c_ishl (y &&& 255) 8 8 (by decide)
  have r3 := rng32 ((y &&& 255) <<< ((8 : Int32) &&& 31))
  have v3 : ((y &&& 255) <<< ((8 : Int32) &&& 31)).toInt = (y &&& 255).toInt * 256 := by omega
  have o := c_or' (x &&& 255) ((y &&& 255) <<< ((8 : Int32) &&& 31)) 8 (by decide) 256 (by decide) (by rw [v3]; omega) (by omega) (by omega)
  have r4 := rng32 ((x &&& 255) ||| ((y &&& 255) <<< ((8 : Int32) &&& 31)))
  have f := c_i2c ((x &&& 255) ||| ((y &&& 255) <<< ((8 : Int32) &&& 31)))
  apply Int32.toInt_inj.mp
  omega
theorem own_neg31 {n : Nat} (h0 : 0 < n) (h1 : n < 1073741824) : (((Int32.ofNat n - Int32.ofNat (2 * n)).toUInt32 >>> ((31 : Int32) &&& 31).toUInt32).toInt32) = 1 := by
  apply Int32.toInt_inj.mp
  rw [c_iushr _ 31 31 (by decide) (by decide)]
  have q := c_isub (Int32.ofNat n) (Int32.ofNat (2 * n))
  rw [own_nat (by omega), own_nat (by omega)] at q
  have r := rng32 (Int32.ofNat n - Int32.ofNat (2 * n))
  show _ = (1 : Int)
  omega
/-- what a String of these signs holds -/
def own_cod (cs : List Int32) (cd zz : Int32) (bs : List Value) : Prop := (own_fst cs = cs.length ∧ cd = 0 ∧ zz = Int32.ofNat cs.length ∧ bs = own_lat cs) ∨ (own_fst cs < cs.length ∧ cd = 1 ∧ zz = Int32.ofNat (2 * cs.length) ∧ bs = own_u16 cs)
theorem own_all_of_fst {cs : List Int32} (h : own_fst cs = cs.length) : ∀ c ∈ cs, ¬ 255 < c := fun c hc => by
  obtain ⟨i, hi, e⟩ := List.getElem_of_mem hc
  have q := own_fst_lo cs i (by omega)
  rw [List.getD_eq_getElem?_getD, List.getElem?_eq_getElem hi] at q
  rw [← e]; simpa using q
theorem own_i2c_id {c : Int32} (h0 : ¬ c < 0) (h1 : ¬ 65535 < c) : nar .char c = c := by
  have k0 : 0 ≤ c.toInt := by rw [Int32.lt_iff_toInt_lt] at h0; exact Int.not_lt.mp h0
  have k1 : c.toInt ≤ 65535 := by rw [Int32.lt_iff_toInt_lt] at h1; exact Int.not_lt.mp h1
  have f := c_i2c c
  apply Int32.toInt_inj.mp
  show (c.toUInt32.toUInt16.toUInt32.toInt32).toInt = _
  omega
theorem own_cod_len {cs : List Int32} {cd zz : Int32} {bs : List Value} (h : own_cod cs cd zz bs) (hn : cs.length < 1073741824) : zz >>> (cd &&& 31) = Int32.ofNat cs.length := by
  rcases h with ⟨-, rfl, rfl, rfl⟩ | ⟨-, rfl, rfl, rfl⟩
  · exact own_shr0 _
  · apply Int32.toInt_inj.mp
    rw [c_ishr _ 1 1 (by decide), own_nat (by omega), own_nat (by omega)]; omega
theorem own_shr1 {n : Nat} (hn : n < 1073741824) : Int32.ofNat (2 * n) >>> ((1 : Int32) &&& 31) = Int32.ofNat n := by
  apply Int32.toInt_inj.mp
  rw [c_ishr _ 1 1 (by decide), own_nat (by omega), own_nat (by omega)]; omega
theorem own_cod_cd {cs : List Int32} {cd zz : Int32} {bs : List Value} (h : own_cod cs cd zz bs) : cd = 0 ∨ cd = 1 := by
  rcases h with ⟨-, rfl, -⟩ | ⟨-, rfl, -⟩
  · exact Or.inl rfl
  · exact Or.inr rfl
theorem own_nar01 {cd : Int32} (h : cd = 0 ∨ cd = 1) : nar .byte cd = cd := by rcases h with rfl | rfl <;> decide
theorem own_latget (cs : List Int32) {i : Nat} (hi : i < cs.length) (h : i < 2147483648) : (own_lat cs).getD (Int32.ofNat i).toNatClampNeg (.int (0 : Int32)) = .int (cs.getD i 0).toInt8.toInt32 := by
  rw [own_clamp h, own_lat, List.getD_eq_getElem?_getD, List.getD_eq_getElem?_getD, List.getElem?_map, List.getElem?_eq_getElem hi]; rfl
theorem own_back8 {c : Int32} (h0 : ¬ c < 0) (h1 : ¬ 255 < c) : ((c.toInt8.toInt32 &&& 255).toUInt32.toUInt16.toUInt32.toInt32) = c := by
  rw [i2c_mask]
  have k0 : 0 ≤ c.toInt := by rw [Int32.lt_iff_toInt_lt] at h0; exact Int.not_lt.mp h0
  have k1 : c.toInt ≤ 255 := by rw [Int32.lt_iff_toInt_lt] at h1; exact Int.not_lt.mp h1
  have a1 := c_i2b c
  have a2 := c_mask c.toInt8.toInt32 255 8 (by decide) (by decide)
  apply Int32.toInt_inj.mp
  omega
theorem own_255 {c : Int32} (h : ¬ 255 < c) : ¬ 65535 < c := by
  intro q; apply h; rw [Int32.lt_iff_toInt_lt] at q ⊢
  have : (65535 : Int32).toInt = 65535 := by decide
  have : (255 : Int32).toInt = 255 := by decide
  omega
theorem own_lat_rng {cs : List Int32} (hf : own_fst cs = cs.length) {i : Nat} (hi : i < cs.length) : ¬ 255 < cs.getD i 0 := own_fst_lo cs i (by omega)
/-- 1 where they are one text, else 0 -/
def own_eqv (cs ds : List Int32) : Int32 := if cs = ds then 1 else 0
def own_li (cs : List Int32) : List Int32 := cs.map fun c => c.toInt8.toInt32
theorem own_li_eq (cs : List Int32) : own_lat cs = (own_li cs).map Value.int := by simp [own_lat, own_li, own_lo, Function.comp_def]
def own_ui : List Int32 → List Int32
  | [] => []
  | c :: cs => c.toInt8.toInt32 :: (c >>> ((8 : Int32) &&& 31)).toInt8.toInt32 :: own_ui cs
theorem own_ui_eq : ∀ cs : List Int32, own_u16 cs = (own_ui cs).map Value.int
  | [] => rfl
  | c :: cs => by simp [own_u16, own_ui, own_lo, own_hi, own_ui_eq cs]
theorem own_li_len (cs : List Int32) : (own_li cs).length = cs.length := by simp [own_li]
theorem own_ui_len : ∀ cs : List Int32, (own_ui cs).length = 2 * cs.length
  | [] => rfl
  | c :: cs => by simp [own_ui, own_ui_len cs]; omega
theorem own_li_inj : ∀ {cs ds : List Int32}, (∀ c ∈ cs, ¬ c < 0 ∧ ¬ 255 < c) → (∀ c ∈ ds, ¬ c < 0 ∧ ¬ 255 < c) → own_li cs = own_li ds → cs = ds
  | [], [], _, _, _ => rfl
  | [], d :: ds, _, _, h => by simp [own_li] at h
  | c :: cs, [], _, _, h => by simp [own_li] at h
  | c :: cs, d :: ds, hc, hd, h => by
    simp only [own_li, List.map_cons, List.cons.injEq] at h
    have q1 := own_back8 (hc c (by simp)).1 (hc c (by simp)).2
    have q2 := own_back8 (hd d (by simp)).1 (hd d (by simp)).2
    rw [h.1, q2] at q1
    rw [q1, own_li_inj (fun x hx => hc x (by simp [hx])) (fun x hx => hd x (by simp [hx])) h.2]
theorem own_ui_inj : ∀ {cs ds : List Int32}, (∀ c ∈ cs, ¬ c < 0 ∧ ¬ 65535 < c) → (∀ c ∈ ds, ¬ c < 0 ∧ ¬ 65535 < c) → own_ui cs = own_ui ds → cs = ds
  | [], [], _, _, _ => rfl
  | [], d :: ds, _, _, h => by simp [own_ui] at h
  | c :: cs, [], _, _, h => by simp [own_ui] at h
  | c :: cs, d :: ds, hc, hd, h => by
    simp only [own_ui, List.cons.injEq] at h
    have q1 := own_join (hc c (by simp)).1 (hc c (by simp)).2
    have q2 := own_join (hd d (by simp)).1 (hd d (by simp)).2
    rw [h.1, h.2.1, q2] at q1
    rw [q1, own_ui_inj (fun x hx => hc x (by simp [hx])) (fun x hx => hd x (by simp [hx])) h.2.2]
theorem own_ext (is js : List Int32) (hl : is.length = js.length) (h : ∀ i, i < is.length → is.getD i 0 = js.getD i 0) : is = js := by
  apply List.ext_getElem hl
  intro i h1 h2
  have q := h i h1
  simpa [List.getD_eq_getElem?_getD, h1, h2] using q
/-- all signs are chars -/
def own_chs (cs : List Int32) : Prop := ∀ c ∈ cs, ¬ c < 0 ∧ ¬ 65535 < c
theorem own_chs_at {cs : List Int32} (h : own_chs cs) {i : Nat} (hi : i < cs.length) : ¬ cs.getD i 0 < 0 ∧ ¬ 65535 < cs.getD i 0 := by
  rw [List.getD_eq_getElem?_getD, List.getElem?_eq_getElem hi]; exact h _ (List.getElem_mem hi)
theorem own_cod_eq {cs ds : List Int32} {cd zz ze : Int32} {bs be : List Value} {ib ie : List Int32} (h1 : own_cod cs cd zz bs) (h2 : own_cod ds cd ze be) (k1 : own_chs cs) (k2 : own_chs ds) (e1 : bs = ib.map Value.int) (e2 : be = ie.map Value.int) : own_eqv ib ie = own_eqv cs ds := by
  have inj : ∀ {x y : List Int32}, x.map Value.int = y.map Value.int → x = y := fun {x y} q => by
    have := congrArg (List.map fun v => match v with | Value.int z => z | _ => 0) q
    simpa [Function.comp_def] using this
  have key : ib = ie ↔ cs = ds := by
    rcases h1 with ⟨f1, rfl, -, rfl⟩ | ⟨f1, rfl, -, rfl⟩
    · rcases h2 with ⟨f2, -, -, rfl⟩ | ⟨f2, q, -⟩
      · rw [own_li_eq] at e1 e2
        have a1 := inj e1; have a2 := inj e2
        subst a1 a2
        exact ⟨own_li_inj (fun c hc => ⟨(k1 c hc).1, own_all_of_fst f1 c hc⟩) (fun c hc => ⟨(k2 c hc).1, own_all_of_fst f2 c hc⟩), fun q => by rw [q]⟩
      · exact absurd q (by decide)
    · rcases h2 with ⟨f2, q, -⟩ | ⟨f2, -, -, rfl⟩
      · exact absurd q (by decide)
      · rw [own_ui_eq] at e1 e2
        have a1 := inj e1; have a2 := inj e2
        subst a1 a2
        exact ⟨own_ui_inj k1 k2, fun q => by rw [q]⟩
  unfold own_eqv
  by_cases q : cs = ds
  · rw [if_pos q, if_pos (key.mpr q)]
  · rw [if_neg q, if_neg fun r => q (key.mp r)]
theorem own_cod_ne {cs ds : List Int32} {cd ce zz ze : Int32} {bs be : List Value} (h1 : own_cod cs cd zz bs) (h2 : own_cod ds ce ze be) (hne : ¬ cd = ce) : own_eqv cs ds = 0 := by
  unfold own_eqv
  rw [if_neg]
  intro q; subst q
  rcases h1 with ⟨f1, rfl, -⟩ | ⟨f1, rfl, -⟩ <;> rcases h2 with ⟨f2, rfl, -⟩ | ⟨f2, rfl, -⟩ <;> first | exact hne rfl | omega
theorem own_cod_ints {cs : List Int32} {cd zz : Int32} {bs : List Value} (h : own_cod cs cd zz bs) : ∃ ib : List Int32, bs = ib.map Value.int ∧ zz = Int32.ofNat ib.length ∧ ib.length ≤ 2 * cs.length := by
  rcases h with ⟨-, -, rfl, rfl⟩ | ⟨-, -, rfl, rfl⟩
  · exact ⟨own_li cs, own_li_eq cs, by rw [own_li_len], by rw [own_li_len]; omega⟩
  · exact ⟨own_ui cs, own_ui_eq cs, by rw [own_ui_len], by rw [own_ui_len]; omega⟩
theorem own_eqv01 (cs ds : List Int32) : own_eqv cs ds = 0 ∨ own_eqv cs ds = 1 := by unfold own_eqv; split <;> simp
theorem own_nz01 {x : Int32} (h : x = 0 ∨ x = 1) : nar .boolean x = x := by rcases h with rfl | rfl <;> decide
theorem own_same_txt {Z : State} {h : Heap} {t : Addr} {k1 k2 : ClassId} {cd zz ze : Int32} {bs be : List Value} {cs ds : List Int32} (A : Arv Z h t k1 .byte zz bs (.int 0)) (B : Arv Z h t k2 .byte ze be (.int 0)) (h1 : own_cod cs cd zz bs) (h2 : own_cod ds cd ze be) (k1 : own_chs cs) (k2 : own_chs ds) (n1 : cs.length < 536870912) (n2 : ds.length < 536870912) : own_eqv cs ds = 1 := by
  obtain ⟨ib, ei, ezi, eli⟩ := own_cod_ints h1
  obtain ⟨ie, ej, ezj, elj⟩ := own_cod_ints h2
  have key := own_cod_eq h1 h2 k1 k2 ei ej
  rw [← key]
  apply if_pos
  have e1 : zz.toNatClampNeg = ib.length := by rw [ezi]; exact own_clamp (by omega)
  have e2 : ze.toNatClampNeg = ie.length := by rw [ezj]; exact own_clamp (by omega)
  have hl : ib.length = ie.length := by
    rcases Nat.decEq ib.length ie.length with q | q
    · exact absurd rfl (arv_ne A B (Or.inl (by rw [e1, e2]; exact q)))
    · exact q
  refine own_ext ib ie hl fun i hi => ?_
  rcases (inferInstance : Decidable (ib.getD i 0 = ie.getD i 0)) with q | q
  · refine absurd rfl (arv_ne A B (Or.inr ⟨i, by rw [e1]; exact hi, fun r => q ?_⟩))
    rw [ei, ej, own_getc, own_getc] at r
    exact Value.int.inj r
  · exact q
/-- the first place of the sign, or the length -/
def own_pos (ch : Int32) : List Int32 → Nat
  | [] => 0
  | c :: cs => if c = ch then 0 else own_pos ch cs + 1
theorem own_pos_le (ch : Int32) : ∀ cs : List Int32, own_pos ch cs ≤ cs.length
  | [] => Nat.le_refl _
  | c :: cs => by
    unfold own_pos; split
    · simp
    · have := own_pos_le ch cs; simp; omega
theorem own_pos_ne (ch : Int32) : ∀ (cs : List Int32) (i : Nat), i < own_pos ch cs → ¬ cs.getD i 0 = ch
  | [], i, h => by simp [own_pos] at h
  | c :: cs, i, h => by
    unfold own_pos at h; split at h
    · omega
    · rename_i hc
      cases i with
      | zero => simpa using hc
      | succ i => simpa using own_pos_ne ch cs i (by omega)
theorem own_pos_eq (ch : Int32) : ∀ (cs : List Int32), own_pos ch cs < cs.length → cs.getD (own_pos ch cs) 0 = ch
  | [], h => by simp at h
  | c :: cs, h => by
    unfold own_pos at h ⊢; split
    · rename_i hc; simpa using hc
    · rename_i hc
      rw [if_neg hc] at h
      simpa using own_pos_eq ch cs (by simpa using h)
/-- indexOf -/
def own_ix (ch : Int32) (cs : List Int32) : Int32 := if own_pos ch cs < cs.length then Int32.ofNat (own_pos ch cs) else -1
theorem own_b44 {c : Int32} (h0 : ¬ c < 0) (h1 : ¬ 255 < c) (ch : Int32) (k0 : ¬ ch < 0) (k1 : ¬ 255 < ch) : c.toInt8.toInt32 = ch.toInt8.toInt32 ↔ c = ch := by
  refine ⟨fun q => ?_, fun q => by rw [q]⟩
  have a := own_back8 h0 h1; have b := own_back8 k0 k1
  rw [q] at a; exact a.symm.trans b
def own_delim (cs : List Int32) : Int32 := if cs = [49, 54, 82] ∨ cs = [49, 54, 83] then 1 else 0
def own_tagc (n a b c d : Int32) : List Int32 := if n = 0 then [] else if n = 1 then [a] else if n = 2 then [a, b] else if n = 3 then [a, b, c] else [a, b, c, d]
theorem own_delim_tag (n a b c d : Int32) : own_delim (own_tagc n a b c d) = if n = 3 ∧ a = 49 ∧ b = 54 ∧ (c = 82 ∨ c = 83) then 1 else 0 := by
  unfold own_delim own_tagc
  by_cases h0 : n = 0
  · subst h0; simp
  · by_cases h1 : n = 1
    · subst h1; simp
    · by_cases h2 : n = 2
      · subst h2; simp
      · by_cases h3 : n = 3
        · subst h3
          simp only [if_neg h0, if_neg h1, if_neg h2, if_true, List.cons.injEq, and_true, true_and]
          congr 1
          simp only [eq_iff_iff]
          constructor
          · rintro (⟨q1, q2, q3⟩ | ⟨q1, q2, q3⟩)
            · exact ⟨q1, q2, Or.inl q3⟩
            · exact ⟨q1, q2, Or.inr q3⟩
          · rintro ⟨q1, q2, q3 | q3⟩
            · exact Or.inl ⟨q1, q2, q3⟩
            · exact Or.inr ⟨q1, q2, q3⟩
        · simp [h0, h1, h2, h3]
theorem own_c0 : own_chs [] := fun _ q => nomatch q
theorem own_cS {c : Int32} {L : List Int32} (q : ¬ c < 0 ∧ ¬ 255 < c) (r : own_chs L) : own_chs (c :: L) := fun x z => (List.mem_cons.mp z).elim (fun u => u ▸ ⟨q.1, own_255 q.2⟩) (r x)
theorem own_tag_chs {n a b c d : Int32} (ha : ¬ a < 0 ∧ ¬ 255 < a) (hb : ¬ b < 0 ∧ ¬ 255 < b) (hc : ¬ c < 0 ∧ ¬ 255 < c) (hd : ¬ d < 0 ∧ ¬ 255 < d) : own_chs (own_tagc n a b c d) := by
  unfold own_tagc
  split
  · exact own_c0
  · split
    · exact own_cS ha own_c0
    · split
      · exact own_cS ha (own_cS hb own_c0)
      · split
        · exact own_cS ha (own_cS hb (own_cS hc own_c0))
        · exact own_cS ha (own_cS hb (own_cS hc (own_cS hd own_c0)))
theorem own_tag_len (n a b c d : Int32) : (own_tagc n a b c d).length < 536870912 := by
  unfold own_tagc; split <;> (try split) <;> (try split) <;> (try split) <;> simp
theorem own_mask_rng (x : Int32) : ¬ (x &&& 255) < 0 ∧ ¬ 255 < (x &&& 255) := ⟨by
  have q := (c_and x 255 (by decide)).1
  rw [Int32.lt_iff_toInt_lt]; show ¬ (_ < (0 : Int)); exact Int.not_lt.mpr q, own_and255 x⟩
theorem own_codOfL {cs : List Int32} (h : ∀ c ∈ cs, ¬ 255 < c) : own_cod cs 0 (Int32.ofNat cs.length) (own_lat cs) := Or.inl ⟨own_fst_all cs h, rfl, rfl, rfl⟩
theorem d_jdk_30_1_0 : decode jdk_30_method_1_code 0 = .ok (.aload_n 0, 1) := by decide +kernel
theorem d_jdk_30_1_1 : decode jdk_30_method_1_code 1 = .ok (.invokespecial 1, 3) := by decide +kernel
theorem d_jdk_30_1_4 : decode jdk_30_method_1_code 4 = .ok (.return_, 1) := by decide +kernel
theorem d_jdk_42_139_0 : decode jdk_42_method_139_code 0 = .ok (.getstatic 38, 3) := by decide +kernel
theorem d_jdk_42_139_3 : decode jdk_42_method_139_code 3 = .ok (.ifCond .eq 23, 3) := by decide +kernel
theorem d_jdk_42_139_6 : decode jdk_42_method_139_code 6 = .ok (.iload_n 0, 1) := by decide +kernel
theorem d_jdk_42_139_7 : decode jdk_42_method_139_code 7 = .ok (.invokestatic 1015, 3) := by decide +kernel
theorem d_jdk_42_139_10 : decode jdk_42_method_139_code 10 = .ok (.ifCond .eq 16, 3) := by decide +kernel
theorem d_jdk_42_139_13 : decode jdk_42_method_139_code 13 = .ok (.new 10, 3) := by decide +kernel
theorem d_jdk_42_139_16 : decode jdk_42_method_139_code 16 = .ok (.dup, 1) := by decide +kernel
theorem d_jdk_42_139_17 : decode jdk_42_method_139_code 17 = .ok (.iload_n 0, 1) := by decide +kernel
theorem d_jdk_42_139_18 : decode jdk_42_method_139_code 18 = .ok (.invokestatic 1018, 3) := by decide +kernel
theorem d_jdk_42_139_21 : decode jdk_42_method_139_code 21 = .ok (.iconst 0, 1) := by decide +kernel
theorem d_jdk_42_139_22 : decode jdk_42_method_139_code 22 = .ok (.invokespecial 209, 3) := by decide +kernel
theorem d_jdk_42_139_25 : decode jdk_42_method_139_code 25 = .ok (.areturn, 1) := by decide +kernel
theorem d_jdk_42_149_0 : decode jdk_42_method_149_code 0 = .ok (.aload_n 0, 1) := by decide +kernel
theorem d_jdk_42_149_1 : decode jdk_42_method_149_code 1 = .ok (.invokespecial 1, 3) := by decide +kernel
theorem d_jdk_42_149_4 : decode jdk_42_method_149_code 4 = .ok (.iload_n 3, 1) := by decide +kernel
theorem d_jdk_42_149_5 : decode jdk_42_method_149_code 5 = .ok (.ifCond .ne 22, 3) := by decide +kernel
theorem d_jdk_42_149_8 : decode jdk_42_method_149_code 8 = .ok (.aload_n 0, 1) := by decide +kernel
theorem d_jdk_42_149_9 : decode jdk_42_method_149_code 9 = .ok (.ldc 7, 2) := by decide +kernel
theorem d_jdk_42_149_11 : decode jdk_42_method_149_code 11 = .ok (.getfield 9, 3) := by decide +kernel
theorem d_jdk_42_149_14 : decode jdk_42_method_149_code 14 = .ok (.putfield 9, 3) := by decide +kernel
theorem d_jdk_42_149_17 : decode jdk_42_method_149_code 17 = .ok (.aload_n 0, 1) := by decide +kernel
theorem d_jdk_42_149_18 : decode jdk_42_method_149_code 18 = .ok (.ldc 7, 2) := by decide +kernel
theorem d_jdk_42_149_20 : decode jdk_42_method_149_code 20 = .ok (.getfield 15, 3) := by decide +kernel
theorem d_jdk_42_149_23 : decode jdk_42_method_149_code 23 = .ok (.putfield 15, 3) := by decide +kernel
theorem d_jdk_42_149_26 : decode jdk_42_method_149_code 26 = .ok (.return_, 1) := by decide +kernel
theorem d_jdk_42_149_27 : decode jdk_42_method_149_code 27 = .ok (.getstatic 38, 3) := by decide +kernel
theorem d_jdk_42_149_30 : decode jdk_42_method_149_code 30 = .ok (.ifCond .eq 28, 3) := by decide +kernel
theorem d_jdk_42_149_33 : decode jdk_42_method_149_code 33 = .ok (.aload_n 1, 1) := by decide +kernel
theorem d_jdk_42_149_34 : decode jdk_42_method_149_code 34 = .ok (.iload_n 2, 1) := by decide +kernel
theorem d_jdk_42_149_35 : decode jdk_42_method_149_code 35 = .ok (.iload_n 3, 1) := by decide +kernel
theorem d_jdk_42_149_36 : decode jdk_42_method_149_code 36 = .ok (.invokestatic 177, 3) := by decide +kernel
theorem d_jdk_42_149_39 : decode jdk_42_method_149_code 39 = .ok (.astore 5, 2) := by decide +kernel
theorem d_jdk_42_149_41 : decode jdk_42_method_149_code 41 = .ok (.aload_n 0, 1) := by decide +kernel
theorem d_jdk_42_149_42 : decode jdk_42_method_149_code 42 = .ok (.aload 5, 2) := by decide +kernel
theorem d_jdk_42_149_44 : decode jdk_42_method_149_code 44 = .ok (.iload_n 3, 1) := by decide +kernel
theorem d_jdk_42_149_45 : decode jdk_42_method_149_code 45 = .ok (.invokestatic 47, 3) := by decide +kernel
theorem d_jdk_42_149_48 : decode jdk_42_method_149_code 48 = .ok (.putfield 15, 3) := by decide +kernel
theorem d_jdk_42_149_51 : decode jdk_42_method_149_code 51 = .ok (.aload_n 0, 1) := by decide +kernel
theorem d_jdk_42_149_52 : decode jdk_42_method_149_code 52 = .ok (.aload 5, 2) := by decide +kernel
theorem d_jdk_42_149_54 : decode jdk_42_method_149_code 54 = .ok (.putfield 9, 3) := by decide +kernel
theorem d_jdk_42_149_57 : decode jdk_42_method_149_code 57 = .ok (.return_, 1) := by decide +kernel
theorem d_jdk_42_151_0 : decode jdk_42_method_151_code 0 = .ok (.aload_n 0, 1) := by decide +kernel
theorem d_jdk_42_151_1 : decode jdk_42_method_151_code 1 = .ok (.invokespecial 1, 3) := by decide +kernel
theorem d_jdk_42_151_4 : decode jdk_42_method_151_code 4 = .ok (.aload_n 0, 1) := by decide +kernel
theorem d_jdk_42_151_5 : decode jdk_42_method_151_code 5 = .ok (.aload_n 1, 1) := by decide +kernel
theorem d_jdk_42_151_6 : decode jdk_42_method_151_code 6 = .ok (.putfield 9, 3) := by decide +kernel
theorem d_jdk_42_151_9 : decode jdk_42_method_151_code 9 = .ok (.aload_n 0, 1) := by decide +kernel
theorem d_jdk_42_151_10 : decode jdk_42_method_151_code 10 = .ok (.iload_n 2, 1) := by decide +kernel
theorem d_jdk_42_151_11 : decode jdk_42_method_151_code 11 = .ok (.putfield 15, 3) := by decide +kernel
theorem d_jdk_42_151_14 : decode jdk_42_method_151_code 14 = .ok (.return_, 1) := by decide +kernel
theorem d_jdk_42_3_0 : decode jdk_42_method_3_code 0 = .ok (.aload_n 0, 1) := by decide +kernel
theorem d_jdk_42_3_1 : decode jdk_42_method_3_code 1 = .ok (.aload_n 1, 1) := by decide +kernel
theorem d_jdk_42_3_2 : decode jdk_42_method_3_code 2 = .ok (.iconst 0, 1) := by decide +kernel
theorem d_jdk_42_3_3 : decode jdk_42_method_3_code 3 = .ok (.aload_n 1, 1) := by decide +kernel
theorem d_jdk_42_3_4 : decode jdk_42_method_3_code 4 = .ok (.arraylength, 1) := by decide +kernel
theorem d_jdk_42_3_5 : decode jdk_42_method_3_code 5 = .ok (.aconst_null, 1) := by decide +kernel
theorem d_jdk_42_3_6 : decode jdk_42_method_3_code 6 = .ok (.invokespecial 27, 3) := by decide +kernel
theorem d_jdk_42_3_9 : decode jdk_42_method_3_code 9 = .ok (.return_, 1) := by decide +kernel
theorem d_jdk_42_66_0 : decode jdk_42_method_66_code 0 = .ok (.aload_n 0, 1) := by decide +kernel
theorem d_jdk_42_66_1 : decode jdk_42_method_66_code 1 = .ok (.aload_n 1, 1) := by decide +kernel
theorem d_jdk_42_66_2 : decode jdk_42_method_66_code 2 = .ok (.if_acmp .ne 5, 3) := by decide +kernel
theorem d_jdk_42_66_5 : decode jdk_42_method_66_code 5 = .ok (.iconst 1, 1) := by decide +kernel
theorem d_jdk_42_66_6 : decode jdk_42_method_66_code 6 = .ok (.ireturn, 1) := by decide +kernel
theorem d_jdk_42_66_7 : decode jdk_42_method_66_code 7 = .ok (.aload_n 1, 1) := by decide +kernel
theorem d_jdk_42_66_8 : decode jdk_42_method_66_code 8 = .ok (.instanceof 10, 3) := by decide +kernel
theorem d_jdk_42_66_11 : decode jdk_42_method_66_code 11 = .ok (.ifCond .eq 43, 3) := by decide +kernel
theorem d_jdk_42_66_14 : decode jdk_42_method_66_code 14 = .ok (.aload_n 1, 1) := by decide +kernel
theorem d_jdk_42_66_15 : decode jdk_42_method_66_code 15 = .ok (.checkcast 10, 3) := by decide +kernel
theorem d_jdk_42_66_18 : decode jdk_42_method_66_code 18 = .ok (.astore_n 2, 1) := by decide +kernel
theorem d_jdk_42_66_19 : decode jdk_42_method_66_code 19 = .ok (.getstatic 38, 3) := by decide +kernel
theorem d_jdk_42_66_22 : decode jdk_42_method_66_code 22 = .ok (.ifCond .eq 14, 3) := by decide +kernel
theorem d_jdk_42_66_25 : decode jdk_42_method_66_code 25 = .ok (.aload_n 0, 1) := by decide +kernel
theorem d_jdk_42_66_26 : decode jdk_42_method_66_code 26 = .ok (.getfield 15, 3) := by decide +kernel
theorem d_jdk_42_66_29 : decode jdk_42_method_66_code 29 = .ok (.aload_n 2, 1) := by decide +kernel
theorem d_jdk_42_66_30 : decode jdk_42_method_66_code 30 = .ok (.getfield 15, 3) := by decide +kernel
theorem d_jdk_42_66_33 : decode jdk_42_method_66_code 33 = .ok (.if_icmp .ne 21, 3) := by decide +kernel
theorem d_jdk_42_66_36 : decode jdk_42_method_66_code 36 = .ok (.aload_n 0, 1) := by decide +kernel
theorem d_jdk_42_66_37 : decode jdk_42_method_66_code 37 = .ok (.getfield 9, 3) := by decide +kernel
theorem d_jdk_42_66_40 : decode jdk_42_method_66_code 40 = .ok (.aload_n 2, 1) := by decide +kernel
theorem d_jdk_42_66_41 : decode jdk_42_method_66_code 41 = .ok (.getfield 9, 3) := by decide +kernel
theorem d_jdk_42_66_44 : decode jdk_42_method_66_code 44 = .ok (.invokestatic 541, 3) := by decide +kernel
theorem d_jdk_42_66_47 : decode jdk_42_method_66_code 47 = .ok (.ifCond .eq 7, 3) := by decide +kernel
theorem d_jdk_42_66_50 : decode jdk_42_method_66_code 50 = .ok (.iconst 1, 1) := by decide +kernel
theorem d_jdk_42_66_51 : decode jdk_42_method_66_code 51 = .ok (.goto 4, 3) := by decide +kernel
theorem d_jdk_42_66_54 : decode jdk_42_method_66_code 54 = .ok (.iconst 0, 1) := by decide +kernel
theorem d_jdk_42_66_55 : decode jdk_42_method_66_code 55 = .ok (.ireturn, 1) := by decide +kernel
theorem d_jdk_43_13_0 : decode jdk_43_method_13_code 0 = .ok (.aload_n 0, 1) := by decide +kernel
theorem d_jdk_43_13_1 : decode jdk_43_method_13_code 1 = .ok (.arraylength, 1) := by decide +kernel
theorem d_jdk_43_13_2 : decode jdk_43_method_13_code 2 = .ok (.aload_n 1, 1) := by decide +kernel
theorem d_jdk_43_13_3 : decode jdk_43_method_13_code 3 = .ok (.arraylength, 1) := by decide +kernel
theorem d_jdk_43_13_4 : decode jdk_43_method_13_code 4 = .ok (.if_icmp .ne 30, 3) := by decide +kernel
theorem d_jdk_43_13_7 : decode jdk_43_method_13_code 7 = .ok (.iconst 0, 1) := by decide +kernel
theorem d_jdk_43_13_8 : decode jdk_43_method_13_code 8 = .ok (.istore_n 2, 1) := by decide +kernel
theorem d_jdk_43_13_9 : decode jdk_43_method_13_code 9 = .ok (.iload_n 2, 1) := by decide +kernel
theorem d_jdk_43_13_10 : decode jdk_43_method_13_code 10 = .ok (.aload_n 0, 1) := by decide +kernel
theorem d_jdk_43_13_11 : decode jdk_43_method_13_code 11 = .ok (.arraylength, 1) := by decide +kernel
theorem d_jdk_43_13_12 : decode jdk_43_method_13_code 12 = .ok (.if_icmp .ge 20, 3) := by decide +kernel
theorem d_jdk_43_13_15 : decode jdk_43_method_13_code 15 = .ok (.aload_n 0, 1) := by decide +kernel
theorem d_jdk_43_13_16 : decode jdk_43_method_13_code 16 = .ok (.iload_n 2, 1) := by decide +kernel
theorem d_jdk_43_13_17 : decode jdk_43_method_13_code 17 = .ok (.baload, 1) := by decide +kernel
theorem d_jdk_43_13_18 : decode jdk_43_method_13_code 18 = .ok (.aload_n 1, 1) := by decide +kernel
theorem d_jdk_43_13_19 : decode jdk_43_method_13_code 19 = .ok (.iload_n 2, 1) := by decide +kernel
theorem d_jdk_43_13_20 : decode jdk_43_method_13_code 20 = .ok (.baload, 1) := by decide +kernel
theorem d_jdk_43_13_21 : decode jdk_43_method_13_code 21 = .ok (.if_icmp .eq 5, 3) := by decide +kernel
theorem d_jdk_43_13_24 : decode jdk_43_method_13_code 24 = .ok (.iconst 0, 1) := by decide +kernel
theorem d_jdk_43_13_25 : decode jdk_43_method_13_code 25 = .ok (.ireturn, 1) := by decide +kernel
theorem d_jdk_43_13_26 : decode jdk_43_method_13_code 26 = .ok (.iinc 2 1, 3) := by decide +kernel
theorem d_jdk_43_13_29 : decode jdk_43_method_13_code 29 = .ok (.goto (-20), 3) := by decide +kernel
theorem d_jdk_43_13_32 : decode jdk_43_method_13_code 32 = .ok (.iconst 1, 1) := by decide +kernel
theorem d_jdk_43_13_33 : decode jdk_43_method_13_code 33 = .ok (.ireturn, 1) := by decide +kernel
theorem d_jdk_43_13_34 : decode jdk_43_method_13_code 34 = .ok (.iconst 0, 1) := by decide +kernel
theorem d_jdk_43_13_35 : decode jdk_43_method_13_code 35 = .ok (.ireturn, 1) := by decide +kernel
theorem d_jdk_43_3_0 : decode jdk_43_method_3_code 0 = .ok (.iload_n 0, 1) := by decide +kernel
theorem d_jdk_43_3_1 : decode jdk_43_method_3_code 1 = .ok (.sipush 255, 3) := by decide +kernel
theorem d_jdk_43_3_4 : decode jdk_43_method_3_code 4 = .ok (.if_icmp .gt 7, 3) := by decide +kernel
theorem d_jdk_43_3_7 : decode jdk_43_method_3_code 7 = .ok (.iconst 1, 1) := by decide +kernel
theorem d_jdk_43_3_8 : decode jdk_43_method_3_code 8 = .ok (.goto 4, 3) := by decide +kernel
theorem d_jdk_43_3_12 : decode jdk_43_method_3_code 12 = .ok (.ireturn, 1) := by decide +kernel
theorem d_jdk_43_46_0 : decode jdk_43_method_46_code 0 = .ok (.iconst 1, 1) := by decide +kernel
theorem d_jdk_43_46_1 : decode jdk_43_method_46_code 1 = .ok (.newarray .byte, 2) := by decide +kernel
theorem d_jdk_43_46_3 : decode jdk_43_method_46_code 3 = .ok (.dup, 1) := by decide +kernel
theorem d_jdk_43_46_4 : decode jdk_43_method_46_code 4 = .ok (.iconst 0, 1) := by decide +kernel
theorem d_jdk_43_46_5 : decode jdk_43_method_46_code 5 = .ok (.iload_n 0, 1) := by decide +kernel
theorem d_jdk_43_46_6 : decode jdk_43_method_46_code 6 = .ok (.i2b, 1) := by decide +kernel
theorem d_jdk_43_46_7 : decode jdk_43_method_46_code 7 = .ok (.bastore, 1) := by decide +kernel
theorem d_jdk_43_46_8 : decode jdk_43_method_46_code 8 = .ok (.areturn, 1) := by decide +kernel
theorem d_jdk_52_15_0 : decode jdk_52_method_15_code 0 = .ok (.iload_n 1, 1) := by decide +kernel
theorem d_jdk_52_15_1 : decode jdk_52_method_15_code 1 = .ok (.aload_n 0, 1) := by decide +kernel
theorem d_jdk_52_15_2 : decode jdk_52_method_15_code 2 = .ok (.arraylength, 1) := by decide +kernel
theorem d_jdk_52_15_3 : decode jdk_52_method_15_code 3 = .ok (.isub, 1) := by decide +kernel
theorem d_jdk_52_15_4 : decode jdk_52_method_15_code 4 = .ok (.bipush 31, 2) := by decide +kernel
theorem d_jdk_52_15_6 : decode jdk_52_method_15_code 6 = .ok (.iushr, 1) := by decide +kernel
theorem d_jdk_52_15_7 : decode jdk_52_method_15_code 7 = .ok (.i2b, 1) := by decide +kernel
theorem d_jdk_52_15_8 : decode jdk_52_method_15_code 8 = .ok (.ireturn, 1) := by decide +kernel
theorem d_jdk_52_16_0 : decode jdk_52_method_16_code 0 = .ok (.iload_n 2, 1) := by decide +kernel
theorem d_jdk_52_16_1 : decode jdk_52_method_16_code 1 = .ok (.newarray .byte, 2) := by decide +kernel
theorem d_jdk_52_16_3 : decode jdk_52_method_16_code 3 = .ok (.astore_n 3, 1) := by decide +kernel
theorem d_jdk_52_16_4 : decode jdk_52_method_16_code 4 = .ok (.aload_n 0, 1) := by decide +kernel
theorem d_jdk_52_16_5 : decode jdk_52_method_16_code 5 = .ok (.iload_n 1, 1) := by decide +kernel
theorem d_jdk_52_16_6 : decode jdk_52_method_16_code 6 = .ok (.aload_n 3, 1) := by decide +kernel
theorem d_jdk_52_16_7 : decode jdk_52_method_16_code 7 = .ok (.iconst 0, 1) := by decide +kernel
theorem d_jdk_52_16_8 : decode jdk_52_method_16_code 8 = .ok (.iload_n 2, 1) := by decide +kernel
theorem d_jdk_52_16_9 : decode jdk_52_method_16_code 9 = .ok (.invokestatic 115, 3) := by decide +kernel
theorem d_jdk_52_16_12 : decode jdk_52_method_16_code 12 = .ok (.istore 4, 2) := by decide +kernel
theorem d_jdk_52_16_14 : decode jdk_52_method_16_code 14 = .ok (.iload 4, 2) := by decide +kernel
theorem d_jdk_52_16_16 : decode jdk_52_method_16_code 16 = .ok (.iload_n 2, 1) := by decide +kernel
theorem d_jdk_52_16_17 : decode jdk_52_method_16_code 17 = .ok (.if_icmp .eq 40, 3) := by decide +kernel
theorem d_jdk_52_16_57 : decode jdk_52_method_16_code 57 = .ok (.aload_n 3, 1) := by decide +kernel
theorem d_jdk_52_16_58 : decode jdk_52_method_16_code 58 = .ok (.areturn, 1) := by decide +kernel
theorem d_jdk_52_21_0 : decode jdk_52_method_21_code 0 = .ok (.iconst 0, 1) := by decide +kernel
theorem d_jdk_52_21_1 : decode jdk_52_method_21_code 1 = .ok (.istore 5, 2) := by decide +kernel
theorem d_jdk_52_21_3 : decode jdk_52_method_21_code 3 = .ok (.iload 5, 2) := by decide +kernel
theorem d_jdk_52_21_5 : decode jdk_52_method_21_code 5 = .ok (.iload 4, 2) := by decide +kernel
theorem d_jdk_52_21_7 : decode jdk_52_method_21_code 7 = .ok (.if_icmp .ge 37, 3) := by decide +kernel
theorem d_jdk_52_21_10 : decode jdk_52_method_21_code 10 = .ok (.aload_n 0, 1) := by decide +kernel
theorem d_jdk_52_21_11 : decode jdk_52_method_21_code 11 = .ok (.iload_n 1, 1) := by decide +kernel
theorem d_jdk_52_21_12 : decode jdk_52_method_21_code 12 = .ok (.caload, 1) := by decide +kernel
theorem d_jdk_52_21_13 : decode jdk_52_method_21_code 13 = .ok (.istore 6, 2) := by decide +kernel
theorem d_jdk_52_21_15 : decode jdk_52_method_21_code 15 = .ok (.iload 6, 2) := by decide +kernel
theorem d_jdk_52_21_17 : decode jdk_52_method_21_code 17 = .ok (.sipush 255, 3) := by decide +kernel
theorem d_jdk_52_21_20 : decode jdk_52_method_21_code 20 = .ok (.if_icmp .le 6, 3) := by decide +kernel
theorem d_jdk_52_21_23 : decode jdk_52_method_21_code 23 = .ok (.iload 5, 2) := by decide +kernel
theorem d_jdk_52_21_25 : decode jdk_52_method_21_code 25 = .ok (.ireturn, 1) := by decide +kernel
theorem d_jdk_52_21_26 : decode jdk_52_method_21_code 26 = .ok (.aload_n 2, 1) := by decide +kernel
theorem d_jdk_52_21_27 : decode jdk_52_method_21_code 27 = .ok (.iload_n 3, 1) := by decide +kernel
theorem d_jdk_52_21_28 : decode jdk_52_method_21_code 28 = .ok (.iload 6, 2) := by decide +kernel
theorem d_jdk_52_21_30 : decode jdk_52_method_21_code 30 = .ok (.i2b, 1) := by decide +kernel
theorem d_jdk_52_21_31 : decode jdk_52_method_21_code 31 = .ok (.bastore, 1) := by decide +kernel
theorem d_jdk_52_21_32 : decode jdk_52_method_21_code 32 = .ok (.iinc 1 1, 3) := by decide +kernel
theorem d_jdk_52_21_35 : decode jdk_52_method_21_code 35 = .ok (.iinc 3 1, 3) := by decide +kernel
theorem d_jdk_52_21_38 : decode jdk_52_method_21_code 38 = .ok (.iinc 5 1, 3) := by decide +kernel
theorem d_jdk_52_21_41 : decode jdk_52_method_21_code 41 = .ok (.goto (-38), 3) := by decide +kernel
theorem d_jdk_52_21_44 : decode jdk_52_method_21_code 44 = .ok (.iload 4, 2) := by decide +kernel
theorem d_jdk_52_21_46 : decode jdk_52_method_21_code 46 = .ok (.ireturn, 1) := by decide +kernel
theorem d_2_0 : decode method_2_code 0 = .ok (.iload_n 0, 1) := by decide +kernel
theorem d_2_1 : decode method_2_code 1 = .ok (.sipush 256, 3) := by decide +kernel
theorem d_2_4 : decode method_2_code 4 = .ok (.iand, 1) := by decide +kernel
theorem d_2_5 : decode method_2_code 5 = .ok (.ifCond .eq 7, 3) := by decide +kernel
theorem d_2_8 : decode method_2_code 8 = .ok (.iload_n 1, 1) := by decide +kernel
theorem d_2_9 : decode method_2_code 9 = .ok (.goto 9, 3) := by decide +kernel
theorem d_2_12 : decode method_2_code 12 = .ok (.iload_n 0, 1) := by decide +kernel
theorem d_2_13 : decode method_2_code 13 = .ok (.sipush 255, 3) := by decide +kernel
theorem d_2_16 : decode method_2_code 16 = .ok (.iand, 1) := by decide +kernel
theorem d_2_17 : decode method_2_code 17 = .ok (.i2c, 1) := by decide +kernel
theorem d_2_18 : decode method_2_code 18 = .ok (.ireturn, 1) := by decide +kernel
theorem d_3_0 : decode method_3_code 0 = .ok (.iload_n 0, 1) := by decide +kernel
theorem d_3_1 : decode method_3_code 1 = .ok (.ifCond .ne 14, 3) := by decide +kernel
theorem d_3_4 : decode method_3_code 4 = .ok (.new 7, 3) := by decide +kernel
theorem d_3_7 : decode method_3_code 7 = .ok (.dup, 1) := by decide +kernel
theorem d_3_8 : decode method_3_code 8 = .ok (.iconst 0, 1) := by decide +kernel
theorem d_3_9 : decode method_3_code 9 = .ok (.newarray .char, 2) := by decide +kernel
theorem d_3_11 : decode method_3_code 11 = .ok (.invokespecial 9, 3) := by decide +kernel
theorem d_3_14 : decode method_3_code 14 = .ok (.areturn, 1) := by decide +kernel
theorem d_3_15 : decode method_3_code 15 = .ok (.iload_n 0, 1) := by decide +kernel
theorem d_3_16 : decode method_3_code 16 = .ok (.iconst 1, 1) := by decide +kernel
theorem d_3_17 : decode method_3_code 17 = .ok (.if_icmp .ne 18, 3) := by decide +kernel
theorem d_3_20 : decode method_3_code 20 = .ok (.new 7, 3) := by decide +kernel
theorem d_3_23 : decode method_3_code 23 = .ok (.dup, 1) := by decide +kernel
theorem d_3_24 : decode method_3_code 24 = .ok (.iconst 1, 1) := by decide +kernel
theorem d_3_25 : decode method_3_code 25 = .ok (.newarray .char, 2) := by decide +kernel
theorem d_3_27 : decode method_3_code 27 = .ok (.dup, 1) := by decide +kernel
theorem d_3_28 : decode method_3_code 28 = .ok (.iconst 0, 1) := by decide +kernel
theorem d_3_29 : decode method_3_code 29 = .ok (.iload_n 1, 1) := by decide +kernel
theorem d_3_30 : decode method_3_code 30 = .ok (.castore, 1) := by decide +kernel
theorem d_3_31 : decode method_3_code 31 = .ok (.invokespecial 9, 3) := by decide +kernel
theorem d_3_34 : decode method_3_code 34 = .ok (.areturn, 1) := by decide +kernel
theorem d_3_35 : decode method_3_code 35 = .ok (.iload_n 0, 1) := by decide +kernel
theorem d_3_36 : decode method_3_code 36 = .ok (.iconst 2, 1) := by decide +kernel
theorem d_3_37 : decode method_3_code 37 = .ok (.if_icmp .ne 22, 3) := by decide +kernel
theorem d_3_40 : decode method_3_code 40 = .ok (.new 7, 3) := by decide +kernel
theorem d_3_43 : decode method_3_code 43 = .ok (.dup, 1) := by decide +kernel
theorem d_3_44 : decode method_3_code 44 = .ok (.iconst 2, 1) := by decide +kernel
theorem d_3_45 : decode method_3_code 45 = .ok (.newarray .char, 2) := by decide +kernel
theorem d_3_47 : decode method_3_code 47 = .ok (.dup, 1) := by decide +kernel
theorem d_3_48 : decode method_3_code 48 = .ok (.iconst 0, 1) := by decide +kernel
theorem d_3_49 : decode method_3_code 49 = .ok (.iload_n 1, 1) := by decide +kernel
theorem d_3_50 : decode method_3_code 50 = .ok (.castore, 1) := by decide +kernel
theorem d_3_51 : decode method_3_code 51 = .ok (.dup, 1) := by decide +kernel
theorem d_3_52 : decode method_3_code 52 = .ok (.iconst 1, 1) := by decide +kernel
theorem d_3_53 : decode method_3_code 53 = .ok (.iload_n 2, 1) := by decide +kernel
theorem d_3_54 : decode method_3_code 54 = .ok (.castore, 1) := by decide +kernel
theorem d_3_55 : decode method_3_code 55 = .ok (.invokespecial 9, 3) := by decide +kernel
theorem d_3_58 : decode method_3_code 58 = .ok (.areturn, 1) := by decide +kernel
theorem d_3_59 : decode method_3_code 59 = .ok (.iload_n 0, 1) := by decide +kernel
theorem d_3_60 : decode method_3_code 60 = .ok (.iconst 3, 1) := by decide +kernel
theorem d_3_61 : decode method_3_code 61 = .ok (.if_icmp .ne 26, 3) := by decide +kernel
theorem d_3_64 : decode method_3_code 64 = .ok (.new 7, 3) := by decide +kernel
theorem d_3_67 : decode method_3_code 67 = .ok (.dup, 1) := by decide +kernel
theorem d_3_68 : decode method_3_code 68 = .ok (.iconst 3, 1) := by decide +kernel
theorem d_3_69 : decode method_3_code 69 = .ok (.newarray .char, 2) := by decide +kernel
theorem d_3_71 : decode method_3_code 71 = .ok (.dup, 1) := by decide +kernel
theorem d_3_72 : decode method_3_code 72 = .ok (.iconst 0, 1) := by decide +kernel
theorem d_3_73 : decode method_3_code 73 = .ok (.iload_n 1, 1) := by decide +kernel
theorem d_3_74 : decode method_3_code 74 = .ok (.castore, 1) := by decide +kernel
theorem d_3_75 : decode method_3_code 75 = .ok (.dup, 1) := by decide +kernel
theorem d_3_76 : decode method_3_code 76 = .ok (.iconst 1, 1) := by decide +kernel
theorem d_3_77 : decode method_3_code 77 = .ok (.iload_n 2, 1) := by decide +kernel
theorem d_3_78 : decode method_3_code 78 = .ok (.castore, 1) := by decide +kernel
theorem d_3_79 : decode method_3_code 79 = .ok (.dup, 1) := by decide +kernel
theorem d_3_80 : decode method_3_code 80 = .ok (.iconst 2, 1) := by decide +kernel
theorem d_3_81 : decode method_3_code 81 = .ok (.iload_n 3, 1) := by decide +kernel
theorem d_3_82 : decode method_3_code 82 = .ok (.castore, 1) := by decide +kernel
theorem d_3_83 : decode method_3_code 83 = .ok (.invokespecial 9, 3) := by decide +kernel
theorem d_3_86 : decode method_3_code 86 = .ok (.areturn, 1) := by decide +kernel
theorem d_3_87 : decode method_3_code 87 = .ok (.new 7, 3) := by decide +kernel
theorem d_3_90 : decode method_3_code 90 = .ok (.dup, 1) := by decide +kernel
theorem d_3_91 : decode method_3_code 91 = .ok (.iconst 4, 1) := by decide +kernel
theorem d_3_92 : decode method_3_code 92 = .ok (.newarray .char, 2) := by decide +kernel
theorem d_3_94 : decode method_3_code 94 = .ok (.dup, 1) := by decide +kernel
theorem d_3_95 : decode method_3_code 95 = .ok (.iconst 0, 1) := by decide +kernel
theorem d_3_96 : decode method_3_code 96 = .ok (.iload_n 1, 1) := by decide +kernel
theorem d_3_97 : decode method_3_code 97 = .ok (.castore, 1) := by decide +kernel
theorem d_3_98 : decode method_3_code 98 = .ok (.dup, 1) := by decide +kernel
theorem d_3_99 : decode method_3_code 99 = .ok (.iconst 1, 1) := by decide +kernel
theorem d_3_100 : decode method_3_code 100 = .ok (.iload_n 2, 1) := by decide +kernel
theorem d_3_101 : decode method_3_code 101 = .ok (.castore, 1) := by decide +kernel
theorem d_3_102 : decode method_3_code 102 = .ok (.dup, 1) := by decide +kernel
theorem d_3_103 : decode method_3_code 103 = .ok (.iconst 2, 1) := by decide +kernel
theorem d_3_104 : decode method_3_code 104 = .ok (.iload_n 3, 1) := by decide +kernel
theorem d_3_105 : decode method_3_code 105 = .ok (.castore, 1) := by decide +kernel
theorem d_3_106 : decode method_3_code 106 = .ok (.dup, 1) := by decide +kernel
theorem d_3_107 : decode method_3_code 107 = .ok (.iconst 3, 1) := by decide +kernel
theorem d_3_108 : decode method_3_code 108 = .ok (.iload 4, 2) := by decide +kernel
theorem d_3_110 : decode method_3_code 110 = .ok (.castore, 1) := by decide +kernel
theorem d_3_111 : decode method_3_code 111 = .ok (.invokespecial 9, 3) := by decide +kernel
theorem d_3_114 : decode method_3_code 114 = .ok (.areturn, 1) := by decide +kernel
theorem d_prog_107_1_0 : decode prog_107_method_1_code 0 = .ok (.aload_n 0, 1) := by decide +kernel
theorem d_prog_107_1_1 : decode prog_107_method_1_code 1 = .ok (.invokespecial 1, 3) := by decide +kernel
theorem d_prog_107_1_4 : decode prog_107_method_1_code 4 = .ok (.aload_n 2, 1) := by decide +kernel
theorem d_prog_107_1_5 : decode prog_107_method_1_code 5 = .ok (.invokestatic 7, 3) := by decide +kernel
theorem d_prog_107_1_8 : decode prog_107_method_1_code 8 = .ok (.astore_n 2, 1) := by decide +kernel
theorem d_prog_107_1_9 : decode prog_107_method_1_code 9 = .ok (.aload_n 0, 1) := by decide +kernel
theorem d_prog_107_1_10 : decode prog_107_method_1_code 10 = .ok (.iload_n 1, 1) := by decide +kernel
theorem d_prog_107_1_11 : decode prog_107_method_1_code 11 = .ok (.putfield 13, 3) := by decide +kernel
theorem d_prog_107_1_14 : decode prog_107_method_1_code 14 = .ok (.aload_n 0, 1) := by decide +kernel
theorem d_prog_107_1_15 : decode prog_107_method_1_code 15 = .ok (.aload_n 2, 1) := by decide +kernel
theorem d_prog_107_1_16 : decode prog_107_method_1_code 16 = .ok (.putfield 19, 3) := by decide +kernel
theorem d_prog_107_1_19 : decode prog_107_method_1_code 19 = .ok (.aload_n 0, 1) := by decide +kernel
theorem d_prog_107_1_20 : decode prog_107_method_1_code 20 = .ok (.aload_n 3, 1) := by decide +kernel
theorem d_prog_107_1_21 : decode prog_107_method_1_code 21 = .ok (.putfield 23, 3) := by decide +kernel
theorem d_prog_107_1_24 : decode prog_107_method_1_code 24 = .ok (.aload_n 0, 1) := by decide +kernel
theorem d_prog_107_1_25 : decode prog_107_method_1_code 25 = .ok (.aload 4, 2) := by decide +kernel
theorem d_prog_107_1_27 : decode prog_107_method_1_code 27 = .ok (.putfield 27, 3) := by decide +kernel
theorem d_prog_107_1_30 : decode prog_107_method_1_code 30 = .ok (.return_, 1) := by decide +kernel
theorem d_prog_107_3_0 : decode prog_107_method_3_code 0 = .ok (.aload_n 0, 1) := by decide +kernel
theorem d_prog_107_3_1 : decode prog_107_method_3_code 1 = .ok (.getfield 23, 3) := by decide +kernel
theorem d_prog_107_3_4 : decode prog_107_method_3_code 4 = .ok (.ldc 36, 2) := by decide +kernel
theorem d_prog_107_3_6 : decode prog_107_method_3_code 6 = .ok (.invokevirtual 38, 3) := by decide +kernel
theorem d_prog_107_3_9 : decode prog_107_method_3_code 9 = .ok (.ifCond .ne 15, 3) := by decide +kernel
theorem d_prog_107_3_12 : decode prog_107_method_3_code 12 = .ok (.aload_n 0, 1) := by decide +kernel
theorem d_prog_107_3_13 : decode prog_107_method_3_code 13 = .ok (.getfield 23, 3) := by decide +kernel
theorem d_prog_107_3_16 : decode prog_107_method_3_code 16 = .ok (.ldc 42, 2) := by decide +kernel
theorem d_prog_107_3_18 : decode prog_107_method_3_code 18 = .ok (.invokevirtual 38, 3) := by decide +kernel
theorem d_prog_107_3_21 : decode prog_107_method_3_code 21 = .ok (.ifCond .eq 7, 3) := by decide +kernel
theorem d_prog_107_3_24 : decode prog_107_method_3_code 24 = .ok (.iconst 1, 1) := by decide +kernel
theorem d_prog_107_3_25 : decode prog_107_method_3_code 25 = .ok (.goto 4, 3) := by decide +kernel
theorem d_prog_107_3_28 : decode prog_107_method_3_code 28 = .ok (.iconst 0, 1) := by decide +kernel
theorem d_prog_107_3_29 : decode prog_107_method_3_code 29 = .ok (.ireturn, 1) := by decide +kernel
theorem d_prog_85_3_0 : decode prog_85_method_3_code 0 = .ok (.aload_n 0, 1) := by decide +kernel
theorem d_prog_85_3_1 : decode prog_85_method_3_code 1 = .ok (.instanceof 8, 3) := by decide +kernel
theorem d_prog_85_3_4 : decode prog_85_method_3_code 4 = .ok (.ifCond .eq 10, 3) := by decide +kernel
theorem d_prog_85_3_7 : decode prog_85_method_3_code 7 = .ok (.aload_n 0, 1) := by decide +kernel
theorem d_prog_85_3_8 : decode prog_85_method_3_code 8 = .ok (.checkcast 8, 3) := by decide +kernel
theorem d_prog_85_3_11 : decode prog_85_method_3_code 11 = .ok (.astore_n 1, 1) := by decide +kernel
theorem d_prog_85_3_12 : decode prog_85_method_3_code 12 = .ok (.aload_n 1, 1) := by decide +kernel
theorem d_prog_85_3_13 : decode prog_85_method_3_code 13 = .ok (.areturn, 1) := by decide +kernel
theorem pd_0 : parseMethodDescriptor "([CI[BII)I" = some ⟨[(.array .char), .int, (.array .byte), .int, .int], some .int⟩ := by decide +kernel
theorem pd_1 : parseMethodDescriptor "([CII)[B" = some ⟨[(.array .char), .int, .int], some (.array .byte)⟩ := by decide +kernel
theorem pd_2 : parseMethodDescriptor "([BI)B" = some ⟨[(.array .byte), .int], some .byte⟩ := by decide +kernel
theorem pd_3 : parseMethodDescriptor "([CIILjava/lang/Void;)V" = some ⟨[(.array .char), .int, .int, (.object "java/lang/Void")], none⟩ := by decide +kernel
theorem pd_4 : parseMethodDescriptor "([B[B)Z" = some ⟨[(.array .byte), (.array .byte)], some .boolean⟩ := by decide +kernel
theorem pd_5 : parseMethodDescriptor "(C)Z" = some ⟨[.char], some .boolean⟩ := by decide +kernel
theorem pd_6 : parseMethodDescriptor "(C)[B" = some ⟨[.char], some (.array .byte)⟩ := by decide +kernel
theorem pd_7 : parseMethodDescriptor "([BB)V" = some ⟨[(.array .byte), .byte], none⟩ := by decide +kernel
theorem pd_8 : parseMethodDescriptor "()V" = some ⟨[], none⟩ := by decide +kernel
theorem pd_9 : parseMethodDescriptor "(Ljava/util/List;)Lcom/example/settlegram/settlegram/SequencePath;" = some ⟨[(.object "java/util/List")], some (.object "com/example/settlegram/settlegram/SequencePath")⟩ := by decide +kernel
theorem pd_10 : parseMethodDescriptor "(Ljava/lang/Object;)Z" = some ⟨[(.object "java/lang/Object")], some .boolean⟩ := by decide +kernel
theorem pd_11 : parseMethodDescriptor "([C)V" = some ⟨[(.array .char)], none⟩ := by decide +kernel
theorem pd_12 : parseMethodDescriptor "(IC)C" = some ⟨[.int, .char], some .char⟩ := by decide +kernel
theorem pd_13 : parseMethodDescriptor "(ICCCC)Ljava/lang/String;" = some ⟨[.int, .char, .char, .char, .char], some (.object "java/lang/String")⟩ := by decide +kernel
theorem pd_14 : parseMethodDescriptor "(C)Ljava/lang/String;" = some ⟨[.char], some (.object "java/lang/String")⟩ := by decide +kernel
theorem pd_15 : parseMethodDescriptor "(ILjava/util/List;Ljava/lang/String;Ljava/lang/String;)V" = some ⟨[.int, (.object "java/util/List"), (.object "java/lang/String"), (.object "java/lang/String")], none⟩ := by decide +kernel
theorem pd_16 : parseMethodDescriptor "()Z" = some ⟨[], some .boolean⟩ := by decide +kernel
theorem pn_0 : plainName "java/lang/StringUTF16" = true := by first | (simp [plainName, overriddenIn]; done) | decide +kernel
theorem pn_1 : plainName "java/lang/String" = true := by first | (simp [plainName, overriddenIn]; done) | decide +kernel
theorem pn_2 : plainName "java/lang/Record" = true := by first | (simp [plainName, overriddenIn]; done) | decide +kernel
theorem pn_3 : plainName "java/lang/StringLatin1" = true := by first | (simp [plainName, overriddenIn]; done) | decide +kernel
theorem pn_4 : plainName "com/example/settlegram/settlegram/SequencePath" = true := by first | (simp [plainName, overriddenIn]; done) | decide +kernel
theorem pn_5 : plainName "com/example/settlegram/settlegram/TextLine" = true := by first | (simp [plainName, overriddenIn]; done) | decide +kernel
theorem pn_6 : plainName "com/example/settlegram/settlegram/TextLineIsSequenceDelimiterPinLaw" = true := by first | (simp [plainName, overriddenIn]; done) | decide +kernel
theorem w_0 {a0 : Array Value} {Z : State} (hw : ∀ d ∈ tables_1, d.before a0 Z = true) : (Jvm.Cond.constant "com/example/settlegram/settlegram/TextLineIsSequenceDelimiterPinLaw" (12 : Nat) (2147483647 : Int32)).before a0 Z = true := hw _ (List.mem_of_getElem? (i := 0) rfl)
theorem w_1 {a0 : Array Value} {Z : State} (hw : ∀ d ∈ tables_1, d.before a0 Z = true) : (Jvm.Cond.methodLink "com/example/settlegram/settlegram/TextLineIsSequenceDelimiterPinLaw" (13 : Nat) ({ cls := "com/example/settlegram/settlegram/TextLineIsSequenceDelimiterPinLaw", name := "pick", desc := "(IC)C" } : Jvm.MethodName)).before a0 Z = true := hw _ (List.mem_of_getElem? (i := 1) rfl)
theorem w_2 {a0 : Array Value} {Z : State} (hw : ∀ d ∈ tables_1, d.before a0 Z = true) : (Jvm.Cond.static ({ cls := "com/example/settlegram/settlegram/TextLineIsSequenceDelimiterPinLaw", name := "pick", desc := "(IC)C" } : Jvm.MethodName)).before a0 Z = true := hw _ (List.mem_of_getElem? (i := 2) rfl)
theorem w_3 {a0 : Array Value} {Z : State} (hw : ∀ d ∈ tables_1, d.before a0 Z = true) : (Jvm.Cond.initialized "com/example/settlegram/settlegram/TextLineIsSequenceDelimiterPinLaw").before a0 Z = true := hw _ (List.mem_of_getElem? (i := 3) rfl)
theorem w_4 {a0 : Array Value} {Z : State} (hw : ∀ d ∈ tables_1, d.before a0 Z = true) : (Jvm.Cond.code ({ cls := "com/example/settlegram/settlegram/TextLineIsSequenceDelimiterPinLaw", name := "pick", desc := "(IC)C" } : Jvm.MethodName) method_2_code (2 : Nat) (Option.some Jvm.ClassFile.FieldType.char)).before a0 Z = true := hw _ (List.mem_of_getElem? (i := 4) rfl)
theorem w_5 {a0 : Array Value} {Z : State} (hw : ∀ d ∈ tables_1, d.before a0 Z = true) : (Jvm.Cond.methodLink "com/example/settlegram/settlegram/TextLineIsSequenceDelimiterPinLaw" (19 : Nat) ({ cls := "com/example/settlegram/settlegram/TextLineIsSequenceDelimiterPinLaw", name := "makeTag", desc := "(ICCCC)Ljava/lang/String;" } : Jvm.MethodName)).before a0 Z = true := hw _ (List.mem_of_getElem? (i := 5) rfl)
theorem w_6 {a0 : Array Value} {Z : State} (hw : ∀ d ∈ tables_1, d.before a0 Z = true) : (Jvm.Cond.static ({ cls := "com/example/settlegram/settlegram/TextLineIsSequenceDelimiterPinLaw", name := "makeTag", desc := "(ICCCC)Ljava/lang/String;" } : Jvm.MethodName)).before a0 Z = true := hw _ (List.mem_of_getElem? (i := 6) rfl)
theorem w_7 {a0 : Array Value} {Z : State} (hw : ∀ d ∈ tables_1, d.before a0 Z = true) : (Jvm.Cond.code ({ cls := "com/example/settlegram/settlegram/TextLineIsSequenceDelimiterPinLaw", name := "makeTag", desc := "(ICCCC)Ljava/lang/String;" } : Jvm.MethodName) method_3_code (5 : Nat) (Option.some (Jvm.ClassFile.FieldType.object "java/lang/String"))).before a0 Z = true := hw _ (List.mem_of_getElem? (i := 7) rfl)
theorem w_8 {a0 : Array Value} {Z : State} (hw : ∀ d ∈ tables_1, d.before a0 Z = true) : (Jvm.Cond.classLink "com/example/settlegram/settlegram/TextLineIsSequenceDelimiterPinLaw" (7 : Nat) "java/lang/String").before a0 Z = true := hw _ (List.mem_of_getElem? (i := 8) rfl)
theorem w_9 {a0 : Array Value} {Z : State} (hw : ∀ d ∈ tables_1, d.before a0 Z = true) : (Jvm.Cond.instantiable "java/lang/String" (4 : Nat)).before a0 Z = true := hw _ (List.mem_of_getElem? (i := 9) rfl)
theorem w_10 {a0 : Array Value} {Z : State} (hw : ∀ d ∈ tables_1, d.before a0 Z = true) : (Jvm.Cond.initialized "java/lang/String").before a0 Z = true := hw _ (List.mem_of_getElem? (i := 10) rfl)
theorem w_11 {a0 : Array Value} {Z : State} (hw : ∀ d ∈ tables_1, d.before a0 Z = true) : (Jvm.Cond.arrayClass Jvm.ClassFile.FieldType.char).before a0 Z = true := hw _ (List.mem_of_getElem? (i := 11) rfl)
theorem w_12 {a0 : Array Value} {Z : State} (hw : ∀ d ∈ tables_1, d.before a0 Z = true) : (Jvm.Cond.methodLink "com/example/settlegram/settlegram/TextLineIsSequenceDelimiterPinLaw" (9 : Nat) ({ cls := "java/lang/String", name := "<init>", desc := "([C)V" } : Jvm.MethodName)).before a0 Z = true := hw _ (List.mem_of_getElem? (i := 12) rfl)
theorem w_13 {a0 : Array Value} {Z : State} (hw : ∀ d ∈ tables_1, d.before a0 Z = true) : (Jvm.Cond.instanceMethod ({ cls := "java/lang/String", name := "<init>", desc := "([C)V" } : Jvm.MethodName)).before a0 Z = true := hw _ (List.mem_of_getElem? (i := 13) rfl)
theorem w_14 {a0 : Array Value} {Z : State} (hw : ∀ d ∈ tables_1, d.before a0 Z = true) : (Jvm.Cond.code ({ cls := "java/lang/String", name := "<init>", desc := "([C)V" } : Jvm.MethodName) jdk_42_method_3_code (2 : Nat) (Option.none : Option Jvm.ClassFile.FieldType)).before a0 Z = true := hw _ (List.mem_of_getElem? (i := 14) rfl)
theorem w_15 {a0 : Array Value} {Z : State} (hw : ∀ d ∈ tables_1, d.before a0 Z = true) : (Jvm.Cond.methodLink "java/lang/String" (27 : Nat) ({ cls := "java/lang/String", name := "<init>", desc := "([CIILjava/lang/Void;)V" } : Jvm.MethodName)).before a0 Z = true := hw _ (List.mem_of_getElem? (i := 15) rfl)
theorem w_16 {a0 : Array Value} {Z : State} (hw : ∀ d ∈ tables_1, d.before a0 Z = true) : (Jvm.Cond.instanceMethod ({ cls := "java/lang/String", name := "<init>", desc := "([CIILjava/lang/Void;)V" } : Jvm.MethodName)).before a0 Z = true := hw _ (List.mem_of_getElem? (i := 16) rfl)
theorem w_18 {a0 : Array Value} {Z : State} (hw : ∀ d ∈ tables_1, d.before a0 Z = true) : (Jvm.Cond.code ({ cls := "java/lang/String", name := "<init>", desc := "([CIILjava/lang/Void;)V" } : Jvm.MethodName) jdk_42_method_149_code (6 : Nat) (Option.none : Option Jvm.ClassFile.FieldType)).before a0 Z = true := hw _ (List.mem_of_getElem? (i := 18) rfl)
theorem w_19 {a0 : Array Value} {Z : State} (hw : ∀ d ∈ tables_1, d.before a0 Z = true) : (Jvm.Cond.methodLink "java/lang/String" (1 : Nat) ({ cls := "java/lang/Object", name := "<init>", desc := "()V" } : Jvm.MethodName)).before a0 Z = true := hw _ (List.mem_of_getElem? (i := 19) rfl)
theorem w_20 {a0 : Array Value} {Z : State} (hw : ∀ d ∈ tables_1, d.before a0 Z = true) : (Jvm.Cond.instanceMethod ({ cls := "java/lang/Object", name := "<init>", desc := "()V" } : Jvm.MethodName)).before a0 Z = true := hw _ (List.mem_of_getElem? (i := 20) rfl)
theorem w_21 {a0 : Array Value} {Z : State} (hw : ∀ d ∈ tables_1, d.before a0 Z = true) : (Jvm.Cond.code ({ cls := "java/lang/Object", name := "<init>", desc := "()V" } : Jvm.MethodName) object_method_1_code (1 : Nat) (Option.none : Option Jvm.ClassFile.FieldType)).before a0 Z = true := hw _ (List.mem_of_getElem? (i := 21) rfl)
theorem w_22 {a0 : Array Value} {Z : State} (hw : ∀ d ∈ tables_1, d.before a0 Z = true) : (Jvm.Cond.stringLink "java/lang/String" (7 : Nat) "").before a0 Z = true := hw _ (List.mem_of_getElem? (i := 22) rfl)
theorem w_23 {a0 : Array Value} {Z : State} (hw : ∀ d ∈ tables_1, d.before a0 Z = true) : (Jvm.Cond.arrayClass Jvm.ClassFile.FieldType.byte).before a0 Z = true := hw _ (List.mem_of_getElem? (i := 23) rfl)
theorem w_24 {a0 : Array Value} {Z : State} (hw : ∀ d ∈ tables_1, d.before a0 Z = true) : (Jvm.Cond.laysFinal "java/lang/String" "java/lang/String" "value" "[B").before a0 Z = true := hw _ (List.mem_of_getElem? (i := 24) rfl)
theorem w_25 {a0 : Array Value} {Z : State} (hw : ∀ d ∈ tables_1, d.before a0 Z = true) : (Jvm.Cond.laysFinal "java/lang/String" "java/lang/String" "coder" "B").before a0 Z = true := hw _ (List.mem_of_getElem? (i := 25) rfl)
theorem w_28 {a0 : Array Value} {Z : State} (hw : ∀ d ∈ tables_1, d.before a0 Z = true) : (Jvm.Cond.fieldLink "java/lang/String" (9 : Nat) "java/lang/String" "value" "[B").before a0 Z = true := hw _ (List.mem_of_getElem? (i := 28) rfl)
theorem w_29 {a0 : Array Value} {Z : State} (hw : ∀ d ∈ tables_1, d.before a0 Z = true) : (Jvm.Cond.fieldLink "java/lang/String" (15 : Nat) "java/lang/String" "coder" "B").before a0 Z = true := hw _ (List.mem_of_getElem? (i := 29) rfl)
theorem w_30 {a0 : Array Value} {Z : State} (hw : ∀ d ∈ tables_1, d.before a0 Z = true) : (Jvm.Cond.classLink "com/example/settlegram/settlegram/TextLineIsSequenceDelimiterPinLaw" (23 : Nat) "com/example/settlegram/settlegram/TextLine").before a0 Z = true := hw _ (List.mem_of_getElem? (i := 30) rfl)
theorem w_31 {a0 : Array Value} {Z : State} (hw : ∀ d ∈ tables_1, d.before a0 Z = true) : (Jvm.Cond.instantiable "com/example/settlegram/settlegram/TextLine" (4 : Nat)).before a0 Z = true := hw _ (List.mem_of_getElem? (i := 31) rfl)
theorem w_32 {a0 : Array Value} {Z : State} (hw : ∀ d ∈ tables_1, d.before a0 Z = true) : (Jvm.Cond.initialized "com/example/settlegram/settlegram/TextLine").before a0 Z = true := hw _ (List.mem_of_getElem? (i := 32) rfl)
theorem w_33 {a0 : Array Value} {Z : State} (hw : ∀ d ∈ tables_1, d.before a0 Z = true) : (Jvm.Cond.fieldLink "com/example/settlegram/settlegram/TextLineIsSequenceDelimiterPinLaw" (25 : Nat) "com/example/settlegram/settlegram/SequencePath" "NONE" "Lcom/example/settlegram/settlegram/SequencePath;").before a0 Z = true := hw _ (List.mem_of_getElem? (i := 33) rfl)
theorem w_34 {a0 : Array Value} {Z : State} (hw : ∀ d ∈ tables_1, d.before a0 Z = true) : (Jvm.Cond.initialized "com/example/settlegram/settlegram/SequencePath").before a0 Z = true := hw _ (List.mem_of_getElem? (i := 34) rfl)
theorem w_35 {a0 : Array Value} {Z : State} (hw : ∀ d ∈ tables_1, d.before a0 Z = true) : (Jvm.Cond.laysStatic "com/example/settlegram/settlegram/SequencePath" "NONE" "Lcom/example/settlegram/settlegram/SequencePath;").before a0 Z = true := hw _ (List.mem_of_getElem? (i := 35) rfl)
theorem w_36 {a0 : Array Value} {Z : State} (hw : ∀ d ∈ tables_1, d.before a0 Z = true) : (Jvm.Cond.methodLink "com/example/settlegram/settlegram/TextLineIsSequenceDelimiterPinLaw" (31 : Nat) ({ cls := "java/lang/String", name := "valueOf", desc := "(C)Ljava/lang/String;" } : Jvm.MethodName)).before a0 Z = true := hw _ (List.mem_of_getElem? (i := 36) rfl)
theorem w_37 {a0 : Array Value} {Z : State} (hw : ∀ d ∈ tables_1, d.before a0 Z = true) : (Jvm.Cond.static ({ cls := "java/lang/String", name := "valueOf", desc := "(C)Ljava/lang/String;" } : Jvm.MethodName)).before a0 Z = true := hw _ (List.mem_of_getElem? (i := 37) rfl)
theorem w_38 {a0 : Array Value} {Z : State} (hw : ∀ d ∈ tables_1, d.before a0 Z = true) : (Jvm.Cond.code ({ cls := "java/lang/String", name := "valueOf", desc := "(C)Ljava/lang/String;" } : Jvm.MethodName) jdk_42_method_139_code (1 : Nat) (Option.some (Jvm.ClassFile.FieldType.object "java/lang/String"))).before a0 Z = true := hw _ (List.mem_of_getElem? (i := 38) rfl)
theorem w_39 {a0 : Array Value} {Z : State} (hw : ∀ d ∈ tables_1, d.before a0 Z = true) : (Jvm.Cond.fieldLink "java/lang/String" (38 : Nat) "java/lang/String" "COMPACT_STRINGS" "Z").before a0 Z = true := hw _ (List.mem_of_getElem? (i := 39) rfl)
theorem w_40 {a0 : Array Value} {Z : State} (hw : ∀ d ∈ tables_1, d.before a0 Z = true) : (Jvm.Cond.methodLink "java/lang/String" (1015 : Nat) ({ cls := "java/lang/StringLatin1", name := "canEncode", desc := "(C)Z" } : Jvm.MethodName)).before a0 Z = true := hw _ (List.mem_of_getElem? (i := 40) rfl)
theorem w_41 {a0 : Array Value} {Z : State} (hw : ∀ d ∈ tables_1, d.before a0 Z = true) : (Jvm.Cond.static ({ cls := "java/lang/StringLatin1", name := "canEncode", desc := "(C)Z" } : Jvm.MethodName)).before a0 Z = true := hw _ (List.mem_of_getElem? (i := 41) rfl)
theorem w_42 {a0 : Array Value} {Z : State} (hw : ∀ d ∈ tables_1, d.before a0 Z = true) : (Jvm.Cond.initialized "java/lang/StringLatin1").before a0 Z = true := hw _ (List.mem_of_getElem? (i := 42) rfl)
theorem w_43 {a0 : Array Value} {Z : State} (hw : ∀ d ∈ tables_1, d.before a0 Z = true) : (Jvm.Cond.code ({ cls := "java/lang/StringLatin1", name := "canEncode", desc := "(C)Z" } : Jvm.MethodName) jdk_43_method_3_code (1 : Nat) (Option.some Jvm.ClassFile.FieldType.boolean)).before a0 Z = true := hw _ (List.mem_of_getElem? (i := 43) rfl)
theorem w_44 {a0 : Array Value} {Z : State} (hw : ∀ d ∈ tables_1, d.before a0 Z = true) : (Jvm.Cond.classLink "java/lang/String" (10 : Nat) "java/lang/String").before a0 Z = true := hw _ (List.mem_of_getElem? (i := 44) rfl)
theorem w_45 {a0 : Array Value} {Z : State} (hw : ∀ d ∈ tables_1, d.before a0 Z = true) : (Jvm.Cond.methodLink "java/lang/String" (1018 : Nat) ({ cls := "java/lang/StringLatin1", name := "toBytes", desc := "(C)[B" } : Jvm.MethodName)).before a0 Z = true := hw _ (List.mem_of_getElem? (i := 45) rfl)
theorem w_46 {a0 : Array Value} {Z : State} (hw : ∀ d ∈ tables_1, d.before a0 Z = true) : (Jvm.Cond.static ({ cls := "java/lang/StringLatin1", name := "toBytes", desc := "(C)[B" } : Jvm.MethodName)).before a0 Z = true := hw _ (List.mem_of_getElem? (i := 46) rfl)
theorem w_47 {a0 : Array Value} {Z : State} (hw : ∀ d ∈ tables_1, d.before a0 Z = true) : (Jvm.Cond.code ({ cls := "java/lang/StringLatin1", name := "toBytes", desc := "(C)[B" } : Jvm.MethodName) jdk_43_method_46_code (1 : Nat) (Option.some (Jvm.ClassFile.FieldType.array Jvm.ClassFile.FieldType.byte))).before a0 Z = true := hw _ (List.mem_of_getElem? (i := 47) rfl)
theorem w_48 {a0 : Array Value} {Z : State} (hw : ∀ d ∈ tables_1, d.before a0 Z = true) : (Jvm.Cond.methodLink "java/lang/String" (209 : Nat) ({ cls := "java/lang/String", name := "<init>", desc := "([BB)V" } : Jvm.MethodName)).before a0 Z = true := hw _ (List.mem_of_getElem? (i := 48) rfl)
theorem w_49 {a0 : Array Value} {Z : State} (hw : ∀ d ∈ tables_1, d.before a0 Z = true) : (Jvm.Cond.instanceMethod ({ cls := "java/lang/String", name := "<init>", desc := "([BB)V" } : Jvm.MethodName)).before a0 Z = true := hw _ (List.mem_of_getElem? (i := 49) rfl)
theorem w_50 {a0 : Array Value} {Z : State} (hw : ∀ d ∈ tables_1, d.before a0 Z = true) : (Jvm.Cond.code ({ cls := "java/lang/String", name := "<init>", desc := "([BB)V" } : Jvm.MethodName) jdk_42_method_151_code (3 : Nat) (Option.none : Option Jvm.ClassFile.FieldType)).before a0 Z = true := hw _ (List.mem_of_getElem? (i := 50) rfl)
theorem w_51 {a0 : Array Value} {Z : State} (hw : ∀ d ∈ tables_1, d.before a0 Z = true) : (Jvm.Cond.methodLink "com/example/settlegram/settlegram/TextLineIsSequenceDelimiterPinLaw" (35 : Nat) ({ cls := "com/example/settlegram/settlegram/TextLine", name := "<init>", desc := "(ILjava/util/List;Ljava/lang/String;Ljava/lang/String;)V" } : Jvm.MethodName)).before a0 Z = true := hw _ (List.mem_of_getElem? (i := 51) rfl)
theorem w_52 {a0 : Array Value} {Z : State} (hw : ∀ d ∈ tables_1, d.before a0 Z = true) : (Jvm.Cond.instanceMethod ({ cls := "com/example/settlegram/settlegram/TextLine", name := "<init>", desc := "(ILjava/util/List;Ljava/lang/String;Ljava/lang/String;)V" } : Jvm.MethodName)).before a0 Z = true := hw _ (List.mem_of_getElem? (i := 52) rfl)
theorem w_53 {a0 : Array Value} {Z : State} (hw : ∀ d ∈ tables_1, d.before a0 Z = true) : (Jvm.Cond.code ({ cls := "com/example/settlegram/settlegram/TextLine", name := "<init>", desc := "(ILjava/util/List;Ljava/lang/String;Ljava/lang/String;)V" } : Jvm.MethodName) prog_107_method_1_code (5 : Nat) (Option.none : Option Jvm.ClassFile.FieldType)).before a0 Z = true := hw _ (List.mem_of_getElem? (i := 53) rfl)
theorem w_54 {a0 : Array Value} {Z : State} (hw : ∀ d ∈ tables_1, d.before a0 Z = true) : (Jvm.Cond.methodLink "com/example/settlegram/settlegram/TextLine" (1 : Nat) ({ cls := "java/lang/Record", name := "<init>", desc := "()V" } : Jvm.MethodName)).before a0 Z = true := hw _ (List.mem_of_getElem? (i := 54) rfl)
theorem w_55 {a0 : Array Value} {Z : State} (hw : ∀ d ∈ tables_1, d.before a0 Z = true) : (Jvm.Cond.instanceMethod ({ cls := "java/lang/Record", name := "<init>", desc := "()V" } : Jvm.MethodName)).before a0 Z = true := hw _ (List.mem_of_getElem? (i := 55) rfl)
theorem w_57 {a0 : Array Value} {Z : State} (hw : ∀ d ∈ tables_1, d.before a0 Z = true) : (Jvm.Cond.initialized "java/lang/Record").before a0 Z = true := hw _ (List.mem_of_getElem? (i := 57) rfl)
theorem w_58 {a0 : Array Value} {Z : State} (hw : ∀ d ∈ tables_1, d.before a0 Z = true) : (Jvm.Cond.code ({ cls := "java/lang/Record", name := "<init>", desc := "()V" } : Jvm.MethodName) jdk_30_method_1_code (1 : Nat) (Option.none : Option Jvm.ClassFile.FieldType)).before a0 Z = true := hw _ (List.mem_of_getElem? (i := 58) rfl)
theorem w_59 {a0 : Array Value} {Z : State} (hw : ∀ d ∈ tables_1, d.before a0 Z = true) : (Jvm.Cond.methodLink "java/lang/Record" (1 : Nat) ({ cls := "java/lang/Object", name := "<init>", desc := "()V" } : Jvm.MethodName)).before a0 Z = true := hw _ (List.mem_of_getElem? (i := 59) rfl)
theorem w_60 {a0 : Array Value} {Z : State} (hw : ∀ d ∈ tables_1, d.before a0 Z = true) : (Jvm.Cond.methodLink "com/example/settlegram/settlegram/TextLine" (7 : Nat) ({ cls := "com/example/settlegram/settlegram/SequencePath", name := "of", desc := "(Ljava/util/List;)Lcom/example/settlegram/settlegram/SequencePath;" } : Jvm.MethodName)).before a0 Z = true := hw _ (List.mem_of_getElem? (i := 60) rfl)
theorem w_61 {a0 : Array Value} {Z : State} (hw : ∀ d ∈ tables_1, d.before a0 Z = true) : (Jvm.Cond.static ({ cls := "com/example/settlegram/settlegram/SequencePath", name := "of", desc := "(Ljava/util/List;)Lcom/example/settlegram/settlegram/SequencePath;" } : Jvm.MethodName)).before a0 Z = true := hw _ (List.mem_of_getElem? (i := 61) rfl)
theorem w_62 {a0 : Array Value} {Z : State} (hw : ∀ d ∈ tables_1, d.before a0 Z = true) : (Jvm.Cond.code ({ cls := "com/example/settlegram/settlegram/SequencePath", name := "of", desc := "(Ljava/util/List;)Lcom/example/settlegram/settlegram/SequencePath;" } : Jvm.MethodName) prog_85_method_3_code (4 : Nat) (Option.some (Jvm.ClassFile.FieldType.object "com/example/settlegram/settlegram/SequencePath"))).before a0 Z = true := hw _ (List.mem_of_getElem? (i := 62) rfl)
theorem w_63 {a0 : Array Value} {Z : State} (hw : ∀ d ∈ tables_1, d.before a0 Z = true) : (Jvm.Cond.classLink "com/example/settlegram/settlegram/SequencePath" (8 : Nat) "com/example/settlegram/settlegram/SequencePath").before a0 Z = true := hw _ (List.mem_of_getElem? (i := 63) rfl)
theorem w_65 {a0 : Array Value} {Z : State} (hw : ∀ d ∈ tables_1, d.before a0 Z = true) : (Jvm.Cond.fieldLink "com/example/settlegram/settlegram/TextLine" (13 : Nat) "com/example/settlegram/settlegram/TextLine" "number" "I").before a0 Z = true := hw _ (List.mem_of_getElem? (i := 65) rfl)
theorem w_66 {a0 : Array Value} {Z : State} (hw : ∀ d ∈ tables_1, d.before a0 Z = true) : (Jvm.Cond.laysFinal "com/example/settlegram/settlegram/TextLine" "com/example/settlegram/settlegram/TextLine" "number" "I").before a0 Z = true := hw _ (List.mem_of_getElem? (i := 66) rfl)
theorem w_67 {a0 : Array Value} {Z : State} (hw : ∀ d ∈ tables_1, d.before a0 Z = true) : (Jvm.Cond.fieldLink "com/example/settlegram/settlegram/TextLine" (19 : Nat) "com/example/settlegram/settlegram/TextLine" "sequences" "Ljava/util/List;").before a0 Z = true := hw _ (List.mem_of_getElem? (i := 67) rfl)
theorem w_68 {a0 : Array Value} {Z : State} (hw : ∀ d ∈ tables_1, d.before a0 Z = true) : (Jvm.Cond.laysFinal "com/example/settlegram/settlegram/TextLine" "com/example/settlegram/settlegram/TextLine" "sequences" "Ljava/util/List;").before a0 Z = true := hw _ (List.mem_of_getElem? (i := 68) rfl)
theorem w_69 {a0 : Array Value} {Z : State} (hw : ∀ d ∈ tables_1, d.before a0 Z = true) : (Jvm.Cond.fieldLink "com/example/settlegram/settlegram/TextLine" (23 : Nat) "com/example/settlegram/settlegram/TextLine" "tag" "Ljava/lang/String;").before a0 Z = true := hw _ (List.mem_of_getElem? (i := 69) rfl)
theorem w_70 {a0 : Array Value} {Z : State} (hw : ∀ d ∈ tables_1, d.before a0 Z = true) : (Jvm.Cond.laysFinal "com/example/settlegram/settlegram/TextLine" "com/example/settlegram/settlegram/TextLine" "tag" "Ljava/lang/String;").before a0 Z = true := hw _ (List.mem_of_getElem? (i := 70) rfl)
theorem w_71 {a0 : Array Value} {Z : State} (hw : ∀ d ∈ tables_1, d.before a0 Z = true) : (Jvm.Cond.fieldLink "com/example/settlegram/settlegram/TextLine" (27 : Nat) "com/example/settlegram/settlegram/TextLine" "text" "Ljava/lang/String;").before a0 Z = true := hw _ (List.mem_of_getElem? (i := 71) rfl)
theorem w_72 {a0 : Array Value} {Z : State} (hw : ∀ d ∈ tables_1, d.before a0 Z = true) : (Jvm.Cond.laysFinal "com/example/settlegram/settlegram/TextLine" "com/example/settlegram/settlegram/TextLine" "text" "Ljava/lang/String;").before a0 Z = true := hw _ (List.mem_of_getElem? (i := 72) rfl)
theorem w_73 {a0 : Array Value} {Z : State} (hw : ∀ d ∈ tables_1, d.before a0 Z = true) : (Jvm.Cond.methodLink "com/example/settlegram/settlegram/TextLineIsSequenceDelimiterPinLaw" (38 : Nat) ({ cls := "com/example/settlegram/settlegram/TextLine", name := "isSequenceDelimiter", desc := "()Z" } : Jvm.MethodName)).before a0 Z = true := hw _ (List.mem_of_getElem? (i := 73) rfl)
theorem w_74 {a0 : Array Value} {Z : State} (hw : ∀ d ∈ tables_1, d.before a0 Z = true) : (Jvm.Cond.declares ({ cls := "com/example/settlegram/settlegram/TextLine", name := "isSequenceDelimiter", desc := "()Z" } : Jvm.MethodName)).before a0 Z = true := hw _ (List.mem_of_getElem? (i := 74) rfl)
theorem w_75 {a0 : Array Value} {Z : State} (hw : ∀ d ∈ tables_1, d.before a0 Z = true) : (Jvm.Cond.instanceMethod ({ cls := "com/example/settlegram/settlegram/TextLine", name := "isSequenceDelimiter", desc := "()Z" } : Jvm.MethodName)).before a0 Z = true := hw _ (List.mem_of_getElem? (i := 75) rfl)
theorem w_76 {a0 : Array Value} {Z : State} (hw : ∀ d ∈ tables_1, d.before a0 Z = true) : (Jvm.Cond.selects "com/example/settlegram/settlegram/TextLine" ({ cls := "com/example/settlegram/settlegram/TextLine", name := "isSequenceDelimiter", desc := "()Z" } : Jvm.MethodName) ({ cls := "com/example/settlegram/settlegram/TextLine", name := "isSequenceDelimiter", desc := "()Z" } : Jvm.MethodName)).before a0 Z = true := hw _ (List.mem_of_getElem? (i := 76) rfl)
theorem w_77 {a0 : Array Value} {Z : State} (hw : ∀ d ∈ tables_1, d.before a0 Z = true) : (Jvm.Cond.code ({ cls := "com/example/settlegram/settlegram/TextLine", name := "isSequenceDelimiter", desc := "()Z" } : Jvm.MethodName) prog_107_method_3_code (1 : Nat) (Option.some Jvm.ClassFile.FieldType.boolean)).before a0 Z = true := hw _ (List.mem_of_getElem? (i := 77) rfl)
theorem w_78 {a0 : Array Value} {Z : State} (hw : ∀ d ∈ tables_1, d.before a0 Z = true) : (Jvm.Cond.stringLink "com/example/settlegram/settlegram/TextLine" (36 : Nat) "16R").before a0 Z = true := hw _ (List.mem_of_getElem? (i := 78) rfl)
theorem w_79 {a0 : Array Value} {Z : State} (hw : ∀ d ∈ tables_1, d.before a0 Z = true) : (Jvm.Cond.methodLink "com/example/settlegram/settlegram/TextLine" (38 : Nat) ({ cls := "java/lang/String", name := "equals", desc := "(Ljava/lang/Object;)Z" } : Jvm.MethodName)).before a0 Z = true := hw _ (List.mem_of_getElem? (i := 79) rfl)
theorem w_80 {a0 : Array Value} {Z : State} (hw : ∀ d ∈ tables_1, d.before a0 Z = true) : (Jvm.Cond.declares ({ cls := "java/lang/String", name := "equals", desc := "(Ljava/lang/Object;)Z" } : Jvm.MethodName)).before a0 Z = true := hw _ (List.mem_of_getElem? (i := 80) rfl)
theorem w_81 {a0 : Array Value} {Z : State} (hw : ∀ d ∈ tables_1, d.before a0 Z = true) : (Jvm.Cond.instanceMethod ({ cls := "java/lang/String", name := "equals", desc := "(Ljava/lang/Object;)Z" } : Jvm.MethodName)).before a0 Z = true := hw _ (List.mem_of_getElem? (i := 81) rfl)
theorem w_82 {a0 : Array Value} {Z : State} (hw : ∀ d ∈ tables_1, d.before a0 Z = true) : (Jvm.Cond.selects "java/lang/String" ({ cls := "java/lang/String", name := "equals", desc := "(Ljava/lang/Object;)Z" } : Jvm.MethodName) ({ cls := "java/lang/String", name := "equals", desc := "(Ljava/lang/Object;)Z" } : Jvm.MethodName)).before a0 Z = true := hw _ (List.mem_of_getElem? (i := 82) rfl)
theorem w_83 {a0 : Array Value} {Z : State} (hw : ∀ d ∈ tables_1, d.before a0 Z = true) : (Jvm.Cond.code ({ cls := "java/lang/String", name := "equals", desc := "(Ljava/lang/Object;)Z" } : Jvm.MethodName) jdk_42_method_66_code (3 : Nat) (Option.some Jvm.ClassFile.FieldType.boolean)).before a0 Z = true := hw _ (List.mem_of_getElem? (i := 83) rfl)
theorem w_84 {a0 : Array Value} {Z : State} (hw : ∀ d ∈ tables_1, d.before a0 Z = true) : (Jvm.Cond.methodLink "java/lang/String" (541 : Nat) ({ cls := "java/lang/StringLatin1", name := "equals", desc := "([B[B)Z" } : Jvm.MethodName)).before a0 Z = true := hw _ (List.mem_of_getElem? (i := 84) rfl)
theorem w_85 {a0 : Array Value} {Z : State} (hw : ∀ d ∈ tables_1, d.before a0 Z = true) : (Jvm.Cond.static ({ cls := "java/lang/StringLatin1", name := "equals", desc := "([B[B)Z" } : Jvm.MethodName)).before a0 Z = true := hw _ (List.mem_of_getElem? (i := 85) rfl)
theorem w_86 {a0 : Array Value} {Z : State} (hw : ∀ d ∈ tables_1, d.before a0 Z = true) : (Jvm.Cond.code ({ cls := "java/lang/StringLatin1", name := "equals", desc := "([B[B)Z" } : Jvm.MethodName) jdk_43_method_13_code (3 : Nat) (Option.some Jvm.ClassFile.FieldType.boolean)).before a0 Z = true := hw _ (List.mem_of_getElem? (i := 86) rfl)
theorem w_87 {a0 : Array Value} {Z : State} (hw : ∀ d ∈ tables_1, d.before a0 Z = true) : (Jvm.Cond.stringLink "com/example/settlegram/settlegram/TextLine" (42 : Nat) "16S").before a0 Z = true := hw _ (List.mem_of_getElem? (i := 87) rfl)
theorem w_88 {a0 : Array Value} {Z : State} (hw : ∀ d ∈ tables_1, d.before a0 Z = true) : (Jvm.Cond.methodLink "java/lang/String" (177 : Nat) ({ cls := "java/lang/StringUTF16", name := "compress", desc := "([CII)[B" } : Jvm.MethodName)).before a0 Z = true := hw _ (List.mem_of_getElem? (i := 88) rfl)
theorem w_89 {a0 : Array Value} {Z : State} (hw : ∀ d ∈ tables_1, d.before a0 Z = true) : (Jvm.Cond.static ({ cls := "java/lang/StringUTF16", name := "compress", desc := "([CII)[B" } : Jvm.MethodName)).before a0 Z = true := hw _ (List.mem_of_getElem? (i := 89) rfl)
theorem w_90 {a0 : Array Value} {Z : State} (hw : ∀ d ∈ tables_1, d.before a0 Z = true) : (Jvm.Cond.initialized "java/lang/StringUTF16").before a0 Z = true := hw _ (List.mem_of_getElem? (i := 90) rfl)
theorem w_91 {a0 : Array Value} {Z : State} (hw : ∀ d ∈ tables_1, d.before a0 Z = true) : (Jvm.Cond.code ({ cls := "java/lang/StringUTF16", name := "compress", desc := "([CII)[B" } : Jvm.MethodName) jdk_52_method_16_code (6 : Nat) (Option.some (Jvm.ClassFile.FieldType.array Jvm.ClassFile.FieldType.byte))).before a0 Z = true := hw _ (List.mem_of_getElem? (i := 91) rfl)
theorem w_92 {a0 : Array Value} {Z : State} (hw : ∀ d ∈ tables_1, d.before a0 Z = true) : (Jvm.Cond.methodLink "java/lang/StringUTF16" (115 : Nat) ({ cls := "java/lang/StringUTF16", name := "compress", desc := "([CI[BII)I" } : Jvm.MethodName)).before a0 Z = true := hw _ (List.mem_of_getElem? (i := 92) rfl)
theorem w_93 {a0 : Array Value} {Z : State} (hw : ∀ d ∈ tables_1, d.before a0 Z = true) : (Jvm.Cond.static ({ cls := "java/lang/StringUTF16", name := "compress", desc := "([CI[BII)I" } : Jvm.MethodName)).before a0 Z = true := hw _ (List.mem_of_getElem? (i := 93) rfl)
theorem w_94 {a0 : Array Value} {Z : State} (hw : ∀ d ∈ tables_1, d.before a0 Z = true) : (Jvm.Cond.code ({ cls := "java/lang/StringUTF16", name := "compress", desc := "([CI[BII)I" } : Jvm.MethodName) jdk_52_method_21_code (7 : Nat) (Option.some Jvm.ClassFile.FieldType.int)).before a0 Z = true := hw _ (List.mem_of_getElem? (i := 94) rfl)
theorem w_95 {a0 : Array Value} {Z : State} (hw : ∀ d ∈ tables_1, d.before a0 Z = true) : (Jvm.Cond.methodLink "java/lang/String" (47 : Nat) ({ cls := "java/lang/StringUTF16", name := "coderFromArrayLen", desc := "([BI)B" } : Jvm.MethodName)).before a0 Z = true := hw _ (List.mem_of_getElem? (i := 95) rfl)
theorem w_96 {a0 : Array Value} {Z : State} (hw : ∀ d ∈ tables_1, d.before a0 Z = true) : (Jvm.Cond.static ({ cls := "java/lang/StringUTF16", name := "coderFromArrayLen", desc := "([BI)B" } : Jvm.MethodName)).before a0 Z = true := hw _ (List.mem_of_getElem? (i := 96) rfl)
theorem w_97 {a0 : Array Value} {Z : State} (hw : ∀ d ∈ tables_1, d.before a0 Z = true) : (Jvm.Cond.code ({ cls := "java/lang/StringUTF16", name := "coderFromArrayLen", desc := "([BI)B" } : Jvm.MethodName) jdk_52_method_15_code (2 : Nat) (Option.some Jvm.ClassFile.FieldType.byte)).before a0 Z = true := hw _ (List.mem_of_getElem? (i := 97) rfl)
theorem own_wS {a0 : Array Value} {Z : State} (hw : ∀ d ∈ tables_1, d.before a0 Z = true) : ∀ a ∈ Bundle.stringAtoms, a.before a0 Z = true := fun a ha => hw a ((by decide +kernel : ∀ a ∈ Bundle.stringAtoms, a ∈ tables_1) a ha)
theorem own_eq_int {args : Array Value} {s : State} {t : Term} {k : Int32} (h : (Jvm.Cond.eq t (Jvm.Term.int k)).value args s none s [] = some true) : t.eval args s none [] s = some (.int k) := by
  simp only [Cond.value, Term.int_eval] at h
  cases ht : t.eval args s none [] s with
  | none => simp [ht] at h
  | some v =>
    cases v <;> simp [ht] at h
    subst h; rfl
theorem own_fits_ref {C : String} {v : Value} (h : v.isRef = true) : fits (.object C) v = true := by cases v <;> simp [Value.isRef] at h <;> rfl
theorem own_cat_ref {v : Value} (h : v.isRef = true) : v.category = 1 := by cases v <;> simp [Value.isRef] at h <;> rfl
theorem own_ins_keep {Z : State} {h h' : Heap} {a : Addr} {C : String} {ws : List Addr} (F : Ins Z h a C true) (K : Keep h h' ws) : Ins Z h' a C true := by
  obtain ⟨cell, cT, h1, h2, h3⟩ := F
  obtain ⟨c', q1, q2, q3, -⟩ := K.2.2 a cell h1
  exact ⟨c', cT, q1, h2, by rw [q2, q3]; exact h3⟩
def EL : List (String × Nat) := [("java/lang/String", 7), ("com/example/settlegram/settlegram/TextLine", 36), ("com/example/settlegram/settlegram/TextLine", 42)]
theorem hEL {a0 : Array Value} {Z : State} (hw : ∀ d ∈ tables_1, d.before a0 Z = true) : EW Z a0 EL := (EW.cons (w_22 hw) (by decide) (EW.cons (w_78 hw) (by decide) (EW.cons (w_87 hw) (by decide) EW.nil)))
theorem own_ELsub : ∀ q ∈ EL, q ∈ consts_1 := by decide
def Gl (Z : State) (zc : Int32) (fm : Value) (sp : Nat) : Prop := (Sta Z Z.heap "java/lang/String" "COMPACT_STRINGS" "Z" (.int zc)) ∧ (¬ zc = 0) ∧ (Sta Z Z.heap "jdk/internal/util/Preconditions" "SIOOBE_FORMATTER" "Ljava/util/function/BiFunction;" fm) ∧ (fm.isRef = true) ∧ (Sta Z Z.heap "com/example/settlegram/settlegram/SequencePath" "NONE" "Lcom/example/settlegram/settlegram/SequencePath;" (.ref sp)) ∧ (Exa Z Z.heap sp "com/example/settlegram/settlegram/SequencePath")
set_option maxRecDepth 65536 in
set_option maxHeartbeats 40000000 in
theorem own_cmp5 (l : Launch) (Z : State) (a0 : Array Value) (hw : ∀ d ∈ tables_1, d.before a0 Z = true) {zc : Int32} {fm : Value} {sp : Nat}  (G : Gl Z zc fm sp) (n0 : Nat) (h0 : Heap) (O0 : Old Z n0 h0) (b : Nat) (d : Nat) (kb : ClassId) (kd : ClassId) (z : Int32) (cs : List Int32) (vs : List Value) (hne : b ≠ d) (hz : z = Int32.ofNat cs.length) (hn : cs.length < 2147483648) (hv : vs.length = cs.length) (gw0 : n0 ≤ d) (q0 : Arv Z h0 b kb .char z (cs.map Value.int) (.int 0)) (q1 : Arv Z h0 d kd .byte z vs (.int (0 : Int32))) :
    MetF l [] Z n0 (⟨"java/lang/StringUTF16", "compress", "([CI[BII)I"⟩ : MethodName) jdk_52_method_21_code 7 (Option.some FieldType.int) ({ frames := 0, cells := 0, slots := 0, locals := 0 } : Room) #[(.ref b), (.int (0 : Int32)), (.ref d), (.int (0 : Int32)), (.int z)] h0 [d] (fun r h' => ∃ w, r = some w ∧ w = (.int (Int32.ofNat (own_fst cs))) ∧ (Arv Z h' d kd .byte z ((cs.take (own_fst cs)).map own_lo ++ vs.drop (own_fst cs)) (.int (0 : Int32)))) := by
  refine metF (plainFor_of_name pn_0) O0 (Ls := #[.val (.ref b), .val (.int (0 : Int32)), .val (.ref d), .val (.int (0 : Int32)), .val (.int z), .unset, .unset]) (fun m => by first | rfl | (simp [entryFrame, mkF, argsToLocals, Value.category]; done)) ?_
  intro p e s m below meth c T0 X0
  have K0_h0 := Keep.refl h0 [d]
  have n0le := X0.n0le
  have ltq0 := own_n q0.lt
  have ltq1 := own_n q1.lt
  obtain ⟨G_cs, G_zc, G_fm, isref_fm, GS_sp, GE_sp⟩ := id G
  have oz := X0.old.1
  have ltz0 := own_n GE_sp.lt
  have hfl := own_fst_le cs
  have hlt0 := hn
  have loop : ∀ (n i : Nat) (T : State) (h : Heap) (L : List Loc) (s6 : Slot), n = own_fst cs - i → i ≤ own_fst cs → One s6 → WP p l e ({ frames := 0, cells := 0, slots := 0, locals := 0 } : Room) s m #[(.ref b), (.int (0 : Int32)), (.ref d), (.int (0 : Int32)), (.int z)] below meth c Z "java/lang/StringUTF16" "compress" jdk_52_method_21_code 7 (Option.some FieldType.int) n0 (fun _ => True) (fun _ _ => True) T h L 0 0 → Keep h0 h [d] → Arv Z h b kb .char z (cs.map Value.int) (.int 0) → Arv Z h d kd .byte z ((cs.take i).map own_lo ++ vs.drop i) (.int (0 : Int32)) → Run p.tables e below (PF s below n0 h0 [d] (fun r h' => ∃ w, r = some w ∧ w = (.int (Int32.ofNat (own_fst cs))) ∧ (Arv Z h' d kd .byte z ((cs.take (own_fst cs)).map own_lo ++ vs.drop (own_fst cs)) (.int (0 : Int32)))) ({ frames := 0, cells := 0, slots := 0, locals := 0 } : Room).cells ({ frames := 0, cells := 0, slots := 0, locals := 0 } : Room).slots) T (mkF m 3 #[.val (.ref b), .val (.int (Int32.ofNat i)), .val (.ref d), .val (.int (Int32.ofNat i)), .val (.int z), .val (.int (Int32.ofNat i)), s6] []) := by
    intro n
    induction n with
    | zero =>
      intro i T h L s6 hni hij h6 X K Vb Vd
      have hi : i = own_fst cs := by omega
      subst hi
      have lb := own_n Vb.lt
      have ld := own_n Vd.lt
      have lh0 := K.1
      have lb0 := own_n q0.lt
      have ld0 := own_n q1.lt
      have nle := X.n0le
      by_cases hc1 : own_fst cs < cs.length
      · have hlt := own_lt hc1 hn
        rw [← hz] at hlt
        refine k_iload X d_jdk_52_21_3 rfl (pc' := 5) rfl ?_
        refine k_iload X d_jdk_52_21_5 rfl (pc' := 7) rfl ?_
        refine k_icmpNo X d_jdk_52_21_7 (tlt hlt).2.1 (pc' := 10) rfl ?_
        refine k_aloadN X d_jdk_52_21_10 rfl rfl (pc' := 11) rfl ?_
        refine k_iloadN X d_jdk_52_21_11 rfl (pc' := 12) rfl ?_
        refine k_caload X d_jdk_52_21_12 Vb (own_nn (by omega)) hlt (v := (.int (cs.getD (own_fst cs) 0))) (own_getc' cs (by omega)) (pc' := 13) rfl ?_
        refine k_istore X d_jdk_52_21_13 (Ls' := #[.val (.ref b), .val (.int (Int32.ofNat (own_fst cs))), .val (.ref d), .val (.int (Int32.ofNat (own_fst cs))), .val (.int z), .val (.int (Int32.ofNat (own_fst cs))), .val (.int (cs.getD (own_fst cs) 0))]) (own_store h6 ⟨_, rfl⟩) (pc' := 15) rfl ?_
        refine k_iload X d_jdk_52_21_15 rfl (pc' := 17) rfl ?_
        refine k_sipush X d_jdk_52_21_17 (w := (255 : Int32)) rfl (pc' := 20) rfl ?_
        refine k_icmpNo X d_jdk_52_21_20 (tlt (own_fst_hi cs hc1)).2.2.2 (pc' := 23) rfl ?_
        refine k_iload X d_jdk_52_21_23 rfl (pc' := 25) rfl ?_
        exact k_retFI X d_jdk_52_21_25 rfl K ⟨_, rfl, rfl, Vd⟩ (by decide) (by decide)
      · have he : own_fst cs = cs.length := by omega
        have hnl : ¬ (Int32.ofNat (own_fst cs) < z) := by rw [he, ← hz]; exact Int32.lt_irrefl
        refine k_iload X d_jdk_52_21_3 rfl (pc' := 5) rfl ?_
        refine k_iload X d_jdk_52_21_5 rfl (pc' := 7) rfl ?_
        refine k_icmpYes X d_jdk_52_21_7 (flt hnl).2.1 (pc' := 44) (by decide) (by decide) ?_
        refine k_iload X d_jdk_52_21_44 rfl (pc' := 46) rfl ?_
        exact k_retFI X d_jdk_52_21_46 rfl K ⟨_, rfl, by rw [he, ← hz], Vd⟩ (by decide) (by decide)
    | succ n ih =>
      intro i T h L s6 hni hij h6 X K Vb Vd
      have hi : i < own_fst cs := by omega
      have hlt := own_lt (show i < cs.length by omega) hn
      rw [← hz] at hlt
      have hle := own_fst_lo cs i hi
      have lb := own_n Vb.lt
      have ld := own_n Vd.lt
      have lh0 := K.1
      have lb0 := own_n q0.lt
      have ld0 := own_n q1.lt
      have nle := X.n0le
      refine k_iload X d_jdk_52_21_3 rfl (pc' := 5) rfl ?_
      refine k_iload X d_jdk_52_21_5 rfl (pc' := 7) rfl ?_
      refine k_icmpNo X d_jdk_52_21_7 (tlt hlt).2.1 (pc' := 10) rfl ?_
      refine k_aloadN X d_jdk_52_21_10 rfl rfl (pc' := 11) rfl ?_
      refine k_iloadN X d_jdk_52_21_11 rfl (pc' := 12) rfl ?_
      refine k_caload X d_jdk_52_21_12 Vb (own_nn (by omega)) hlt (v := (.int (cs.getD i 0))) (own_getc' cs (by omega)) (pc' := 13) rfl ?_
      refine k_istore X d_jdk_52_21_13 (Ls' := #[.val (.ref b), .val (.int (Int32.ofNat i)), .val (.ref d), .val (.int (Int32.ofNat i)), .val (.int z), .val (.int (Int32.ofNat i)), .val (.int (cs.getD i 0))]) (own_store h6 ⟨_, rfl⟩) (pc' := 15) rfl ?_
      refine k_iload X d_jdk_52_21_15 rfl (pc' := 17) rfl ?_
      refine k_sipush X d_jdk_52_21_17 (w := (255 : Int32)) rfl (pc' := 20) rfl ?_
      refine k_icmpYes X d_jdk_52_21_20 (flt hle).2.2.2 (pc' := 26) (by decide) (by decide) ?_
      refine k_aloadN X d_jdk_52_21_26 rfl rfl (pc' := 27) rfl ?_
      refine k_iloadN X d_jdk_52_21_27 rfl (pc' := 28) rfl ?_
      refine k_iload X d_jdk_52_21_28 rfl (pc' := 30) rfl ?_
      refine k_i2b X d_jdk_52_21_30 (w := ((cs.getD i 0).toInt8.toInt32)) rfl (pc' := 31) rfl ?_
      have ge3 : n0 ≤ d := by omega
      refine k_bastore X (w := ((cs.getD i 0).toInt8.toInt32)) (i) d_jdk_52_21_31 Vd (own_nn (by omega)) hlt (own_clamp (by omega)) (by simp; omega) (own_i2b _) (vs' := ((cs.take (i + 1)).map own_lo ++ vs.drop (i + 1))) (own_turn cs vs i (by omega) hv) trivial ge3 (pc' := 32) rfl fun T2 h2 L2 X2 K2 V2 => ?_
      have sz_h2 := K2.1
      have K0_h2 : Keep h0 h2 [d] := K.trans K2 (allS (Or.inl (List.mem_of_getElem? (i := 0) rfl)) all0)
      refine k_iinc X2 d_jdk_52_21_32 rfl (w := (Int32.ofNat (i + 1))) (own_succ i) (Ls' := #[.val (.ref b), .val (.int (Int32.ofNat (i + 1))), .val (.ref d), .val (.int (Int32.ofNat i)), .val (.int z), .val (.int (Int32.ofNat i)), .val (.int (cs.getD i 0))]) rfl (pc' := 35) rfl ?_
      refine k_iinc X2 d_jdk_52_21_35 rfl (w := (Int32.ofNat (i + 1))) (own_succ i) (Ls' := #[.val (.ref b), .val (.int (Int32.ofNat (i + 1))), .val (.ref d), .val (.int (Int32.ofNat (i + 1))), .val (.int z), .val (.int (Int32.ofNat i)), .val (.int (cs.getD i 0))]) rfl (pc' := 38) rfl ?_
      refine k_iinc X2 d_jdk_52_21_38 rfl (w := (Int32.ofNat (i + 1))) (own_succ i) (Ls' := #[.val (.ref b), .val (.int (Int32.ofNat (i + 1))), .val (.ref d), .val (.int (Int32.ofNat (i + 1))), .val (.int z), .val (.int (Int32.ofNat (i + 1))), .val (.int (cs.getD i 0))]) rfl (pc' := 41) rfl ?_
      refine k_goto X2 d_jdk_52_21_41 (pc' := 3) (by decide) (by decide) ?_
      have c4 := (Vb.keep K2 (ninS (own_ne (by omega) : b ≠ d) nin0))
      exact ih (i + 1) _ _ _ _ (by omega) (by omega) (One.val rfl) X2 K0_h2 c4 V2
  refine k_iconst X0 d_jdk_52_21_0 (w := (0 : Int32)) rfl (pc' := 1) rfl ?_
  refine k_istore X0 d_jdk_52_21_1 (Ls' := #[.val (.ref b), .val (.int (0 : Int32)), .val (.ref d), .val (.int (0 : Int32)), .val (.int z), .val (.int (0 : Int32)), .unset]) rfl (pc' := 3) rfl ?_
  exact loop _ 0 _ _ _ _ rfl (by omega) One.u X0 K0_h0 q0 (by simpa using q1)
set_option maxRecDepth 65536 in
set_option maxHeartbeats 40000000 in
theorem own_cmp3L (l : Launch) (Z : State) (a0 : Array Value) (hw : ∀ d ∈ tables_1, d.before a0 Z = true) {zc : Int32} {fm : Value} {sp : Nat}  (G : Gl Z zc fm sp) (n0 : Nat) (h0 : Heap) (O0 : Old Z n0 h0) (b : Nat) (kb : ClassId) (z : Int32) (cs : List Int32) (hz : z = Int32.ofNat cs.length) (hn : cs.length ≤ 4) (hall : ∀ c ∈ cs, ¬ 255 < c)  (q0 : Arv Z h0 b kb .char z (cs.map Value.int) (.int 0)) :
    MetF l [] Z n0 (⟨"java/lang/StringUTF16", "compress", "([CII)[B"⟩ : MethodName) jdk_52_method_16_code 6 (Option.some (FieldType.array FieldType.byte)) ({ frames := 1, cells := 1, slots := 4, locals := 18 } : Room) #[(.ref b), (.int (0 : Int32)), (.int z)] h0 [] (fun r h' => ∃ w, r = some w ∧ ∃ (t : Nat), ∃ (kt : ClassId), w = (.ref t) ∧ (Arv Z h' t kt .byte z (own_lat cs) (.int (0 : Int32))) ∧ (h0.size ≤ t)) := by
  refine metF (plainFor_of_name pn_0) O0 (Ls := #[.val (.ref b), .val (.int (0 : Int32)), .val (.int z), .unset, .unset, .unset]) (fun m => by first | rfl | (simp [entryFrame, mkF, argsToLocals, Value.category]; done)) ?_
  intro p e s m below meth c T0 X0
  have K0_h0 := Keep.refl h0 []
  have n0le := X0.n0le
  have ltq0 := own_n q0.lt
  obtain ⟨G_cs, G_zc, G_fm, isref_fm, GS_sp, GE_sp⟩ := id G
  have oz := X0.old.1
  have ltz0 := own_n GE_sp.lt
  have hf := own_fst_all cs hall
  have hnz : ¬ z < 0 := by rw [hz]; exact own_nn (by omega)
  have hcl : z.toNatClampNeg = cs.length := by rw [hz]; exact own_clamp (by omega)
  refine k_iloadN X0 d_jdk_52_16_0 rfl (pc' := 1) rfl ?_
  refine k_newP X0 d_jdk_52_16_1 (w_23 hw) hnz (cap := 4) (by omega) (by decide) (by decide) (by decide) (pc' := 3) rfl fun T5 h5 b5 k5 g5 X5 K5 V5 S5 lt5 ge5 => ?_
  have sz_h5 := K5.1
  have K0_h5 : Keep h0 h5 [] := K0_h0.trans K5 all0
  have Vp : Arv Z h5 b5 k5 .byte z (List.replicate cs.length (.int (0 : Int32))) (.int (0 : Int32)) := Arv.pad V5 (fun i => by simpa using pad_rep [] (.int (0 : Int32)) cs.length i)
  refine k_astoreN X5 d_jdk_52_16_3 rfl (Ls' := #[.val (.ref b), .val (.int (0 : Int32)), .val (.int z), .val (.ref b5), .unset, .unset]) rfl (pc' := 4) rfl ?_
  refine k_aloadN X5 d_jdk_52_16_4 rfl rfl (pc' := 5) rfl ?_
  refine k_iloadN X5 d_jdk_52_16_5 rfl (pc' := 6) rfl ?_
  refine k_aloadN X5 d_jdk_52_16_6 rfl rfl (pc' := 7) rfl ?_
  refine k_iconst X5 d_jdk_52_16_7 (w := (0 : Int32)) rfl (pc' := 8) rfl ?_
  refine k_iloadN X5 d_jdk_52_16_8 rfl (pc' := 9) rfl ?_
  have c6 := (q0.keep K5 nin0)
  have ge7 : n0 ≤ b5 := by omega
  refine k_callSVF X5 (y := (⟨"java/lang/StringUTF16", "compress", "([CI[BII)I"⟩ : MethodName)) d_jdk_52_16_9 (w_92 hw) (w_93 hw) (w_90 hw) (w_94 hw) (by decide) (argsL := [(.ref b), (.int (0 : Int32)), (.ref b5), (.int (0 : Int32)), (.int z)]) (rest := []) (own_cmp5 l Z a0 hw G n0 h5 X5.old b b5 kb k5 z cs (List.replicate cs.length (.int (0 : Int32))) (by omega) hz (by omega) (by simp) (by omega) c6 Vp) rfl pd_0 rfl rfl (by decide) (W := 0) (Nat.le_of_eq rfl) (by decide) (by decide) (by decide) (allS ⟨trivial, ge7⟩ all0) (pc' := 12) rfl ?_
  rintro _ T8 h8 L8 X8 K8 ⟨rfl, q8_0⟩
  have sz_h8 := K8.1
  have K0_h8 : Keep h0 h8 [] := K0_h5.trans K8 (allS (Or.inr (by omega)) all0)
  have lt8_0 := own_n q8_0.lt
  refine k_istore X8 d_jdk_52_16_12 (Ls' := #[.val (.ref b), .val (.int (0 : Int32)), .val (.int z), .val (.ref b5), .val (.int (Int32.ofNat (own_fst cs))), .unset]) rfl (pc' := 14) rfl ?_
  refine k_iload X8 d_jdk_52_16_14 rfl (pc' := 16) rfl ?_
  refine k_iloadN X8 d_jdk_52_16_16 rfl (pc' := 17) rfl ?_
  have hz2 : Int32.ofNat (own_fst cs) = z := by rw [hf, ← hz]
  refine k_icmpYes X8 d_jdk_52_16_17 (teq hz2).1 (pc' := 57) (by decide) (by decide) ?_
  refine k_aloadN X8 d_jdk_52_16_57 rfl rfl (pc' := 58) rfl ?_
  have Vl : Arv Z h8 b5 k5 .byte z (own_lat cs) (.int (0 : Int32)) := by simpa [hf, own_lat] using q8_0
  exact k_retFA X8 d_jdk_52_16_58 rfl rfl rfl rfl K0_h8 ⟨_, rfl, _, _, rfl, Vl, by omega⟩ (by decide) (by decide)
set_option maxRecDepth 65536 in
set_option maxHeartbeats 40000000 in
theorem own_codL (l : Launch) (Z : State) (a0 : Array Value) (hw : ∀ d ∈ tables_1, d.before a0 Z = true) {zc : Int32} {fm : Value} {sp : Nat}  (G : Gl Z zc fm sp) (n0 : Nat) (h0 : Heap) (O0 : Old Z n0 h0) (d : Nat) (k : ClassId) (z : Int32) (bs : List Value) (dv : Value)  (q0 : Arv Z h0 d k .byte z bs dv) :
    MetF l [] Z n0 (⟨"java/lang/StringUTF16", "coderFromArrayLen", "([BI)B"⟩ : MethodName) jdk_52_method_15_code 2 (Option.some FieldType.byte) ({ frames := 0, cells := 0, slots := 0, locals := 0 } : Room) #[(.ref d), (.int z)] h0 [] (fun r h' => ∃ w, r = some w ∧ w = (.int (0 : Int32)) ∧ True) := by
  refine metF (plainFor_of_name pn_0) O0 (Ls := #[.val (.ref d), .val (.int z)]) (fun m => by first | rfl | (simp [entryFrame, mkF, argsToLocals, Value.category]; done)) ?_
  intro p e s m below meth c T0 X0
  have K0_h0 := Keep.refl h0 []
  have n0le := X0.n0le
  have ltq0 := own_n q0.lt
  obtain ⟨G_cs, G_zc, G_fm, isref_fm, GS_sp, GE_sp⟩ := id G
  have oz := X0.old.1
  have ltz0 := own_n GE_sp.lt
  refine k_iloadN X0 d_jdk_52_15_0 rfl (pc' := 1) rfl ?_
  refine k_aloadN X0 d_jdk_52_15_1 rfl rfl (pc' := 2) rfl ?_
  refine k_arlen X0 d_jdk_52_15_2 q0 (pc' := 3) rfl ?_
  refine k_isub X0 d_jdk_52_15_3 (w := (0 : Int32)) (Int32.sub_self z) (pc' := 4) rfl ?_
  refine k_bipush X0 d_jdk_52_15_4 (w := (31 : Int32)) rfl (pc' := 6) rfl ?_
  refine k_iushr X0 d_jdk_52_15_6 (w := (0 : Int32)) (by decide) (pc' := 7) rfl ?_
  refine k_i2b X0 d_jdk_52_15_7 (w := (0 : Int32)) (by decide) (pc' := 8) rfl ?_
  exact k_retFN X0 (w := (0 : Int32)) d_jdk_52_15_8 (t := .byte) rfl (by simp) rfl K0_h0 ⟨_, rfl, rfl, trivial⟩ (by decide) (by decide)
set_option maxRecDepth 65536 in
set_option maxHeartbeats 40000000 in
theorem own_init4L (l : Launch) (Z : State) (a0 : Array Value) (hw : ∀ d ∈ tables_1, d.before a0 Z = true) {zc : Int32} {fm : Value} {sp : Nat}  (G : Gl Z zc fm sp) (n0 : Nat) (h0 : Heap) (O0 : Old Z n0 h0) (a : Nat) (b : Nat) (kb : ClassId) (z : Int32) (cs : List Int32) (hz : z = Int32.ofNat cs.length) (h1 : 0 < cs.length) (hn : cs.length ≤ 4) (hall : ∀ c ∈ cs, ¬ 255 < c) (gw0 : n0 ≤ a) (q0 : Exa Z h0 a "java/lang/String") (q1 : Fld Z h0 a "java/lang/String" "value" "[B" .null) (q2 : Fld Z h0 a "java/lang/String" "coder" "B" (.int (0 : Int32))) (q3 : Arv Z h0 b kb .char z (cs.map Value.int) (.int 0)) :
    MetF l [] Z n0 (⟨"java/lang/String", "<init>", "([CIILjava/lang/Void;)V"⟩ : MethodName) jdk_42_method_149_code 6 (Option.none : Option FieldType) ({ frames := 2, cells := 1, slots := 4, locals := 35 } : Room) #[(.ref a), (.ref b), (.int (0 : Int32)), (.int z), .null] h0 [a] (fun r h' => r = none ∧ ∃ (t : Nat), ∃ (kt : ClassId), (Exa Z h' a "java/lang/String") ∧ (Fld Z h' a "java/lang/String" "coder" "B" (.int (0 : Int32))) ∧ (Fld Z h' a "java/lang/String" "value" "[B" (.ref t)) ∧ (Arv Z h' t kt .byte z (own_lat cs) (.int (0 : Int32))) ∧ (h0.size ≤ t)) := by
  refine metF (plainFor_of_name pn_1) O0 (Ls := #[.val (.ref a), .val (.ref b), .val (.int (0 : Int32)), .val (.int z), .val .null, .unset]) (fun m => by first | rfl | (simp [entryFrame, mkF, argsToLocals, Value.category]; done)) ?_
  intro p e s m below meth c T0 X0
  have K0_h0 := Keep.refl h0 [a]
  have n0le := X0.n0le
  have ltq0 := own_n q0.lt
  have ltq1 := own_n q1.lt
  have ltq2 := own_n q2.lt
  have ltq3 := own_n q3.lt
  obtain ⟨G_cs, G_zc, G_fm, isref_fm, GS_sp, GE_sp⟩ := id G
  have oz := X0.old.1
  have ltz0 := own_n GE_sp.lt
  have hnz0 : ¬ z = 0 := by rw [hz]; exact own_nz h1 (by omega)
  refine k_aloadN X0 d_jdk_42_149_0 rfl rfl (pc' := 1) rfl ?_
  refine k_initO X0 d_jdk_42_149_1 (w_19 hw) (w_20 hw) (w_21 hw) rfl (by decide) (W := 0) (Nat.le_of_eq rfl) (by decide) (pc' := 4) rfl fun T10 X11 => ?_
  refine k_iloadN X11 d_jdk_42_149_4 rfl (pc' := 5) rfl ?_
  refine k_ifYes X11 d_jdk_42_149_5 ((if0 _ _).trans (feq hnz0).2) (pc' := 27) (by decide) (by decide) ?_
  refine k_getS X11 d_jdk_42_149_27 (host := "") (Or.inl (w_39 hw)) Via.refl (G_cs.ext X11.old.2) (pc' := 30) rfl fun T12 X13 => ?_
  refine k_ifNo X13 d_jdk_42_149_30 ((if0 _ _).trans (feq G_zc).1) (pc' := 33) rfl ?_
  refine k_aloadN X13 d_jdk_42_149_33 rfl rfl (pc' := 34) rfl ?_
  refine k_iloadN X13 d_jdk_42_149_34 rfl (pc' := 35) rfl ?_
  refine k_iloadN X13 d_jdk_42_149_35 rfl (pc' := 36) rfl ?_
  refine k_callSVF X13 (y := (⟨"java/lang/StringUTF16", "compress", "([CII)[B"⟩ : MethodName)) d_jdk_42_149_36 (w_88 hw) (w_89 hw) (w_90 hw) (w_91 hw) (by decide) (argsL := [(.ref b), (.int (0 : Int32)), (.int z)]) (rest := []) (own_cmp3L l Z a0 hw G n0 h0 X13.old b kb z cs hz (by omega) hall q3) rfl pd_1 rfl rfl (by decide) (W := 0) (Nat.le_of_eq rfl) (by decide) (by decide) (by decide) all0 (pc' := 39) rfl ?_
  rintro _ T16 h16 L16 X16 K16 ⟨t_14, kt_15, rfl, q16_0, q16_1⟩
  have sz_h16 := K16.1
  have K0_h16 : Keep h0 h16 [a] := K0_h0.trans K16 all0
  have lt16_0 := own_n q16_0.lt
  refine k_astore X16 d_jdk_42_149_39 rfl (Ls' := #[.val (.ref a), .val (.ref b), .val (.int (0 : Int32)), .val (.int z), .val .null, .val (.ref t_14)]) rfl (pc' := 41) rfl ?_
  refine k_aloadN X16 d_jdk_42_149_41 rfl rfl (pc' := 42) rfl ?_
  refine k_aload X16 d_jdk_42_149_42 rfl rfl (pc' := 44) rfl ?_
  refine k_iloadN X16 d_jdk_42_149_44 rfl (pc' := 45) rfl ?_
  refine k_callSVF X16 (y := (⟨"java/lang/StringUTF16", "coderFromArrayLen", "([BI)B"⟩ : MethodName)) d_jdk_42_149_45 (w_95 hw) (w_96 hw) (w_90 hw) (w_97 hw) (by decide) (argsL := [(.ref t_14), (.int z)]) (rest := [(.ref a)]) (own_codL l Z a0 hw G n0 h16 X16.old t_14 kt_15 z (own_lat cs) (.int (0 : Int32)) q16_0) rfl pd_2 rfl rfl (by decide) (W := 1) (Nat.le_of_eq rfl) (by decide) (by decide) (by decide) all0 (pc' := 48) rfl ?_
  rintro _ T18 h18 L18 X18 K18 ⟨rfl, -⟩
  have sz_h18 := K18.1
  have K0_h18 : Keep h0 h18 [a] := K0_h16.trans K18 all0
  have c20 := ((q2.keep K16 nin0).keep K18 nin0)
  have c21 := ((q0.keep K16).keep K18)
  have ge23 : n0 ≤ a := by omega
  refine k_putF X18 d_jdk_42_149_48 (host := "") (Or.inl (w_29 hw)) Via.refl c20 c21 (Or.inr ⟨(w_25 hw), rfl, X18.hnm⟩) (w_9 hw) (ty := .byte) (by decide) rfl rfl trivial ge23 (pc' := 51) rfl fun T22 h22 L22 X22 W22 K22 => ?_
  have sz_h22 := K22.1
  have K0_h22 : Keep h0 h22 [a] := K0_h18.trans K22 (allS (Or.inl (List.mem_of_getElem? (i := 0) rfl)) all0)
  have F22 := c20.same W22
  refine k_aloadN X22 d_jdk_42_149_51 rfl rfl (pc' := 52) rfl ?_
  refine k_aload X22 d_jdk_42_149_52 rfl rfl (pc' := 54) rfl ?_
  have c24 := (((q1.keep K16 nin0).keep K18 nin0).other W22 (Or.inr (slot_ne (Or.inr (w_24 hw)) (Or.inr (w_25 hw)) (by decide) (t := (.array .byte)) (t' := .byte) (by decide) (by decide))))
  have c25 := (c21.keep K22)
  have ge27 : n0 ≤ a := by omega
  refine k_putF X22 d_jdk_42_149_54 (host := "") (Or.inl (w_28 hw)) Via.refl c24 c25 (Or.inr ⟨(w_24 hw), rfl, X22.hnm⟩) (w_9 hw) (ty := (.array .byte)) (by decide) rfl rfl trivial ge27 (pc' := 57) rfl fun T26 h26 L26 X26 W26 K26 => ?_
  have sz_h26 := K26.1
  have K0_h26 : Keep h0 h26 [a] := K0_h22.trans K26 (allS (Or.inl (List.mem_of_getElem? (i := 0) rfl)) all0)
  have F26 := c24.same W26
  have c28 := (c25.keep K26)
  have c29 := (F22.other W26 (Or.inr (slot_ne (Or.inr (w_25 hw)) (Or.inr (w_24 hw)) (by decide) (t := .byte) (t' := (.array .byte)) (by decide) (by decide))))
  have c30 := (((q16_0.keep K18 nin0).keep K22 (ninS (own_ne (by omega) : t_14 ≠ a) nin0)).keep K26 (ninS (own_ne (by omega) : t_14 ≠ a) nin0))
  exact k_retFV X26 d_jdk_42_149_57 rfl K0_h26 ⟨rfl, _, _, c28, c29, F26, c30, by omega⟩ (by decide) (by decide)
set_option maxRecDepth 65536 in
set_option maxHeartbeats 40000000 in
theorem own_initL (l : Launch) (Z : State) (a0 : Array Value) (hw : ∀ d ∈ tables_1, d.before a0 Z = true) {zc : Int32} {fm : Value} {sp : Nat}  (G : Gl Z zc fm sp) (n0 : Nat) (h0 : Heap) (O0 : Old Z n0 h0) (a : Nat) (b : Nat) (kb : ClassId) (z : Int32) (vs : List Value) (cs : List Int32) (hvs : vs = cs.map Value.int) (hz : z = Int32.ofNat cs.length) (h1 : 0 < cs.length) (hn : cs.length ≤ 4) (hall : ∀ c ∈ cs, ¬ 255 < c) (gw0 : n0 ≤ a) (q0 : Exa Z h0 a "java/lang/String") (q1 : Fld Z h0 a "java/lang/String" "value" "[B" .null) (q2 : Fld Z h0 a "java/lang/String" "coder" "B" (.int (0 : Int32))) (q3 : Arv Z h0 b kb .char z vs (.int (0 : Int32))) :
    MetF l [] Z n0 (⟨"java/lang/String", "<init>", "([C)V"⟩ : MethodName) jdk_42_method_3_code 2 (Option.none : Option FieldType) ({ frames := 3, cells := 1, slots := 4, locals := 52 } : Room) #[(.ref a), (.ref b)] h0 [a] (fun r h' => r = none ∧ ∃ (t : Nat), ∃ (kt : ClassId), (Exa Z h' a "java/lang/String") ∧ (Fld Z h' a "java/lang/String" "coder" "B" (.int (0 : Int32))) ∧ (Fld Z h' a "java/lang/String" "value" "[B" (.ref t)) ∧ (Arv Z h' t kt .byte z (own_lat cs) (.int (0 : Int32))) ∧ (h0.size ≤ t)) := by
  subst hvs
  refine metF (plainFor_of_name pn_1) O0 (Ls := #[.val (.ref a), .val (.ref b)]) (fun m => by first | rfl | (simp [entryFrame, mkF, argsToLocals, Value.category]; done)) ?_
  intro p e s m below meth c T0 X0
  have K0_h0 := Keep.refl h0 [a]
  have n0le := X0.n0le
  have ltq0 := own_n q0.lt
  have ltq1 := own_n q1.lt
  have ltq2 := own_n q2.lt
  have ltq3 := own_n q3.lt
  obtain ⟨G_cs, G_zc, G_fm, isref_fm, GS_sp, GE_sp⟩ := id G
  have oz := X0.old.1
  have ltz0 := own_n GE_sp.lt
  refine k_aloadN X0 d_jdk_42_3_0 rfl rfl (pc' := 1) rfl ?_
  refine k_aloadN X0 d_jdk_42_3_1 rfl rfl (pc' := 2) rfl ?_
  refine k_iconst X0 d_jdk_42_3_2 (w := (0 : Int32)) rfl (pc' := 3) rfl ?_
  refine k_aloadN X0 d_jdk_42_3_3 rfl rfl (pc' := 4) rfl ?_
  refine k_arlen X0 d_jdk_42_3_4 q3 (pc' := 5) rfl ?_
  refine k_aconstNull X0 d_jdk_42_3_5 (pc' := 6) rfl ?_
  have ge33 : n0 ≤ a := by omega
  refine k_callPNF X0 (y := (⟨"java/lang/String", "<init>", "([CIILjava/lang/Void;)V"⟩ : MethodName)) d_jdk_42_3_6 (w_15 hw) (w_16 hw) (w_10 hw) (w_18 hw) (by decide) rfl rfl (argsL := [(.ref b), (.int (0 : Int32)), (.int z), .null]) (rest := []) (own_init4L l Z a0 hw G n0 h0 X0.old a b kb z cs hz h1 hn hall (by omega) q0 q1 q2 q3) rfl pd_3 rfl rfl (by decide) (W := 0) (Nat.le_of_eq rfl) (by decide) (by decide) (by decide) (allS ⟨trivial, ge33⟩ all0) (pc' := 9) rfl ?_
  rintro T34 h34 L34 X34 K34 ⟨t_31, kt_32, q34_0, q34_1, q34_2, q34_3, q34_4⟩
  have sz_h34 := K34.1
  have K0_h34 : Keep h0 h34 [a] := K0_h0.trans K34 (allS (Or.inl (List.mem_of_getElem? (i := 0) rfl)) all0)
  have lt34_0 := own_n q34_0.lt
  have lt34_1 := own_n q34_1.lt
  have lt34_2 := own_n q34_2.lt
  have lt34_3 := own_n q34_3.lt
  exact k_retFV X34 d_jdk_42_3_9 rfl K0_h34 ⟨rfl, _, _, q34_0, q34_1, q34_2, q34_3, by omega⟩ (by decide) (by decide)
set_option maxRecDepth 65536 in
set_option maxHeartbeats 40000000 in
theorem own_init4E (l : Launch) (Z : State) (a0 : Array Value) (hw : ∀ d ∈ tables_1, d.before a0 Z = true) {zc : Int32} {fm : Value} {sp : Nat}  (G : Gl Z zc fm sp) (n0 : Nat) (h0 : Heap) (O0 : Old Z n0 h0) (a : Nat) (b : Nat) (gw0 : n0 ≤ a) (q0 : Exa Z h0 a "java/lang/String") (q1 : Fld Z h0 a "java/lang/String" "value" "[B" .null) (q2 : Fld Z h0 a "java/lang/String" "coder" "B" (.int (0 : Int32))) :
    MetH l [] Z EL n0 (⟨"java/lang/String", "<init>", "([CIILjava/lang/Void;)V"⟩ : MethodName) jdk_42_method_149_code 6 (Option.none : Option FieldType) ({ frames := 1, cells := 4, slots := 8, locals := 12 } : Room) #[(.ref a), (.ref b), (.int (0 : Int32)), (.int (0 : Int32)), .null] h0 [a] (fun r v' h' => r = none ∧ ∃ (t : Nat), ∃ (kt : ClassId), (Exa Z h' a "java/lang/String") ∧ (Fld Z h' a "java/lang/String" "coder" "B" (.int (0 : Int32))) ∧ (Fld Z h' a "java/lang/String" "value" "[B" (.ref t)) ∧ (Arv Z h' t kt .byte (0 : Int32) [] (.int (0 : Int32)))) := by
  refine metH (hEL hw) (plainFor_of_name pn_1) O0 (Ls := #[.val (.ref a), .val (.ref b), .val (.int (0 : Int32)), .val (.int (0 : Int32)), .val .null, .unset]) (fun m => by first | rfl | (simp [entryFrame, mkF, argsToLocals, Value.category]; done)) ?_
  intro p e s m below meth c T0 v0 X0 hSf
  have K0_h0 := Keep.refl h0 [a]
  have n0le := X0.n0le
  have ltq0 := own_n q0.lt
  have ltq1 := own_n q1.lt
  have ltq2 := own_n q2.lt
  have sf_0 := hSf a (List.mem_of_getElem? (i := 0) rfl)
  obtain ⟨G_cs, G_zc, G_fm, isref_fm, GS_sp, GE_sp⟩ := id G
  have oz := X0.old.1
  have ltz0 := own_n GE_sp.lt
  refine k_aloadN X0 d_jdk_42_149_0 rfl rfl (pc' := 1) rfl ?_
  refine k_initO X0 d_jdk_42_149_1 (w_19 hw) (w_20 hw) (w_21 hw) rfl (by decide) (W := 0) (Nat.le_of_eq rfl) (by decide) (pc' := 4) rfl fun T35 X36 => ?_
  refine k_iloadN X36 d_jdk_42_149_4 rfl (pc' := 5) rfl ?_
  refine k_ifNo X36 d_jdk_42_149_5 (by decide) (pc' := 8) rfl ?_
  refine k_aloadN X36 d_jdk_42_149_8 rfl rfl (pc' := 9) rfl ?_
  refine k_ldcR X36 d_jdk_42_149_9 (w_22 hw) (own_wS hw) (List.mem_of_getElem? (i := 0) rfl) (vs := []) (z := (0 : Int32)) (by decide) (by decide) rfl (n := 0) (by decide) (by decide) (by decide) (by decide) (pc' := 11) rfl fun s37 bb37 kb37 v37 T37 h37 X37 K37 C37 E37 Fc37 Fv37 V37 nq37 => ?_
  have sz_h37 := K37.1
  have K0_h37 : Keep h0 h37 [a] := K0_h0.trans K37 all0
  have lt37 := own_n E37.lt
  have ltb37 := own_n V37.lt
  have c38 := (C37.safe (own_n (by omega)) sf_0)
  have na := nq37 a c38
  have na1 := own_ni na.1
  have na2 := own_ni na.2
  refine k_getF X37 d_jdk_42_149_11 (host := "") (Or.inl (w_28 hw)) Via.refl Fv37 (pc' := 14) rfl fun T39 X40 => ?_
  have c41 := (q1.keep K37 nin0)
  have c42 := (q0.keep K37)
  have ge44 : n0 ≤ a := by omega
  refine k_putF X40 d_jdk_42_149_14 (host := "") (Or.inl (w_28 hw)) Via.refl c41 c42 (Or.inr ⟨(w_24 hw), rfl, X40.hnm⟩) (w_9 hw) (ty := (.array .byte)) (by decide) rfl rfl c38 ge44 (pc' := 17) rfl fun T43 h43 L43 X43 W43 K43 => ?_
  have sz_h43 := K43.1
  have K0_h43 : Keep h0 h43 [a] := K0_h37.trans K43 (allS (Or.inl (List.mem_of_getElem? (i := 0) rfl)) all0)
  have F43 := c41.same W43
  refine k_aloadN X43 d_jdk_42_149_17 rfl rfl (pc' := 18) rfl ?_
  refine k_ldcR X43 d_jdk_42_149_18 (w_22 hw) (own_wS hw) (List.mem_of_getElem? (i := 0) rfl) (vs := []) (z := (0 : Int32)) (by decide) (by decide) rfl (n := 0) (by decide) (by decide) (by decide) (by decide) (pc' := 20) rfl fun s45 bb45 kb45 v45 T45 h45 X45 K45 C45 E45 Fc45 Fv45 V45 nq45 => ?_
  have sz_h45 := K45.1
  have K0_h45 : Keep h0 h45 [a] := K0_h43.trans K45 all0
  have lt45 := own_n E45.lt
  have ltb45 := own_n V45.lt
  have c46 := (C45.safe (own_n (by omega)) (X40.sf K43 (allS ⟨c38, ge44⟩ all0) c38))
  have nb := nq45 a c46
  have nb1 := own_ni nb.1
  have nb2 := own_ni nb.2
  refine k_getF X45 d_jdk_42_149_20 (host := "") (Or.inl (w_29 hw)) Via.refl Fc45 (pc' := 23) rfl fun T47 X48 => ?_
  have c49 := (((q2.keep K37 nin0).other W43 (Or.inr (slot_ne (Or.inr (w_25 hw)) (Or.inr (w_24 hw)) (by decide) (t := .byte) (t' := (.array .byte)) (by decide) (by decide)))).keep K45 nin0)
  have c50 := ((c42.keep K43).keep K45)
  have ge52 : n0 ≤ a := by omega
  refine k_putF X48 d_jdk_42_149_23 (host := "") (Or.inl (w_29 hw)) Via.refl c49 c50 (Or.inr ⟨(w_25 hw), rfl, X48.hnm⟩) (w_9 hw) (ty := .byte) (by decide) rfl rfl c46 ge52 (pc' := 26) rfl fun T51 h51 L51 X51 W51 K51 => ?_
  have sz_h51 := K51.1
  have K0_h51 : Keep h0 h51 [a] := K0_h45.trans K51 (allS (Or.inl (List.mem_of_getElem? (i := 0) rfl)) all0)
  have F51 := c49.same W51
  have c53 := (c50.keep K51)
  have c54 := ((F43.keep K45 nin0).other W51 (Or.inr (slot_ne (Or.inr (w_24 hw)) (Or.inr (w_25 hw)) (by decide) (t := (.array .byte)) (t' := .byte) (by decide) (by decide))))
  have c55 := (((V37.keep K43 (ninS (own_ne (by omega) : bb37 ≠ a) nin0)).keep K45 nin0).keep K51 (ninS (own_ne (by omega) : bb37 ≠ a) nin0))
  exact k_retHV X51 d_jdk_42_149_26 rfl K0_h51 (fun v' C' => ⟨rfl, _, _, c53, F51, c54, c55⟩) (by decide) (by decide)
set_option maxRecDepth 65536 in
set_option maxHeartbeats 40000000 in
theorem own_initE (l : Launch) (Z : State) (a0 : Array Value) (hw : ∀ d ∈ tables_1, d.before a0 Z = true) {zc : Int32} {fm : Value} {sp : Nat}  (G : Gl Z zc fm sp) (n0 : Nat) (h0 : Heap) (O0 : Old Z n0 h0) (a : Nat) (b : Nat) (kb : ClassId) (vs : List Value) (dv : Value) (gw0 : n0 ≤ a) (q0 : Exa Z h0 a "java/lang/String") (q1 : Fld Z h0 a "java/lang/String" "value" "[B" .null) (q2 : Fld Z h0 a "java/lang/String" "coder" "B" (.int (0 : Int32))) (q3 : Arv Z h0 b kb .char (0 : Int32) vs dv) :
    MetH l [] Z EL n0 (⟨"java/lang/String", "<init>", "([C)V"⟩ : MethodName) jdk_42_method_3_code 2 (Option.none : Option FieldType) ({ frames := 2, cells := 4, slots := 8, locals := 29 } : Room) #[(.ref a), (.ref b)] h0 [a] (fun r v' h' => r = none ∧ ∃ (t : Nat), ∃ (kt : ClassId), (Exa Z h' a "java/lang/String") ∧ (Fld Z h' a "java/lang/String" "coder" "B" (.int (0 : Int32))) ∧ (Fld Z h' a "java/lang/String" "value" "[B" (.ref t)) ∧ (Arv Z h' t kt .byte (0 : Int32) [] (.int (0 : Int32)))) := by
  refine metH (hEL hw) (plainFor_of_name pn_1) O0 (Ls := #[.val (.ref a), .val (.ref b)]) (fun m => by first | rfl | (simp [entryFrame, mkF, argsToLocals, Value.category]; done)) ?_
  intro p e s m below meth c T0 v0 X0 hSf
  have K0_h0 := Keep.refl h0 [a]
  have n0le := X0.n0le
  have ltq0 := own_n q0.lt
  have ltq1 := own_n q1.lt
  have ltq2 := own_n q2.lt
  have ltq3 := own_n q3.lt
  have sf_0 := hSf a (List.mem_of_getElem? (i := 0) rfl)
  obtain ⟨G_cs, G_zc, G_fm, isref_fm, GS_sp, GE_sp⟩ := id G
  have oz := X0.old.1
  have ltz0 := own_n GE_sp.lt
  refine k_aloadN X0 d_jdk_42_3_0 rfl rfl (pc' := 1) rfl ?_
  refine k_aloadN X0 d_jdk_42_3_1 rfl rfl (pc' := 2) rfl ?_
  refine k_iconst X0 d_jdk_42_3_2 (w := (0 : Int32)) rfl (pc' := 3) rfl ?_
  refine k_aloadN X0 d_jdk_42_3_3 rfl rfl (pc' := 4) rfl ?_
  refine k_arlen X0 d_jdk_42_3_4 q3 (pc' := 5) rfl ?_
  refine k_aconstNull X0 d_jdk_42_3_5 (pc' := 6) rfl ?_
  have ge58 : n0 ≤ a := by omega
  refine k_callPNH X0 (y := (⟨"java/lang/String", "<init>", "([CIILjava/lang/Void;)V"⟩ : MethodName)) d_jdk_42_3_6 (w_15 hw) (w_16 hw) (w_10 hw) (w_18 hw) (by decide) rfl rfl (argsL := [(.ref b), (.int (0 : Int32)), (.int (0 : Int32)), .null]) (rest := []) (own_init4E l Z a0 hw G n0 h0 X0.old a b (by omega) q0 q1 q2) rfl pd_3 rfl rfl (by decide) (W := 0) (Nat.le_of_eq rfl) (by decide) (by decide) (by decide) (allS ⟨⟨own_n (by omega), sf_0⟩, ge58⟩ all0) (pc' := 9) rfl ?_
  rintro v59 T59 h59 L59 X59 K59 C59 ⟨t_56, kt_57, q59_0, q59_1, q59_2, q59_3⟩
  have sz_h59 := K59.1
  have K0_h59 : Keep h0 h59 [a] := K0_h0.trans K59 (allS (Or.inl (List.mem_of_getElem? (i := 0) rfl)) all0)
  have lt59_0 := own_n q59_0.lt
  have lt59_1 := own_n q59_1.lt
  have lt59_2 := own_n q59_2.lt
  have lt59_3 := own_n q59_3.lt
  exact k_retHV X59 d_jdk_42_3_9 rfl K0_h59 (fun v' C' => ⟨rfl, _, _, q59_0, q59_1, q59_2, q59_3⟩) (by decide) (by decide)
set_option maxRecDepth 65536 in
set_option maxHeartbeats 40000000 in
theorem own_recInit (l : Launch) (Z : State) (a0 : Array Value) (hw : ∀ d ∈ tables_1, d.before a0 Z = true) {zc : Int32} {fm : Value} {sp : Nat}  (G : Gl Z zc fm sp) (n0 : Nat) (h0 : Heap) (O0 : Old Z n0 h0) (a : Nat)   :
    MetF l [] Z n0 (⟨"java/lang/Record", "<init>", "()V"⟩ : MethodName) jdk_30_method_1_code 1 (Option.none : Option FieldType) ({ frames := 1, cells := 0, slots := 0, locals := 12 } : Room) #[(.ref a)] h0 [] (fun r h' => r = none ∧ True) := by
  refine metF (plainFor_of_name pn_2) O0 (Ls := #[.val (.ref a)]) (fun m => by first | rfl | (simp [entryFrame, mkF, argsToLocals, Value.category]; done)) ?_
  intro p e s m below meth c T0 X0
  have K0_h0 := Keep.refl h0 []
  have n0le := X0.n0le
  obtain ⟨G_cs, G_zc, G_fm, isref_fm, GS_sp, GE_sp⟩ := id G
  have oz := X0.old.1
  have ltz0 := own_n GE_sp.lt
  refine k_aloadN X0 d_jdk_30_1_0 rfl rfl (pc' := 1) rfl ?_
  refine k_initO X0 d_jdk_30_1_1 (w_59 hw) (w_20 hw) (w_21 hw) rfl (by decide) (W := 0) (Nat.le_of_eq rfl) (by decide) (pc' := 4) rfl fun T60 X61 => ?_
  exact k_retFV X61 d_jdk_30_1_4 rfl K0_h0 ⟨rfl, trivial⟩ (by decide) (by decide)
set_option maxRecDepth 65536 in
set_option maxHeartbeats 40000000 in
theorem own_beq (l : Launch) (Z : State) (a0 : Array Value) (hw : ∀ d ∈ tables_1, d.before a0 Z = true) {zc : Int32} {fm : Value} {sp : Nat}  (G : Gl Z zc fm sp) (n0 : Nat) (h0 : Heap) (O0 : Old Z n0 h0) (d : Nat) (g : Nat) (kd : ClassId) (kg : ClassId) (zd : Int32) (zg : Int32) (is : List Int32) (js : List Int32) (hzd : zd = Int32.ofNat is.length) (hzg : zg = Int32.ofNat js.length) (hn1 : is.length < 2147483648) (hn2 : js.length < 2147483648)  (q0 : Arv Z h0 d kd .byte zd (is.map Value.int) (.int (0 : Int32))) (q1 : Arv Z h0 g kg .byte zg (js.map Value.int) (.int (0 : Int32))) :
    MetF l [] Z n0 (⟨"java/lang/StringLatin1", "equals", "([B[B)Z"⟩ : MethodName) jdk_43_method_13_code 3 (Option.some FieldType.boolean) ({ frames := 0, cells := 0, slots := 0, locals := 0 } : Room) #[(.ref d), (.ref g)] h0 [] (fun r h' => ∃ w, r = some w ∧ w = (.int (own_eqv is js)) ∧ True) := by
  refine metF (plainFor_of_name pn_3) O0 (Ls := #[.val (.ref d), .val (.ref g), .unset]) (fun m => by first | rfl | (simp [entryFrame, mkF, argsToLocals, Value.category]; done)) ?_
  intro p e s m below meth c T0 X0
  have K0_h0 := Keep.refl h0 []
  have n0le := X0.n0le
  have ltq0 := own_n q0.lt
  have ltq1 := own_n q1.lt
  obtain ⟨G_cs, G_zc, G_fm, isref_fm, GS_sp, GE_sp⟩ := id G
  have oz := X0.old.1
  have ltz0 := own_n GE_sp.lt
  have loop : ∀ (n i : Nat) (T : State) (L : List Loc), n = is.length - i → i ≤ is.length → is.length = js.length → (∀ j, j < i → is.getD j 0 = js.getD j 0) → WP p l e ({ frames := 0, cells := 0, slots := 0, locals := 0 } : Room) s m #[(.ref d), (.ref g)] below meth c Z "java/lang/StringLatin1" "equals" jdk_43_method_13_code 3 (Option.some FieldType.boolean) n0 (fun _ => True) (fun _ _ => True) T h0 L 0 0 → Run p.tables e below (PF s below n0 h0 [] (fun r h' => ∃ w, r = some w ∧ w = (.int (own_eqv is js)) ∧ True) ({ frames := 0, cells := 0, slots := 0, locals := 0 } : Room).cells ({ frames := 0, cells := 0, slots := 0, locals := 0 } : Room).slots) T (mkF m 9 #[.val (.ref d), .val (.ref g), .val (.int (Int32.ofNat i))] []) := by
    intro n
    induction n with
    | zero =>
      intro i T L hni hij hll hal X
      have hi : i = is.length := by omega
      subst hi
      have hnl : ¬ (Int32.ofNat is.length < zd) := by rw [← hzd]; exact Int32.lt_irrefl
      have he : own_eqv is js = 1 := if_pos (own_ext is js hll hal)
      refine k_iloadN X d_jdk_43_13_9 rfl (pc' := 10) rfl ?_
      refine k_aloadN X d_jdk_43_13_10 rfl rfl (pc' := 11) rfl ?_
      refine k_arlen X d_jdk_43_13_11 q0 (pc' := 12) rfl ?_
      refine k_icmpYes X d_jdk_43_13_12 (flt hnl).2.1 (pc' := 32) (by decide) (by decide) ?_
      refine k_iconst X d_jdk_43_13_32 (w := (1 : Int32)) rfl (pc' := 33) rfl ?_
      exact k_retFN X (w := (1 : Int32)) d_jdk_43_13_33 (t := .boolean) rfl (by simp) rfl K0_h0 ⟨_, rfl, by rw [he], trivial⟩ (by decide) (by decide)
    | succ n ih =>
      intro i T L hni hij hll hal X
      have hi : i < is.length := by omega
      have hlt := own_lt hi hn1
      rw [← hzd] at hlt
      have hlt2 := own_lt (show i < js.length by omega) hn2
      rw [← hzg] at hlt2
      refine k_iloadN X d_jdk_43_13_9 rfl (pc' := 10) rfl ?_
      refine k_aloadN X d_jdk_43_13_10 rfl rfl (pc' := 11) rfl ?_
      refine k_arlen X d_jdk_43_13_11 q0 (pc' := 12) rfl ?_
      refine k_icmpNo X d_jdk_43_13_12 (tlt hlt).2.1 (pc' := 15) rfl ?_
      refine k_aloadN X d_jdk_43_13_15 rfl rfl (pc' := 16) rfl ?_
      refine k_iloadN X d_jdk_43_13_16 rfl (pc' := 17) rfl ?_
      refine k_baload X d_jdk_43_13_17 q0 (own_nn (by omega)) hlt (v := (.int (is.getD i 0))) (own_getc' is (by omega)) (pc' := 18) rfl ?_
      refine k_aloadN X d_jdk_43_13_18 rfl rfl (pc' := 19) rfl ?_
      refine k_iloadN X d_jdk_43_13_19 rfl (pc' := 20) rfl ?_
      refine k_baload X d_jdk_43_13_20 q1 (own_nn (by omega)) hlt2 (v := (.int (js.getD i 0))) (own_getc' js (by omega)) (pc' := 21) rfl ?_
      by_cases hc62 : is.getD i 0 = js.getD i 0
      · refine k_icmpYes X d_jdk_43_13_21 (teq hc62).1 (pc' := 26) (by decide) (by decide) ?_
        refine k_iinc X d_jdk_43_13_26 rfl (w := (Int32.ofNat (i + 1))) (own_succ i) (Ls' := #[.val (.ref d), .val (.ref g), .val (.int (Int32.ofNat (i + 1)))]) rfl (pc' := 29) rfl ?_
        refine k_goto X d_jdk_43_13_29 (pc' := 9) (by decide) (by decide) ?_
        exact ih (i + 1) _ _ (by omega) (by omega) hll (fun j hj => by rcases Nat.lt_succ_iff_lt_or_eq.mp hj with q | q; exact hal j q; subst q; exact hc62) X
      · have he : own_eqv is js = 0 := if_neg fun q => hc62 (by rw [q])
        refine k_icmpNo X d_jdk_43_13_21 (feq hc62).1 (pc' := 24) rfl ?_
        refine k_iconst X d_jdk_43_13_24 (w := (0 : Int32)) rfl (pc' := 25) rfl ?_
        exact k_retFN X (w := (0 : Int32)) d_jdk_43_13_25 (t := .boolean) rfl (by simp) rfl K0_h0 ⟨_, rfl, by rw [he], trivial⟩ (by decide) (by decide)
  refine k_aloadN X0 d_jdk_43_13_0 rfl rfl (pc' := 1) rfl ?_
  refine k_arlen X0 d_jdk_43_13_1 q0 (pc' := 2) rfl ?_
  refine k_aloadN X0 d_jdk_43_13_2 rfl rfl (pc' := 3) rfl ?_
  refine k_arlen X0 d_jdk_43_13_3 q1 (pc' := 4) rfl ?_
  by_cases hc63 : is.length = js.length
  · have hz : zd = zg := by rw [hzd, hzg, hc63]
    refine k_icmpNo X0 d_jdk_43_13_4 (teq hz).2 (pc' := 7) rfl ?_
    refine k_iconst X0 d_jdk_43_13_7 (w := (0 : Int32)) rfl (pc' := 8) rfl ?_
    refine k_istoreN X0 d_jdk_43_13_8 (Ls' := #[.val (.ref d), .val (.ref g), .val (.int (0 : Int32))]) rfl (pc' := 9) rfl ?_
    exact loop _ 0 _ _ rfl (by omega) hc63 (fun j hj => by omega) X0
  · have hz : ¬ (zd = zg) := fun q => hc63 (by have := congrArg Int32.toNatClampNeg (hzd.symm.trans (q.trans hzg)); rwa [own_clamp hn1, own_clamp hn2] at this)
    have he : own_eqv is js = 0 := if_neg fun q => hc63 (by rw [q])
    refine k_icmpYes X0 d_jdk_43_13_4 (feq hz).2 (pc' := 34) (by decide) (by decide) ?_
    refine k_iconst X0 d_jdk_43_13_34 (w := (0 : Int32)) rfl (pc' := 35) rfl ?_
    exact k_retFN X0 (w := (0 : Int32)) d_jdk_43_13_35 (t := .boolean) rfl (by simp) rfl K0_h0 ⟨_, rfl, by rw [he], trivial⟩ (by decide) (by decide)
set_option maxRecDepth 65536 in
set_option maxHeartbeats 40000000 in
theorem own_eq (l : Launch) (Z : State) (a0 : Array Value) (hw : ∀ d ∈ tables_1, d.before a0 Z = true) {zc : Int32} {fm : Value} {sp : Nat}  (G : Gl Z zc fm sp) (n0 : Nat) (h0 : Heap) (O0 : Old Z n0 h0) (a : Nat) (b : Nat) (t : Nat) (kt : ClassId) (cd : Int32) (zz : Int32) (bs : List Value) (cs : List Int32) (t2 : Nat) (kt2 : ClassId) (cd2 : Int32) (zz2 : Int32) (bs2 : List Value) (cs2 : List Int32) (hn : cs.length < 536870912) (hn2 : cs2.length < 536870912) (hr : own_chs cs) (hr2 : own_chs cs2)  (q0 : Exa Z h0 a "java/lang/String") (q1 : Fld Z h0 a "java/lang/String" "value" "[B" (.ref t)) (q2 : Fld Z h0 a "java/lang/String" "coder" "B" (.int cd)) (q3 : Arv Z h0 t kt .byte zz bs (.int (0 : Int32))) (q4 : own_cod cs cd zz bs) (q5 : Exa Z h0 b "java/lang/String") (q6 : Fld Z h0 b "java/lang/String" "value" "[B" (.ref t2)) (q7 : Fld Z h0 b "java/lang/String" "coder" "B" (.int cd2)) (q8 : Arv Z h0 t2 kt2 .byte zz2 bs2 (.int (0 : Int32))) (q9 : own_cod cs2 cd2 zz2 bs2) :
    MetF l [] Z n0 (⟨"java/lang/String", "equals", "(Ljava/lang/Object;)Z"⟩ : MethodName) jdk_42_method_66_code 3 (Option.some FieldType.boolean) ({ frames := 1, cells := 0, slots := 0, locals := 14 } : Room) #[(.ref a), (.ref b)] h0 [] (fun r h' => ∃ w, r = some w ∧ w = (.int (own_eqv cs cs2)) ∧ True) := by
  refine metF (plainFor_of_name pn_1) O0 (Ls := #[.val (.ref a), .val (.ref b), .unset]) (fun m => by first | rfl | (simp [entryFrame, mkF, argsToLocals, Value.category]; done)) ?_
  intro p e s m below meth c T0 X0
  have K0_h0 := Keep.refl h0 []
  have n0le := X0.n0le
  have ltq0 := own_n q0.lt
  have ltq1 := own_n q1.lt
  have ltq2 := own_n q2.lt
  have ltq3 := own_n q3.lt
  have ltq5 := own_n q5.lt
  have ltq6 := own_n q6.lt
  have ltq7 := own_n q7.lt
  have ltq8 := own_n q8.lt
  obtain ⟨G_cs, G_zc, G_fm, isref_fm, GS_sp, GE_sp⟩ := id G
  have oz := X0.old.1
  have ltz0 := own_n GE_sp.lt
  obtain ⟨is, ei, ezi, eli⟩ := own_cod_ints q4
  obtain ⟨js, ej, ezj, elj⟩ := own_cod_ints q9
  by_cases hc64 : a = b
  · subst hc64
    have ht : t = t2 := by rcases Nat.decEq t t2 with q | q; exact absurd rfl (Fld.ne q1 q6 fun r => q (Value.ref.inj r)); exact q
    subst ht
    have hc : cd = cd2 := by rcases (inferInstance : Decidable (cd = cd2)) with q | q; exact absurd rfl (Fld.ne q2 q7 fun r => q (Value.int.inj r)); exact q
    subst hc
    have he := own_same_txt q3 q8 q4 q9 hr hr2 hn hn2
    refine k_aloadN X0 d_jdk_42_66_0 rfl rfl (pc' := 1) rfl ?_
    refine k_aloadN X0 d_jdk_42_66_1 rfl rfl (pc' := 2) rfl ?_
    refine k_acmp X0 true d_jdk_42_66_2 rfl rfl (decide_eq_true rfl) (by decide) (pc' := 5) (by decide) ?_
    refine k_iconst X0 d_jdk_42_66_5 (w := (1 : Int32)) rfl (pc' := 6) rfl ?_
    exact k_retFN X0 (w := (1 : Int32)) d_jdk_42_66_6 (t := .boolean) rfl (by simp) rfl K0_h0 ⟨_, rfl, by rw [he], trivial⟩ (by decide) (by decide)
  · refine k_aloadN X0 d_jdk_42_66_0 rfl rfl (pc' := 1) rfl ?_
    refine k_aloadN X0 d_jdk_42_66_1 rfl rfl (pc' := 2) rfl ?_
    refine k_acmp X0 false d_jdk_42_66_2 rfl rfl (decide_eq_false fun q => hc64 (Value.ref.inj q)) (by decide) (pc' := 7) (by decide) ?_
    refine k_aloadN X0 d_jdk_42_66_7 rfl rfl (pc' := 8) rfl ?_
    refine k_instY X0 d_jdk_42_66_8 (w_44 hw) (Ins.self q5) (pc' := 11) rfl fun T65 X66 => ?_
    refine k_ifNo X66 d_jdk_42_66_11 (by decide) (pc' := 14) rfl ?_
    refine k_aloadN X66 d_jdk_42_66_14 rfl rfl (pc' := 15) rfl ?_
    refine k_castY X66 d_jdk_42_66_15 (w_44 hw) (Ins.self q5) (pc' := 18) rfl fun T67 X68 => ?_
    refine k_astoreN X68 d_jdk_42_66_18 rfl (Ls' := #[.val (.ref a), .val (.ref b), .val (.ref b)]) rfl (pc' := 19) rfl ?_
    refine k_getS X68 d_jdk_42_66_19 (host := "") (Or.inl (w_39 hw)) Via.refl (G_cs.ext X68.old.2) (pc' := 22) rfl fun T69 X70 => ?_
    refine k_ifNo X70 d_jdk_42_66_22 ((if0 _ _).trans (feq G_zc).1) (pc' := 25) rfl ?_
    refine k_aloadN X70 d_jdk_42_66_25 rfl rfl (pc' := 26) rfl ?_
    refine k_getF X70 d_jdk_42_66_26 (host := "") (Or.inl (w_29 hw)) Via.refl q2 (pc' := 29) rfl fun T71 X72 => ?_
    refine k_aloadN X72 d_jdk_42_66_29 rfl rfl (pc' := 30) rfl ?_
    refine k_getF X72 d_jdk_42_66_30 (host := "") (Or.inl (w_29 hw)) Via.refl q7 (pc' := 33) rfl fun T73 X74 => ?_
    by_cases hc75 : cd = cd2
    · subst hc75
      have he := own_cod_eq q4 q9 hr hr2 ei ej
      subst ei ej
      refine k_icmpNo X74 d_jdk_42_66_33 (teq rfl).2 (pc' := 36) rfl ?_
      refine k_aloadN X74 d_jdk_42_66_36 rfl rfl (pc' := 37) rfl ?_
      refine k_getF X74 d_jdk_42_66_37 (host := "") (Or.inl (w_28 hw)) Via.refl q1 (pc' := 40) rfl fun T76 X77 => ?_
      refine k_aloadN X77 d_jdk_42_66_40 rfl rfl (pc' := 41) rfl ?_
      refine k_getF X77 d_jdk_42_66_41 (host := "") (Or.inl (w_28 hw)) Via.refl q6 (pc' := 44) rfl fun T78 X79 => ?_
      refine k_callSVF X79 (y := (⟨"java/lang/StringLatin1", "equals", "([B[B)Z"⟩ : MethodName)) d_jdk_42_66_44 (w_84 hw) (w_85 hw) (w_42 hw) (w_86 hw) (by decide) (argsL := [(.ref t), (.ref t2)]) (rest := []) (own_beq l Z a0 hw G n0 h0 X79.old t t2 kt kt2 zz zz2 is js ezi ezj (by omega) (by omega) q3 q8) rfl pd_4 rfl rfl (by decide) (W := 0) (Nat.le_of_eq rfl) (by decide) (by decide) (by decide) all0 (pc' := 47) rfl ?_
      rintro _ T80 h80 L80 X80 K80 ⟨rfl, -⟩
      have sz_h80 := K80.1
      have K0_h80 : Keep h0 h80 [] := K0_h0.trans K80 all0
      by_cases hc82 : own_eqv is js = (0 : Int32)
      · refine k_ifYes X80 d_jdk_42_66_47 ((if0 _ _).trans (teq hc82).1) (pc' := 54) (by decide) (by decide) ?_
        refine k_iconst X80 d_jdk_42_66_54 (w := (0 : Int32)) rfl (pc' := 55) rfl ?_
        exact k_retFN X80 (w := (0 : Int32)) d_jdk_42_66_55 (t := .boolean) rfl (by simp) rfl K0_h80 ⟨_, rfl, by rw [← he, hc82], trivial⟩ (by decide) (by decide)
      · have h1 : own_eqv is js = 1 := by rcases own_eqv01 is js with q | q; exact absurd q hc82; exact q
        refine k_ifNo X80 d_jdk_42_66_47 ((if0 _ _).trans (feq hc82).1) (pc' := 50) rfl ?_
        refine k_iconst X80 d_jdk_42_66_50 (w := (1 : Int32)) rfl (pc' := 51) rfl ?_
        refine k_goto X80 d_jdk_42_66_51 (pc' := 55) (by decide) (by decide) ?_
        exact k_retFN X80 (w := (1 : Int32)) d_jdk_42_66_55 (t := .boolean) rfl (by simp) rfl K0_h80 ⟨_, rfl, by rw [← he, h1], trivial⟩ (by decide) (by decide)
    · have he := own_cod_ne q4 q9 hc75
      refine k_icmpYes X74 d_jdk_42_66_33 (feq hc75).2 (pc' := 54) (by decide) (by decide) ?_
      refine k_iconst X74 d_jdk_42_66_54 (w := (0 : Int32)) rfl (pc' := 55) rfl ?_
      exact k_retFN X74 (w := (0 : Int32)) d_jdk_42_66_55 (t := .boolean) rfl (by simp) rfl K0_h0 ⟨_, rfl, by rw [he], trivial⟩ (by decide) (by decide)
set_option maxRecDepth 65536 in
set_option maxHeartbeats 40000000 in
theorem own_initBB0 (l : Launch) (Z : State) (a0 : Array Value) (hw : ∀ d ∈ tables_1, d.before a0 Z = true) {zc : Int32} {fm : Value} {sp : Nat}  (G : Gl Z zc fm sp) (n0 : Nat) (h0 : Heap) (O0 : Old Z n0 h0) (a : Nat) (t : Nat) (gw0 : n0 ≤ a) (q0 : Exa Z h0 a "java/lang/String") (q1 : Fld Z h0 a "java/lang/String" "value" "[B" .null) (q2 : Fld Z h0 a "java/lang/String" "coder" "B" (.int (0 : Int32))) :
    MetF l [] Z n0 (⟨"java/lang/String", "<init>", "([BB)V"⟩ : MethodName) jdk_42_method_151_code 3 (Option.none : Option FieldType) ({ frames := 1, cells := 0, slots := 0, locals := 12 } : Room) #[(.ref a), (.ref t), (.int (0 : Int32))] h0 [a] (fun r h' => r = none ∧ (Exa Z h' a "java/lang/String") ∧ (Fld Z h' a "java/lang/String" "value" "[B" (.ref t)) ∧ (Fld Z h' a "java/lang/String" "coder" "B" (.int (0 : Int32)))) := by
  refine metF (plainFor_of_name pn_1) O0 (Ls := #[.val (.ref a), .val (.ref t), .val (.int (0 : Int32))]) (fun m => by first | rfl | (simp [entryFrame, mkF, argsToLocals, Value.category]; done)) ?_
  intro p e s m below meth c T0 X0
  have K0_h0 := Keep.refl h0 [a]
  have n0le := X0.n0le
  have ltq0 := own_n q0.lt
  have ltq1 := own_n q1.lt
  have ltq2 := own_n q2.lt
  obtain ⟨G_cs, G_zc, G_fm, isref_fm, GS_sp, GE_sp⟩ := id G
  have oz := X0.old.1
  have ltz0 := own_n GE_sp.lt
  refine k_aloadN X0 d_jdk_42_151_0 rfl rfl (pc' := 1) rfl ?_
  refine k_initO X0 d_jdk_42_151_1 (w_19 hw) (w_20 hw) (w_21 hw) rfl (by decide) (W := 0) (Nat.le_of_eq rfl) (by decide) (pc' := 4) rfl fun T83 X84 => ?_
  refine k_aloadN X84 d_jdk_42_151_4 rfl rfl (pc' := 5) rfl ?_
  refine k_aloadN X84 d_jdk_42_151_5 rfl rfl (pc' := 6) rfl ?_
  have ge86 : n0 ≤ a := by omega
  refine k_putF X84 d_jdk_42_151_6 (host := "") (Or.inl (w_28 hw)) Via.refl q1 q0 (Or.inr ⟨(w_24 hw), rfl, X84.hnm⟩) (w_9 hw) (ty := (.array .byte)) (by decide) rfl rfl trivial ge86 (pc' := 9) rfl fun T85 h85 L85 X85 W85 K85 => ?_
  have sz_h85 := K85.1
  have K0_h85 : Keep h0 h85 [a] := K0_h0.trans K85 (allS (Or.inl (List.mem_of_getElem? (i := 0) rfl)) all0)
  have F85 := q1.same W85
  refine k_aloadN X85 d_jdk_42_151_9 rfl rfl (pc' := 10) rfl ?_
  refine k_iloadN X85 d_jdk_42_151_10 rfl (pc' := 11) rfl ?_
  have c87 := (q2.other W85 (Or.inr (slot_ne (Or.inr (w_25 hw)) (Or.inr (w_24 hw)) (by decide) (t := .byte) (t' := (.array .byte)) (by decide) (by decide))))
  have c88 := (q0.keep K85)
  have ge90 : n0 ≤ a := by omega
  refine k_putF X85 d_jdk_42_151_11 (host := "") (Or.inl (w_29 hw)) Via.refl c87 c88 (Or.inr ⟨(w_25 hw), rfl, X85.hnm⟩) (w_9 hw) (ty := .byte) (by decide) rfl rfl trivial ge90 (pc' := 14) rfl fun T89 h89 L89 X89 W89 K89 => ?_
  have sz_h89 := K89.1
  have K0_h89 : Keep h0 h89 [a] := K0_h85.trans K89 (allS (Or.inl (List.mem_of_getElem? (i := 0) rfl)) all0)
  have F89 := c87.same W89
  have c91 := (c88.keep K89)
  have c92 := (F85.other W89 (Or.inr (slot_ne (Or.inr (w_24 hw)) (Or.inr (w_25 hw)) (by decide) (t := (.array .byte)) (t' := .byte) (by decide) (by decide))))
  exact k_retFV X89 d_jdk_42_151_14 rfl K0_h89 ⟨rfl, c91, c92, F89⟩ (by decide) (by decide)
set_option maxRecDepth 65536 in
set_option maxHeartbeats 40000000 in
theorem own_initBB1 (l : Launch) (Z : State) (a0 : Array Value) (hw : ∀ d ∈ tables_1, d.before a0 Z = true) {zc : Int32} {fm : Value} {sp : Nat}  (G : Gl Z zc fm sp) (n0 : Nat) (h0 : Heap) (O0 : Old Z n0 h0) (a : Nat) (t : Nat) (gw0 : n0 ≤ a) (q0 : Exa Z h0 a "java/lang/String") (q1 : Fld Z h0 a "java/lang/String" "value" "[B" .null) (q2 : Fld Z h0 a "java/lang/String" "coder" "B" (.int (0 : Int32))) :
    MetF l [] Z n0 (⟨"java/lang/String", "<init>", "([BB)V"⟩ : MethodName) jdk_42_method_151_code 3 (Option.none : Option FieldType) ({ frames := 1, cells := 0, slots := 0, locals := 12 } : Room) #[(.ref a), (.ref t), (.int (1 : Int32))] h0 [a] (fun r h' => r = none ∧ (Exa Z h' a "java/lang/String") ∧ (Fld Z h' a "java/lang/String" "value" "[B" (.ref t)) ∧ (Fld Z h' a "java/lang/String" "coder" "B" (.int (1 : Int32)))) := by
  refine metF (plainFor_of_name pn_1) O0 (Ls := #[.val (.ref a), .val (.ref t), .val (.int (1 : Int32))]) (fun m => by first | rfl | (simp [entryFrame, mkF, argsToLocals, Value.category]; done)) ?_
  intro p e s m below meth c T0 X0
  have K0_h0 := Keep.refl h0 [a]
  have n0le := X0.n0le
  have ltq0 := own_n q0.lt
  have ltq1 := own_n q1.lt
  have ltq2 := own_n q2.lt
  obtain ⟨G_cs, G_zc, G_fm, isref_fm, GS_sp, GE_sp⟩ := id G
  have oz := X0.old.1
  have ltz0 := own_n GE_sp.lt
  refine k_aloadN X0 d_jdk_42_151_0 rfl rfl (pc' := 1) rfl ?_
  refine k_initO X0 d_jdk_42_151_1 (w_19 hw) (w_20 hw) (w_21 hw) rfl (by decide) (W := 0) (Nat.le_of_eq rfl) (by decide) (pc' := 4) rfl fun T93 X94 => ?_
  refine k_aloadN X94 d_jdk_42_151_4 rfl rfl (pc' := 5) rfl ?_
  refine k_aloadN X94 d_jdk_42_151_5 rfl rfl (pc' := 6) rfl ?_
  have ge96 : n0 ≤ a := by omega
  refine k_putF X94 d_jdk_42_151_6 (host := "") (Or.inl (w_28 hw)) Via.refl q1 q0 (Or.inr ⟨(w_24 hw), rfl, X94.hnm⟩) (w_9 hw) (ty := (.array .byte)) (by decide) rfl rfl trivial ge96 (pc' := 9) rfl fun T95 h95 L95 X95 W95 K95 => ?_
  have sz_h95 := K95.1
  have K0_h95 : Keep h0 h95 [a] := K0_h0.trans K95 (allS (Or.inl (List.mem_of_getElem? (i := 0) rfl)) all0)
  have F95 := q1.same W95
  refine k_aloadN X95 d_jdk_42_151_9 rfl rfl (pc' := 10) rfl ?_
  refine k_iloadN X95 d_jdk_42_151_10 rfl (pc' := 11) rfl ?_
  have c97 := (q2.other W95 (Or.inr (slot_ne (Or.inr (w_25 hw)) (Or.inr (w_24 hw)) (by decide) (t := .byte) (t' := (.array .byte)) (by decide) (by decide))))
  have c98 := (q0.keep K95)
  have ge100 : n0 ≤ a := by omega
  refine k_putF X95 d_jdk_42_151_11 (host := "") (Or.inl (w_29 hw)) Via.refl c97 c98 (Or.inr ⟨(w_25 hw), rfl, X95.hnm⟩) (w_9 hw) (ty := .byte) (by decide) rfl rfl trivial ge100 (pc' := 14) rfl fun T99 h99 L99 X99 W99 K99 => ?_
  have sz_h99 := K99.1
  have K0_h99 : Keep h0 h99 [a] := K0_h95.trans K99 (allS (Or.inl (List.mem_of_getElem? (i := 0) rfl)) all0)
  have F99 := c97.same W99
  have c101 := (c98.keep K99)
  have c102 := (F95.other W99 (Or.inr (slot_ne (Or.inr (w_24 hw)) (Or.inr (w_25 hw)) (by decide) (t := (.array .byte)) (t' := .byte) (by decide) (by decide))))
  exact k_retFV X99 d_jdk_42_151_14 rfl K0_h99 ⟨rfl, c101, c102, F99⟩ (by decide) (by decide)
set_option maxRecDepth 65536 in
set_option maxHeartbeats 40000000 in
theorem own_canE1 (l : Launch) (Z : State) (a0 : Array Value) (hw : ∀ d ∈ tables_1, d.before a0 Z = true) {zc : Int32} {fm : Value} {sp : Nat}  (G : Gl Z zc fm sp) (n0 : Nat) (h0 : Heap) (O0 : Old Z n0 h0) (c0 : Int32) (hc : ¬ 255 < c0)   :
    MetF l [] Z n0 (⟨"java/lang/StringLatin1", "canEncode", "(C)Z"⟩ : MethodName) jdk_43_method_3_code 1 (Option.some FieldType.boolean) ({ frames := 0, cells := 0, slots := 0, locals := 0 } : Room) #[(.int c0)] h0 [] (fun r h' => ∃ w, r = some w ∧ w = (.int (1 : Int32)) ∧ True) := by
  refine metF (plainFor_of_name pn_3) O0 (Ls := #[.val (.int c0)]) (fun m => by first | rfl | (simp [entryFrame, mkF, argsToLocals, Value.category]; done)) ?_
  intro p e s m below meth c T0 X0
  have K0_h0 := Keep.refl h0 []
  have n0le := X0.n0le
  obtain ⟨G_cs, G_zc, G_fm, isref_fm, GS_sp, GE_sp⟩ := id G
  have oz := X0.old.1
  have ltz0 := own_n GE_sp.lt
  refine k_iloadN X0 d_jdk_43_3_0 rfl (pc' := 1) rfl ?_
  refine k_sipush X0 d_jdk_43_3_1 (w := (255 : Int32)) rfl (pc' := 4) rfl ?_
  refine k_icmpNo X0 d_jdk_43_3_4 (flt hc).2.2.1 (pc' := 7) rfl ?_
  refine k_iconst X0 d_jdk_43_3_7 (w := (1 : Int32)) rfl (pc' := 8) rfl ?_
  refine k_goto X0 d_jdk_43_3_8 (pc' := 12) (by decide) (by decide) ?_
  exact k_retFN X0 (w := (1 : Int32)) d_jdk_43_3_12 (t := .boolean) rfl (by simp) rfl K0_h0 ⟨_, rfl, rfl, trivial⟩ (by decide) (by decide)
set_option maxRecDepth 65536 in
set_option maxHeartbeats 40000000 in
theorem own_toBL (l : Launch) (Z : State) (a0 : Array Value) (hw : ∀ d ∈ tables_1, d.before a0 Z = true) {zc : Int32} {fm : Value} {sp : Nat}  (G : Gl Z zc fm sp) (n0 : Nat) (h0 : Heap) (O0 : Old Z n0 h0) (c0 : Int32)   :
    MetF l [] Z n0 (⟨"java/lang/StringLatin1", "toBytes", "(C)[B"⟩ : MethodName) jdk_43_method_46_code 1 (Option.some (FieldType.array FieldType.byte)) ({ frames := 0, cells := 1, slots := 1, locals := 0 } : Room) #[(.int c0)] h0 [] (fun r h' => ∃ w, r = some w ∧ ∃ (t : Nat), ∃ (kt : ClassId), w = (.ref t) ∧ (Arv Z h' t kt .byte (1 : Int32) (own_lat [c0]) (.int (0 : Int32))) ∧ (h0.size ≤ t)) := by
  refine metF (plainFor_of_name pn_3) O0 (Ls := #[.val (.int c0)]) (fun m => by first | rfl | (simp [entryFrame, mkF, argsToLocals, Value.category]; done)) ?_
  intro p e s m below meth c T0 X0
  have K0_h0 := Keep.refl h0 []
  have n0le := X0.n0le
  obtain ⟨G_cs, G_zc, G_fm, isref_fm, GS_sp, GE_sp⟩ := id G
  have oz := X0.old.1
  have ltz0 := own_n GE_sp.lt
  refine k_iconst X0 d_jdk_43_46_0 (w := (1 : Int32)) rfl (pc' := 1) rfl ?_
  refine k_newP X0 d_jdk_43_46_1 (w_23 hw) (by decide) (cap := 1) (by decide) (by decide) (by decide) (by decide) (pc' := 3) rfl fun T103 h103 b103 k103 g103 X103 K103 V103 S103 lt103 ge103 => ?_
  have sz_h103 := K103.1
  have K0_h103 : Keep h0 h103 [] := K0_h0.trans K103 all0
  have V103' : Arv Z h103 b103 k103 .byte (1 : Int32) [(.int (0 : Int32))] (.int (0 : Int32)) := Arv.pad V103 (pad_rep [] (.int (0 : Int32)) 1)
  refine k_dup X103 d_jdk_43_46_3 rfl (pc' := 4) rfl ?_
  refine k_iconst X103 d_jdk_43_46_4 (w := (0 : Int32)) rfl (pc' := 5) rfl ?_
  refine k_iloadN X103 d_jdk_43_46_5 rfl (pc' := 6) rfl ?_
  refine k_i2b X103 d_jdk_43_46_6 (w := (c0.toInt8.toInt32)) rfl (pc' := 7) rfl ?_
  have ge105 : n0 ≤ b103 := by omega
  refine k_bastore X103 (w := (c0.toInt8.toInt32)) (0) d_jdk_43_46_7 V103' (by decide) (by decide) rfl (by decide) (own_i2b _) (vs' := (own_lat [c0])) rfl trivial ge105 (pc' := 8) rfl fun T104 h104 L104 X104 K104 V104 => ?_
  have sz_h104 := K104.1
  have K0_h104 : Keep h0 h104 [] := K0_h103.trans K104 (allS (Or.inr (by omega)) all0)
  exact k_retFA X104 d_jdk_43_46_8 rfl rfl rfl rfl K0_h104 ⟨_, rfl, _, _, rfl, V104, by omega⟩ (by decide) (by decide)
set_option maxRecDepth 65536 in
set_option maxHeartbeats 40000000 in
theorem own_vocL (l : Launch) (Z : State) (a0 : Array Value) (hw : ∀ d ∈ tables_1, d.before a0 Z = true) {zc : Int32} {fm : Value} {sp : Nat}  (G : Gl Z zc fm sp) (n0 : Nat) (h0 : Heap) (O0 : Old Z n0 h0) (c0 : Int32) (hc : ¬ 255 < c0)   :
    MetF l [] Z n0 (⟨"java/lang/String", "valueOf", "(C)Ljava/lang/String;"⟩ : MethodName) jdk_42_method_139_code 1 (Option.some (FieldType.object "java/lang/String")) ({ frames := 2, cells := 2, slots := 5, locals := 27 } : Room) #[(.int c0)] h0 [] (fun r h' => ∃ w, r = some w ∧ ∃ (r : Nat), ∃ (t : Nat), ∃ (kt : ClassId), w = (.ref r) ∧ (Exa Z h' r "java/lang/String") ∧ (Fld Z h' r "java/lang/String" "value" "[B" (.ref t)) ∧ (Fld Z h' r "java/lang/String" "coder" "B" (.int (0 : Int32))) ∧ (Arv Z h' t kt .byte (1 : Int32) (own_lat [c0]) (.int (0 : Int32))) ∧ (h0.size ≤ r) ∧ (h0.size ≤ t)) := by
  refine metF (plainFor_of_name pn_1) O0 (Ls := #[.val (.int c0)]) (fun m => by first | rfl | (simp [entryFrame, mkF, argsToLocals, Value.category]; done)) ?_
  intro p e s m below meth c T0 X0
  have K0_h0 := Keep.refl h0 []
  have n0le := X0.n0le
  obtain ⟨G_cs, G_zc, G_fm, isref_fm, GS_sp, GE_sp⟩ := id G
  have oz := X0.old.1
  have ltz0 := own_n GE_sp.lt
  refine k_getS X0 d_jdk_42_139_0 (host := "") (Or.inl (w_39 hw)) Via.refl (G_cs.ext X0.old.2) (pc' := 3) rfl fun T106 X107 => ?_
  refine k_ifNo X107 d_jdk_42_139_3 ((if0 _ _).trans (feq G_zc).1) (pc' := 6) rfl ?_
  refine k_iloadN X107 d_jdk_42_139_6 rfl (pc' := 7) rfl ?_
  refine k_callSVF X107 (y := (⟨"java/lang/StringLatin1", "canEncode", "(C)Z"⟩ : MethodName)) d_jdk_42_139_7 (w_40 hw) (w_41 hw) (w_42 hw) (w_43 hw) (by decide) (argsL := [(.int c0)]) (rest := []) (own_canE1 l Z a0 hw G n0 h0 X107.old c0 hc ) rfl pd_5 rfl rfl (by decide) (W := 0) (Nat.le_of_eq rfl) (by decide) (by decide) (by decide) all0 (pc' := 10) rfl ?_
  rintro _ T108 h108 L108 X108 K108 ⟨rfl, -⟩
  have sz_h108 := K108.1
  have K0_h108 : Keep h0 h108 [] := K0_h0.trans K108 all0
  refine k_ifNo X108 d_jdk_42_139_10 (by decide) (pc' := 13) rfl ?_
  refine k_newO X108 d_jdk_42_139_13 (w_44 hw) (w_9 hw) (w_10 hw) (by decide) (by decide) (pc' := 16) rfl fun T110 h110 b110 g110 X110 K110 E110 D110 S110 lt110 ge110 => ?_
  have sz_h110 := K110.1
  have K0_h110 : Keep h0 h110 [] := K0_h108.trans K110 all0
  have Fn110_value : Fld Z h110 b110 "java/lang/String" "value" "[B" .null := D110 (Or.inr (w_24 hw)) (ty := (.array .byte)) (by decide)
  have Fn110_coder : Fld Z h110 b110 "java/lang/String" "coder" "B" (.int (0 : Int32)) := D110 (Or.inr (w_25 hw)) (ty := .byte) (by decide)
  refine k_dup X110 d_jdk_42_139_16 rfl (pc' := 17) rfl ?_
  refine k_iloadN X110 d_jdk_42_139_17 rfl (pc' := 18) rfl ?_
  refine k_callSVF X110 (y := (⟨"java/lang/StringLatin1", "toBytes", "(C)[B"⟩ : MethodName)) d_jdk_42_139_18 (w_45 hw) (w_46 hw) (w_42 hw) (w_47 hw) (by decide) (argsL := [(.int c0)]) (rest := [(.ref b110), (.ref b110)]) (own_toBL l Z a0 hw G n0 h110 X110.old c0 ) rfl pd_6 rfl rfl (by decide) (W := 2) (Nat.le_of_eq rfl) (by decide) (by decide) (by decide) all0 (pc' := 21) rfl ?_
  rintro _ T113 h113 L113 X113 K113 ⟨t_111, kt_112, rfl, q113_0, q113_1⟩
  have sz_h113 := K113.1
  have K0_h113 : Keep h0 h113 [] := K0_h110.trans K113 all0
  have lt113_0 := own_n q113_0.lt
  refine k_iconst X113 d_jdk_42_139_21 (w := (0 : Int32)) rfl (pc' := 22) rfl ?_
  have c115 := (E110.keep K113)
  have c116 := (Fn110_value.keep K113 nin0)
  have c117 := (Fn110_coder.keep K113 nin0)
  have ge118 : n0 ≤ b110 := by omega
  refine k_callPNF X113 (y := (⟨"java/lang/String", "<init>", "([BB)V"⟩ : MethodName)) d_jdk_42_139_22 (w_48 hw) (w_49 hw) (w_10 hw) (w_50 hw) (by decide) rfl rfl (argsL := [(.ref t_111), (.int (0 : Int32))]) (rest := [(.ref b110)]) (own_initBB0 l Z a0 hw G n0 h113 X113.old b110 t_111 (by omega) c115 c116 c117) rfl pd_7 rfl rfl (by decide) (W := 1) (Nat.le_of_eq rfl) (by decide) (by decide) (by decide) (allS ⟨trivial, ge118⟩ all0) (pc' := 25) rfl ?_
  rintro T119 h119 L119 X119 K119 ⟨q119_0, q119_1, q119_2⟩
  have sz_h119 := K119.1
  have K0_h119 : Keep h0 h119 [] := K0_h113.trans K119 (allS (Or.inr (by omega)) all0)
  have lt119_0 := own_n q119_0.lt
  have lt119_1 := own_n q119_1.lt
  have lt119_2 := own_n q119_2.lt
  have c120 := (q113_0.keep K119 (ninS (own_ne (by omega) : t_111 ≠ b110) nin0))
  exact k_retFA X119 d_jdk_42_139_25 rfl rfl rfl rfl K0_h119 ⟨_, rfl, _, _, _, rfl, q119_0, q119_1, q119_2, c120, by omega, by omega⟩ (by decide) (by decide)
set_option maxRecDepth 65536 in
set_option maxHeartbeats 40000000 in
theorem own_spof (l : Launch) (Z : State) (a0 : Array Value) (hw : ∀ d ∈ tables_1, d.before a0 Z = true) {zc : Int32} {fm : Value} {sp : Nat}  (G : Gl Z zc fm sp) (n0 : Nat) (h0 : Heap) (O0 : Old Z n0 h0) (x : Nat)  (q0 : Exa Z h0 x "com/example/settlegram/settlegram/SequencePath") :
    MetF l [] Z n0 (⟨"com/example/settlegram/settlegram/SequencePath", "of", "(Ljava/util/List;)Lcom/example/settlegram/settlegram/SequencePath;"⟩ : MethodName) prog_85_method_3_code 4 (Option.some (FieldType.object "com/example/settlegram/settlegram/SequencePath")) ({ frames := 0, cells := 0, slots := 0, locals := 0 } : Room) #[(.ref x)] h0 [] (fun r h' => ∃ w, r = some w ∧ w = (.ref x) ∧ True) := by
  refine metF (plainFor_of_name pn_4) O0 (Ls := #[.val (.ref x), .unset, .unset, .unset]) (fun m => by first | rfl | (simp [entryFrame, mkF, argsToLocals, Value.category]; done)) ?_
  intro p e s m below meth c T0 X0
  have K0_h0 := Keep.refl h0 []
  have n0le := X0.n0le
  have ltq0 := own_n q0.lt
  obtain ⟨G_cs, G_zc, G_fm, isref_fm, GS_sp, GE_sp⟩ := id G
  have oz := X0.old.1
  have ltz0 := own_n GE_sp.lt
  refine k_aloadN X0 d_prog_85_3_0 rfl rfl (pc' := 1) rfl ?_
  refine k_instY X0 d_prog_85_3_1 (w_63 hw) (Ins.self q0) (pc' := 4) rfl fun T121 X122 => ?_
  refine k_ifNo X122 d_prog_85_3_4 (by decide) (pc' := 7) rfl ?_
  refine k_aloadN X122 d_prog_85_3_7 rfl rfl (pc' := 8) rfl ?_
  refine k_castY X122 d_prog_85_3_8 (w_63 hw) (Ins.self q0) (pc' := 11) rfl fun T123 X124 => ?_
  refine k_astoreN X124 d_prog_85_3_11 rfl (Ls' := #[.val (.ref x), .val (.ref x), .unset, .unset]) rfl (pc' := 12) rfl ?_
  refine k_aloadN X124 d_prog_85_3_12 rfl rfl (pc' := 13) rfl ?_
  exact k_retFA X124 d_prog_85_3_13 rfl rfl rfl rfl K0_h0 ⟨_, rfl, rfl, trivial⟩ (by decide) (by decide)
set_option maxRecDepth 65536 in
set_option maxHeartbeats 40000000 in
theorem own_tlInit (l : Launch) (Z : State) (a0 : Array Value) (hw : ∀ d ∈ tables_1, d.before a0 Z = true) {zc : Int32} {fm : Value} {sp : Nat}  (G : Gl Z zc fm sp) (n0 : Nat) (h0 : Heap) (O0 : Old Z n0 h0) (a : Nat) (n : Int32) (x : Nat) (tg : Nat) (tx : Nat) (gw0 : n0 ≤ a) (q0 : Exa Z h0 a "com/example/settlegram/settlegram/TextLine") (q1 : Fld Z h0 a "com/example/settlegram/settlegram/TextLine" "number" "I" (.int (0 : Int32))) (q2 : Fld Z h0 a "com/example/settlegram/settlegram/TextLine" "sequences" "Ljava/util/List;" .null) (q3 : Fld Z h0 a "com/example/settlegram/settlegram/TextLine" "tag" "Ljava/lang/String;" .null) (q4 : Fld Z h0 a "com/example/settlegram/settlegram/TextLine" "text" "Ljava/lang/String;" .null) (q5 : Exa Z h0 x "com/example/settlegram/settlegram/SequencePath") :
    MetF l [] Z n0 (⟨"com/example/settlegram/settlegram/TextLine", "<init>", "(ILjava/util/List;Ljava/lang/String;Ljava/lang/String;)V"⟩ : MethodName) prog_107_method_1_code 5 (Option.none : Option FieldType) ({ frames := 2, cells := 0, slots := 0, locals := 24 } : Room) #[(.ref a), (.int n), (.ref x), (.ref tg), (.ref tx)] h0 [a] (fun r h' => r = none ∧ (Exa Z h' a "com/example/settlegram/settlegram/TextLine") ∧ (Fld Z h' a "com/example/settlegram/settlegram/TextLine" "tag" "Ljava/lang/String;" (.ref tg))) := by
  refine metF (plainFor_of_name pn_5) O0 (Ls := #[.val (.ref a), .val (.int n), .val (.ref x), .val (.ref tg), .val (.ref tx)]) (fun m => by first | rfl | (simp [entryFrame, mkF, argsToLocals, Value.category]; done)) ?_
  intro p e s m below meth c T0 X0
  have K0_h0 := Keep.refl h0 [a]
  have n0le := X0.n0le
  have ltq0 := own_n q0.lt
  have ltq1 := own_n q1.lt
  have ltq2 := own_n q2.lt
  have ltq3 := own_n q3.lt
  have ltq4 := own_n q4.lt
  have ltq5 := own_n q5.lt
  obtain ⟨G_cs, G_zc, G_fm, isref_fm, GS_sp, GE_sp⟩ := id G
  have oz := X0.old.1
  have ltz0 := own_n GE_sp.lt
  refine k_aloadN X0 d_prog_107_1_0 rfl rfl (pc' := 1) rfl ?_
  refine k_callPNF X0 (y := (⟨"java/lang/Record", "<init>", "()V"⟩ : MethodName)) d_prog_107_1_1 (w_54 hw) (w_55 hw) (w_57 hw) (w_58 hw) (by decide) rfl rfl (argsL := []) (rest := []) (own_recInit l Z a0 hw G n0 h0 X0.old a ) rfl pd_8 rfl rfl (by decide) (W := 0) (Nat.le_of_eq rfl) (by decide) (by decide) (by decide) all0 (pc' := 4) rfl ?_
  rintro T125 h125 L125 X125 K125 -
  have sz_h125 := K125.1
  have K0_h125 : Keep h0 h125 [a] := K0_h0.trans K125 all0
  refine k_aloadN X125 d_prog_107_1_4 rfl rfl (pc' := 5) rfl ?_
  have c126 := (q5.keep K125)
  refine k_callSVF X125 (y := (⟨"com/example/settlegram/settlegram/SequencePath", "of", "(Ljava/util/List;)Lcom/example/settlegram/settlegram/SequencePath;"⟩ : MethodName)) d_prog_107_1_5 (w_60 hw) (w_61 hw) (w_34 hw) (w_62 hw) (by decide) (argsL := [(.ref x)]) (rest := []) (own_spof l Z a0 hw G n0 h125 X125.old x c126) rfl pd_9 rfl rfl (by decide) (W := 0) (Nat.le_of_eq rfl) (by decide) (by decide) (by decide) all0 (pc' := 8) rfl ?_
  rintro _ T127 h127 L127 X127 K127 ⟨rfl, -⟩
  have sz_h127 := K127.1
  have K0_h127 : Keep h0 h127 [a] := K0_h125.trans K127 all0
  refine k_astoreN X127 d_prog_107_1_8 rfl (Ls' := #[.val (.ref a), .val (.int n), .val (.ref x), .val (.ref tg), .val (.ref tx)]) rfl (pc' := 9) rfl ?_
  refine k_aloadN X127 d_prog_107_1_9 rfl rfl (pc' := 10) rfl ?_
  refine k_iloadN X127 d_prog_107_1_10 rfl (pc' := 11) rfl ?_
  have c129 := ((q1.keep K125 nin0).keep K127 nin0)
  have c130 := ((q0.keep K125).keep K127)
  have ge132 : n0 ≤ a := by omega
  refine k_putF X127 d_prog_107_1_11 (host := "") (Or.inl (w_65 hw)) Via.refl c129 c130 (Or.inr ⟨(w_66 hw), rfl, X127.hnm⟩) (w_31 hw) (ty := .int) (by decide) rfl rfl trivial ge132 (pc' := 14) rfl fun T131 h131 L131 X131 W131 K131 => ?_
  have sz_h131 := K131.1
  have K0_h131 : Keep h0 h131 [a] := K0_h127.trans K131 (allS (Or.inl (List.mem_of_getElem? (i := 0) rfl)) all0)
  have F131 := c129.same W131
  refine k_aloadN X131 d_prog_107_1_14 rfl rfl (pc' := 15) rfl ?_
  refine k_aloadN X131 d_prog_107_1_15 rfl rfl (pc' := 16) rfl ?_
  have c133 := (((q2.keep K125 nin0).keep K127 nin0).other W131 (Or.inr (slot_ne (Or.inr (w_68 hw)) (Or.inr (w_66 hw)) (by decide) (t := (.object "java/util/List")) (t' := .int) (by decide) (by decide))))
  have c134 := (c130.keep K131)
  have ge136 : n0 ≤ a := by omega
  refine k_putF X131 d_prog_107_1_16 (host := "") (Or.inl (w_67 hw)) Via.refl c133 c134 (Or.inr ⟨(w_68 hw), rfl, X131.hnm⟩) (w_31 hw) (ty := (.object "java/util/List")) (by decide) rfl rfl trivial ge136 (pc' := 19) rfl fun T135 h135 L135 X135 W135 K135 => ?_
  have sz_h135 := K135.1
  have K0_h135 : Keep h0 h135 [a] := K0_h131.trans K135 (allS (Or.inl (List.mem_of_getElem? (i := 0) rfl)) all0)
  have F135 := c133.same W135
  refine k_aloadN X135 d_prog_107_1_19 rfl rfl (pc' := 20) rfl ?_
  refine k_aloadN X135 d_prog_107_1_20 rfl rfl (pc' := 21) rfl ?_
  have c137 := ((((q3.keep K125 nin0).keep K127 nin0).other W131 (Or.inr (slot_ne (Or.inr (w_70 hw)) (Or.inr (w_66 hw)) (by decide) (t := (.object "java/lang/String")) (t' := .int) (by decide) (by decide)))).other W135 (Or.inr (slot_ne (Or.inr (w_70 hw)) (Or.inr (w_68 hw)) (by decide) (t := (.object "java/lang/String")) (t' := (.object "java/util/List")) (by decide) (by decide))))
  have c138 := (c134.keep K135)
  have ge140 : n0 ≤ a := by omega
  refine k_putF X135 d_prog_107_1_21 (host := "") (Or.inl (w_69 hw)) Via.refl c137 c138 (Or.inr ⟨(w_70 hw), rfl, X135.hnm⟩) (w_31 hw) (ty := (.object "java/lang/String")) (by decide) rfl rfl trivial ge140 (pc' := 24) rfl fun T139 h139 L139 X139 W139 K139 => ?_
  have sz_h139 := K139.1
  have K0_h139 : Keep h0 h139 [a] := K0_h135.trans K139 (allS (Or.inl (List.mem_of_getElem? (i := 0) rfl)) all0)
  have F139 := c137.same W139
  refine k_aloadN X139 d_prog_107_1_24 rfl rfl (pc' := 25) rfl ?_
  refine k_aload X139 d_prog_107_1_25 rfl rfl (pc' := 27) rfl ?_
  have c141 := (((((q4.keep K125 nin0).keep K127 nin0).other W131 (Or.inr (slot_ne (Or.inr (w_72 hw)) (Or.inr (w_66 hw)) (by decide) (t := (.object "java/lang/String")) (t' := .int) (by decide) (by decide)))).other W135 (Or.inr (slot_ne (Or.inr (w_72 hw)) (Or.inr (w_68 hw)) (by decide) (t := (.object "java/lang/String")) (t' := (.object "java/util/List")) (by decide) (by decide)))).other W139 (Or.inr (slot_ne (Or.inr (w_72 hw)) (Or.inr (w_70 hw)) (by decide) (t := (.object "java/lang/String")) (t' := (.object "java/lang/String")) (by decide) (by decide))))
  have c142 := (c138.keep K139)
  have ge144 : n0 ≤ a := by omega
  refine k_putF X139 d_prog_107_1_27 (host := "") (Or.inl (w_71 hw)) Via.refl c141 c142 (Or.inr ⟨(w_72 hw), rfl, X139.hnm⟩) (w_31 hw) (ty := (.object "java/lang/String")) (by decide) rfl rfl trivial ge144 (pc' := 30) rfl fun T143 h143 L143 X143 W143 K143 => ?_
  have sz_h143 := K143.1
  have K0_h143 : Keep h0 h143 [a] := K0_h139.trans K143 (allS (Or.inl (List.mem_of_getElem? (i := 0) rfl)) all0)
  have F143 := c141.same W143
  have c145 := (c142.keep K143)
  have c146 := (F139.other W143 (Or.inr (slot_ne (Or.inr (w_70 hw)) (Or.inr (w_72 hw)) (by decide) (t := (.object "java/lang/String")) (t' := (.object "java/lang/String")) (by decide) (by decide))))
  exact k_retFV X143 d_prog_107_1_30 rfl K0_h143 ⟨rfl, c145, c146⟩ (by decide) (by decide)
set_option maxRecDepth 65536 in
set_option maxHeartbeats 40000000 in
theorem own_isDel (l : Launch) (Z : State) (a0 : Array Value) (hw : ∀ d ∈ tables_1, d.before a0 Z = true) {zc : Int32} {fm : Value} {sp : Nat}  (G : Gl Z zc fm sp) (n0 : Nat) (h0 : Heap) (O0 : Old Z n0 h0) (a : Nat) (sg : Nat) (t : Nat) (kt : ClassId) (cd : Int32) (zz : Int32) (bs : List Value) (cs : List Int32) (hn : cs.length < 536870912) (hr : own_chs cs)  (q0 : Fld Z h0 a "com/example/settlegram/settlegram/TextLine" "tag" "Ljava/lang/String;" (.ref sg)) (q1 : Exa Z h0 sg "java/lang/String") (q2 : Fld Z h0 sg "java/lang/String" "value" "[B" (.ref t)) (q3 : Fld Z h0 sg "java/lang/String" "coder" "B" (.int cd)) (q4 : Arv Z h0 t kt .byte zz bs (.int (0 : Int32))) (q5 : own_cod cs cd zz bs) :
    MetH l [] Z EL n0 (⟨"com/example/settlegram/settlegram/TextLine", "isSequenceDelimiter", "()Z"⟩ : MethodName) prog_107_method_3_code 1 (Option.some FieldType.boolean) ({ frames := 2, cells := 4, slots := 32, locals := 28 } : Room) #[(.ref a)] h0 [] (fun r v' h' => ∃ w, r = some w ∧ w = (.int (own_delim cs)) ∧ True) := by
  refine metH (hEL hw) (plainFor_of_name pn_5) O0 (Ls := #[.val (.ref a)]) (fun m => by first | rfl | (simp [entryFrame, mkF, argsToLocals, Value.category]; done)) ?_
  intro p e s m below meth c T0 v0 X0 hSf
  have K0_h0 := Keep.refl h0 []
  have n0le := X0.n0le
  have ltq0 := own_n q0.lt
  have ltq1 := own_n q1.lt
  have ltq2 := own_n q2.lt
  have ltq3 := own_n q3.lt
  have ltq4 := own_n q4.lt
  obtain ⟨G_cs, G_zc, G_fm, isref_fm, GS_sp, GE_sp⟩ := id G
  have oz := X0.old.1
  have ltz0 := own_n GE_sp.lt
  refine k_aloadN X0 d_prog_107_3_0 rfl rfl (pc' := 1) rfl ?_
  refine k_getF X0 d_prog_107_3_1 (host := "") (Or.inl (w_69 hw)) Via.refl q0 (pc' := 4) rfl fun T147 X148 => ?_
  refine k_ldcR X148 d_prog_107_3_4 (w_78 hw) (own_wS hw) (List.mem_of_getElem? (i := 1) rfl) (vs := [(.int (49 : Int32)), (.int (54 : Int32)), (.int (82 : Int32))]) (z := (3 : Int32)) (by decide) (by decide) rfl (n := 12) (by decide) (by decide) (by decide) (by decide) (pc' := 6) rfl fun s149 bb149 kb149 v149 T149 h149 X149 K149 C149 E149 Fc149 Fv149 V149 nq149 => ?_
  have sz_h149 := K149.1
  have K0_h149 : Keep h0 h149 [] := K0_h0.trans K149 all0
  have lt149 := own_n E149.lt
  have ltb149 := own_n V149.lt
  have c150 := (q1.keep K149)
  have c151 := (q2.keep K149 nin0)
  have c152 := (q3.keep K149 nin0)
  have c153 := (q4.keep K149 nin0)
  refine k_callVVF X149 (y := (⟨"java/lang/String", "equals", "(Ljava/lang/Object;)Z"⟩ : MethodName)) d_prog_107_3_6 (w_79 hw) (w_80 hw) (w_82 hw) (w_81 hw) (w_10 hw) (w_83 hw) (by decide) (notFace_of_selects (args := #[]) (mvT X149.hZ (w_82 hw))) c150 (argsL := [(.ref s149)]) (rest := []) (own_eq l Z a0 hw G n0 h149 X149.old sg s149 t kt cd zz bs cs bb149 kb149 (0 : Int32) (3 : Int32) [(.int (49 : Int32)), (.int (54 : Int32)), (.int (82 : Int32))] [(49 : Int32), (54 : Int32), (82 : Int32)] hn (by decide) hr (own_cS (by decide) (own_cS (by decide) (own_cS (by decide) own_c0))) c150 c151 c152 c153 q5 E149 Fv149 Fc149 V149 (Or.inl ⟨by decide, rfl, rfl, by decide⟩)) rfl pd_10 rfl rfl (by decide) (W := 0) (Nat.le_of_eq rfl) (by decide) (by decide) (by decide) all0 (pc' := 9) rfl ?_
  rintro _ T154 h154 L154 X154 K154 ⟨rfl, -⟩
  have sz_h154 := K154.1
  have K0_h154 : Keep h0 h154 [] := K0_h149.trans K154 all0
  by_cases hc156 : own_eqv cs [(49 : Int32), (54 : Int32), (82 : Int32)] = (0 : Int32)
  · have hc : ¬ cs = [(49 : Int32), (54 : Int32), (82 : Int32)] := fun q => by rw [own_eqv, if_pos q] at hc156; exact absurd hc156 (by decide)
    refine k_ifNo X154 d_prog_107_3_9 ((if0 _ _).trans (teq hc156).2) (pc' := 12) rfl ?_
    refine k_aloadN X154 d_prog_107_3_12 rfl rfl (pc' := 13) rfl ?_
    have c157 := ((q0.keep K149 nin0).keep K154 nin0)
    refine k_getF X154 d_prog_107_3_13 (host := "") (Or.inl (w_69 hw)) Via.refl c157 (pc' := 16) rfl fun T158 X159 => ?_
    refine k_ldcR X159 d_prog_107_3_16 (w_87 hw) (own_wS hw) (List.mem_of_getElem? (i := 2) rfl) (vs := [(.int (49 : Int32)), (.int (54 : Int32)), (.int (83 : Int32))]) (z := (3 : Int32)) (by decide) (by decide) rfl (n := 12) (by decide) (by decide) (by decide) (by decide) (pc' := 18) rfl fun s160 bb160 kb160 v160 T160 h160 X160 K160 C160 E160 Fc160 Fv160 V160 nq160 => ?_
    have sz_h160 := K160.1
    have K0_h160 : Keep h0 h160 [] := K0_h154.trans K160 all0
    have lt160 := own_n E160.lt
    have ltb160 := own_n V160.lt
    have c161 := ((c150.keep K154).keep K160)
    have c162 := ((c151.keep K154 nin0).keep K160 nin0)
    have c163 := ((c152.keep K154 nin0).keep K160 nin0)
    have c164 := ((c153.keep K154 nin0).keep K160 nin0)
    refine k_callVVF X160 (y := (⟨"java/lang/String", "equals", "(Ljava/lang/Object;)Z"⟩ : MethodName)) d_prog_107_3_18 (w_79 hw) (w_80 hw) (w_82 hw) (w_81 hw) (w_10 hw) (w_83 hw) (by decide) (notFace_of_selects (args := #[]) (mvT X160.hZ (w_82 hw))) c161 (argsL := [(.ref s160)]) (rest := []) (own_eq l Z a0 hw G n0 h160 X160.old sg s160 t kt cd zz bs cs bb160 kb160 (0 : Int32) (3 : Int32) [(.int (49 : Int32)), (.int (54 : Int32)), (.int (83 : Int32))] [(49 : Int32), (54 : Int32), (83 : Int32)] hn (by decide) hr (own_cS (by decide) (own_cS (by decide) (own_cS (by decide) own_c0))) c161 c162 c163 c164 q5 E160 Fv160 Fc160 V160 (Or.inl ⟨by decide, rfl, rfl, by decide⟩)) rfl pd_10 rfl rfl (by decide) (W := 0) (Nat.le_of_eq rfl) (by decide) (by decide) (by decide) all0 (pc' := 21) rfl ?_
    rintro _ T165 h165 L165 X165 K165 ⟨rfl, -⟩
    have sz_h165 := K165.1
    have K0_h165 : Keep h0 h165 [] := K0_h160.trans K165 all0
    by_cases hc167 : own_eqv cs [(49 : Int32), (54 : Int32), (83 : Int32)] = (0 : Int32)
    · have hd : ¬ cs = [(49 : Int32), (54 : Int32), (83 : Int32)] := fun q => by rw [own_eqv, if_pos q] at hc167; exact absurd hc167 (by decide)
      have he : own_delim cs = 0 := if_neg (fun q => q.elim hc hd)
      refine k_ifYes X165 d_prog_107_3_21 ((if0 _ _).trans (teq hc167).1) (pc' := 28) (by decide) (by decide) ?_
      refine k_iconst X165 d_prog_107_3_28 (w := (0 : Int32)) rfl (pc' := 29) rfl ?_
      exact k_retHN X165 (w := (0 : Int32)) d_prog_107_3_29 (t := .boolean) rfl (by simp) rfl K0_h165 (fun v' C' => ⟨_, rfl, by rw [he], trivial⟩) (by decide) (by decide)
    · have hd : cs = [(49 : Int32), (54 : Int32), (83 : Int32)] := by rcases (inferInstance : Decidable (cs = [(49 : Int32), (54 : Int32), (83 : Int32)])) with q | q; exact absurd (if_neg q) hc167; exact q
      have he : own_delim cs = 1 := if_pos (Or.inr hd)
      refine k_ifNo X165 d_prog_107_3_21 ((if0 _ _).trans (feq hc167).1) (pc' := 24) rfl ?_
      refine k_iconst X165 d_prog_107_3_24 (w := (1 : Int32)) rfl (pc' := 25) rfl ?_
      refine k_goto X165 d_prog_107_3_25 (pc' := 29) (by decide) (by decide) ?_
      exact k_retHN X165 (w := (1 : Int32)) d_prog_107_3_29 (t := .boolean) rfl (by simp) rfl K0_h165 (fun v' C' => ⟨_, rfl, by rw [he], trivial⟩) (by decide) (by decide)
  · have hc : cs = [(49 : Int32), (54 : Int32), (82 : Int32)] := by rcases (inferInstance : Decidable (cs = [(49 : Int32), (54 : Int32), (82 : Int32)])) with q | q; exact absurd (if_neg q) hc156; exact q
    have he : own_delim cs = 1 := if_pos (Or.inl hc)
    refine k_ifYes X154 d_prog_107_3_9 ((if0 _ _).trans (feq hc156).2) (pc' := 24) (by decide) (by decide) ?_
    refine k_iconst X154 d_prog_107_3_24 (w := (1 : Int32)) rfl (pc' := 25) rfl ?_
    refine k_goto X154 d_prog_107_3_25 (pc' := 29) (by decide) (by decide) ?_
    exact k_retHN X154 (w := (1 : Int32)) d_prog_107_3_29 (t := .boolean) rfl (by simp) rfl K0_h154 (fun v' C' => ⟨_, rfl, by rw [he], trivial⟩) (by decide) (by decide)
set_option maxRecDepth 65536 in
set_option maxHeartbeats 40000000 in
theorem own_pick (l : Launch) (Z : State) (a0 : Array Value) (hw : ∀ d ∈ tables_1, d.before a0 Z = true) {zc : Int32} {fm : Value} {sp : Nat}  (G : Gl Z zc fm sp) (n0 : Nat) (h0 : Heap) (O0 : Old Z n0 h0) (x : Int32) (f : Int32) (hf : ¬ f < 0 ∧ ¬ 255 < f)   :
    MetF l [] Z n0 (⟨"com/example/settlegram/settlegram/TextLineIsSequenceDelimiterPinLaw", "pick", "(IC)C"⟩ : MethodName) method_2_code 2 (Option.some FieldType.char) ({ frames := 0, cells := 0, slots := 0, locals := 0 } : Room) #[(.int x), (.int f)] h0 [] (fun r h' => ∃ w, r = some w ∧ ∃ (c0 : Int32), w = (.int c0) ∧ (¬ c0 < 0 ∧ ¬ 255 < c0)) := by
  refine metF (plainFor_of_name pn_6) O0 (Ls := #[.val (.int x), .val (.int f)]) (fun m => by first | rfl | (simp [entryFrame, mkF, argsToLocals, Value.category]; done)) ?_
  intro p e s m below meth c T0 X0
  have K0_h0 := Keep.refl h0 []
  have n0le := X0.n0le
  obtain ⟨G_cs, G_zc, G_fm, isref_fm, GS_sp, GE_sp⟩ := id G
  have oz := X0.old.1
  have ltz0 := own_n GE_sp.lt
  refine k_iloadN X0 d_2_0 rfl (pc' := 1) rfl ?_
  refine k_sipush X0 d_2_1 (w := (256 : Int32)) rfl (pc' := 4) rfl ?_
  refine k_iand X0 d_2_4 (w := (x &&& (256 : Int32))) rfl (pc' := 5) rfl ?_
  by_cases hc168 : (x &&& (256 : Int32)) = (0 : Int32)
  · refine k_ifYes X0 d_2_5 ((if0 _ _).trans (teq hc168).1) (pc' := 12) (by decide) (by decide) ?_
    refine k_iloadN X0 d_2_12 rfl (pc' := 13) rfl ?_
    refine k_sipush X0 d_2_13 (w := (255 : Int32)) rfl (pc' := 16) rfl ?_
    refine k_iand X0 d_2_16 (w := (x &&& (255 : Int32))) rfl (pc' := 17) rfl ?_
    refine k_i2c X0 d_2_17 (w := (x &&& (255 : Int32))) (i2c_mask _) (pc' := 18) rfl ?_
    exact k_retFN X0 (w := (x &&& (255 : Int32))) d_2_18 (t := .char) rfl (by simp) (i2c_mask _) K0_h0 ⟨_, rfl, _, rfl, own_mask_rng _⟩ (by decide) (by decide)
  · refine k_ifNo X0 d_2_5 ((if0 _ _).trans (feq hc168).1) (pc' := 8) rfl ?_
    refine k_iloadN X0 d_2_8 rfl (pc' := 9) rfl ?_
    refine k_goto X0 d_2_9 (pc' := 18) (by decide) (by decide) ?_
    exact k_retFN X0 (w := f) d_2_18 (t := .char) rfl (by simp) (own_i2c_id hf.1 (own_255 hf.2)) K0_h0 ⟨_, rfl, _, rfl, hf⟩ (by decide) (by decide)
set_option maxRecDepth 65536 in
set_option maxHeartbeats 40000000 in
theorem own_mkTag (l : Launch) (Z : State) (a0 : Array Value) (hw : ∀ d ∈ tables_1, d.before a0 Z = true) {zc : Int32} {fm : Value} {sp : Nat}  (G : Gl Z zc fm sp) (n0 : Nat) (h0 : Heap) (O0 : Old Z n0 h0) (n : Int32) (ca : Int32) (cb : Int32) (cc : Int32) (cd : Int32) (ha : ¬ ca < 0 ∧ ¬ 255 < ca) (hb : ¬ cb < 0 ∧ ¬ 255 < cb) (hc : ¬ cc < 0 ∧ ¬ 255 < cc) (hd : ¬ cd < 0 ∧ ¬ 255 < cd)   :
    MetH l [] Z EL n0 (⟨"com/example/settlegram/settlegram/TextLineIsSequenceDelimiterPinLaw", "makeTag", "(ICCCC)Ljava/lang/String;"⟩ : MethodName) method_3_code 5 (Option.some (FieldType.object "java/lang/String")) ({ frames := 4, cells := 6, slots := 12, locals := 66 } : Room) #[(.int n), (.int ca), (.int cb), (.int cc), (.int cd)] h0 [] (fun r v' h' => ∃ w, r = some w ∧ ∃ (r : Nat), ∃ (t : Nat), ∃ (kt : ClassId), ∃ (zz : Int32), ∃ (bs : List Value), w = (.ref r) ∧ (Exa Z h' r "java/lang/String") ∧ (Fld Z h' r "java/lang/String" "value" "[B" (.ref t)) ∧ (Fld Z h' r "java/lang/String" "coder" "B" (.int (0 : Int32))) ∧ (Arv Z h' t kt .byte zz bs (.int (0 : Int32))) ∧ (own_cod (own_tagc n ca cb cc cd) (0 : Int32) zz bs) ∧ (h0.size ≤ r)) := by
  refine metH (hEL hw) (plainFor_of_name pn_6) O0 (Ls := #[.val (.int n), .val (.int ca), .val (.int cb), .val (.int cc), .val (.int cd)]) (fun m => by first | rfl | (simp [entryFrame, mkF, argsToLocals, Value.category]; done)) ?_
  intro p e s m below meth c T0 v0 X0 hSf
  have K0_h0 := Keep.refl h0 []
  have n0le := X0.n0le
  obtain ⟨G_cs, G_zc, G_fm, isref_fm, GS_sp, GE_sp⟩ := id G
  have oz := X0.old.1
  have ltz0 := own_n GE_sp.lt
  refine k_iloadN X0 d_3_0 rfl (pc' := 1) rfl ?_
  by_cases hc169 : n = (0 : Int32)
  · refine k_ifNo X0 d_3_1 ((if0 _ _).trans (teq hc169).2) (pc' := 4) rfl ?_
    refine k_newO X0 d_3_4 (w_8 hw) (w_9 hw) (w_10 hw) (by decide) (by decide) (pc' := 7) rfl fun T170 h170 b170 g170 X170 K170 E170 D170 S170 lt170 ge170 => ?_
    have sz_h170 := K170.1
    have K0_h170 : Keep h0 h170 [] := K0_h0.trans K170 all0
    have Fn170_value : Fld Z h170 b170 "java/lang/String" "value" "[B" .null := D170 (Or.inr (w_24 hw)) (ty := (.array .byte)) (by decide)
    have Fn170_coder : Fld Z h170 b170 "java/lang/String" "coder" "B" (.int (0 : Int32)) := D170 (Or.inr (w_25 hw)) (ty := .byte) (by decide)
    refine k_dup X170 d_3_7 rfl (pc' := 8) rfl ?_
    refine k_iconst X170 d_3_8 (w := (0 : Int32)) rfl (pc' := 9) rfl ?_
    refine k_newP X170 d_3_9 (w_11 hw) (by decide) (cap := 0) (by decide) (by decide) (by decide) (by decide) (pc' := 11) rfl fun T171 h171 b171 k171 g171 X171 K171 V171 S171 lt171 ge171 => ?_
    have sz_h171 := K171.1
    have K0_h171 : Keep h0 h171 [] := K0_h170.trans K171 all0
    have V171' : Arv Z h171 b171 k171 .char (0 : Int32) [] (.int (0 : Int32)) := Arv.pad V171 (pad_rep [] (.int (0 : Int32)) 0)
    have c172 := (E170.keep K171)
    have c173 := (Fn170_value.keep K171 nin0)
    have c174 := (Fn170_coder.keep K171 nin0)
    have c177 := (X170.sf K171 all0 S170)
    have ge178 : n0 ≤ b170 := by omega
    refine k_callPNH X171 (y := (⟨"java/lang/String", "<init>", "([C)V"⟩ : MethodName)) d_3_11 (w_12 hw) (w_13 hw) (w_10 hw) (w_14 hw) (by decide) rfl rfl (argsL := [(.ref b171)]) (rest := [(.ref b170)]) (own_initE l Z a0 hw G n0 h171 X171.old b170 b171 k171 [] (.int (0 : Int32)) (by omega) c172 c173 c174 V171') rfl pd_11 rfl rfl (by decide) (W := 1) (Nat.le_of_eq rfl) (by decide) (by decide) (by decide) (allS ⟨⟨own_n (by omega), c177⟩, ge178⟩ all0) (pc' := 14) rfl ?_
    rintro v179 T179 h179 L179 X179 K179 C179 ⟨t_175, kt_176, q179_0, q179_1, q179_2, q179_3⟩
    have sz_h179 := K179.1
    have K0_h179 : Keep h0 h179 [] := K0_h171.trans K179 (allS (Or.inr (by omega)) all0)
    have lt179_0 := own_n q179_0.lt
    have lt179_1 := own_n q179_1.lt
    have lt179_2 := own_n q179_2.lt
    have lt179_3 := own_n q179_3.lt
    have ht : own_tagc n ca cb cc cd = [] := by simp [own_tagc, hc169]
    exact k_retHA X179 d_3_14 rfl rfl rfl rfl K0_h179 (fun v' C' => ⟨_, rfl, _, _, _, _, _, rfl, q179_0, q179_2, q179_1, q179_3, by rw [ht]; exact own_codOfL own_al0, by omega⟩) (by decide) (by decide)
  · refine k_ifYes X0 d_3_1 ((if0 _ _).trans (feq hc169).2) (pc' := 15) (by decide) (by decide) ?_
    refine k_iloadN X0 d_3_15 rfl (pc' := 16) rfl ?_
    refine k_iconst X0 d_3_16 (w := (1 : Int32)) rfl (pc' := 17) rfl ?_
    by_cases hc180 : n = (1 : Int32)
    · refine k_icmpNo X0 d_3_17 (teq hc180).2 (pc' := 20) rfl ?_
      refine k_newO X0 d_3_20 (w_8 hw) (w_9 hw) (w_10 hw) (by decide) (by decide) (pc' := 23) rfl fun T181 h181 b181 g181 X181 K181 E181 D181 S181 lt181 ge181 => ?_
      have sz_h181 := K181.1
      have K0_h181 : Keep h0 h181 [] := K0_h0.trans K181 all0
      have Fn181_value : Fld Z h181 b181 "java/lang/String" "value" "[B" .null := D181 (Or.inr (w_24 hw)) (ty := (.array .byte)) (by decide)
      have Fn181_coder : Fld Z h181 b181 "java/lang/String" "coder" "B" (.int (0 : Int32)) := D181 (Or.inr (w_25 hw)) (ty := .byte) (by decide)
      refine k_dup X181 d_3_23 rfl (pc' := 24) rfl ?_
      refine k_iconst X181 d_3_24 (w := (1 : Int32)) rfl (pc' := 25) rfl ?_
      refine k_newP X181 d_3_25 (w_11 hw) (by decide) (cap := 1) (by decide) (by decide) (by decide) (by decide) (pc' := 27) rfl fun T182 h182 b182 k182 g182 X182 K182 V182 S182 lt182 ge182 => ?_
      have sz_h182 := K182.1
      have K0_h182 : Keep h0 h182 [] := K0_h181.trans K182 all0
      have V182' : Arv Z h182 b182 k182 .char (1 : Int32) [(.int (0 : Int32))] (.int (0 : Int32)) := Arv.pad V182 (pad_rep [] (.int (0 : Int32)) 1)
      refine k_dup X182 d_3_27 rfl (pc' := 28) rfl ?_
      refine k_iconst X182 d_3_28 (w := (0 : Int32)) rfl (pc' := 29) rfl ?_
      refine k_iloadN X182 d_3_29 rfl (pc' := 30) rfl ?_
      have ge184 : n0 ≤ b182 := by omega
      refine k_castore X182 (w := ca) 0 d_3_30 V182' (by decide) (by decide) rfl (Nat.le_of_ble_eq_true rfl) (own_i2c_id ha.1 (own_255 ha.2)) (vs' := [(.int ca)]) rfl S182 ge184 (pc' := 31) rfl fun T183 h183 L183 X183 K183 V183 => ?_
      have sz_h183 := K183.1
      have K0_h183 : Keep h0 h183 [] := K0_h182.trans K183 (allS (Or.inr (by omega)) all0)
      have c185 := ((E181.keep K182).keep K183)
      have c186 := ((Fn181_value.keep K182 nin0).keep K183 (ninS (own_ne (by omega) : b181 ≠ b182) nin0))
      have c187 := ((Fn181_coder.keep K182 nin0).keep K183 (ninS (own_ne (by omega) : b181 ≠ b182) nin0))
      have c190 := (X182.sf K183 (allS ⟨S182, ge184⟩ all0) (X181.sf K182 all0 S181))
      have ge191 : n0 ≤ b181 := by omega
      refine k_callPNF X183 (y := (⟨"java/lang/String", "<init>", "([C)V"⟩ : MethodName)) d_3_31 (w_12 hw) (w_13 hw) (w_10 hw) (w_14 hw) (by decide) rfl rfl (argsL := [(.ref b182)]) (rest := [(.ref b181)]) (own_initL l Z a0 hw G n0 h183 X183.old b181 b182 k182 (1 : Int32) [(.int ca)] [ca] rfl rfl (by simp) (by simp) (own_alS ha.2 own_al0) (by omega) c185 c186 c187 V183) rfl pd_11 rfl rfl (by decide) (W := 1) (Nat.le_of_eq rfl) (by decide) (by decide) (by decide) (allS ⟨c190, ge191⟩ all0) (pc' := 34) rfl ?_
      rintro T192 h192 L192 X192 K192 ⟨t_188, kt_189, q192_0, q192_1, q192_2, q192_3, q192_4⟩
      have sz_h192 := K192.1
      have K0_h192 : Keep h0 h192 [] := K0_h183.trans K192 (allS (Or.inr (by omega)) all0)
      have lt192_0 := own_n q192_0.lt
      have lt192_1 := own_n q192_1.lt
      have lt192_2 := own_n q192_2.lt
      have lt192_3 := own_n q192_3.lt
      have ht : own_tagc n ca cb cc cd = [ca] := by simp [own_tagc, hc169, hc180]
      exact k_retHA X192 d_3_34 rfl rfl rfl rfl K0_h192 (fun v' C' => ⟨_, rfl, _, _, _, _, _, rfl, q192_0, q192_2, q192_1, q192_3, by rw [ht]; exact own_codOfL (own_alS ha.2 own_al0), by omega⟩) (by decide) (by decide)
    · refine k_icmpYes X0 d_3_17 (feq hc180).2 (pc' := 35) (by decide) (by decide) ?_
      refine k_iloadN X0 d_3_35 rfl (pc' := 36) rfl ?_
      refine k_iconst X0 d_3_36 (w := (2 : Int32)) rfl (pc' := 37) rfl ?_
      by_cases hc193 : n = (2 : Int32)
      · refine k_icmpNo X0 d_3_37 (teq hc193).2 (pc' := 40) rfl ?_
        refine k_newO X0 d_3_40 (w_8 hw) (w_9 hw) (w_10 hw) (by decide) (by decide) (pc' := 43) rfl fun T194 h194 b194 g194 X194 K194 E194 D194 S194 lt194 ge194 => ?_
        have sz_h194 := K194.1
        have K0_h194 : Keep h0 h194 [] := K0_h0.trans K194 all0
        have Fn194_value : Fld Z h194 b194 "java/lang/String" "value" "[B" .null := D194 (Or.inr (w_24 hw)) (ty := (.array .byte)) (by decide)
        have Fn194_coder : Fld Z h194 b194 "java/lang/String" "coder" "B" (.int (0 : Int32)) := D194 (Or.inr (w_25 hw)) (ty := .byte) (by decide)
        refine k_dup X194 d_3_43 rfl (pc' := 44) rfl ?_
        refine k_iconst X194 d_3_44 (w := (2 : Int32)) rfl (pc' := 45) rfl ?_
        refine k_newP X194 d_3_45 (w_11 hw) (by decide) (cap := 2) (by decide) (by decide) (by decide) (by decide) (pc' := 47) rfl fun T195 h195 b195 k195 g195 X195 K195 V195 S195 lt195 ge195 => ?_
        have sz_h195 := K195.1
        have K0_h195 : Keep h0 h195 [] := K0_h194.trans K195 all0
        have V195' : Arv Z h195 b195 k195 .char (2 : Int32) [(.int (0 : Int32)), (.int (0 : Int32))] (.int (0 : Int32)) := Arv.pad V195 (pad_rep [] (.int (0 : Int32)) 2)
        refine k_dup X195 d_3_47 rfl (pc' := 48) rfl ?_
        refine k_iconst X195 d_3_48 (w := (0 : Int32)) rfl (pc' := 49) rfl ?_
        refine k_iloadN X195 d_3_49 rfl (pc' := 50) rfl ?_
        have ge197 : n0 ≤ b195 := by omega
        refine k_castore X195 (w := ca) 0 d_3_50 V195' (by decide) (by decide) rfl (Nat.le_of_ble_eq_true rfl) (own_i2c_id ha.1 (own_255 ha.2)) (vs' := [(.int ca), (.int (0 : Int32))]) rfl S195 ge197 (pc' := 51) rfl fun T196 h196 L196 X196 K196 V196 => ?_
        have sz_h196 := K196.1
        have K0_h196 : Keep h0 h196 [] := K0_h195.trans K196 (allS (Or.inr (by omega)) all0)
        refine k_dup X196 d_3_51 rfl (pc' := 52) rfl ?_
        refine k_iconst X196 d_3_52 (w := (1 : Int32)) rfl (pc' := 53) rfl ?_
        refine k_iloadN X196 d_3_53 rfl (pc' := 54) rfl ?_
        have c199 := (X195.sf K196 (allS ⟨S195, ge197⟩ all0) S195)
        have ge200 : n0 ≤ b195 := by omega
        refine k_castore X196 (w := cb) 1 d_3_54 V196 (by decide) (by decide) rfl (Nat.le_of_ble_eq_true rfl) (own_i2c_id hb.1 (own_255 hb.2)) (vs' := [(.int ca), (.int cb)]) rfl c199 ge200 (pc' := 55) rfl fun T198 h198 L198 X198 K198 V198 => ?_
        have sz_h198 := K198.1
        have K0_h198 : Keep h0 h198 [] := K0_h196.trans K198 (allS (Or.inr (by omega)) all0)
        have c201 := (((E194.keep K195).keep K196).keep K198)
        have c202 := (((Fn194_value.keep K195 nin0).keep K196 (ninS (own_ne (by omega) : b194 ≠ b195) nin0)).keep K198 (ninS (own_ne (by omega) : b194 ≠ b195) nin0))
        have c203 := (((Fn194_coder.keep K195 nin0).keep K196 (ninS (own_ne (by omega) : b194 ≠ b195) nin0)).keep K198 (ninS (own_ne (by omega) : b194 ≠ b195) nin0))
        have c206 := (X196.sf K198 (allS ⟨c199, ge200⟩ all0) (X195.sf K196 (allS ⟨S195, ge197⟩ all0) (X194.sf K195 all0 S194)))
        have ge207 : n0 ≤ b194 := by omega
        refine k_callPNF X198 (y := (⟨"java/lang/String", "<init>", "([C)V"⟩ : MethodName)) d_3_55 (w_12 hw) (w_13 hw) (w_10 hw) (w_14 hw) (by decide) rfl rfl (argsL := [(.ref b195)]) (rest := [(.ref b194)]) (own_initL l Z a0 hw G n0 h198 X198.old b194 b195 k195 (2 : Int32) [(.int ca), (.int cb)] [ca, cb] rfl rfl (by simp) (by simp) (own_alS ha.2 (own_alS hb.2 own_al0)) (by omega) c201 c202 c203 V198) rfl pd_11 rfl rfl (by decide) (W := 1) (Nat.le_of_eq rfl) (by decide) (by decide) (by decide) (allS ⟨c206, ge207⟩ all0) (pc' := 58) rfl ?_
        rintro T208 h208 L208 X208 K208 ⟨t_204, kt_205, q208_0, q208_1, q208_2, q208_3, q208_4⟩
        have sz_h208 := K208.1
        have K0_h208 : Keep h0 h208 [] := K0_h198.trans K208 (allS (Or.inr (by omega)) all0)
        have lt208_0 := own_n q208_0.lt
        have lt208_1 := own_n q208_1.lt
        have lt208_2 := own_n q208_2.lt
        have lt208_3 := own_n q208_3.lt
        have ht : own_tagc n ca cb cc cd = [ca, cb] := by simp [own_tagc, hc169, hc180, hc193]
        exact k_retHA X208 d_3_58 rfl rfl rfl rfl K0_h208 (fun v' C' => ⟨_, rfl, _, _, _, _, _, rfl, q208_0, q208_2, q208_1, q208_3, by rw [ht]; exact own_codOfL (own_alS ha.2 (own_alS hb.2 own_al0)), by omega⟩) (by decide) (by decide)
      · refine k_icmpYes X0 d_3_37 (feq hc193).2 (pc' := 59) (by decide) (by decide) ?_
        refine k_iloadN X0 d_3_59 rfl (pc' := 60) rfl ?_
        refine k_iconst X0 d_3_60 (w := (3 : Int32)) rfl (pc' := 61) rfl ?_
        by_cases hc209 : n = (3 : Int32)
        · refine k_icmpNo X0 d_3_61 (teq hc209).2 (pc' := 64) rfl ?_
          refine k_newO X0 d_3_64 (w_8 hw) (w_9 hw) (w_10 hw) (by decide) (by decide) (pc' := 67) rfl fun T210 h210 b210 g210 X210 K210 E210 D210 S210 lt210 ge210 => ?_
          have sz_h210 := K210.1
          have K0_h210 : Keep h0 h210 [] := K0_h0.trans K210 all0
          have Fn210_value : Fld Z h210 b210 "java/lang/String" "value" "[B" .null := D210 (Or.inr (w_24 hw)) (ty := (.array .byte)) (by decide)
          have Fn210_coder : Fld Z h210 b210 "java/lang/String" "coder" "B" (.int (0 : Int32)) := D210 (Or.inr (w_25 hw)) (ty := .byte) (by decide)
          refine k_dup X210 d_3_67 rfl (pc' := 68) rfl ?_
          refine k_iconst X210 d_3_68 (w := (3 : Int32)) rfl (pc' := 69) rfl ?_
          refine k_newP X210 d_3_69 (w_11 hw) (by decide) (cap := 3) (by decide) (by decide) (by decide) (by decide) (pc' := 71) rfl fun T211 h211 b211 k211 g211 X211 K211 V211 S211 lt211 ge211 => ?_
          have sz_h211 := K211.1
          have K0_h211 : Keep h0 h211 [] := K0_h210.trans K211 all0
          have V211' : Arv Z h211 b211 k211 .char (3 : Int32) [(.int (0 : Int32)), (.int (0 : Int32)), (.int (0 : Int32))] (.int (0 : Int32)) := Arv.pad V211 (pad_rep [] (.int (0 : Int32)) 3)
          refine k_dup X211 d_3_71 rfl (pc' := 72) rfl ?_
          refine k_iconst X211 d_3_72 (w := (0 : Int32)) rfl (pc' := 73) rfl ?_
          refine k_iloadN X211 d_3_73 rfl (pc' := 74) rfl ?_
          have ge213 : n0 ≤ b211 := by omega
          refine k_castore X211 (w := ca) 0 d_3_74 V211' (by decide) (by decide) rfl (Nat.le_of_ble_eq_true rfl) (own_i2c_id ha.1 (own_255 ha.2)) (vs' := [(.int ca), (.int (0 : Int32)), (.int (0 : Int32))]) rfl S211 ge213 (pc' := 75) rfl fun T212 h212 L212 X212 K212 V212 => ?_
          have sz_h212 := K212.1
          have K0_h212 : Keep h0 h212 [] := K0_h211.trans K212 (allS (Or.inr (by omega)) all0)
          refine k_dup X212 d_3_75 rfl (pc' := 76) rfl ?_
          refine k_iconst X212 d_3_76 (w := (1 : Int32)) rfl (pc' := 77) rfl ?_
          refine k_iloadN X212 d_3_77 rfl (pc' := 78) rfl ?_
          have c215 := (X211.sf K212 (allS ⟨S211, ge213⟩ all0) S211)
          have ge216 : n0 ≤ b211 := by omega
          refine k_castore X212 (w := cb) 1 d_3_78 V212 (by decide) (by decide) rfl (Nat.le_of_ble_eq_true rfl) (own_i2c_id hb.1 (own_255 hb.2)) (vs' := [(.int ca), (.int cb), (.int (0 : Int32))]) rfl c215 ge216 (pc' := 79) rfl fun T214 h214 L214 X214 K214 V214 => ?_
          have sz_h214 := K214.1
          have K0_h214 : Keep h0 h214 [] := K0_h212.trans K214 (allS (Or.inr (by omega)) all0)
          refine k_dup X214 d_3_79 rfl (pc' := 80) rfl ?_
          refine k_iconst X214 d_3_80 (w := (2 : Int32)) rfl (pc' := 81) rfl ?_
          refine k_iloadN X214 d_3_81 rfl (pc' := 82) rfl ?_
          have c218 := (X212.sf K214 (allS ⟨c215, ge216⟩ all0) c215)
          have ge219 : n0 ≤ b211 := by omega
          refine k_castore X214 (w := cc) 2 d_3_82 V214 (by decide) (by decide) rfl (Nat.le_of_ble_eq_true rfl) (own_i2c_id hc.1 (own_255 hc.2)) (vs' := [(.int ca), (.int cb), (.int cc)]) rfl c218 ge219 (pc' := 83) rfl fun T217 h217 L217 X217 K217 V217 => ?_
          have sz_h217 := K217.1
          have K0_h217 : Keep h0 h217 [] := K0_h214.trans K217 (allS (Or.inr (by omega)) all0)
          have c220 := ((((E210.keep K211).keep K212).keep K214).keep K217)
          have c221 := ((((Fn210_value.keep K211 nin0).keep K212 (ninS (own_ne (by omega) : b210 ≠ b211) nin0)).keep K214 (ninS (own_ne (by omega) : b210 ≠ b211) nin0)).keep K217 (ninS (own_ne (by omega) : b210 ≠ b211) nin0))
          have c222 := ((((Fn210_coder.keep K211 nin0).keep K212 (ninS (own_ne (by omega) : b210 ≠ b211) nin0)).keep K214 (ninS (own_ne (by omega) : b210 ≠ b211) nin0)).keep K217 (ninS (own_ne (by omega) : b210 ≠ b211) nin0))
          have c225 := (X214.sf K217 (allS ⟨c218, ge219⟩ all0) (X212.sf K214 (allS ⟨c215, ge216⟩ all0) (X211.sf K212 (allS ⟨S211, ge213⟩ all0) (X210.sf K211 all0 S210))))
          have ge226 : n0 ≤ b210 := by omega
          refine k_callPNF X217 (y := (⟨"java/lang/String", "<init>", "([C)V"⟩ : MethodName)) d_3_83 (w_12 hw) (w_13 hw) (w_10 hw) (w_14 hw) (by decide) rfl rfl (argsL := [(.ref b211)]) (rest := [(.ref b210)]) (own_initL l Z a0 hw G n0 h217 X217.old b210 b211 k211 (3 : Int32) [(.int ca), (.int cb), (.int cc)] [ca, cb, cc] rfl rfl (by simp) (by simp) (own_alS ha.2 (own_alS hb.2 (own_alS hc.2 own_al0))) (by omega) c220 c221 c222 V217) rfl pd_11 rfl rfl (by decide) (W := 1) (Nat.le_of_eq rfl) (by decide) (by decide) (by decide) (allS ⟨c225, ge226⟩ all0) (pc' := 86) rfl ?_
          rintro T227 h227 L227 X227 K227 ⟨t_223, kt_224, q227_0, q227_1, q227_2, q227_3, q227_4⟩
          have sz_h227 := K227.1
          have K0_h227 : Keep h0 h227 [] := K0_h217.trans K227 (allS (Or.inr (by omega)) all0)
          have lt227_0 := own_n q227_0.lt
          have lt227_1 := own_n q227_1.lt
          have lt227_2 := own_n q227_2.lt
          have lt227_3 := own_n q227_3.lt
          have ht : own_tagc n ca cb cc cd = [ca, cb, cc] := by simp [own_tagc, hc169, hc180, hc193, hc209]
          exact k_retHA X227 d_3_86 rfl rfl rfl rfl K0_h227 (fun v' C' => ⟨_, rfl, _, _, _, _, _, rfl, q227_0, q227_2, q227_1, q227_3, by rw [ht]; exact own_codOfL (own_alS ha.2 (own_alS hb.2 (own_alS hc.2 own_al0))), by omega⟩) (by decide) (by decide)
        · refine k_icmpYes X0 d_3_61 (feq hc209).2 (pc' := 87) (by decide) (by decide) ?_
          refine k_newO X0 d_3_87 (w_8 hw) (w_9 hw) (w_10 hw) (by decide) (by decide) (pc' := 90) rfl fun T228 h228 b228 g228 X228 K228 E228 D228 S228 lt228 ge228 => ?_
          have sz_h228 := K228.1
          have K0_h228 : Keep h0 h228 [] := K0_h0.trans K228 all0
          have Fn228_value : Fld Z h228 b228 "java/lang/String" "value" "[B" .null := D228 (Or.inr (w_24 hw)) (ty := (.array .byte)) (by decide)
          have Fn228_coder : Fld Z h228 b228 "java/lang/String" "coder" "B" (.int (0 : Int32)) := D228 (Or.inr (w_25 hw)) (ty := .byte) (by decide)
          refine k_dup X228 d_3_90 rfl (pc' := 91) rfl ?_
          refine k_iconst X228 d_3_91 (w := (4 : Int32)) rfl (pc' := 92) rfl ?_
          refine k_newP X228 d_3_92 (w_11 hw) (by decide) (cap := 4) (by decide) (by decide) (by decide) (by decide) (pc' := 94) rfl fun T229 h229 b229 k229 g229 X229 K229 V229 S229 lt229 ge229 => ?_
          have sz_h229 := K229.1
          have K0_h229 : Keep h0 h229 [] := K0_h228.trans K229 all0
          have V229' : Arv Z h229 b229 k229 .char (4 : Int32) [(.int (0 : Int32)), (.int (0 : Int32)), (.int (0 : Int32)), (.int (0 : Int32))] (.int (0 : Int32)) := Arv.pad V229 (pad_rep [] (.int (0 : Int32)) 4)
          refine k_dup X229 d_3_94 rfl (pc' := 95) rfl ?_
          refine k_iconst X229 d_3_95 (w := (0 : Int32)) rfl (pc' := 96) rfl ?_
          refine k_iloadN X229 d_3_96 rfl (pc' := 97) rfl ?_
          have ge231 : n0 ≤ b229 := by omega
          refine k_castore X229 (w := ca) 0 d_3_97 V229' (by decide) (by decide) rfl (Nat.le_of_ble_eq_true rfl) (own_i2c_id ha.1 (own_255 ha.2)) (vs' := [(.int ca), (.int (0 : Int32)), (.int (0 : Int32)), (.int (0 : Int32))]) rfl S229 ge231 (pc' := 98) rfl fun T230 h230 L230 X230 K230 V230 => ?_
          have sz_h230 := K230.1
          have K0_h230 : Keep h0 h230 [] := K0_h229.trans K230 (allS (Or.inr (by omega)) all0)
          refine k_dup X230 d_3_98 rfl (pc' := 99) rfl ?_
          refine k_iconst X230 d_3_99 (w := (1 : Int32)) rfl (pc' := 100) rfl ?_
          refine k_iloadN X230 d_3_100 rfl (pc' := 101) rfl ?_
          have c233 := (X229.sf K230 (allS ⟨S229, ge231⟩ all0) S229)
          have ge234 : n0 ≤ b229 := by omega
          refine k_castore X230 (w := cb) 1 d_3_101 V230 (by decide) (by decide) rfl (Nat.le_of_ble_eq_true rfl) (own_i2c_id hb.1 (own_255 hb.2)) (vs' := [(.int ca), (.int cb), (.int (0 : Int32)), (.int (0 : Int32))]) rfl c233 ge234 (pc' := 102) rfl fun T232 h232 L232 X232 K232 V232 => ?_
          have sz_h232 := K232.1
          have K0_h232 : Keep h0 h232 [] := K0_h230.trans K232 (allS (Or.inr (by omega)) all0)
          refine k_dup X232 d_3_102 rfl (pc' := 103) rfl ?_
          refine k_iconst X232 d_3_103 (w := (2 : Int32)) rfl (pc' := 104) rfl ?_
          refine k_iloadN X232 d_3_104 rfl (pc' := 105) rfl ?_
          have c236 := (X230.sf K232 (allS ⟨c233, ge234⟩ all0) c233)
          have ge237 : n0 ≤ b229 := by omega
          refine k_castore X232 (w := cc) 2 d_3_105 V232 (by decide) (by decide) rfl (Nat.le_of_ble_eq_true rfl) (own_i2c_id hc.1 (own_255 hc.2)) (vs' := [(.int ca), (.int cb), (.int cc), (.int (0 : Int32))]) rfl c236 ge237 (pc' := 106) rfl fun T235 h235 L235 X235 K235 V235 => ?_
          have sz_h235 := K235.1
          have K0_h235 : Keep h0 h235 [] := K0_h232.trans K235 (allS (Or.inr (by omega)) all0)
          refine k_dup X235 d_3_106 rfl (pc' := 107) rfl ?_
          refine k_iconst X235 d_3_107 (w := (3 : Int32)) rfl (pc' := 108) rfl ?_
          refine k_iload X235 d_3_108 rfl (pc' := 110) rfl ?_
          have c239 := (X232.sf K235 (allS ⟨c236, ge237⟩ all0) c236)
          have ge240 : n0 ≤ b229 := by omega
          refine k_castore X235 (w := cd) 3 d_3_110 V235 (by decide) (by decide) rfl (Nat.le_of_ble_eq_true rfl) (own_i2c_id hd.1 (own_255 hd.2)) (vs' := [(.int ca), (.int cb), (.int cc), (.int cd)]) rfl c239 ge240 (pc' := 111) rfl fun T238 h238 L238 X238 K238 V238 => ?_
          have sz_h238 := K238.1
          have K0_h238 : Keep h0 h238 [] := K0_h235.trans K238 (allS (Or.inr (by omega)) all0)
          have c241 := (((((E228.keep K229).keep K230).keep K232).keep K235).keep K238)
          have c242 := (((((Fn228_value.keep K229 nin0).keep K230 (ninS (own_ne (by omega) : b228 ≠ b229) nin0)).keep K232 (ninS (own_ne (by omega) : b228 ≠ b229) nin0)).keep K235 (ninS (own_ne (by omega) : b228 ≠ b229) nin0)).keep K238 (ninS (own_ne (by omega) : b228 ≠ b229) nin0))
          have c243 := (((((Fn228_coder.keep K229 nin0).keep K230 (ninS (own_ne (by omega) : b228 ≠ b229) nin0)).keep K232 (ninS (own_ne (by omega) : b228 ≠ b229) nin0)).keep K235 (ninS (own_ne (by omega) : b228 ≠ b229) nin0)).keep K238 (ninS (own_ne (by omega) : b228 ≠ b229) nin0))
          have c246 := (X235.sf K238 (allS ⟨c239, ge240⟩ all0) (X232.sf K235 (allS ⟨c236, ge237⟩ all0) (X230.sf K232 (allS ⟨c233, ge234⟩ all0) (X229.sf K230 (allS ⟨S229, ge231⟩ all0) (X228.sf K229 all0 S228)))))
          have ge247 : n0 ≤ b228 := by omega
          refine k_callPNF X238 (y := (⟨"java/lang/String", "<init>", "([C)V"⟩ : MethodName)) d_3_111 (w_12 hw) (w_13 hw) (w_10 hw) (w_14 hw) (by decide) rfl rfl (argsL := [(.ref b229)]) (rest := [(.ref b228)]) (own_initL l Z a0 hw G n0 h238 X238.old b228 b229 k229 (4 : Int32) [(.int ca), (.int cb), (.int cc), (.int cd)] [ca, cb, cc, cd] rfl rfl (by simp) (by simp) (own_alS ha.2 (own_alS hb.2 (own_alS hc.2 (own_alS hd.2 own_al0)))) (by omega) c241 c242 c243 V238) rfl pd_11 rfl rfl (by decide) (W := 1) (Nat.le_of_eq rfl) (by decide) (by decide) (by decide) (allS ⟨c246, ge247⟩ all0) (pc' := 114) rfl ?_
          rintro T248 h248 L248 X248 K248 ⟨t_244, kt_245, q248_0, q248_1, q248_2, q248_3, q248_4⟩
          have sz_h248 := K248.1
          have K0_h248 : Keep h0 h248 [] := K0_h238.trans K248 (allS (Or.inr (by omega)) all0)
          have lt248_0 := own_n q248_0.lt
          have lt248_1 := own_n q248_1.lt
          have lt248_2 := own_n q248_2.lt
          have lt248_3 := own_n q248_3.lt
          have ht : own_tagc n ca cb cc cd = [ca, cb, cc, cd] := by simp [own_tagc, hc169, hc180, hc193, hc209]
          exact k_retHA X248 d_3_114 rfl rfl rfl rfl K0_h248 (fun v' C' => ⟨_, rfl, _, _, _, _, _, rfl, q248_0, q248_2, q248_1, q248_3, by rw [ht]; exact own_codOfL (own_alS ha.2 (own_alS hb.2 (own_alS hc.2 (own_alS hd.2 own_al0)))), by omega⟩) (by decide) (by decide)
set_option maxRecDepth 65536 in
set_option maxHeartbeats 40000000 in
theorem own_law (l : Launch) (Z : State) (a0 : Array Value) (hw : ∀ d ∈ tables_1, d.before a0 Z = true) {zc : Int32} {fm : Value} {sp : Nat} (G : Gl Z zc fm sp) (n0 : Nat) (h0 : Heap) (O0 : Old Z n0 h0) (p0 : Int32) (p1 : Int32) (p2 : Int32) (p3 : Int32) (p4 : Int32) (p5 : Int32) :
    MetH l tables_1 Z EL n0 (⟨"com/example/settlegram/settlegram/TextLineIsSequenceDelimiterPinLaw", "law", "(IIIIII)Z"⟩ : MethodName) code 14 (some .boolean) room_1 #[(.int p0), (.int p1), (.int p2), (.int p3), (.int p4), (.int p5)] h0 [] (fun r v' h' => ∃ w, r = some w ∧ w = .int (1 : Int32) ∧ True) := by
  refine metH (hEL hw) (plainFor_of_name pn_6) O0 (Ls := #[.val (.int p0), .val (.int p1), .val (.int p2), .val (.int p3), .val (.int p4), .val (.int p5), .unset, .unset, .unset, .unset, .unset, .unset, .unset, .unset]) (fun m => by first | rfl | (simp [entryFrame, mkF, argsToLocals, Value.category]; done)) ?_
  intro p e s m below meth c T0 v0 X0 hSf
  have K0_h0 := Keep.refl h0 []
  have n0le := X0.n0le
  obtain ⟨G_cs, G_zc, G_fm, isref_fm, GS_sp, GE_sp⟩ := id G
  have oz := X0.old.1
  have ltz0 := own_n GE_sp.lt
  obtain ⟨nn, hnn⟩ : ∃ nn, (p0 &&& (2147483647 : Int32)) - ((p0 &&& (2147483647 : Int32)) / (5 : Int32)) * (5 : Int32) = nn := ⟨_, rfl⟩
  refine k_iloadN X0 at_0 rfl (pc' := 1) rfl ?_
  refine k_ldcI X0 at_1 (w_0 hw) (pc' := 3) rfl ?_
  refine k_iand X0 at_3 (w := (p0 &&& (2147483647 : Int32))) rfl (pc' := 4) rfl ?_
  refine k_iconst X0 at_4 (w := (5 : Int32)) rfl (pc' := 5) rfl ?_
  refine k_irem X0 at_5 (by decide) (w := nn) hnn (pc' := 6) rfl ?_
  refine k_istore X0 at_6 (Ls' := #[.val (.int p0), .val (.int p1), .val (.int p2), .val (.int p3), .val (.int p4), .val (.int p5), .val (.int nn), .unset, .unset, .unset, .unset, .unset, .unset, .unset]) rfl (pc' := 8) rfl ?_
  refine k_iloadN X0 at_8 rfl (pc' := 9) rfl ?_
  refine k_bipush X0 at_9 (w := (49 : Int32)) rfl (pc' := 11) rfl ?_
  refine k_callSVF X0 (y := (⟨"com/example/settlegram/settlegram/TextLineIsSequenceDelimiterPinLaw", "pick", "(IC)C"⟩ : MethodName)) at_11 (w_1 hw) (w_2 hw) (w_3 hw) (w_4 hw) (by decide) (argsL := [(.int p1), (.int (49 : Int32))]) (rest := []) (own_pick l Z a0 hw G n0 h0 X0.old p1 (49 : Int32) (by decide) ) rfl pd_12 rfl rfl (by decide) (W := 0) (Nat.le_of_eq rfl) (by decide) (by decide) (by decide) all0 (pc' := 14) rfl ?_
  rintro _ T250 h250 L250 X250 K250 ⟨c0_249, rfl, q250_0⟩
  have sz_h250 := K250.1
  have K0_h250 : Keep h0 h250 [] := K0_h0.trans K250 all0
  refine k_istore X250 at_14 (Ls' := #[.val (.int p0), .val (.int p1), .val (.int p2), .val (.int p3), .val (.int p4), .val (.int p5), .val (.int nn), .val (.int c0_249), .unset, .unset, .unset, .unset, .unset, .unset]) rfl (pc' := 16) rfl ?_
  refine k_iloadN X250 at_16 rfl (pc' := 17) rfl ?_
  refine k_bipush X250 at_17 (w := (54 : Int32)) rfl (pc' := 19) rfl ?_
  refine k_callSVF X250 (y := (⟨"com/example/settlegram/settlegram/TextLineIsSequenceDelimiterPinLaw", "pick", "(IC)C"⟩ : MethodName)) at_19 (w_1 hw) (w_2 hw) (w_3 hw) (w_4 hw) (by decide) (argsL := [(.int p2), (.int (54 : Int32))]) (rest := []) (own_pick l Z a0 hw G n0 h250 X250.old p2 (54 : Int32) (by decide) ) rfl pd_12 rfl rfl (by decide) (W := 0) (Nat.le_of_eq rfl) (by decide) (by decide) (by decide) all0 (pc' := 22) rfl ?_
  rintro _ T253 h253 L253 X253 K253 ⟨c0_252, rfl, q253_0⟩
  have sz_h253 := K253.1
  have K0_h253 : Keep h0 h253 [] := K0_h250.trans K253 all0
  refine k_istore X253 at_22 (Ls' := #[.val (.int p0), .val (.int p1), .val (.int p2), .val (.int p3), .val (.int p4), .val (.int p5), .val (.int nn), .val (.int c0_249), .val (.int c0_252), .unset, .unset, .unset, .unset, .unset]) rfl (pc' := 24) rfl ?_
  refine k_iloadN X253 at_24 rfl (pc' := 25) rfl ?_
  refine k_sipush X253 at_25 (w := (512 : Int32)) rfl (pc' := 28) rfl ?_
  refine k_iand X253 at_28 (w := (p3 &&& (512 : Int32))) rfl (pc' := 29) rfl ?_
  by_cases hc255 : (p3 &&& (512 : Int32)) = (0 : Int32)
  · refine k_ifYes X253 at_29 ((if0 _ _).trans (teq hc255).1) (pc' := 37) (by decide) (by decide) ?_
    refine k_iloadN X253 at_37 rfl (pc' := 38) rfl ?_
    refine k_bipush X253 at_38 (w := (82 : Int32)) rfl (pc' := 40) rfl ?_
    refine k_callSVF X253 (y := (⟨"com/example/settlegram/settlegram/TextLineIsSequenceDelimiterPinLaw", "pick", "(IC)C"⟩ : MethodName)) at_40 (w_1 hw) (w_2 hw) (w_3 hw) (w_4 hw) (by decide) (argsL := [(.int p3), (.int (82 : Int32))]) (rest := []) (own_pick l Z a0 hw G n0 h253 X253.old p3 (82 : Int32) (by decide) ) rfl pd_12 rfl rfl (by decide) (W := 0) (Nat.le_of_eq rfl) (by decide) (by decide) (by decide) all0 (pc' := 43) rfl ?_
    rintro _ T257 h257 L257 X257 K257 ⟨c0_256, rfl, q257_0⟩
    have sz_h257 := K257.1
    have K0_h257 : Keep h0 h257 [] := K0_h253.trans K257 all0
    refine k_istore X257 at_43 (Ls' := #[.val (.int p0), .val (.int p1), .val (.int p2), .val (.int p3), .val (.int p4), .val (.int p5), .val (.int nn), .val (.int c0_249), .val (.int c0_252), .val (.int c0_256), .unset, .unset, .unset, .unset]) rfl (pc' := 45) rfl ?_
    refine k_iload X257 at_45 rfl (pc' := 47) rfl ?_
    refine k_sipush X257 at_47 (w := (255 : Int32)) rfl (pc' := 50) rfl ?_
    refine k_iand X257 at_50 (w := (p4 &&& (255 : Int32))) rfl (pc' := 51) rfl ?_
    refine k_i2c X257 at_51 (w := (p4 &&& (255 : Int32))) (i2c_mask _) (pc' := 52) rfl ?_
    refine k_istore X257 at_52 (Ls' := #[.val (.int p0), .val (.int p1), .val (.int p2), .val (.int p3), .val (.int p4), .val (.int p5), .val (.int nn), .val (.int c0_249), .val (.int c0_252), .val (.int c0_256), .val (.int (p4 &&& (255 : Int32))), .unset, .unset, .unset]) rfl (pc' := 54) rfl ?_
    refine k_iload X257 at_54 rfl (pc' := 56) rfl ?_
    refine k_iload X257 at_56 rfl (pc' := 58) rfl ?_
    refine k_iload X257 at_58 rfl (pc' := 60) rfl ?_
    refine k_iload X257 at_60 rfl (pc' := 62) rfl ?_
    refine k_iload X257 at_62 rfl (pc' := 64) rfl ?_
    refine k_callSVH X257 (y := (⟨"com/example/settlegram/settlegram/TextLineIsSequenceDelimiterPinLaw", "makeTag", "(ICCCC)Ljava/lang/String;"⟩ : MethodName)) at_64 (w_5 hw) (w_6 hw) (w_3 hw) (w_7 hw) (by decide) (argsL := [(.int nn), (.int c0_249), (.int c0_252), (.int c0_256), (.int (p4 &&& (255 : Int32)))]) (rest := []) (own_mkTag l Z a0 hw G n0 h257 X257.old nn c0_249 c0_252 c0_256 (p4 &&& (255 : Int32)) q250_0 q253_0 q257_0 (own_mask_rng _) ) rfl pd_13 rfl rfl (by decide) (W := 0) (Nat.le_of_eq rfl) (by decide) (by decide) (by decide) all0 (pc' := 67) rfl ?_
    rintro _ v264 T264 h264 L264 X264 K264 C264 ⟨r_259, t_260, kt_261, zz_262, bs_263, rfl, q264_0, q264_1, q264_2, q264_3, q264_4, q264_5⟩
    have sz_h264 := K264.1
    have K0_h264 : Keep h0 h264 [] := K0_h257.trans K264 all0
    have lt264_0 := own_n q264_0.lt
    have lt264_1 := own_n q264_1.lt
    have lt264_2 := own_n q264_2.lt
    have lt264_3 := own_n q264_3.lt
    refine k_astore X264 at_67 rfl (Ls' := #[.val (.int p0), .val (.int p1), .val (.int p2), .val (.int p3), .val (.int p4), .val (.int p5), .val (.int nn), .val (.int c0_249), .val (.int c0_252), .val (.int c0_256), .val (.int (p4 &&& (255 : Int32))), .val (.ref r_259), .unset, .unset]) rfl (pc' := 69) rfl ?_
    refine k_newO X264 at_69 (w_30 hw) (w_31 hw) (w_32 hw) (by decide) (by decide) (pc' := 72) rfl fun T266 h266 b266 g266 X266 K266 E266 D266 S266 lt266 ge266 => ?_
    have sz_h266 := K266.1
    have K0_h266 : Keep h0 h266 [] := K0_h264.trans K266 all0
    have Fn266_number : Fld Z h266 b266 "com/example/settlegram/settlegram/TextLine" "number" "I" (.int (0 : Int32)) := D266 (Or.inr (w_66 hw)) (ty := .int) (by decide)
    have Fn266_sequences : Fld Z h266 b266 "com/example/settlegram/settlegram/TextLine" "sequences" "Ljava/util/List;" .null := D266 (Or.inr (w_68 hw)) (ty := (.object "java/util/List")) (by decide)
    have Fn266_tag : Fld Z h266 b266 "com/example/settlegram/settlegram/TextLine" "tag" "Ljava/lang/String;" .null := D266 (Or.inr (w_70 hw)) (ty := (.object "java/lang/String")) (by decide)
    have Fn266_text : Fld Z h266 b266 "com/example/settlegram/settlegram/TextLine" "text" "Ljava/lang/String;" .null := D266 (Or.inr (w_72 hw)) (ty := (.object "java/lang/String")) (by decide)
    refine k_dup X266 at_72 rfl (pc' := 73) rfl ?_
    refine k_iload X266 at_73 rfl (pc' := 75) rfl ?_
    refine k_getS X266 at_75 (host := "") (Or.inl (w_33 hw)) Via.refl (GS_sp.ext X266.old.2) (pc' := 78) rfl fun T267 X268 => ?_
    refine k_aload X268 at_78 rfl rfl (pc' := 80) rfl ?_
    refine k_iload X268 at_80 rfl (pc' := 82) rfl ?_
    refine k_callSVF X268 (y := (⟨"java/lang/String", "valueOf", "(C)Ljava/lang/String;"⟩ : MethodName)) at_82 (w_36 hw) (w_37 hw) (w_10 hw) (w_38 hw) (by decide) (argsL := [(.int (p4 &&& (255 : Int32)))]) (rest := [(.ref r_259), (.ref sp), (.int p5), (.ref b266), (.ref b266)]) (own_vocL l Z a0 hw G n0 h266 X268.old (p4 &&& (255 : Int32)) (own_and255 _) ) rfl pd_14 rfl rfl (by decide) (W := 5) (Nat.le_of_eq rfl) (by decide) (by decide) (by decide) all0 (pc' := 85) rfl ?_
    rintro _ T272 h272 L272 X272 K272 ⟨r_269, t_270, kt_271, rfl, q272_0, q272_1, q272_2, q272_3, q272_4, q272_5⟩
    have sz_h272 := K272.1
    have K0_h272 : Keep h0 h272 [] := K0_h266.trans K272 all0
    have lt272_0 := own_n q272_0.lt
    have lt272_1 := own_n q272_1.lt
    have lt272_2 := own_n q272_2.lt
    have lt272_3 := own_n q272_3.lt
    have c274 := (E266.keep K272)
    have c275 := (Fn266_number.keep K272 nin0)
    have c276 := (Fn266_sequences.keep K272 nin0)
    have c277 := (Fn266_tag.keep K272 nin0)
    have c278 := (Fn266_text.keep K272 nin0)
    have c279 := (X268.sf K272 all0 S266)
    have ge280 : n0 ≤ b266 := by omega
    refine k_callPNF X272 (y := (⟨"com/example/settlegram/settlegram/TextLine", "<init>", "(ILjava/util/List;Ljava/lang/String;Ljava/lang/String;)V"⟩ : MethodName)) at_85 (w_51 hw) (w_52 hw) (w_32 hw) (w_53 hw) (by decide) rfl rfl (argsL := [(.int p5), (.ref sp), (.ref r_259), (.ref r_269)]) (rest := [(.ref b266)]) (own_tlInit l Z a0 hw G n0 h272 X272.old b266 p5 sp r_259 r_269 (by omega) c274 c275 c276 c277 c278 (GE_sp.ext X272.old.2)) rfl pd_15 rfl rfl (by decide) (W := 1) (Nat.le_of_eq rfl) (by decide) (by decide) (by decide) (allS ⟨c279, ge280⟩ all0) (pc' := 88) rfl ?_
    rintro T281 h281 L281 X281 K281 ⟨q281_0, q281_1⟩
    have sz_h281 := K281.1
    have K0_h281 : Keep h0 h281 [] := K0_h272.trans K281 (allS (Or.inr (by omega)) all0)
    have lt281_0 := own_n q281_0.lt
    have lt281_1 := own_n q281_1.lt
    refine k_astore X281 at_88 rfl (Ls' := #[.val (.int p0), .val (.int p1), .val (.int p2), .val (.int p3), .val (.int p4), .val (.int p5), .val (.int nn), .val (.int c0_249), .val (.int c0_252), .val (.int c0_256), .val (.int (p4 &&& (255 : Int32))), .val (.ref r_259), .val (.ref b266), .unset]) rfl (pc' := 90) rfl ?_
    refine k_iload X281 at_90 rfl (pc' := 92) rfl ?_
    refine k_iconst X281 at_92 (w := (3 : Int32)) rfl (pc' := 93) rfl ?_
    by_cases hc282 : nn = (3 : Int32)
    · refine k_icmpNo X281 at_93 (teq hc282).2 (pc' := 96) rfl ?_
      refine k_iload X281 at_96 rfl (pc' := 98) rfl ?_
      refine k_bipush X281 at_98 (w := (49 : Int32)) rfl (pc' := 100) rfl ?_
      by_cases hc283 : c0_249 = (49 : Int32)
      · refine k_icmpNo X281 at_100 (teq hc283).2 (pc' := 103) rfl ?_
        refine k_iload X281 at_103 rfl (pc' := 105) rfl ?_
        refine k_bipush X281 at_105 (w := (54 : Int32)) rfl (pc' := 107) rfl ?_
        by_cases hc284 : c0_252 = (54 : Int32)
        · refine k_icmpNo X281 at_107 (teq hc284).2 (pc' := 110) rfl ?_
          refine k_iload X281 at_110 rfl (pc' := 112) rfl ?_
          refine k_bipush X281 at_112 (w := (82 : Int32)) rfl (pc' := 114) rfl ?_
          by_cases hc285 : c0_256 = (82 : Int32)
          · refine k_icmpYes X281 at_114 (teq hc285).1 (pc' := 124) (by decide) (by decide) ?_
            refine k_iconst X281 at_124 (w := (1 : Int32)) rfl (pc' := 125) rfl ?_
            refine k_goto X281 at_125 (pc' := 129) (by decide) (by decide) ?_
            refine k_istore X281 at_129 (Ls' := #[.val (.int p0), .val (.int p1), .val (.int p2), .val (.int p3), .val (.int p4), .val (.int p5), .val (.int nn), .val (.int c0_249), .val (.int c0_252), .val (.int c0_256), .val (.int (p4 &&& (255 : Int32))), .val (.ref r_259), .val (.ref b266), .val (.int (1 : Int32))]) rfl (pc' := 131) rfl ?_
            refine k_aload X281 at_131 rfl rfl (pc' := 133) rfl ?_
            have c286 := (((q264_0.keep K266).keep K272).keep K281)
            have c287 := (((q264_1.keep K266 nin0).keep K272 nin0).keep K281 (ninS (own_ne (by omega) : r_259 ≠ b266) nin0))
            have c288 := (((q264_2.keep K266 nin0).keep K272 nin0).keep K281 (ninS (own_ne (by omega) : r_259 ≠ b266) nin0))
            have c289 := (((q264_3.keep K266 nin0).keep K272 nin0).keep K281 (ninS (own_ne (by omega) : t_260 ≠ b266) nin0))
            refine k_callVVH X281 (y := (⟨"com/example/settlegram/settlegram/TextLine", "isSequenceDelimiter", "()Z"⟩ : MethodName)) at_133 (w_73 hw) (w_74 hw) (w_76 hw) (w_75 hw) (w_32 hw) (w_77 hw) (by decide) (notFace_of_selects (args := #[]) (mvT X281.hZ (w_76 hw))) q281_0 (argsL := []) (rest := []) (own_isDel l Z a0 hw G n0 h281 X281.old b266 r_259 t_260 kt_261 (0 : Int32) zz_262 bs_263 (own_tagc nn c0_249 c0_252 c0_256 (p4 &&& (255 : Int32))) (own_tag_len _ _ _ _ _) (own_tag_chs q250_0 q253_0 q257_0 (own_mask_rng _)) q281_1 c286 c287 c288 c289 q264_4) rfl pd_16 rfl rfl (by decide) (W := 0) (Nat.le_of_eq rfl) (by decide) (by decide) (by decide) all0 (pc' := 136) rfl ?_
            rintro _ v290 T290 h290 L290 X290 K290 C290 ⟨rfl, -⟩
            have sz_h290 := K290.1
            have K0_h290 : Keep h0 h290 [] := K0_h281.trans K290 all0
            refine k_iload X290 at_136 rfl (pc' := 138) rfl ?_
            have hk : (own_delim (own_tagc nn c0_249 c0_252 c0_256 (p4 &&& (255 : Int32)))) = (1 : Int32) := by rw [own_delim_tag]; simp [hc282, hc283, hc284, hc285]
            refine k_icmpNo X290 at_138 (teq hk).2 (pc' := 141) rfl ?_
            refine k_iconst X290 at_141 (w := (1 : Int32)) rfl (pc' := 142) rfl ?_
            refine k_goto X290 at_142 (pc' := 146) (by decide) (by decide) ?_
            exact k_retHN X290 (w := (1 : Int32)) at_146 (t := .boolean) rfl (by simp) rfl K0_h290 (fun v' C' => ⟨_, rfl, rfl, trivial⟩) (by decide) (by decide)
          · refine k_icmpNo X281 at_114 (feq hc285).1 (pc' := 117) rfl ?_
            refine k_iload X281 at_117 rfl (pc' := 119) rfl ?_
            refine k_bipush X281 at_119 (w := (83 : Int32)) rfl (pc' := 121) rfl ?_
            by_cases hc292 : c0_256 = (83 : Int32)
            · refine k_icmpNo X281 at_121 (teq hc292).2 (pc' := 124) rfl ?_
              refine k_iconst X281 at_124 (w := (1 : Int32)) rfl (pc' := 125) rfl ?_
              refine k_goto X281 at_125 (pc' := 129) (by decide) (by decide) ?_
              refine k_istore X281 at_129 (Ls' := #[.val (.int p0), .val (.int p1), .val (.int p2), .val (.int p3), .val (.int p4), .val (.int p5), .val (.int nn), .val (.int c0_249), .val (.int c0_252), .val (.int c0_256), .val (.int (p4 &&& (255 : Int32))), .val (.ref r_259), .val (.ref b266), .val (.int (1 : Int32))]) rfl (pc' := 131) rfl ?_
              refine k_aload X281 at_131 rfl rfl (pc' := 133) rfl ?_
              have c293 := (((q264_0.keep K266).keep K272).keep K281)
              have c294 := (((q264_1.keep K266 nin0).keep K272 nin0).keep K281 (ninS (own_ne (by omega) : r_259 ≠ b266) nin0))
              have c295 := (((q264_2.keep K266 nin0).keep K272 nin0).keep K281 (ninS (own_ne (by omega) : r_259 ≠ b266) nin0))
              have c296 := (((q264_3.keep K266 nin0).keep K272 nin0).keep K281 (ninS (own_ne (by omega) : t_260 ≠ b266) nin0))
              refine k_callVVH X281 (y := (⟨"com/example/settlegram/settlegram/TextLine", "isSequenceDelimiter", "()Z"⟩ : MethodName)) at_133 (w_73 hw) (w_74 hw) (w_76 hw) (w_75 hw) (w_32 hw) (w_77 hw) (by decide) (notFace_of_selects (args := #[]) (mvT X281.hZ (w_76 hw))) q281_0 (argsL := []) (rest := []) (own_isDel l Z a0 hw G n0 h281 X281.old b266 r_259 t_260 kt_261 (0 : Int32) zz_262 bs_263 (own_tagc nn c0_249 c0_252 c0_256 (p4 &&& (255 : Int32))) (own_tag_len _ _ _ _ _) (own_tag_chs q250_0 q253_0 q257_0 (own_mask_rng _)) q281_1 c293 c294 c295 c296 q264_4) rfl pd_16 rfl rfl (by decide) (W := 0) (Nat.le_of_eq rfl) (by decide) (by decide) (by decide) all0 (pc' := 136) rfl ?_
              rintro _ v297 T297 h297 L297 X297 K297 C297 ⟨rfl, -⟩
              have sz_h297 := K297.1
              have K0_h297 : Keep h0 h297 [] := K0_h281.trans K297 all0
              refine k_iload X297 at_136 rfl (pc' := 138) rfl ?_
              have hk : (own_delim (own_tagc nn c0_249 c0_252 c0_256 (p4 &&& (255 : Int32)))) = (1 : Int32) := by rw [own_delim_tag]; simp [hc282, hc283, hc284, hc285, hc292]
              refine k_icmpNo X297 at_138 (teq hk).2 (pc' := 141) rfl ?_
              refine k_iconst X297 at_141 (w := (1 : Int32)) rfl (pc' := 142) rfl ?_
              refine k_goto X297 at_142 (pc' := 146) (by decide) (by decide) ?_
              exact k_retHN X297 (w := (1 : Int32)) at_146 (t := .boolean) rfl (by simp) rfl K0_h297 (fun v' C' => ⟨_, rfl, rfl, trivial⟩) (by decide) (by decide)
            · refine k_icmpYes X281 at_121 (feq hc292).2 (pc' := 128) (by decide) (by decide) ?_
              refine k_iconst X281 at_128 (w := (0 : Int32)) rfl (pc' := 129) rfl ?_
              refine k_istore X281 at_129 (Ls' := #[.val (.int p0), .val (.int p1), .val (.int p2), .val (.int p3), .val (.int p4), .val (.int p5), .val (.int nn), .val (.int c0_249), .val (.int c0_252), .val (.int c0_256), .val (.int (p4 &&& (255 : Int32))), .val (.ref r_259), .val (.ref b266), .val (.int (0 : Int32))]) rfl (pc' := 131) rfl ?_
              refine k_aload X281 at_131 rfl rfl (pc' := 133) rfl ?_
              have c299 := (((q264_0.keep K266).keep K272).keep K281)
              have c300 := (((q264_1.keep K266 nin0).keep K272 nin0).keep K281 (ninS (own_ne (by omega) : r_259 ≠ b266) nin0))
              have c301 := (((q264_2.keep K266 nin0).keep K272 nin0).keep K281 (ninS (own_ne (by omega) : r_259 ≠ b266) nin0))
              have c302 := (((q264_3.keep K266 nin0).keep K272 nin0).keep K281 (ninS (own_ne (by omega) : t_260 ≠ b266) nin0))
              refine k_callVVH X281 (y := (⟨"com/example/settlegram/settlegram/TextLine", "isSequenceDelimiter", "()Z"⟩ : MethodName)) at_133 (w_73 hw) (w_74 hw) (w_76 hw) (w_75 hw) (w_32 hw) (w_77 hw) (by decide) (notFace_of_selects (args := #[]) (mvT X281.hZ (w_76 hw))) q281_0 (argsL := []) (rest := []) (own_isDel l Z a0 hw G n0 h281 X281.old b266 r_259 t_260 kt_261 (0 : Int32) zz_262 bs_263 (own_tagc nn c0_249 c0_252 c0_256 (p4 &&& (255 : Int32))) (own_tag_len _ _ _ _ _) (own_tag_chs q250_0 q253_0 q257_0 (own_mask_rng _)) q281_1 c299 c300 c301 c302 q264_4) rfl pd_16 rfl rfl (by decide) (W := 0) (Nat.le_of_eq rfl) (by decide) (by decide) (by decide) all0 (pc' := 136) rfl ?_
              rintro _ v303 T303 h303 L303 X303 K303 C303 ⟨rfl, -⟩
              have sz_h303 := K303.1
              have K0_h303 : Keep h0 h303 [] := K0_h281.trans K303 all0
              refine k_iload X303 at_136 rfl (pc' := 138) rfl ?_
              have hk : (own_delim (own_tagc nn c0_249 c0_252 c0_256 (p4 &&& (255 : Int32)))) = (0 : Int32) := by rw [own_delim_tag]; simp [hc282, hc283, hc284, hc285, hc292]
              refine k_icmpNo X303 at_138 (teq hk).2 (pc' := 141) rfl ?_
              refine k_iconst X303 at_141 (w := (1 : Int32)) rfl (pc' := 142) rfl ?_
              refine k_goto X303 at_142 (pc' := 146) (by decide) (by decide) ?_
              exact k_retHN X303 (w := (1 : Int32)) at_146 (t := .boolean) rfl (by simp) rfl K0_h303 (fun v' C' => ⟨_, rfl, rfl, trivial⟩) (by decide) (by decide)
        · refine k_icmpYes X281 at_107 (feq hc284).2 (pc' := 128) (by decide) (by decide) ?_
          refine k_iconst X281 at_128 (w := (0 : Int32)) rfl (pc' := 129) rfl ?_
          refine k_istore X281 at_129 (Ls' := #[.val (.int p0), .val (.int p1), .val (.int p2), .val (.int p3), .val (.int p4), .val (.int p5), .val (.int nn), .val (.int c0_249), .val (.int c0_252), .val (.int c0_256), .val (.int (p4 &&& (255 : Int32))), .val (.ref r_259), .val (.ref b266), .val (.int (0 : Int32))]) rfl (pc' := 131) rfl ?_
          refine k_aload X281 at_131 rfl rfl (pc' := 133) rfl ?_
          have c305 := (((q264_0.keep K266).keep K272).keep K281)
          have c306 := (((q264_1.keep K266 nin0).keep K272 nin0).keep K281 (ninS (own_ne (by omega) : r_259 ≠ b266) nin0))
          have c307 := (((q264_2.keep K266 nin0).keep K272 nin0).keep K281 (ninS (own_ne (by omega) : r_259 ≠ b266) nin0))
          have c308 := (((q264_3.keep K266 nin0).keep K272 nin0).keep K281 (ninS (own_ne (by omega) : t_260 ≠ b266) nin0))
          refine k_callVVH X281 (y := (⟨"com/example/settlegram/settlegram/TextLine", "isSequenceDelimiter", "()Z"⟩ : MethodName)) at_133 (w_73 hw) (w_74 hw) (w_76 hw) (w_75 hw) (w_32 hw) (w_77 hw) (by decide) (notFace_of_selects (args := #[]) (mvT X281.hZ (w_76 hw))) q281_0 (argsL := []) (rest := []) (own_isDel l Z a0 hw G n0 h281 X281.old b266 r_259 t_260 kt_261 (0 : Int32) zz_262 bs_263 (own_tagc nn c0_249 c0_252 c0_256 (p4 &&& (255 : Int32))) (own_tag_len _ _ _ _ _) (own_tag_chs q250_0 q253_0 q257_0 (own_mask_rng _)) q281_1 c305 c306 c307 c308 q264_4) rfl pd_16 rfl rfl (by decide) (W := 0) (Nat.le_of_eq rfl) (by decide) (by decide) (by decide) all0 (pc' := 136) rfl ?_
          rintro _ v309 T309 h309 L309 X309 K309 C309 ⟨rfl, -⟩
          have sz_h309 := K309.1
          have K0_h309 : Keep h0 h309 [] := K0_h281.trans K309 all0
          refine k_iload X309 at_136 rfl (pc' := 138) rfl ?_
          have hk : (own_delim (own_tagc nn c0_249 c0_252 c0_256 (p4 &&& (255 : Int32)))) = (0 : Int32) := by rw [own_delim_tag]; simp [hc282, hc283, hc284]
          refine k_icmpNo X309 at_138 (teq hk).2 (pc' := 141) rfl ?_
          refine k_iconst X309 at_141 (w := (1 : Int32)) rfl (pc' := 142) rfl ?_
          refine k_goto X309 at_142 (pc' := 146) (by decide) (by decide) ?_
          exact k_retHN X309 (w := (1 : Int32)) at_146 (t := .boolean) rfl (by simp) rfl K0_h309 (fun v' C' => ⟨_, rfl, rfl, trivial⟩) (by decide) (by decide)
      · refine k_icmpYes X281 at_100 (feq hc283).2 (pc' := 128) (by decide) (by decide) ?_
        refine k_iconst X281 at_128 (w := (0 : Int32)) rfl (pc' := 129) rfl ?_
        refine k_istore X281 at_129 (Ls' := #[.val (.int p0), .val (.int p1), .val (.int p2), .val (.int p3), .val (.int p4), .val (.int p5), .val (.int nn), .val (.int c0_249), .val (.int c0_252), .val (.int c0_256), .val (.int (p4 &&& (255 : Int32))), .val (.ref r_259), .val (.ref b266), .val (.int (0 : Int32))]) rfl (pc' := 131) rfl ?_
        refine k_aload X281 at_131 rfl rfl (pc' := 133) rfl ?_
        have c311 := (((q264_0.keep K266).keep K272).keep K281)
        have c312 := (((q264_1.keep K266 nin0).keep K272 nin0).keep K281 (ninS (own_ne (by omega) : r_259 ≠ b266) nin0))
        have c313 := (((q264_2.keep K266 nin0).keep K272 nin0).keep K281 (ninS (own_ne (by omega) : r_259 ≠ b266) nin0))
        have c314 := (((q264_3.keep K266 nin0).keep K272 nin0).keep K281 (ninS (own_ne (by omega) : t_260 ≠ b266) nin0))
        refine k_callVVH X281 (y := (⟨"com/example/settlegram/settlegram/TextLine", "isSequenceDelimiter", "()Z"⟩ : MethodName)) at_133 (w_73 hw) (w_74 hw) (w_76 hw) (w_75 hw) (w_32 hw) (w_77 hw) (by decide) (notFace_of_selects (args := #[]) (mvT X281.hZ (w_76 hw))) q281_0 (argsL := []) (rest := []) (own_isDel l Z a0 hw G n0 h281 X281.old b266 r_259 t_260 kt_261 (0 : Int32) zz_262 bs_263 (own_tagc nn c0_249 c0_252 c0_256 (p4 &&& (255 : Int32))) (own_tag_len _ _ _ _ _) (own_tag_chs q250_0 q253_0 q257_0 (own_mask_rng _)) q281_1 c311 c312 c313 c314 q264_4) rfl pd_16 rfl rfl (by decide) (W := 0) (Nat.le_of_eq rfl) (by decide) (by decide) (by decide) all0 (pc' := 136) rfl ?_
        rintro _ v315 T315 h315 L315 X315 K315 C315 ⟨rfl, -⟩
        have sz_h315 := K315.1
        have K0_h315 : Keep h0 h315 [] := K0_h281.trans K315 all0
        refine k_iload X315 at_136 rfl (pc' := 138) rfl ?_
        have hk : (own_delim (own_tagc nn c0_249 c0_252 c0_256 (p4 &&& (255 : Int32)))) = (0 : Int32) := by rw [own_delim_tag]; simp [hc282, hc283]
        refine k_icmpNo X315 at_138 (teq hk).2 (pc' := 141) rfl ?_
        refine k_iconst X315 at_141 (w := (1 : Int32)) rfl (pc' := 142) rfl ?_
        refine k_goto X315 at_142 (pc' := 146) (by decide) (by decide) ?_
        exact k_retHN X315 (w := (1 : Int32)) at_146 (t := .boolean) rfl (by simp) rfl K0_h315 (fun v' C' => ⟨_, rfl, rfl, trivial⟩) (by decide) (by decide)
    · refine k_icmpYes X281 at_93 (feq hc282).2 (pc' := 128) (by decide) (by decide) ?_
      refine k_iconst X281 at_128 (w := (0 : Int32)) rfl (pc' := 129) rfl ?_
      refine k_istore X281 at_129 (Ls' := #[.val (.int p0), .val (.int p1), .val (.int p2), .val (.int p3), .val (.int p4), .val (.int p5), .val (.int nn), .val (.int c0_249), .val (.int c0_252), .val (.int c0_256), .val (.int (p4 &&& (255 : Int32))), .val (.ref r_259), .val (.ref b266), .val (.int (0 : Int32))]) rfl (pc' := 131) rfl ?_
      refine k_aload X281 at_131 rfl rfl (pc' := 133) rfl ?_
      have c317 := (((q264_0.keep K266).keep K272).keep K281)
      have c318 := (((q264_1.keep K266 nin0).keep K272 nin0).keep K281 (ninS (own_ne (by omega) : r_259 ≠ b266) nin0))
      have c319 := (((q264_2.keep K266 nin0).keep K272 nin0).keep K281 (ninS (own_ne (by omega) : r_259 ≠ b266) nin0))
      have c320 := (((q264_3.keep K266 nin0).keep K272 nin0).keep K281 (ninS (own_ne (by omega) : t_260 ≠ b266) nin0))
      refine k_callVVH X281 (y := (⟨"com/example/settlegram/settlegram/TextLine", "isSequenceDelimiter", "()Z"⟩ : MethodName)) at_133 (w_73 hw) (w_74 hw) (w_76 hw) (w_75 hw) (w_32 hw) (w_77 hw) (by decide) (notFace_of_selects (args := #[]) (mvT X281.hZ (w_76 hw))) q281_0 (argsL := []) (rest := []) (own_isDel l Z a0 hw G n0 h281 X281.old b266 r_259 t_260 kt_261 (0 : Int32) zz_262 bs_263 (own_tagc nn c0_249 c0_252 c0_256 (p4 &&& (255 : Int32))) (own_tag_len _ _ _ _ _) (own_tag_chs q250_0 q253_0 q257_0 (own_mask_rng _)) q281_1 c317 c318 c319 c320 q264_4) rfl pd_16 rfl rfl (by decide) (W := 0) (Nat.le_of_eq rfl) (by decide) (by decide) (by decide) all0 (pc' := 136) rfl ?_
      rintro _ v321 T321 h321 L321 X321 K321 C321 ⟨rfl, -⟩
      have sz_h321 := K321.1
      have K0_h321 : Keep h0 h321 [] := K0_h281.trans K321 all0
      refine k_iload X321 at_136 rfl (pc' := 138) rfl ?_
      have hk : (own_delim (own_tagc nn c0_249 c0_252 c0_256 (p4 &&& (255 : Int32)))) = (0 : Int32) := by rw [own_delim_tag]; simp [hc282]
      refine k_icmpNo X321 at_138 (teq hk).2 (pc' := 141) rfl ?_
      refine k_iconst X321 at_141 (w := (1 : Int32)) rfl (pc' := 142) rfl ?_
      refine k_goto X321 at_142 (pc' := 146) (by decide) (by decide) ?_
      exact k_retHN X321 (w := (1 : Int32)) at_146 (t := .boolean) rfl (by simp) rfl K0_h321 (fun v' C' => ⟨_, rfl, rfl, trivial⟩) (by decide) (by decide)
  · refine k_ifNo X253 at_29 ((if0 _ _).trans (feq hc255).1) (pc' := 32) rfl ?_
    refine k_bipush X253 at_32 (w := (83 : Int32)) rfl (pc' := 34) rfl ?_
    refine k_goto X253 at_34 (pc' := 43) (by decide) (by decide) ?_
    refine k_istore X253 at_43 (Ls' := #[.val (.int p0), .val (.int p1), .val (.int p2), .val (.int p3), .val (.int p4), .val (.int p5), .val (.int nn), .val (.int c0_249), .val (.int c0_252), .val (.int (83 : Int32)), .unset, .unset, .unset, .unset]) rfl (pc' := 45) rfl ?_
    refine k_iload X253 at_45 rfl (pc' := 47) rfl ?_
    refine k_sipush X253 at_47 (w := (255 : Int32)) rfl (pc' := 50) rfl ?_
    refine k_iand X253 at_50 (w := (p4 &&& (255 : Int32))) rfl (pc' := 51) rfl ?_
    refine k_i2c X253 at_51 (w := (p4 &&& (255 : Int32))) (i2c_mask _) (pc' := 52) rfl ?_
    refine k_istore X253 at_52 (Ls' := #[.val (.int p0), .val (.int p1), .val (.int p2), .val (.int p3), .val (.int p4), .val (.int p5), .val (.int nn), .val (.int c0_249), .val (.int c0_252), .val (.int (83 : Int32)), .val (.int (p4 &&& (255 : Int32))), .unset, .unset, .unset]) rfl (pc' := 54) rfl ?_
    refine k_iload X253 at_54 rfl (pc' := 56) rfl ?_
    refine k_iload X253 at_56 rfl (pc' := 58) rfl ?_
    refine k_iload X253 at_58 rfl (pc' := 60) rfl ?_
    refine k_iload X253 at_60 rfl (pc' := 62) rfl ?_
    refine k_iload X253 at_62 rfl (pc' := 64) rfl ?_
    refine k_callSVH X253 (y := (⟨"com/example/settlegram/settlegram/TextLineIsSequenceDelimiterPinLaw", "makeTag", "(ICCCC)Ljava/lang/String;"⟩ : MethodName)) at_64 (w_5 hw) (w_6 hw) (w_3 hw) (w_7 hw) (by decide) (argsL := [(.int nn), (.int c0_249), (.int c0_252), (.int (83 : Int32)), (.int (p4 &&& (255 : Int32)))]) (rest := []) (own_mkTag l Z a0 hw G n0 h253 X253.old nn c0_249 c0_252 (83 : Int32) (p4 &&& (255 : Int32)) q250_0 q253_0 (by decide : ¬ (83 : Int32) < 0 ∧ ¬ 255 < (83 : Int32)) (own_mask_rng _) ) rfl pd_13 rfl rfl (by decide) (W := 0) (Nat.le_of_eq rfl) (by decide) (by decide) (by decide) all0 (pc' := 67) rfl ?_
    rintro _ v328 T328 h328 L328 X328 K328 C328 ⟨r_323, t_324, kt_325, zz_326, bs_327, rfl, q328_0, q328_1, q328_2, q328_3, q328_4, q328_5⟩
    have sz_h328 := K328.1
    have K0_h328 : Keep h0 h328 [] := K0_h253.trans K328 all0
    have lt328_0 := own_n q328_0.lt
    have lt328_1 := own_n q328_1.lt
    have lt328_2 := own_n q328_2.lt
    have lt328_3 := own_n q328_3.lt
    refine k_astore X328 at_67 rfl (Ls' := #[.val (.int p0), .val (.int p1), .val (.int p2), .val (.int p3), .val (.int p4), .val (.int p5), .val (.int nn), .val (.int c0_249), .val (.int c0_252), .val (.int (83 : Int32)), .val (.int (p4 &&& (255 : Int32))), .val (.ref r_323), .unset, .unset]) rfl (pc' := 69) rfl ?_
    refine k_newO X328 at_69 (w_30 hw) (w_31 hw) (w_32 hw) (by decide) (by decide) (pc' := 72) rfl fun T330 h330 b330 g330 X330 K330 E330 D330 S330 lt330 ge330 => ?_
    have sz_h330 := K330.1
    have K0_h330 : Keep h0 h330 [] := K0_h328.trans K330 all0
    have Fn330_number : Fld Z h330 b330 "com/example/settlegram/settlegram/TextLine" "number" "I" (.int (0 : Int32)) := D330 (Or.inr (w_66 hw)) (ty := .int) (by decide)
    have Fn330_sequences : Fld Z h330 b330 "com/example/settlegram/settlegram/TextLine" "sequences" "Ljava/util/List;" .null := D330 (Or.inr (w_68 hw)) (ty := (.object "java/util/List")) (by decide)
    have Fn330_tag : Fld Z h330 b330 "com/example/settlegram/settlegram/TextLine" "tag" "Ljava/lang/String;" .null := D330 (Or.inr (w_70 hw)) (ty := (.object "java/lang/String")) (by decide)
    have Fn330_text : Fld Z h330 b330 "com/example/settlegram/settlegram/TextLine" "text" "Ljava/lang/String;" .null := D330 (Or.inr (w_72 hw)) (ty := (.object "java/lang/String")) (by decide)
    refine k_dup X330 at_72 rfl (pc' := 73) rfl ?_
    refine k_iload X330 at_73 rfl (pc' := 75) rfl ?_
    refine k_getS X330 at_75 (host := "") (Or.inl (w_33 hw)) Via.refl (GS_sp.ext X330.old.2) (pc' := 78) rfl fun T331 X332 => ?_
    refine k_aload X332 at_78 rfl rfl (pc' := 80) rfl ?_
    refine k_iload X332 at_80 rfl (pc' := 82) rfl ?_
    refine k_callSVF X332 (y := (⟨"java/lang/String", "valueOf", "(C)Ljava/lang/String;"⟩ : MethodName)) at_82 (w_36 hw) (w_37 hw) (w_10 hw) (w_38 hw) (by decide) (argsL := [(.int (p4 &&& (255 : Int32)))]) (rest := [(.ref r_323), (.ref sp), (.int p5), (.ref b330), (.ref b330)]) (own_vocL l Z a0 hw G n0 h330 X332.old (p4 &&& (255 : Int32)) (own_and255 _) ) rfl pd_14 rfl rfl (by decide) (W := 5) (Nat.le_of_eq rfl) (by decide) (by decide) (by decide) all0 (pc' := 85) rfl ?_
    rintro _ T336 h336 L336 X336 K336 ⟨r_333, t_334, kt_335, rfl, q336_0, q336_1, q336_2, q336_3, q336_4, q336_5⟩
    have sz_h336 := K336.1
    have K0_h336 : Keep h0 h336 [] := K0_h330.trans K336 all0
    have lt336_0 := own_n q336_0.lt
    have lt336_1 := own_n q336_1.lt
    have lt336_2 := own_n q336_2.lt
    have lt336_3 := own_n q336_3.lt
    have c338 := (E330.keep K336)
    have c339 := (Fn330_number.keep K336 nin0)
    have c340 := (Fn330_sequences.keep K336 nin0)
    have c341 := (Fn330_tag.keep K336 nin0)
    have c342 := (Fn330_text.keep K336 nin0)
    have c343 := (X332.sf K336 all0 S330)
    have ge344 : n0 ≤ b330 := by omega
    refine k_callPNF X336 (y := (⟨"com/example/settlegram/settlegram/TextLine", "<init>", "(ILjava/util/List;Ljava/lang/String;Ljava/lang/String;)V"⟩ : MethodName)) at_85 (w_51 hw) (w_52 hw) (w_32 hw) (w_53 hw) (by decide) rfl rfl (argsL := [(.int p5), (.ref sp), (.ref r_323), (.ref r_333)]) (rest := [(.ref b330)]) (own_tlInit l Z a0 hw G n0 h336 X336.old b330 p5 sp r_323 r_333 (by omega) c338 c339 c340 c341 c342 (GE_sp.ext X336.old.2)) rfl pd_15 rfl rfl (by decide) (W := 1) (Nat.le_of_eq rfl) (by decide) (by decide) (by decide) (allS ⟨c343, ge344⟩ all0) (pc' := 88) rfl ?_
    rintro T345 h345 L345 X345 K345 ⟨q345_0, q345_1⟩
    have sz_h345 := K345.1
    have K0_h345 : Keep h0 h345 [] := K0_h336.trans K345 (allS (Or.inr (by omega)) all0)
    have lt345_0 := own_n q345_0.lt
    have lt345_1 := own_n q345_1.lt
    refine k_astore X345 at_88 rfl (Ls' := #[.val (.int p0), .val (.int p1), .val (.int p2), .val (.int p3), .val (.int p4), .val (.int p5), .val (.int nn), .val (.int c0_249), .val (.int c0_252), .val (.int (83 : Int32)), .val (.int (p4 &&& (255 : Int32))), .val (.ref r_323), .val (.ref b330), .unset]) rfl (pc' := 90) rfl ?_
    refine k_iload X345 at_90 rfl (pc' := 92) rfl ?_
    refine k_iconst X345 at_92 (w := (3 : Int32)) rfl (pc' := 93) rfl ?_
    by_cases hc346 : nn = (3 : Int32)
    · refine k_icmpNo X345 at_93 (teq hc346).2 (pc' := 96) rfl ?_
      refine k_iload X345 at_96 rfl (pc' := 98) rfl ?_
      refine k_bipush X345 at_98 (w := (49 : Int32)) rfl (pc' := 100) rfl ?_
      by_cases hc347 : c0_249 = (49 : Int32)
      · refine k_icmpNo X345 at_100 (teq hc347).2 (pc' := 103) rfl ?_
        refine k_iload X345 at_103 rfl (pc' := 105) rfl ?_
        refine k_bipush X345 at_105 (w := (54 : Int32)) rfl (pc' := 107) rfl ?_
        by_cases hc348 : c0_252 = (54 : Int32)
        · refine k_icmpNo X345 at_107 (teq hc348).2 (pc' := 110) rfl ?_
          refine k_iload X345 at_110 rfl (pc' := 112) rfl ?_
          refine k_bipush X345 at_112 (w := (82 : Int32)) rfl (pc' := 114) rfl ?_
          refine k_icmpNo X345 at_114 (by decide) (pc' := 117) rfl ?_
          refine k_iload X345 at_117 rfl (pc' := 119) rfl ?_
          refine k_bipush X345 at_119 (w := (83 : Int32)) rfl (pc' := 121) rfl ?_
          refine k_icmpNo X345 at_121 (by decide) (pc' := 124) rfl ?_
          refine k_iconst X345 at_124 (w := (1 : Int32)) rfl (pc' := 125) rfl ?_
          refine k_goto X345 at_125 (pc' := 129) (by decide) (by decide) ?_
          refine k_istore X345 at_129 (Ls' := #[.val (.int p0), .val (.int p1), .val (.int p2), .val (.int p3), .val (.int p4), .val (.int p5), .val (.int nn), .val (.int c0_249), .val (.int c0_252), .val (.int (83 : Int32)), .val (.int (p4 &&& (255 : Int32))), .val (.ref r_323), .val (.ref b330), .val (.int (1 : Int32))]) rfl (pc' := 131) rfl ?_
          refine k_aload X345 at_131 rfl rfl (pc' := 133) rfl ?_
          have c349 := (((q328_0.keep K330).keep K336).keep K345)
          have c350 := (((q328_1.keep K330 nin0).keep K336 nin0).keep K345 (ninS (own_ne (by omega) : r_323 ≠ b330) nin0))
          have c351 := (((q328_2.keep K330 nin0).keep K336 nin0).keep K345 (ninS (own_ne (by omega) : r_323 ≠ b330) nin0))
          have c352 := (((q328_3.keep K330 nin0).keep K336 nin0).keep K345 (ninS (own_ne (by omega) : t_324 ≠ b330) nin0))
          refine k_callVVH X345 (y := (⟨"com/example/settlegram/settlegram/TextLine", "isSequenceDelimiter", "()Z"⟩ : MethodName)) at_133 (w_73 hw) (w_74 hw) (w_76 hw) (w_75 hw) (w_32 hw) (w_77 hw) (by decide) (notFace_of_selects (args := #[]) (mvT X345.hZ (w_76 hw))) q345_0 (argsL := []) (rest := []) (own_isDel l Z a0 hw G n0 h345 X345.old b330 r_323 t_324 kt_325 (0 : Int32) zz_326 bs_327 (own_tagc nn c0_249 c0_252 (83 : Int32) (p4 &&& (255 : Int32))) (own_tag_len _ _ _ _ _) (own_tag_chs q250_0 q253_0 (by decide : ¬ (83 : Int32) < 0 ∧ ¬ 255 < (83 : Int32)) (own_mask_rng _)) q345_1 c349 c350 c351 c352 q328_4) rfl pd_16 rfl rfl (by decide) (W := 0) (Nat.le_of_eq rfl) (by decide) (by decide) (by decide) all0 (pc' := 136) rfl ?_
          rintro _ v353 T353 h353 L353 X353 K353 C353 ⟨rfl, -⟩
          have sz_h353 := K353.1
          have K0_h353 : Keep h0 h353 [] := K0_h345.trans K353 all0
          refine k_iload X353 at_136 rfl (pc' := 138) rfl ?_
          have hk : (own_delim (own_tagc nn c0_249 c0_252 (83 : Int32) (p4 &&& (255 : Int32)))) = (1 : Int32) := by rw [own_delim_tag]; simp [hc346, hc347, hc348]
          refine k_icmpNo X353 at_138 (teq hk).2 (pc' := 141) rfl ?_
          refine k_iconst X353 at_141 (w := (1 : Int32)) rfl (pc' := 142) rfl ?_
          refine k_goto X353 at_142 (pc' := 146) (by decide) (by decide) ?_
          exact k_retHN X353 (w := (1 : Int32)) at_146 (t := .boolean) rfl (by simp) rfl K0_h353 (fun v' C' => ⟨_, rfl, rfl, trivial⟩) (by decide) (by decide)
        · refine k_icmpYes X345 at_107 (feq hc348).2 (pc' := 128) (by decide) (by decide) ?_
          refine k_iconst X345 at_128 (w := (0 : Int32)) rfl (pc' := 129) rfl ?_
          refine k_istore X345 at_129 (Ls' := #[.val (.int p0), .val (.int p1), .val (.int p2), .val (.int p3), .val (.int p4), .val (.int p5), .val (.int nn), .val (.int c0_249), .val (.int c0_252), .val (.int (83 : Int32)), .val (.int (p4 &&& (255 : Int32))), .val (.ref r_323), .val (.ref b330), .val (.int (0 : Int32))]) rfl (pc' := 131) rfl ?_
          refine k_aload X345 at_131 rfl rfl (pc' := 133) rfl ?_
          have c355 := (((q328_0.keep K330).keep K336).keep K345)
          have c356 := (((q328_1.keep K330 nin0).keep K336 nin0).keep K345 (ninS (own_ne (by omega) : r_323 ≠ b330) nin0))
          have c357 := (((q328_2.keep K330 nin0).keep K336 nin0).keep K345 (ninS (own_ne (by omega) : r_323 ≠ b330) nin0))
          have c358 := (((q328_3.keep K330 nin0).keep K336 nin0).keep K345 (ninS (own_ne (by omega) : t_324 ≠ b330) nin0))
          refine k_callVVH X345 (y := (⟨"com/example/settlegram/settlegram/TextLine", "isSequenceDelimiter", "()Z"⟩ : MethodName)) at_133 (w_73 hw) (w_74 hw) (w_76 hw) (w_75 hw) (w_32 hw) (w_77 hw) (by decide) (notFace_of_selects (args := #[]) (mvT X345.hZ (w_76 hw))) q345_0 (argsL := []) (rest := []) (own_isDel l Z a0 hw G n0 h345 X345.old b330 r_323 t_324 kt_325 (0 : Int32) zz_326 bs_327 (own_tagc nn c0_249 c0_252 (83 : Int32) (p4 &&& (255 : Int32))) (own_tag_len _ _ _ _ _) (own_tag_chs q250_0 q253_0 (by decide : ¬ (83 : Int32) < 0 ∧ ¬ 255 < (83 : Int32)) (own_mask_rng _)) q345_1 c355 c356 c357 c358 q328_4) rfl pd_16 rfl rfl (by decide) (W := 0) (Nat.le_of_eq rfl) (by decide) (by decide) (by decide) all0 (pc' := 136) rfl ?_
          rintro _ v359 T359 h359 L359 X359 K359 C359 ⟨rfl, -⟩
          have sz_h359 := K359.1
          have K0_h359 : Keep h0 h359 [] := K0_h345.trans K359 all0
          refine k_iload X359 at_136 rfl (pc' := 138) rfl ?_
          have hk : (own_delim (own_tagc nn c0_249 c0_252 (83 : Int32) (p4 &&& (255 : Int32)))) = (0 : Int32) := by rw [own_delim_tag]; simp [hc346, hc347, hc348]
          refine k_icmpNo X359 at_138 (teq hk).2 (pc' := 141) rfl ?_
          refine k_iconst X359 at_141 (w := (1 : Int32)) rfl (pc' := 142) rfl ?_
          refine k_goto X359 at_142 (pc' := 146) (by decide) (by decide) ?_
          exact k_retHN X359 (w := (1 : Int32)) at_146 (t := .boolean) rfl (by simp) rfl K0_h359 (fun v' C' => ⟨_, rfl, rfl, trivial⟩) (by decide) (by decide)
      · refine k_icmpYes X345 at_100 (feq hc347).2 (pc' := 128) (by decide) (by decide) ?_
        refine k_iconst X345 at_128 (w := (0 : Int32)) rfl (pc' := 129) rfl ?_
        refine k_istore X345 at_129 (Ls' := #[.val (.int p0), .val (.int p1), .val (.int p2), .val (.int p3), .val (.int p4), .val (.int p5), .val (.int nn), .val (.int c0_249), .val (.int c0_252), .val (.int (83 : Int32)), .val (.int (p4 &&& (255 : Int32))), .val (.ref r_323), .val (.ref b330), .val (.int (0 : Int32))]) rfl (pc' := 131) rfl ?_
        refine k_aload X345 at_131 rfl rfl (pc' := 133) rfl ?_
        have c361 := (((q328_0.keep K330).keep K336).keep K345)
        have c362 := (((q328_1.keep K330 nin0).keep K336 nin0).keep K345 (ninS (own_ne (by omega) : r_323 ≠ b330) nin0))
        have c363 := (((q328_2.keep K330 nin0).keep K336 nin0).keep K345 (ninS (own_ne (by omega) : r_323 ≠ b330) nin0))
        have c364 := (((q328_3.keep K330 nin0).keep K336 nin0).keep K345 (ninS (own_ne (by omega) : t_324 ≠ b330) nin0))
        refine k_callVVH X345 (y := (⟨"com/example/settlegram/settlegram/TextLine", "isSequenceDelimiter", "()Z"⟩ : MethodName)) at_133 (w_73 hw) (w_74 hw) (w_76 hw) (w_75 hw) (w_32 hw) (w_77 hw) (by decide) (notFace_of_selects (args := #[]) (mvT X345.hZ (w_76 hw))) q345_0 (argsL := []) (rest := []) (own_isDel l Z a0 hw G n0 h345 X345.old b330 r_323 t_324 kt_325 (0 : Int32) zz_326 bs_327 (own_tagc nn c0_249 c0_252 (83 : Int32) (p4 &&& (255 : Int32))) (own_tag_len _ _ _ _ _) (own_tag_chs q250_0 q253_0 (by decide : ¬ (83 : Int32) < 0 ∧ ¬ 255 < (83 : Int32)) (own_mask_rng _)) q345_1 c361 c362 c363 c364 q328_4) rfl pd_16 rfl rfl (by decide) (W := 0) (Nat.le_of_eq rfl) (by decide) (by decide) (by decide) all0 (pc' := 136) rfl ?_
        rintro _ v365 T365 h365 L365 X365 K365 C365 ⟨rfl, -⟩
        have sz_h365 := K365.1
        have K0_h365 : Keep h0 h365 [] := K0_h345.trans K365 all0
        refine k_iload X365 at_136 rfl (pc' := 138) rfl ?_
        have hk : (own_delim (own_tagc nn c0_249 c0_252 (83 : Int32) (p4 &&& (255 : Int32)))) = (0 : Int32) := by rw [own_delim_tag]; simp [hc346, hc347]
        refine k_icmpNo X365 at_138 (teq hk).2 (pc' := 141) rfl ?_
        refine k_iconst X365 at_141 (w := (1 : Int32)) rfl (pc' := 142) rfl ?_
        refine k_goto X365 at_142 (pc' := 146) (by decide) (by decide) ?_
        exact k_retHN X365 (w := (1 : Int32)) at_146 (t := .boolean) rfl (by simp) rfl K0_h365 (fun v' C' => ⟨_, rfl, rfl, trivial⟩) (by decide) (by decide)
    · refine k_icmpYes X345 at_93 (feq hc346).2 (pc' := 128) (by decide) (by decide) ?_
      refine k_iconst X345 at_128 (w := (0 : Int32)) rfl (pc' := 129) rfl ?_
      refine k_istore X345 at_129 (Ls' := #[.val (.int p0), .val (.int p1), .val (.int p2), .val (.int p3), .val (.int p4), .val (.int p5), .val (.int nn), .val (.int c0_249), .val (.int c0_252), .val (.int (83 : Int32)), .val (.int (p4 &&& (255 : Int32))), .val (.ref r_323), .val (.ref b330), .val (.int (0 : Int32))]) rfl (pc' := 131) rfl ?_
      refine k_aload X345 at_131 rfl rfl (pc' := 133) rfl ?_
      have c367 := (((q328_0.keep K330).keep K336).keep K345)
      have c368 := (((q328_1.keep K330 nin0).keep K336 nin0).keep K345 (ninS (own_ne (by omega) : r_323 ≠ b330) nin0))
      have c369 := (((q328_2.keep K330 nin0).keep K336 nin0).keep K345 (ninS (own_ne (by omega) : r_323 ≠ b330) nin0))
      have c370 := (((q328_3.keep K330 nin0).keep K336 nin0).keep K345 (ninS (own_ne (by omega) : t_324 ≠ b330) nin0))
      refine k_callVVH X345 (y := (⟨"com/example/settlegram/settlegram/TextLine", "isSequenceDelimiter", "()Z"⟩ : MethodName)) at_133 (w_73 hw) (w_74 hw) (w_76 hw) (w_75 hw) (w_32 hw) (w_77 hw) (by decide) (notFace_of_selects (args := #[]) (mvT X345.hZ (w_76 hw))) q345_0 (argsL := []) (rest := []) (own_isDel l Z a0 hw G n0 h345 X345.old b330 r_323 t_324 kt_325 (0 : Int32) zz_326 bs_327 (own_tagc nn c0_249 c0_252 (83 : Int32) (p4 &&& (255 : Int32))) (own_tag_len _ _ _ _ _) (own_tag_chs q250_0 q253_0 (by decide : ¬ (83 : Int32) < 0 ∧ ¬ 255 < (83 : Int32)) (own_mask_rng _)) q345_1 c367 c368 c369 c370 q328_4) rfl pd_16 rfl rfl (by decide) (W := 0) (Nat.le_of_eq rfl) (by decide) (by decide) (by decide) all0 (pc' := 136) rfl ?_
      rintro _ v371 T371 h371 L371 X371 K371 C371 ⟨rfl, -⟩
      have sz_h371 := K371.1
      have K0_h371 : Keep h0 h371 [] := K0_h345.trans K371 all0
      refine k_iload X371 at_136 rfl (pc' := 138) rfl ?_
      have hk : (own_delim (own_tagc nn c0_249 c0_252 (83 : Int32) (p4 &&& (255 : Int32)))) = (0 : Int32) := by rw [own_delim_tag]; simp [hc346]
      refine k_icmpNo X371 at_138 (teq hk).2 (pc' := 141) rfl ?_
      refine k_iconst X371 at_141 (w := (1 : Int32)) rfl (pc' := 142) rfl ?_
      refine k_goto X371 at_142 (pc' := 146) (by decide) (by decide) ?_
      exact k_retHN X371 (w := (1 : Int32)) at_146 (t := .boolean) rfl (by simp) rfl K0_h371 (fun v' C' => ⟨_, rfl, rfl, trivial⟩) (by decide) (by decide)
set_option maxRecDepth 65536 in
set_option maxHeartbeats 40000000 in
theorem comes_1 {Post : Tables → Env → Array Value → State → Outcome → State → Prop} (hpost : ∀ tb e args s v u, (limb_1_1.after args s (.returned v) u = true ∧ limb_1_2.after args s (.returned v) u = true ∧ True) → ReturnedEndW s (.returned v) u (Jvm.fieldLocs frame_1_writes args s ++ Jvm.arrayLocs frame_1_arrays args s ++ Jvm.staticLocs frame_1_statics s) 32 3200 → Post tb e args s (.returned v) u) :
    ArmFor flags0 classFile x code maxLocals ret World_1 tables_1 room_1 Calls_1 rest_1 Pre_1 Post := by
  intro l hfl _ _ p e ha hc hk s m args below hf hA hF happ hP
  obtain ⟨hcalls, hrest, hpre⟩ := hP
  obtain ⟨-, -, -, hnamed, -, -, -, hat⟩ := (Spec.applies_iff hf).mp happ
  obtain ⟨hg, hn⟩ := and_e (Cond.before_iff.mp (show (Jvm.Cond.and given_1 narrow_1).before args s = true from hpre))
  obtain ⟨hcnt, g0⟩ := and_e hg
  obtain ⟨j0, g1⟩ := and_e g0
  obtain ⟨j1, g2⟩ := and_e g1
  obtain ⟨j2, g3⟩ := and_e g2
  obtain ⟨j3, g4⟩ := and_e g3
  obtain ⟨j4, g5⟩ := and_e g4
  obtain ⟨w0, w1, w2, w3, w4, w5, rfl⟩ : ∃ w0 w1 w2 w3 w4 w5 : Value, args = #[w0, w1, w2, w3, w4, w5] := by
    have hs : args.size = 6 := by simpa [Cond.value, given_1] using hcnt
    obtain ⟨L⟩ := args
    match L, hs with
    | [w0, w1, w2, w3, w4, w5], _ => exact ⟨w0, w1, w2, w3, w4, w5, rfl⟩
  have hw := fun d (hd : d ∈ tables_1) => atoms_spec (ws := Jvm.Cond.code x code maxLocals ret :: tables_1) hat d (List.mem_cons_of_mem _ hd)
  obtain ⟨hsets, hown0⟩ := atoms_of _ (rest_1_c_eq ▸ (show rest_1_c.before _ s = true from hrest))
  have hfit : Fit s := fun {y c} hc i hi => by
    obtain ⟨ha, rfl⟩ := Array.getElem?_eq_some_iff.mp hc
    have q := List.all_eq_true.mp ((Array.all_eq_true_iff_forall_mem.mp hF) _ (Array.getElem_mem ha)) i (List.mem_range.mpr hi)
    simpa [Array.getElem?_eq_getElem hi] using q
  obtain ⟨i0, e0⟩ := is_v j0
  obtain rfl : w0 = (.int i0) := Option.some.inj e0
  obtain ⟨i1, e1⟩ := is_v j1
  obtain rfl : w1 = (.int i1) := Option.some.inj e1
  obtain ⟨i2, e2⟩ := is_v j2
  obtain rfl : w2 = (.int i2) := Option.some.inj e2
  obtain ⟨i3, e3⟩ := is_v j3
  obtain rfl : w3 = (.int i3) := Option.some.inj e3
  obtain ⟨i4, e4⟩ := is_v j4
  obtain rfl : w4 = (.int i4) := Option.some.inj e4
  obtain ⟨i5, e5⟩ := is_v g5
  obtain rfl : w5 = (.int i5) := Option.some.inj e5
  obtain ⟨zc, ezc⟩ := is_v (Cond.before_iff.mp (hsets _ (List.mem_of_getElem? (i := 1) rfl)))
  have nzc := not_v (Cond.before_iff.mp (hsets _ (List.mem_of_getElem? (i := 2) rfl)))
  obtain ⟨fm, efm, rfm⟩ := isR_v (Cond.before_iff.mp (hsets _ (List.mem_of_getElem? (i := 8) rfl)))
  obtain ⟨sp, _, _, _, e_sp, -⟩ := Cond.exactly_spec (Cond.before_iff.mpr hn)
  have G : Gl s zc fm sp := ⟨Sta.start ezc (Or.inl (hsets _ (List.mem_of_getElem? (i := 0) rfl))), gotF (Cond.eq_ints ezc (Term.int_eval (0))) nzc, Sta.start efm (Or.inl (hsets _ (List.mem_of_getElem? (i := 7) rfl))), rfm, Sta.start e_sp (Or.inr ⟨(w_34 hw), (w_35 hw)⟩), Exa.start e_sp hn⟩
  have hh := hcalls.1
  have hcw : Jvm.Lit.compactW.before #[(.int i0), (.int i1), (.int i2), (.int i3), (.int i4), (.int i5)] s = true := hsets _ (List.mem_of_getElem? (i := 2) rfl)
  have hCH : CHv s EL s.vm s.heap := CHv.start (hEL hw) (fun q hq => hh q (own_ELsub q hq)) hcw (w_23 hw) (w_9 hw)
  obtain ⟨n, o, r1, r2, r3, _, L, rfl, ⟨⟨-, w, rfl, rfl, -⟩, N⟩, -, hq⟩ := own_law l s _ hw G s.heap.size s.heap (Old.start s) i0 i1 i2 i3 i4 i5 p e ha hc hk s m _ below hf ((Spec.applies_iff_loose hf).mp happ).1 ⟨rfl, State.Warmed39.refl s, rfl, hCH, fun _ q => nomatch q⟩ trivial
  exact ⟨n, _, r1, r2, r3, hpost _ _ _ _ _ _ ⟨Cond.after_iff.mpr rfl, Cond.after_iff.mpr (eq_i res_at (Term.int_eval (1)) rfl), trivial⟩ ⟨hq.1, hq.2.1, hq.2.2.1, (hq.2.2.2.sift fun y hy => Or.inr (N y hy)).mono (by decide) (by decide)⟩⟩
theorem main_1_1 : Claimed_1_1 := comes_1 fun _ _ _ _ _ _ h hF => ⟨h.1, hF⟩
theorem main_1_2 : Claimed_1_2 := comes_1 fun _ _ _ _ _ _ h hF => ⟨h.2.1, hF⟩
end OwnProof
end Jvm.Pilot.@@N@@
namespace Jvm.Pilot.@@N@@
open Jvm Jvm.ClassFile Sem Op Lib Jvm.Free Jvm.Stand Jvm.Pilot.@@N@@.Jvm.D
/-! MADE BY PROGRAM (witnessworld.py) out of the Statement's table words and the real class files: 28 classes; the members and pool entries that the words name. The judged class is class 1, her method 3. -/
namespace start1
open Jvm.ClassFile
def u (s : String) : CpInfo := .utf8 (stringToUtf16 s)
/-- a pool by its gaps: so many unusable entries, then the entry; so many at the end -/
def gap : Nat → List CpInfo → List CpInfo
  | 0, r => r
  | n + 1, r => .unusable :: gap n r
def poolList (es : List (Nat × CpInfo)) (last : Nat) : List CpInfo := es.foldr (fun e r => gap e.1 (e.2 :: r)) (gap last [])
def pool (es : List (Nat × CpInfo)) (last : Nat) : Array CpInfo := ⟨poolList es last⟩
def fileOf (pool : Array CpInfo) (this : Nat) (attrs : Array Attribute := #[]) (ms : Array MethodInfo := #[]) (fl : Nat := 33) (sup : Nat := 0) (ifs : Array Nat := #[]) (fds : Array FieldInfo := #[]) : ClassFile where
  minorVersion := 0
  majorVersion := 65
  constantPool := pool
  accessFlags := fl
  thisClass := this
  superClass := sup
  interfaces := ifs
  fields := fds
  methods := ms
  attributes := attrs
def plain (name : String) (sup : Option ClassId) : Class where
  name := name
  kind := .ordinary
  loader := none
  accessFlags := 33
  super := sup
  interfaces := #[]
  cf := none
  fields := #[]
  methods := #[]
  instanceTypes := #[]
  staticTypes := #[]
  resolved := #[]
  callSites := []
  init := .initialized
  statics := none
  mirror := none

def pool0 : Array CpInfo := pool [(5, u "<init>"), (0, u "()V"), (1, .class_ 10), (1, u "java/lang/Object")] 113

def k0c0 : Code := { maxStack := 0, maxLocals := 1, code := object_method_1_code, exceptionTable := #[], attributes := #[] }
def k0m0 : Method := { name := "<init>", desc := "()V", sig := { parameters := [], returnType := none }, accessFlags := 1, code := some k0c0 }
/-- java/lang/Object -/
def k0 : Class := { plain "java/lang/Object" none with
  accessFlags := 33
  interfaces := #[]
  cf := some (fileOf pool0 8 #[] #[{ accessFlags := 1, nameIndex := 5, descriptorIndex := 6, attributes := #[] }] 33 0 #[] #[])
  fields := #[]
  methods := #[k0m0]
  instanceTypes := #[]
  staticTypes := #[]
  resolved := Array.replicate 124 none
  statics := none }

def pool1 : Array CpInfo := pool [(2, .class_ 4), (1, u "java/lang/Object"), (0, u "<init>"), (0, u "()V"), (0, .class_ 8), (0, u "java/lang/String"), (0, .methodref 7 10), (0, .nameAndType 5 11), (0, u "([C)V"), (0, .integer 2147483647), (0, .methodref 14 15), (0, .class_ 16), (0, .nameAndType 17 18), (0, u "com/example/settlegram/settlegram/TextLineIsSequenceDelimiterPinLaw"), (0, u "pick"), (0, u "(IC)C"), (0, .methodref 14 20), (0, .nameAndType 21 22), (0, u "makeTag"), (0, u "(ICCCC)Ljava/lang/String;"), (0, .class_ 24), (0, u "com/example/settlegram/settlegram/TextLine"), (0, .fieldref 26 27), (0, .class_ 28), (0, .nameAndType 29 30), (0, u "com/example/settlegram/settlegram/SequencePath"), (0, u "NONE"), (0, u "Lcom/example/settlegram/settlegram/SequencePath;"), (0, .methodref 7 32), (0, .nameAndType 33 34), (0, u "valueOf"), (0, u "(C)Ljava/lang/String;"), (0, .methodref 23 36), (0, .nameAndType 5 37), (0, u "(ILjava/util/List;Ljava/lang/String;Ljava/lang/String;)V"), (0, .methodref 23 39), (0, .nameAndType 40 41), (0, u "isSequenceDelimiter"), (0, u "()Z"), (3, u "law"), (0, u "(IIIIII)Z")] 2

def k1m0 : Method := { name := "<init>", desc := "()V", sig := { parameters := [], returnType := none }, accessFlags := 1, code := none }
def k1c1 : Code := { maxStack := 2, maxLocals := 2, code := method_2_code, exceptionTable := #[], attributes := #[] }
def k1m1 : Method := { name := "pick", desc := "(IC)C", sig := { parameters := [.int, .char], returnType := some .char }, accessFlags := 10, code := some k1c1 }
def k1c2 : Code := { maxStack := 6, maxLocals := 5, code := method_3_code, exceptionTable := #[], attributes := #[] }
def k1m2 : Method := { name := "makeTag", desc := "(ICCCC)Ljava/lang/String;", sig := { parameters := [.int, .char, .char, .char, .char], returnType := some (.object "java/lang/String") }, accessFlags := 10, code := some k1c2 }
def k1c3 : Code := { maxStack := 6, maxLocals := 14, code := code, exceptionTable := #[], attributes := #[] }
def k1m3 : Method := { name := "law", desc := "(IIIIII)Z", sig := { parameters := [.int, .int, .int, .int, .int, .int], returnType := some .boolean }, accessFlags := 9, code := some k1c3 }
/-- com/example/settlegram/settlegram/TextLineIsSequenceDelimiterPinLaw -/
def k1 : Class := { plain "com/example/settlegram/settlegram/TextLineIsSequenceDelimiterPinLaw" (some 0) with
  accessFlags := 49
  interfaces := #[]
  cf := some (fileOf pool1 14 #[] #[{ accessFlags := 1, nameIndex := 5, descriptorIndex := 6, attributes := #[] }, { accessFlags := 10, nameIndex := 17, descriptorIndex := 18, attributes := #[] }, { accessFlags := 10, nameIndex := 21, descriptorIndex := 22, attributes := #[] }, { accessFlags := 9, nameIndex := 45, descriptorIndex := 46, attributes := #[] }] 49 2 #[] #[])
  fields := #[]
  methods := #[k1m0, k1m1, k1m2, k1m3]
  instanceTypes := #[]
  staticTypes := #[]
  resolved := Array.replicate 49 none
  statics := none }

def pool2 : Array CpInfo := pool [(1, .class_ 2), (0, u "java/io/Serializable"), (0, .class_ 4), (0, u "java/lang/Object")] 2

/-- java/io/Serializable -/
def k2 : Class := { plain "java/io/Serializable" (some 0) with
  accessFlags := 1537
  interfaces := #[]
  cf := some (fileOf pool2 1 #[] #[] 1537 3 #[] #[])
  fields := #[]
  methods := #[]
  instanceTypes := #[]
  staticTypes := #[]
  resolved := Array.replicate 7 none
  statics := none }

def pool3 : Array CpInfo := pool [(1, .class_ 2), (0, u "java/lang/Comparable"), (0, .class_ 4), (0, u "java/lang/Object")] 7

/-- java/lang/Comparable -/
def k3 : Class := { plain "java/lang/Comparable" (some 0) with
  accessFlags := 1537
  interfaces := #[]
  cf := some (fileOf pool3 1 #[] #[] 1537 3 #[] #[])
  fields := #[]
  methods := #[]
  instanceTypes := #[]
  staticTypes := #[]
  resolved := Array.replicate 12 none
  statics := none }

def pool4 : Array CpInfo := pool [(2, .class_ 4), (1, u "java/lang/CharSequence"), (42, .class_ 48), (0, u "java/lang/CharSequence$1CodePointIterator"), (10, .class_ 60), (0, u "java/lang/CharSequence$1CharIterator"), (5, .class_ 67), (0, u "java/lang/Object")] 63

/-- java/lang/CharSequence -/
def k4 : Class := { plain "java/lang/CharSequence" (some 0) with
  accessFlags := 1537
  interfaces := #[]
  cf := some (fileOf pool4 2 #[.nestMembers #[47, 59]] #[] 1537 66 #[] #[])
  fields := #[]
  methods := #[]
  instanceTypes := #[]
  staticTypes := #[]
  resolved := Array.replicate 131 none
  statics := none }

def pool5 : Array CpInfo := pool [(1, .class_ 2), (0, u "java/lang/constant/Constable"), (0, .class_ 4), (0, u "java/lang/Object")] 6

/-- java/lang/constant/Constable -/
def k5 : Class := { plain "java/lang/constant/Constable" (some 0) with
  accessFlags := 1537
  interfaces := #[]
  cf := some (fileOf pool5 1 #[] #[] 1537 3 #[] #[])
  fields := #[]
  methods := #[]
  instanceTypes := #[]
  staticTypes := #[]
  resolved := Array.replicate 11 none
  statics := none }

def pool6 : Array CpInfo := pool [(1, .class_ 2), (0, u "java/lang/constant/ConstantDesc"), (0, .class_ 4), (0, u "java/lang/Object")] 32

/-- java/lang/constant/ConstantDesc -/
def k6 : Class := { plain "java/lang/constant/ConstantDesc" (some 0) with
  accessFlags := 1537
  interfaces := #[]
  cf := some (fileOf pool6 1 #[] #[] 1537 3 #[] #[])
  fields := #[]
  methods := #[]
  instanceTypes := #[]
  staticTypes := #[]
  resolved := Array.replicate 37 none
  statics := none }

def pool7 : Array CpInfo := pool [(1, .methodref 2 3), (0, .class_ 4), (0, .nameAndType 5 6), (0, u "java/lang/Object"), (0, u "<init>"), (0, u "()V"), (0, .string 8), (0, u ""), (0, .fieldref 10 11), (0, .class_ 12), (0, .nameAndType 13 14), (0, u "java/lang/String"), (0, u "value"), (0, u "[B"), (0, .fieldref 10 16), (0, .nameAndType 17 18), (0, u "coder"), (0, u "B"), (2, u "hash"), (0, u "I"), (2, u "hashIsZero"), (0, u "Z"), (0, .methodref 10 28), (0, .nameAndType 5 29), (0, u "([CIILjava/lang/Void;)V"), (8, .fieldref 10 39), (0, .nameAndType 40 26), (0, u "COMPACT_STRINGS"), (1, .class_ 44), (1, u "java/lang/StringUTF16"), (0, u "compress"), (1, .methodref 42 48), (0, .nameAndType 49 50), (0, u "coderFromArrayLen"), (0, u "([BI)B"), (2, u "toBytes"), (53, .class_ 109), (1, u "java/lang/StringLatin1"), (67, .methodref 42 178), (0, .nameAndType 45 179), (0, u "([CII)[B"), (29, .methodref 10 210), (0, .nameAndType 5 211), (0, u "([BB)V"), (157, u "(C)Z"), (171, .methodref 107 542), (0, .nameAndType 543 544), (0, u "equals"), (0, u "([B[B)Z"), (28, u "(Ljava/lang/Object;)Z"), (1, .class_ 576), (0, u "java/lang/CharSequence"), (22, u "CASE_INSENSITIVE_ORDER"), (0, u "Ljava/util/Comparator;"), (181, u "valueOf"), (0, u "(C)Ljava/lang/String;"), (226, u "([C)V"), (4, .methodref 107 1016), (0, .nameAndType 1017 369), (0, u "canEncode"), (0, .methodref 107 1019), (0, .nameAndType 53 1020), (0, u "(C)[B"), (80, u "serialPersistentFields"), (0, u "[Ljava/io/ObjectStreamField;"), (0, .class_ 1104), (0, u "java/lang/String$CaseInsensitiveComparator"), (1, .class_ 1107), (0, u "java/io/Serializable"), (0, .class_ 1109), (0, u "java/lang/Comparable"), (0, .class_ 1111), (0, u "java/lang/constant/Constable"), (0, .class_ 1113), (0, u "java/lang/constant/ConstantDesc"), (2, u "serialVersionUID"), (0, u "J"), (3, u "REPL"), (0, u "C"), (2, u "LATIN1"), (1, u "UTF16")] 323

def k7m0 : Method := { name := "<init>", desc := "()V", sig := { parameters := [], returnType := none }, accessFlags := 1, code := none }
def k7c1 : Code := { maxStack := 5, maxLocals := 2, code := jdk_42_method_3_code, exceptionTable := #[], attributes := #[] }
def k7m1 : Method := { name := "<init>", desc := "([C)V", sig := { parameters := [(.array .char)], returnType := none }, accessFlags := 1, code := some k7c1 }
def k7c2 : Code := { maxStack := 2, maxLocals := 3, code := jdk_42_method_66_code, exceptionTable := #[], attributes := #[] }
def k7m2 : Method := { name := "equals", desc := "(Ljava/lang/Object;)Z", sig := { parameters := [(.object "java/lang/Object")], returnType := some .boolean }, accessFlags := 1, code := some k7c2 }
def k7c3 : Code := { maxStack := 4, maxLocals := 1, code := jdk_42_method_139_code, exceptionTable := #[], attributes := #[] }
def k7m3 : Method := { name := "valueOf", desc := "(C)Ljava/lang/String;", sig := { parameters := [.char], returnType := some (.object "java/lang/String") }, accessFlags := 9, code := some k7c3 }
def k7c4 : Code := { maxStack := 4, maxLocals := 6, code := jdk_42_method_149_code, exceptionTable := #[], attributes := #[] }
def k7m4 : Method := { name := "<init>", desc := "([CIILjava/lang/Void;)V", sig := { parameters := [(.array .char), .int, .int, (.object "java/lang/Void")], returnType := none }, accessFlags := 2, code := some k7c4 }
def k7c5 : Code := { maxStack := 2, maxLocals := 3, code := jdk_42_method_151_code, exceptionTable := #[], attributes := #[] }
def k7m5 : Method := { name := "<init>", desc := "([BB)V", sig := { parameters := [(.array .byte), .byte], returnType := none }, accessFlags := 0, code := some k7c5 }
/-- java/lang/String -/
def k7 : Class := { plain "java/lang/String" (some 0) with
  accessFlags := 49
  interfaces := #[2, 3, 4, 5, 6]
  cf := some (fileOf pool7 10 #[.nestMembers #[1103]] #[{ accessFlags := 1, nameIndex := 5, descriptorIndex := 6, attributes := #[] }, { accessFlags := 1, nameIndex := 5, descriptorIndex := 1010, attributes := #[] }, { accessFlags := 1, nameIndex := 543, descriptorIndex := 573, attributes := #[] }, { accessFlags := 9, nameIndex := 782, descriptorIndex := 783, attributes := #[] }, { accessFlags := 2, nameIndex := 5, descriptorIndex := 29, attributes := #[] }, { accessFlags := 0, nameIndex := 5, descriptorIndex := 211, attributes := #[] }] 49 2 #[1106, 1108, 575, 1110, 1112] #[{ accessFlags := 18, nameIndex := 13, descriptorIndex := 14, attributes := #[] }, { accessFlags := 18, nameIndex := 17, descriptorIndex := 18, attributes := #[] }, { accessFlags := 2, nameIndex := 21, descriptorIndex := 22, attributes := #[] }, { accessFlags := 2, nameIndex := 25, descriptorIndex := 26, attributes := #[] }, { accessFlags := 26, nameIndex := 1116, descriptorIndex := 1117, attributes := #[] }, { accessFlags := 24, nameIndex := 40, descriptorIndex := 26, attributes := #[] }, { accessFlags := 26, nameIndex := 1101, descriptorIndex := 1102, attributes := #[] }, { accessFlags := 26, nameIndex := 1121, descriptorIndex := 1122, attributes := #[] }, { accessFlags := 25, nameIndex := 599, descriptorIndex := 600, attributes := #[] }, { accessFlags := 24, nameIndex := 1125, descriptorIndex := 18, attributes := #[] }, { accessFlags := 24, nameIndex := 1127, descriptorIndex := 18, attributes := #[] }])
  fields := #[{ name := "value", type := (.array .byte), accessFlags := 18, slot := 0, constantValue := 0 }, { name := "coder", type := .byte, accessFlags := 18, slot := 1, constantValue := 0 }, { name := "hash", type := .int, accessFlags := 2, slot := 2, constantValue := 0 }, { name := "hashIsZero", type := .boolean, accessFlags := 2, slot := 3, constantValue := 0 }, { name := "serialVersionUID", type := .long, accessFlags := 26, slot := 0, constantValue := 0 }, { name := "COMPACT_STRINGS", type := .boolean, accessFlags := 24, slot := 1, constantValue := 0 }, { name := "serialPersistentFields", type := (.array (.object "java/io/ObjectStreamField")), accessFlags := 26, slot := 2, constantValue := 0 }, { name := "REPL", type := .char, accessFlags := 26, slot := 3, constantValue := 0 }, { name := "CASE_INSENSITIVE_ORDER", type := (.object "java/util/Comparator"), accessFlags := 25, slot := 4, constantValue := 0 }, { name := "LATIN1", type := .byte, accessFlags := 24, slot := 5, constantValue := 0 }, { name := "UTF16", type := .byte, accessFlags := 24, slot := 6, constantValue := 0 }]
  methods := #[k7m0, k7m1, k7m2, k7m3, k7m4, k7m5]
  instanceTypes := #[(.array .byte), .byte, .int, .boolean]
  staticTypes := #[.long, .boolean, (.array (.object "java/io/ObjectStreamField")), .char, (.object "java/util/Comparator"), .byte, .byte]
  resolved := Array.replicate 1451 none
  statics := some 0 }

def pool8 : Array CpInfo := pool [(1, .methodref 2 3), (0, .class_ 4), (0, .nameAndType 5 6), (0, u "java/lang/Object"), (0, u "<init>"), (0, u "()V"), (0, .class_ 8), (0, u "java/lang/Record")] 13

def k8c0 : Code := { maxStack := 1, maxLocals := 1, code := jdk_30_method_1_code, exceptionTable := #[], attributes := #[] }
def k8m0 : Method := { name := "<init>", desc := "()V", sig := { parameters := [], returnType := none }, accessFlags := 4, code := some k8c0 }
/-- java/lang/Record -/
def k8 : Class := { plain "java/lang/Record" (some 0) with
  accessFlags := 1057
  interfaces := #[]
  cf := some (fileOf pool8 7 #[] #[{ accessFlags := 4, nameIndex := 5, descriptorIndex := 6, attributes := #[] }] 1057 2 #[] #[])
  fields := #[]
  methods := #[k8m0]
  instanceTypes := #[]
  staticTypes := #[]
  resolved := Array.replicate 22 none
  statics := none }

def pool9 : Array CpInfo := pool [(1, .methodref 2 3), (0, .class_ 4), (0, .nameAndType 5 6), (0, u "java/lang/Record"), (0, u "<init>"), (0, u "()V"), (0, .methodref 8 9), (0, .class_ 10), (0, .nameAndType 11 12), (0, u "com/example/settlegram/settlegram/SequencePath"), (0, u "of"), (0, u "(Ljava/util/List;)Lcom/example/settlegram/settlegram/SequencePath;"), (0, .fieldref 14 15), (0, .class_ 16), (0, .nameAndType 17 18), (0, u "com/example/settlegram/settlegram/TextLine"), (0, u "number"), (0, u "I"), (0, .fieldref 14 20), (0, .nameAndType 21 22), (0, u "sequences"), (0, u "Ljava/util/List;"), (0, .fieldref 14 24), (0, .nameAndType 25 26), (0, u "tag"), (0, u "Ljava/lang/String;"), (0, .fieldref 14 28), (0, .nameAndType 29 26), (0, u "text"), (1, .class_ 33), (1, u "java/lang/String"), (1, u "()Z"), (0, .string 37), (0, u "16R"), (0, .methodref 31 39), (0, .nameAndType 40 41), (0, u "equals"), (0, u "(Ljava/lang/Object;)Z"), (0, .string 43), (0, u "16S"), (50, u "SEQUENCE_START"), (1, u "SEQUENCE_END"), (0, u "(ILjava/util/List;Ljava/lang/String;Ljava/lang/String;)V"), (4, u "isSequenceDelimiter")] 38

def k9c0 : Code := { maxStack := 2, maxLocals := 5, code := prog_107_method_1_code, exceptionTable := #[], attributes := #[] }
def k9m0 : Method := { name := "<init>", desc := "(ILjava/util/List;Ljava/lang/String;Ljava/lang/String;)V", sig := { parameters := [.int, (.object "java/util/List"), (.object "java/lang/String"), (.object "java/lang/String")], returnType := none }, accessFlags := 1, code := some k9c0 }
def k9c1 : Code := { maxStack := 2, maxLocals := 1, code := prog_107_method_3_code, exceptionTable := #[], attributes := #[] }
def k9m1 : Method := { name := "isSequenceDelimiter", desc := "()Z", sig := { parameters := [], returnType := some .boolean }, accessFlags := 1, code := some k9c1 }
/-- com/example/settlegram/settlegram/TextLine -/
def k9 : Class := { plain "com/example/settlegram/settlegram/TextLine" (some 8) with
  accessFlags := 49
  interfaces := #[]
  cf := some (fileOf pool9 14 #[] #[{ accessFlags := 1, nameIndex := 5, descriptorIndex := 97, attributes := #[] }, { accessFlags := 1, nameIndex := 102, descriptorIndex := 35, attributes := #[] }] 49 2 #[] #[{ accessFlags := 18, nameIndex := 17, descriptorIndex := 18, attributes := #[] }, { accessFlags := 18, nameIndex := 21, descriptorIndex := 22, attributes := #[] }, { accessFlags := 18, nameIndex := 25, descriptorIndex := 26, attributes := #[] }, { accessFlags := 18, nameIndex := 29, descriptorIndex := 26, attributes := #[] }, { accessFlags := 25, nameIndex := 94, descriptorIndex := 26, attributes := #[] }, { accessFlags := 25, nameIndex := 96, descriptorIndex := 26, attributes := #[] }])
  fields := #[{ name := "number", type := .int, accessFlags := 18, slot := 0, constantValue := 0 }, { name := "sequences", type := (.object "java/util/List"), accessFlags := 18, slot := 1, constantValue := 0 }, { name := "tag", type := (.object "java/lang/String"), accessFlags := 18, slot := 2, constantValue := 0 }, { name := "text", type := (.object "java/lang/String"), accessFlags := 18, slot := 3, constantValue := 0 }, { name := "SEQUENCE_START", type := (.object "java/lang/String"), accessFlags := 25, slot := 0, constantValue := 0 }, { name := "SEQUENCE_END", type := (.object "java/lang/String"), accessFlags := 25, slot := 1, constantValue := 0 }]
  methods := #[k9m0, k9m1]
  instanceTypes := #[.int, (.object "java/util/List"), (.object "java/lang/String"), (.object "java/lang/String")]
  staticTypes := #[(.object "java/lang/String"), (.object "java/lang/String")]
  resolved := Array.replicate 141 none
  statics := none }

def pool10 : Array CpInfo := pool [(8, .class_ 10), (1, u "java/lang/Iterable"), (24, .class_ 36), (0, u "java/lang/Object")] 25

/-- java/lang/Iterable -/
def k10 : Class := { plain "java/lang/Iterable" (some 0) with
  accessFlags := 1537
  interfaces := #[]
  cf := some (fileOf pool10 8 #[] #[] 1537 35 #[] #[])
  fields := #[]
  methods := #[]
  instanceTypes := #[]
  staticTypes := #[]
  resolved := Array.replicate 62 none
  statics := none }

def pool11 : Array CpInfo := pool [(10, .class_ 12), (1, u "java/util/Collection"), (47, .class_ 61), (0, u "java/lang/Object"), (0, .class_ 63), (0, u "java/lang/Iterable")] 51

/-- java/util/Collection -/
def k11 : Class := { plain "java/util/Collection" (some 0) with
  accessFlags := 1537
  interfaces := #[10]
  cf := some (fileOf pool11 10 #[] #[] 1537 60 #[62] #[])
  fields := #[]
  methods := #[]
  instanceTypes := #[]
  staticTypes := #[]
  resolved := Array.replicate 115 none
  statics := none }

def pool12 : Array CpInfo := pool [(2, .class_ 4), (1, u "java/lang/Object"), (0, u "<init>"), (0, u "()V"), (1, .class_ 10), (1, u "java/util/AbstractCollection"), (66, .class_ 78), (0, u "java/util/Collection")] 81

def k12m0 : Method := { name := "<init>", desc := "()V", sig := { parameters := [], returnType := none }, accessFlags := 4, code := none }
/-- java/util/AbstractCollection -/
def k12 : Class := { plain "java/util/AbstractCollection" (some 0) with
  accessFlags := 1057
  interfaces := #[11]
  cf := some (fileOf pool12 8 #[] #[{ accessFlags := 4, nameIndex := 5, descriptorIndex := 6, attributes := #[] }] 1057 2 #[77] #[])
  fields := #[]
  methods := #[k12m0]
  instanceTypes := #[]
  staticTypes := #[]
  resolved := Array.replicate 160 none
  statics := none }

def pool13 : Array CpInfo := pool [(8, .class_ 10), (1, u "java/util/SequencedCollection"), (15, .class_ 27), (0, u "java/lang/Object"), (0, .class_ 29), (0, u "java/util/Collection")] 27

/-- java/util/SequencedCollection -/
def k13 : Class := { plain "java/util/SequencedCollection" (some 0) with
  accessFlags := 1537
  interfaces := #[11]
  cf := some (fileOf pool13 8 #[] #[] 1537 26 #[28] #[])
  fields := #[]
  methods := #[]
  instanceTypes := #[]
  staticTypes := #[]
  resolved := Array.replicate 57 none
  statics := none }

def pool14 : Array CpInfo := pool [(8, .class_ 10), (1, u "java/util/List"), (92, .class_ 104), (0, u "java/lang/Object"), (15, .class_ 121), (0, u "java/util/SequencedCollection")] 129

/-- java/util/List -/
def k14 : Class := { plain "java/util/List" (some 0) with
  accessFlags := 1537
  interfaces := #[13]
  cf := some (fileOf pool14 8 #[] #[] 1537 103 #[120] #[])
  fields := #[]
  methods := #[]
  instanceTypes := #[]
  staticTypes := #[]
  resolved := Array.replicate 251 none
  statics := none }

def pool15 : Array CpInfo := pool [(2, .class_ 4), (1, u "java/util/AbstractCollection"), (0, u "<init>"), (0, u "()V"), (1, .class_ 10), (1, u "java/util/AbstractList"), (0, u "modCount"), (0, u "I"), (64, .class_ 78), (0, u "java/util/AbstractList$Itr"), (3, .class_ 83), (0, u "java/util/AbstractList$ListItr"), (9, .class_ 94), (0, u "java/util/AbstractList$RandomAccessSubList"), (3, .class_ 99), (0, u "java/util/AbstractList$SubList"), (33, .class_ 134), (0, u "java/util/List"), (73, .class_ 209), (0, u "java/util/AbstractList$SubList$1"), (0, .class_ 211), (0, u "java/util/AbstractList$RandomAccessSpliterator")] 6

def k15m0 : Method := { name := "<init>", desc := "()V", sig := { parameters := [], returnType := none }, accessFlags := 4, code := none }
/-- java/util/AbstractList -/
def k15 : Class := { plain "java/util/AbstractList" (some 12) with
  accessFlags := 1057
  interfaces := #[14]
  cf := some (fileOf pool15 8 #[.nestMembers #[93, 98, 208, 210, 82, 77]] #[{ accessFlags := 4, nameIndex := 5, descriptorIndex := 6, attributes := #[] }] 1057 2 #[133] #[{ accessFlags := 132, nameIndex := 11, descriptorIndex := 12, attributes := #[] }])
  fields := #[{ name := "modCount", type := .int, accessFlags := 132, slot := 0, constantValue := 0 }]
  methods := #[k15m0]
  instanceTypes := #[.int]
  staticTypes := #[]
  resolved := Array.replicate 218 none
  statics := none }

def pool16 : Array CpInfo := pool [(2, .class_ 4), (1, u "java/util/AbstractList"), (0, u "<init>"), (0, u "()V"), (1, .class_ 10), (1, u "com/example/settlegram/settlegram/SequencePath"), (0, u "outer"), (0, u "Lcom/example/settlegram/settlegram/SequencePath;"), (2, u "innermost"), (0, u "Ljava/lang/String;"), (2, u "size"), (0, u "I"), (2, u "hash"), (8, u "NONE"), (62, u "of"), (0, u "(Ljava/util/List;)Lcom/example/settlegram/settlegram/SequencePath;")] 14

def k16m0 : Method := { name := "<init>", desc := "()V", sig := { parameters := [], returnType := none }, accessFlags := 2, code := none }
def k16c1 : Code := { maxStack := 2, maxLocals := 4, code := prog_85_method_3_code, exceptionTable := #[], attributes := #[] }
def k16m1 : Method := { name := "of", desc := "(Ljava/util/List;)Lcom/example/settlegram/settlegram/SequencePath;", sig := { parameters := [(.object "java/util/List")], returnType := some (.object "com/example/settlegram/settlegram/SequencePath") }, accessFlags := 8, code := some k16c1 }
/-- com/example/settlegram/settlegram/SequencePath -/
def k16 : Class := { plain "com/example/settlegram/settlegram/SequencePath" (some 15) with
  accessFlags := 48
  interfaces := #[]
  cf := some (fileOf pool16 8 #[] #[{ accessFlags := 2, nameIndex := 5, descriptorIndex := 6, attributes := #[] }, { accessFlags := 8, nameIndex := 95, descriptorIndex := 96, attributes := #[] }] 48 2 #[] #[{ accessFlags := 24, nameIndex := 32, descriptorIndex := 12, attributes := #[] }, { accessFlags := 18, nameIndex := 11, descriptorIndex := 12, attributes := #[] }, { accessFlags := 18, nameIndex := 15, descriptorIndex := 16, attributes := #[] }, { accessFlags := 18, nameIndex := 19, descriptorIndex := 20, attributes := #[] }, { accessFlags := 18, nameIndex := 23, descriptorIndex := 20, attributes := #[] }])
  fields := #[{ name := "NONE", type := (.object "com/example/settlegram/settlegram/SequencePath"), accessFlags := 24, slot := 0, constantValue := 0 }, { name := "outer", type := (.object "com/example/settlegram/settlegram/SequencePath"), accessFlags := 18, slot := 1, constantValue := 0 }, { name := "innermost", type := (.object "java/lang/String"), accessFlags := 18, slot := 2, constantValue := 0 }, { name := "size", type := .int, accessFlags := 18, slot := 3, constantValue := 0 }, { name := "hash", type := .int, accessFlags := 18, slot := 4, constantValue := 0 }]
  methods := #[k16m0, k16m1]
  instanceTypes := #[.int, (.object "com/example/settlegram/settlegram/SequencePath"), (.object "java/lang/String"), .int, .int]
  staticTypes := #[(.object "com/example/settlegram/settlegram/SequencePath")]
  resolved := Array.replicate 111 none
  statics := some 1 }

def pool17 : Array CpInfo := pool [(4, .class_ 6), (1, u "java/lang/Object"), (0, u "<init>"), (0, u "()V"), (5, .class_ 16), (1, u "java/lang/StringLatin1"), (73, u "canEncode"), (14, u "(C)Z"), (15, u "$assertionsDisabled"), (0, u "Z"), (98, .class_ 223), (1, u "java/lang/StringLatin1$LinesSpliterator"), (57, u "equals"), (0, u "([B[B)Z"), (97, u "toBytes"), (1, u "(C)[B"), (7, .class_ 391), (0, u "java/lang/StringLatin1$CharsSpliterator")] 3

def k17m0 : Method := { name := "<init>", desc := "()V", sig := { parameters := [], returnType := none }, accessFlags := 0, code := none }
def k17c1 : Code := { maxStack := 2, maxLocals := 1, code := jdk_43_method_3_code, exceptionTable := #[], attributes := #[] }
def k17m1 : Method := { name := "canEncode", desc := "(C)Z", sig := { parameters := [.char], returnType := some .boolean }, accessFlags := 9, code := some k17c1 }
def k17c2 : Code := { maxStack := 3, maxLocals := 3, code := jdk_43_method_13_code, exceptionTable := #[], attributes := #[] }
def k17m2 : Method := { name := "equals", desc := "([B[B)Z", sig := { parameters := [(.array .byte), (.array .byte)], returnType := some .boolean }, accessFlags := 9, code := some k17c2 }
def k17c3 : Code := { maxStack := 4, maxLocals := 1, code := jdk_43_method_46_code, exceptionTable := #[], attributes := #[] }
def k17m3 : Method := { name := "toBytes", desc := "(C)[B", sig := { parameters := [.char], returnType := some (.array .byte) }, accessFlags := 9, code := some k17c3 }
/-- java/lang/StringLatin1 -/
def k17 : Class := { plain "java/lang/StringLatin1" (some 0) with
  accessFlags := 48
  interfaces := #[]
  cf := some (fileOf pool17 14 #[.nestMembers #[390, 221]] #[{ accessFlags := 0, nameIndex := 7, descriptorIndex := 8, attributes := #[] }, { accessFlags := 9, nameIndex := 90, descriptorIndex := 105, attributes := #[] }, { accessFlags := 9, nameIndex := 281, descriptorIndex := 282, attributes := #[] }, { accessFlags := 9, nameIndex := 380, descriptorIndex := 382, attributes := #[] }] 48 4 #[] #[{ accessFlags := 4120, nameIndex := 121, descriptorIndex := 122, attributes := #[] }])
  fields := #[{ name := "$assertionsDisabled", type := .boolean, accessFlags := 4120, slot := 0, constantValue := 0 }]
  methods := #[k17m0, k17m1, k17m2, k17m3]
  instanceTypes := #[]
  staticTypes := #[.boolean]
  resolved := Array.replicate 395 none
  statics := none }

def pool18 : Array CpInfo := pool [(6, .class_ 8), (1, u "java/lang/Object"), (0, u "<init>"), (0, u "()V"), (1, .class_ 14), (1, u "java/lang/StringUTF16"), (31, u "$assertionsDisabled"), (0, u "Z"), (13, u "HI_BYTE_SHIFT"), (0, u "I"), (2, u "LO_BYTE_SHIFT"), (49, .methodref 12 116), (0, .nameAndType 117 118), (0, u "compress"), (0, u "([CI[BII)I"), (3, u "([CII)[B"), (138, u "coderFromArrayLen"), (0, u "([BI)B"), (106, .class_ 371), (1, u "java/lang/StringUTF16$LinesSpliterator"), (58, u "MAX_LENGTH"), (196, .class_ 628), (0, u "java/lang/StringUTF16$CodePointsSpliterator"), (0, .class_ 630), (0, u "java/lang/StringUTF16$CharsSpliterator")] 4

def k18m0 : Method := { name := "<init>", desc := "()V", sig := { parameters := [], returnType := none }, accessFlags := 0, code := none }
def k18c1 : Code := { maxStack := 2, maxLocals := 2, code := jdk_52_method_15_code, exceptionTable := #[], attributes := #[] }
def k18m1 : Method := { name := "coderFromArrayLen", desc := "([BI)B", sig := { parameters := [(.array .byte), .int], returnType := some .byte }, accessFlags := 8, code := some k18c1 }
def k18c2 : Code := { maxStack := 5, maxLocals := 6, code := jdk_52_method_16_code, exceptionTable := #[], attributes := #[] }
def k18m2 : Method := { name := "compress", desc := "([CII)[B", sig := { parameters := [(.array .char), .int, .int], returnType := some (.array .byte) }, accessFlags := 9, code := some k18c2 }
def k18c3 : Code := { maxStack := 3, maxLocals := 7, code := jdk_52_method_21_code, exceptionTable := #[], attributes := #[] }
def k18m3 : Method := { name := "compress", desc := "([CI[BII)I", sig := { parameters := [(.array .char), .int, (.array .byte), .int, .int], returnType := some .int }, accessFlags := 9, code := some k18c3 }
/-- java/lang/StringUTF16 -/
def k18 : Class := { plain "java/lang/StringUTF16" (some 0) with
  accessFlags := 48
  interfaces := #[]
  cf := some (fileOf pool18 12 #[.nestMembers #[627, 629, 369]] #[{ accessFlags := 0, nameIndex := 9, descriptorIndex := 10, attributes := #[] }, { accessFlags := 8, nameIndex := 261, descriptorIndex := 262, attributes := #[] }, { accessFlags := 9, nameIndex := 117, descriptorIndex := 122, attributes := #[] }, { accessFlags := 9, nameIndex := 117, descriptorIndex := 118, attributes := #[] }] 48 6 #[] #[{ accessFlags := 26, nameIndex := 61, descriptorIndex := 62, attributes := #[] }, { accessFlags := 26, nameIndex := 65, descriptorIndex := 62, attributes := #[] }, { accessFlags := 24, nameIndex := 430, descriptorIndex := 62, attributes := #[] }, { accessFlags := 4120, nameIndex := 46, descriptorIndex := 47, attributes := #[] }])
  fields := #[{ name := "HI_BYTE_SHIFT", type := .int, accessFlags := 26, slot := 0, constantValue := 0 }, { name := "LO_BYTE_SHIFT", type := .int, accessFlags := 26, slot := 1, constantValue := 0 }, { name := "MAX_LENGTH", type := .int, accessFlags := 24, slot := 2, constantValue := 0 }, { name := "$assertionsDisabled", type := .boolean, accessFlags := 4120, slot := 3, constantValue := 0 }]
  methods := #[k18m0, k18m1, k18m2, k18m3]
  instanceTypes := #[]
  staticTypes := #[.int, .int, .int, .boolean]
  resolved := Array.replicate 635 none
  statics := none }

def pool19 : Array CpInfo := pool [(2, .class_ 4), (1, u "java/lang/Object"), (0, u "<init>"), (0, u "()V"), (17, .class_ 26), (1, u "jdk/internal/util/Preconditions"), (28, .class_ 56), (0, u "jdk/internal/util/Preconditions$4"), (57, .class_ 115), (0, u "jdk/internal/util/Preconditions$1"), (7, u "SIOOBE_FORMATTER"), (0, u "Ljava/util/function/BiFunction;"), (0, .class_ 126), (0, u "jdk/internal/util/Preconditions$2"), (3, u "AIOOBE_FORMATTER"), (0, .class_ 132), (0, u "jdk/internal/util/Preconditions$3"), (3, u "IOOBE_FORMATTER")] 57

def k19m0 : Method := { name := "<init>", desc := "()V", sig := { parameters := [], returnType := none }, accessFlags := 1, code := none }
/-- jdk/internal/util/Preconditions -/
def k19 : Class := { plain "jdk/internal/util/Preconditions" (some 0) with
  accessFlags := 33
  interfaces := #[]
  cf := some (fileOf pool19 24 #[.nestMembers #[55, 131, 125, 114]] #[{ accessFlags := 1, nameIndex := 5, descriptorIndex := 6, attributes := #[] }] 33 2 #[] #[{ accessFlags := 25, nameIndex := 123, descriptorIndex := 124, attributes := #[] }, { accessFlags := 25, nameIndex := 130, descriptorIndex := 124, attributes := #[] }, { accessFlags := 25, nameIndex := 136, descriptorIndex := 124, attributes := #[] }])
  fields := #[{ name := "SIOOBE_FORMATTER", type := (.object "java/util/function/BiFunction"), accessFlags := 25, slot := 0, constantValue := 0 }, { name := "AIOOBE_FORMATTER", type := (.object "java/util/function/BiFunction"), accessFlags := 25, slot := 1, constantValue := 0 }, { name := "IOOBE_FORMATTER", type := (.object "java/util/function/BiFunction"), accessFlags := 25, slot := 2, constantValue := 0 }]
  methods := #[k19m0]
  instanceTypes := #[]
  staticTypes := #[(.object "java/util/function/BiFunction"), (.object "java/util/function/BiFunction"), (.object "java/util/function/BiFunction")]
  resolved := Array.replicate 194 none
  statics := some 2 }

def pool20 : Array CpInfo := pool [(9, u "<init>"), (6, .class_ 18), (1, u "java/lang/Object"), (0, u "()V"), (1, .class_ 23), (1, u "jdk/internal/util/ArraysSupport"), (0, u "LOG2_ARRAY_LONG_INDEX_SCALE"), (0, u "I"), (2, u "U"), (0, u "Ljdk/internal/misc/Unsafe;"), (8, u "BIG_ENDIAN"), (0, u "Z"), (8, u "LOG2_BYTE_BIT_SIZE"), (4, u "LOG2_ARRAY_INT_INDEX_SCALE"), (54, u "JLA"), (0, u "Ljdk/internal/access/JavaLangAccess;"), (11, u "LOG2_ARRAY_BOOLEAN_INDEX_SCALE"), (9, u "LOG2_ARRAY_BYTE_INDEX_SCALE"), (5, u "LOG2_ARRAY_CHAR_INDEX_SCALE"), (5, u "LOG2_ARRAY_SHORT_INDEX_SCALE"), (18, u "LOG2_ARRAY_FLOAT_INDEX_SCALE"), (24, u "LOG2_ARRAY_DOUBLE_INDEX_SCALE"), (89, u "T_BOOLEAN"), (2, u "T_CHAR"), (1, u "T_FLOAT"), (1, u "T_DOUBLE"), (1, u "T_BYTE"), (1, u "T_SHORT"), (1, u "T_INT"), (1, u "T_LONG"), (1, u "SOFT_MAX_ARRAY_LENGTH")] 83

def k20m0 : Method := { name := "<init>", desc := "()V", sig := { parameters := [], returnType := none }, accessFlags := 2, code := none }
/-- jdk/internal/util/ArraysSupport -/
def k20 : Class := { plain "jdk/internal/util/ArraysSupport" (some 0) with
  accessFlags := 33
  interfaces := #[]
  cf := some (fileOf pool20 21 #[] #[{ accessFlags := 2, nameIndex := 9, descriptorIndex := 19, attributes := #[] }] 33 16 #[] #[{ accessFlags := 24, nameIndex := 28, descriptorIndex := 29, attributes := #[] }, { accessFlags := 26, nameIndex := 38, descriptorIndex := 39, attributes := #[] }, { accessFlags := 25, nameIndex := 121, descriptorIndex := 25, attributes := #[] }, { accessFlags := 25, nameIndex := 131, descriptorIndex := 25, attributes := #[] }, { accessFlags := 25, nameIndex := 137, descriptorIndex := 25, attributes := #[] }, { accessFlags := 25, nameIndex := 143, descriptorIndex := 25, attributes := #[] }, { accessFlags := 25, nameIndex := 53, descriptorIndex := 25, attributes := #[] }, { accessFlags := 25, nameIndex := 24, descriptorIndex := 25, attributes := #[] }, { accessFlags := 25, nameIndex := 162, descriptorIndex := 25, attributes := #[] }, { accessFlags := 25, nameIndex := 187, descriptorIndex := 25, attributes := #[] }, { accessFlags := 26, nameIndex := 48, descriptorIndex := 25, attributes := #[] }, { accessFlags := 25, nameIndex := 277, descriptorIndex := 25, attributes := #[] }, { accessFlags := 25, nameIndex := 280, descriptorIndex := 25, attributes := #[] }, { accessFlags := 25, nameIndex := 282, descriptorIndex := 25, attributes := #[] }, { accessFlags := 25, nameIndex := 284, descriptorIndex := 25, attributes := #[] }, { accessFlags := 25, nameIndex := 286, descriptorIndex := 25, attributes := #[] }, { accessFlags := 25, nameIndex := 288, descriptorIndex := 25, attributes := #[] }, { accessFlags := 25, nameIndex := 290, descriptorIndex := 25, attributes := #[] }, { accessFlags := 25, nameIndex := 292, descriptorIndex := 25, attributes := #[] }, { accessFlags := 26, nameIndex := 108, descriptorIndex := 109, attributes := #[] }, { accessFlags := 25, nameIndex := 294, descriptorIndex := 25, attributes := #[] }])
  fields := #[{ name := "U", type := (.object "jdk/internal/misc/Unsafe"), accessFlags := 24, slot := 0, constantValue := 0 }, { name := "BIG_ENDIAN", type := .boolean, accessFlags := 26, slot := 1, constantValue := 0 }, { name := "LOG2_ARRAY_BOOLEAN_INDEX_SCALE", type := .int, accessFlags := 25, slot := 2, constantValue := 0 }, { name := "LOG2_ARRAY_BYTE_INDEX_SCALE", type := .int, accessFlags := 25, slot := 3, constantValue := 0 }, { name := "LOG2_ARRAY_CHAR_INDEX_SCALE", type := .int, accessFlags := 25, slot := 4, constantValue := 0 }, { name := "LOG2_ARRAY_SHORT_INDEX_SCALE", type := .int, accessFlags := 25, slot := 5, constantValue := 0 }, { name := "LOG2_ARRAY_INT_INDEX_SCALE", type := .int, accessFlags := 25, slot := 6, constantValue := 0 }, { name := "LOG2_ARRAY_LONG_INDEX_SCALE", type := .int, accessFlags := 25, slot := 7, constantValue := 0 }, { name := "LOG2_ARRAY_FLOAT_INDEX_SCALE", type := .int, accessFlags := 25, slot := 8, constantValue := 0 }, { name := "LOG2_ARRAY_DOUBLE_INDEX_SCALE", type := .int, accessFlags := 25, slot := 9, constantValue := 0 }, { name := "LOG2_BYTE_BIT_SIZE", type := .int, accessFlags := 26, slot := 10, constantValue := 0 }, { name := "T_BOOLEAN", type := .int, accessFlags := 25, slot := 11, constantValue := 0 }, { name := "T_CHAR", type := .int, accessFlags := 25, slot := 12, constantValue := 0 }, { name := "T_FLOAT", type := .int, accessFlags := 25, slot := 13, constantValue := 0 }, { name := "T_DOUBLE", type := .int, accessFlags := 25, slot := 14, constantValue := 0 }, { name := "T_BYTE", type := .int, accessFlags := 25, slot := 15, constantValue := 0 }, { name := "T_SHORT", type := .int, accessFlags := 25, slot := 16, constantValue := 0 }, { name := "T_INT", type := .int, accessFlags := 25, slot := 17, constantValue := 0 }, { name := "T_LONG", type := .int, accessFlags := 25, slot := 18, constantValue := 0 }, { name := "JLA", type := (.object "jdk/internal/access/JavaLangAccess"), accessFlags := 26, slot := 19, constantValue := 0 }, { name := "SOFT_MAX_ARRAY_LENGTH", type := .int, accessFlags := 25, slot := 20, constantValue := 0 }]
  methods := #[k20m0]
  instanceTypes := #[]
  staticTypes := #[(.object "jdk/internal/misc/Unsafe"), .boolean, .int, .int, .int, .int, .int, .int, .int, .int, .int, .int, .int, .int, .int, .int, .int, .int, .int, (.object "jdk/internal/access/JavaLangAccess"), .int]
  resolved := Array.replicate 378 none
  statics := none }

def pool21 : Array CpInfo := pool [(1, u "java/lang/Cloneable"), (0, .class_ 1), (0, u "java/lang/Object"), (0, .class_ 3)] 3

/-- java/lang/Cloneable -/
def k21 : Class := { plain "java/lang/Cloneable" (some 0) with
  accessFlags := 1537
  interfaces := #[]
  cf := some (fileOf pool21 2 #[] #[] 1537 4 #[] #[])
  fields := #[]
  methods := #[]
  instanceTypes := #[]
  staticTypes := #[]
  resolved := Array.replicate 8 none
  statics := none }

/-- the primitive byte -/
def k22 : Class := { plain "byte" none with kind := .primitive 'B', accessFlags := 0x411 }
/-- [B -/
def k23 : Class := { plain "[B" (some 0) with kind := .array 22 .byte, interfaces := #[21, 2], accessFlags := 1041 }

/-- the primitive char -/
def k24 : Class := { plain "char" none with kind := .primitive 'C', accessFlags := 0x411 }
/-- [C -/
def k25 : Class := { plain "[C" (some 0) with kind := .array 24 .char, interfaces := #[21, 2], accessFlags := 1041 }

/-- the primitive int -/
def k26 : Class := { plain "int" none with kind := .primitive 'I', accessFlags := 0x411 }
/-- [I -/
def k27 : Class := { plain "[I" (some 0) with kind := .array 26 .int, interfaces := #[21, 2], accessFlags := 1041 }

def heap : Heap := #[{ cls := 7, slots := #[.long 0, .int 1, .null, .int 0, .null, .int 0, .int 0], vm := .statics 7 },
  { cls := 16, slots := #[.ref 3], vm := .statics 16 },
  { cls := 19, slots := #[.null, .null, .null], vm := .statics 19 },
  { cls := 16, slots := #[.int 0, .null, .null, .int 0, .int 1], vm := .none }]
def classes : Array Class := #[k0, k1, k2, k3, k4, k5, k6, k7, k8, k9, k10, k11, k12, k13, k14, k15, k16, k17, k18, k19, k20, k21, k22, k23, k24, k25, k26, k27]
def interned : List (Array UInt16 × Addr) := []
def slotsUsed : Nat := 16
def theMethod : MethodId := ⟨1, 3⟩
def args0 : Array Value := #[.int 5, .int 6, .int 7, .int 8, .int 9, .int 10]
def aboutOver (below : List Frame) : State where
  vm := { classes := classes, interned := interned.toArray }
  heap := heap
  slotsUsed := slotsUsed
  threads := #[{ frames := .invoking theMethod args0 :: below }]
def below0 : List Frame := [.native { method := ⟨0, 0⟩, args := #[] }]
def about1 : State := aboutOver below0
def p0 : Program := .bare "" "" ""
def e0 : Env := launch0.env 0 0 0
theorem w_frames : about1.frames = Frame.invoking theMethod args0 :: below0 := rfl
set_option maxRecDepth 65536 in
theorem w_args : argsFit about1.vm theMethod args0 = true := by decide +kernel
set_option maxRecDepth 65536 in
theorem w_heap : heapFits about1 = true := by decide +kernel
set_option maxRecDepth 65536 in
theorem w_runnable : about1.curStatus? = some .runnable := by decide +kernel
set_option maxRecDepth 65536 in
theorem w_alone : about1.alone = true := by decide +kernel
set_option maxRecDepth 65536 in
theorem w_named : about1.methodNamed? x = some theMethod := by decide +kernel
set_option maxRecDepth 65536 in
theorem w_hears : about1.hears theMethod below0 = true := by decide +kernel
set_option maxRecDepth 65536 in
theorem w_ripe : about1.ripe theMethod args0 below0 = true := by decide +kernel
theorem w_running : about1.status = .running := rfl
set_option maxRecDepth 65536 in
theorem w_room : about1.hasRoom e0.platform room_1 = true :=
  launch0.hasRoom_least _ room_1 (by decide +kernel) (by decide +kernel) (by decide +kernel) (by decide +kernel) (by decide +kernel) (by decide +kernel)
theorem allAtoms_all (ts : List Jvm.Cond) (a : Array Jvm.Value) (st : Jvm.State) : (allAtoms ts).before a st = ts.all (fun c => c.before a st) := by
  induction ts with
  | nil => rfl
  | cons c t ih =>
    show (Jvm.Cond.and c (allAtoms t)).before a st = _
    rw [Jvm.Cond.before_and, ih, List.all_cons]
def words1 : List Jvm.Cond := Jvm.Cond.code x code maxLocals ret :: tables_1
/-- a 'code' word, met by the world's own term for the bytes: nothing is compared byte by byte -/
theorem code_word {y : MethodName} {bytes : ByteArray} {mx : Nat} {rt : Option FieldType} {a : Array Value} {s : State} {m : MethodId} {meth : Method} {c : Code} (h1 : s.methodNamed? y = some m) (h2 : s.vm.method? m = some meth) (h3 : meth.code = some c) (h4 : c.code = bytes)
    (h5 : (c.maxLocals == mx && c.exceptionTable.isEmpty && decide (c.maxStack ≤ mostOperands) && decide (meth.sig.returnType = rt) && !meth.locks && decide (parseMethodDescriptor y.desc = some meth.sig)) = true) : (Jvm.Cond.code y bytes mx rt).before a s = true := by
  simp only [Bool.and_eq_true, beq_iff_eq, Bool.not_eq_true', decide_eq_true_eq] at h5
  obtain ⟨⟨⟨⟨⟨g1, g2⟩, g3⟩, g4⟩, g5⟩, g6⟩ := h5
  simp [Cond.before, Cond.holds, Cond.value, h1, h2, h3, h4, g1, g2, g3, g4, g5, g6]
def isCode : Jvm.Cond → Bool
  | .code _ _ _ _ => true
  | _ => false
theorem all_split {L : List Jvm.Cond} {P : Jvm.Cond → Bool} (h1 : L.all (fun c => isCode c || P c) = true) (h2 : ∀ c ∈ L.filter isCode, P c = true) : L.all P = true := by
  refine List.all_eq_true.mpr fun c hc => ?_
  have h := List.all_eq_true.mp h1 c hc
  rcases Bool.eq_false_or_eq_true (isCode c) with hi | hi
  · exact h2 c (List.mem_filter.mpr ⟨hc, hi⟩)
  · simpa [hi] using h
set_option maxRecDepth 65536 in
theorem w_c0 : (Jvm.Cond.code x code maxLocals ret).before args0 about1 = true := code_word (m := ⟨1, 3⟩) (meth := k1m3) (c := k1c3) (by decide +kernel) rfl rfl rfl (by decide +kernel)
set_option maxRecDepth 65536 in
theorem w_c1 : (Jvm.Cond.code ({ cls := "com/example/settlegram/settlegram/TextLineIsSequenceDelimiterPinLaw", name := "pick", desc := "(IC)C" } : Jvm.MethodName) method_2_code (2 : Nat) (Option.some Jvm.ClassFile.FieldType.char)).before args0 about1 = true := code_word (m := ⟨1, 1⟩) (meth := k1m1) (c := k1c1) (by decide +kernel) rfl rfl rfl (by decide +kernel)
set_option maxRecDepth 65536 in
theorem w_c2 : (Jvm.Cond.code ({ cls := "com/example/settlegram/settlegram/TextLineIsSequenceDelimiterPinLaw", name := "makeTag", desc := "(ICCCC)Ljava/lang/String;" } : Jvm.MethodName) method_3_code (5 : Nat) (Option.some (Jvm.ClassFile.FieldType.object "java/lang/String"))).before args0 about1 = true := code_word (m := ⟨1, 2⟩) (meth := k1m2) (c := k1c2) (by decide +kernel) rfl rfl rfl (by decide +kernel)
set_option maxRecDepth 65536 in
theorem w_c3 : (Jvm.Cond.code ({ cls := "java/lang/String", name := "<init>", desc := "([C)V" } : Jvm.MethodName) jdk_42_method_3_code (2 : Nat) (Option.none : Option Jvm.ClassFile.FieldType)).before args0 about1 = true := code_word (m := ⟨7, 1⟩) (meth := k7m1) (c := k7c1) (by decide +kernel) rfl rfl rfl (by decide +kernel)
set_option maxRecDepth 65536 in
theorem w_c4 : (Jvm.Cond.code ({ cls := "java/lang/String", name := "<init>", desc := "([CIILjava/lang/Void;)V" } : Jvm.MethodName) jdk_42_method_149_code (6 : Nat) (Option.none : Option Jvm.ClassFile.FieldType)).before args0 about1 = true := code_word (m := ⟨7, 4⟩) (meth := k7m4) (c := k7c4) (by decide +kernel) rfl rfl rfl (by decide +kernel)
set_option maxRecDepth 65536 in
theorem w_c5 : (Jvm.Cond.code ({ cls := "java/lang/Object", name := "<init>", desc := "()V" } : Jvm.MethodName) object_method_1_code (1 : Nat) (Option.none : Option Jvm.ClassFile.FieldType)).before args0 about1 = true := code_word (m := ⟨0, 0⟩) (meth := k0m0) (c := k0c0) (by decide +kernel) rfl rfl rfl (by decide +kernel)
set_option maxRecDepth 65536 in
theorem w_c6 : (Jvm.Cond.code ({ cls := "java/lang/String", name := "valueOf", desc := "(C)Ljava/lang/String;" } : Jvm.MethodName) jdk_42_method_139_code (1 : Nat) (Option.some (Jvm.ClassFile.FieldType.object "java/lang/String"))).before args0 about1 = true := code_word (m := ⟨7, 3⟩) (meth := k7m3) (c := k7c3) (by decide +kernel) rfl rfl rfl (by decide +kernel)
set_option maxRecDepth 65536 in
theorem w_c7 : (Jvm.Cond.code ({ cls := "java/lang/StringLatin1", name := "canEncode", desc := "(C)Z" } : Jvm.MethodName) jdk_43_method_3_code (1 : Nat) (Option.some Jvm.ClassFile.FieldType.boolean)).before args0 about1 = true := code_word (m := ⟨17, 1⟩) (meth := k17m1) (c := k17c1) (by decide +kernel) rfl rfl rfl (by decide +kernel)
set_option maxRecDepth 65536 in
theorem w_c8 : (Jvm.Cond.code ({ cls := "java/lang/StringLatin1", name := "toBytes", desc := "(C)[B" } : Jvm.MethodName) jdk_43_method_46_code (1 : Nat) (Option.some (Jvm.ClassFile.FieldType.array Jvm.ClassFile.FieldType.byte))).before args0 about1 = true := code_word (m := ⟨17, 3⟩) (meth := k17m3) (c := k17c3) (by decide +kernel) rfl rfl rfl (by decide +kernel)
set_option maxRecDepth 65536 in
theorem w_c9 : (Jvm.Cond.code ({ cls := "java/lang/String", name := "<init>", desc := "([BB)V" } : Jvm.MethodName) jdk_42_method_151_code (3 : Nat) (Option.none : Option Jvm.ClassFile.FieldType)).before args0 about1 = true := code_word (m := ⟨7, 5⟩) (meth := k7m5) (c := k7c5) (by decide +kernel) rfl rfl rfl (by decide +kernel)
set_option maxRecDepth 65536 in
theorem w_c10 : (Jvm.Cond.code ({ cls := "com/example/settlegram/settlegram/TextLine", name := "<init>", desc := "(ILjava/util/List;Ljava/lang/String;Ljava/lang/String;)V" } : Jvm.MethodName) prog_107_method_1_code (5 : Nat) (Option.none : Option Jvm.ClassFile.FieldType)).before args0 about1 = true := code_word (m := ⟨9, 0⟩) (meth := k9m0) (c := k9c0) (by decide +kernel) rfl rfl rfl (by decide +kernel)
set_option maxRecDepth 65536 in
theorem w_c11 : (Jvm.Cond.code ({ cls := "java/lang/Record", name := "<init>", desc := "()V" } : Jvm.MethodName) jdk_30_method_1_code (1 : Nat) (Option.none : Option Jvm.ClassFile.FieldType)).before args0 about1 = true := code_word (m := ⟨8, 0⟩) (meth := k8m0) (c := k8c0) (by decide +kernel) rfl rfl rfl (by decide +kernel)
set_option maxRecDepth 65536 in
theorem w_c12 : (Jvm.Cond.code ({ cls := "com/example/settlegram/settlegram/SequencePath", name := "of", desc := "(Ljava/util/List;)Lcom/example/settlegram/settlegram/SequencePath;" } : Jvm.MethodName) prog_85_method_3_code (4 : Nat) (Option.some (Jvm.ClassFile.FieldType.object "com/example/settlegram/settlegram/SequencePath"))).before args0 about1 = true := code_word (m := ⟨16, 1⟩) (meth := k16m1) (c := k16c1) (by decide +kernel) rfl rfl rfl (by decide +kernel)
set_option maxRecDepth 65536 in
theorem w_c13 : (Jvm.Cond.code ({ cls := "com/example/settlegram/settlegram/TextLine", name := "isSequenceDelimiter", desc := "()Z" } : Jvm.MethodName) prog_107_method_3_code (1 : Nat) (Option.some Jvm.ClassFile.FieldType.boolean)).before args0 about1 = true := code_word (m := ⟨9, 1⟩) (meth := k9m1) (c := k9c1) (by decide +kernel) rfl rfl rfl (by decide +kernel)
set_option maxRecDepth 65536 in
theorem w_c14 : (Jvm.Cond.code ({ cls := "java/lang/String", name := "equals", desc := "(Ljava/lang/Object;)Z" } : Jvm.MethodName) jdk_42_method_66_code (3 : Nat) (Option.some Jvm.ClassFile.FieldType.boolean)).before args0 about1 = true := code_word (m := ⟨7, 2⟩) (meth := k7m2) (c := k7c2) (by decide +kernel) rfl rfl rfl (by decide +kernel)
set_option maxRecDepth 65536 in
theorem w_c15 : (Jvm.Cond.code ({ cls := "java/lang/StringLatin1", name := "equals", desc := "([B[B)Z" } : Jvm.MethodName) jdk_43_method_13_code (3 : Nat) (Option.some Jvm.ClassFile.FieldType.boolean)).before args0 about1 = true := code_word (m := ⟨17, 2⟩) (meth := k17m2) (c := k17c2) (by decide +kernel) rfl rfl rfl (by decide +kernel)
set_option maxRecDepth 65536 in
theorem w_c16 : (Jvm.Cond.code ({ cls := "java/lang/StringUTF16", name := "compress", desc := "([CII)[B" } : Jvm.MethodName) jdk_52_method_16_code (6 : Nat) (Option.some (Jvm.ClassFile.FieldType.array Jvm.ClassFile.FieldType.byte))).before args0 about1 = true := code_word (m := ⟨18, 2⟩) (meth := k18m2) (c := k18c2) (by decide +kernel) rfl rfl rfl (by decide +kernel)
set_option maxRecDepth 65536 in
theorem w_c17 : (Jvm.Cond.code ({ cls := "java/lang/StringUTF16", name := "compress", desc := "([CI[BII)I" } : Jvm.MethodName) jdk_52_method_21_code (7 : Nat) (Option.some Jvm.ClassFile.FieldType.int)).before args0 about1 = true := code_word (m := ⟨18, 3⟩) (meth := k18m3) (c := k18c3) (by decide +kernel) rfl rfl rfl (by decide +kernel)
set_option maxRecDepth 65536 in
theorem w_c18 : (Jvm.Cond.code ({ cls := "java/lang/StringUTF16", name := "coderFromArrayLen", desc := "([BI)B" } : Jvm.MethodName) jdk_52_method_15_code (2 : Nat) (Option.some Jvm.ClassFile.FieldType.byte)).before args0 about1 = true := code_word (m := ⟨18, 1⟩) (meth := k18m1) (c := k18c1) (by decide +kernel) rfl rfl rfl (by decide +kernel)
def codes1 : List Jvm.Cond := [Jvm.Cond.code x code maxLocals ret, Jvm.Cond.code ({ cls := "com/example/settlegram/settlegram/TextLineIsSequenceDelimiterPinLaw", name := "pick", desc := "(IC)C" } : Jvm.MethodName) method_2_code (2 : Nat) (Option.some Jvm.ClassFile.FieldType.char), Jvm.Cond.code ({ cls := "com/example/settlegram/settlegram/TextLineIsSequenceDelimiterPinLaw", name := "makeTag", desc := "(ICCCC)Ljava/lang/String;" } : Jvm.MethodName) method_3_code (5 : Nat) (Option.some (Jvm.ClassFile.FieldType.object "java/lang/String")), Jvm.Cond.code ({ cls := "java/lang/String", name := "<init>", desc := "([C)V" } : Jvm.MethodName) jdk_42_method_3_code (2 : Nat) (Option.none : Option Jvm.ClassFile.FieldType), Jvm.Cond.code ({ cls := "java/lang/String", name := "<init>", desc := "([CIILjava/lang/Void;)V" } : Jvm.MethodName) jdk_42_method_149_code (6 : Nat) (Option.none : Option Jvm.ClassFile.FieldType), Jvm.Cond.code ({ cls := "java/lang/Object", name := "<init>", desc := "()V" } : Jvm.MethodName) object_method_1_code (1 : Nat) (Option.none : Option Jvm.ClassFile.FieldType), Jvm.Cond.code ({ cls := "java/lang/String", name := "valueOf", desc := "(C)Ljava/lang/String;" } : Jvm.MethodName) jdk_42_method_139_code (1 : Nat) (Option.some (Jvm.ClassFile.FieldType.object "java/lang/String")), Jvm.Cond.code ({ cls := "java/lang/StringLatin1", name := "canEncode", desc := "(C)Z" } : Jvm.MethodName) jdk_43_method_3_code (1 : Nat) (Option.some Jvm.ClassFile.FieldType.boolean), Jvm.Cond.code ({ cls := "java/lang/StringLatin1", name := "toBytes", desc := "(C)[B" } : Jvm.MethodName) jdk_43_method_46_code (1 : Nat) (Option.some (Jvm.ClassFile.FieldType.array Jvm.ClassFile.FieldType.byte)), Jvm.Cond.code ({ cls := "java/lang/String", name := "<init>", desc := "([BB)V" } : Jvm.MethodName) jdk_42_method_151_code (3 : Nat) (Option.none : Option Jvm.ClassFile.FieldType), Jvm.Cond.code ({ cls := "com/example/settlegram/settlegram/TextLine", name := "<init>", desc := "(ILjava/util/List;Ljava/lang/String;Ljava/lang/String;)V" } : Jvm.MethodName) prog_107_method_1_code (5 : Nat) (Option.none : Option Jvm.ClassFile.FieldType), Jvm.Cond.code ({ cls := "java/lang/Record", name := "<init>", desc := "()V" } : Jvm.MethodName) jdk_30_method_1_code (1 : Nat) (Option.none : Option Jvm.ClassFile.FieldType), Jvm.Cond.code ({ cls := "com/example/settlegram/settlegram/SequencePath", name := "of", desc := "(Ljava/util/List;)Lcom/example/settlegram/settlegram/SequencePath;" } : Jvm.MethodName) prog_85_method_3_code (4 : Nat) (Option.some (Jvm.ClassFile.FieldType.object "com/example/settlegram/settlegram/SequencePath")), Jvm.Cond.code ({ cls := "com/example/settlegram/settlegram/TextLine", name := "isSequenceDelimiter", desc := "()Z" } : Jvm.MethodName) prog_107_method_3_code (1 : Nat) (Option.some Jvm.ClassFile.FieldType.boolean), Jvm.Cond.code ({ cls := "java/lang/String", name := "equals", desc := "(Ljava/lang/Object;)Z" } : Jvm.MethodName) jdk_42_method_66_code (3 : Nat) (Option.some Jvm.ClassFile.FieldType.boolean), Jvm.Cond.code ({ cls := "java/lang/StringLatin1", name := "equals", desc := "([B[B)Z" } : Jvm.MethodName) jdk_43_method_13_code (3 : Nat) (Option.some Jvm.ClassFile.FieldType.boolean), Jvm.Cond.code ({ cls := "java/lang/StringUTF16", name := "compress", desc := "([CII)[B" } : Jvm.MethodName) jdk_52_method_16_code (6 : Nat) (Option.some (Jvm.ClassFile.FieldType.array Jvm.ClassFile.FieldType.byte)), Jvm.Cond.code ({ cls := "java/lang/StringUTF16", name := "compress", desc := "([CI[BII)I" } : Jvm.MethodName) jdk_52_method_21_code (7 : Nat) (Option.some Jvm.ClassFile.FieldType.int), Jvm.Cond.code ({ cls := "java/lang/StringUTF16", name := "coderFromArrayLen", desc := "([BI)B" } : Jvm.MethodName) jdk_52_method_15_code (2 : Nat) (Option.some Jvm.ClassFile.FieldType.byte)]
set_option maxRecDepth 65536 in
theorem codes_eq : words1.filter isCode = codes1 := rfl
theorem w_codes : ∀ c ∈ words1.filter isCode, c.before args0 about1 = true := by
  rw [codes_eq]
  intro c hc
  simp only [codes1, List.mem_cons, List.not_mem_nil, or_false] at hc
  rcases hc with rfl | rfl | rfl | rfl | rfl | rfl | rfl | rfl | rfl | rfl | rfl | rfl | rfl | rfl | rfl | rfl | rfl | rfl | rfl
  · exact w_c0
  · exact w_c1
  · exact w_c2
  · exact w_c3
  · exact w_c4
  · exact w_c5
  · exact w_c6
  · exact w_c7
  · exact w_c8
  · exact w_c9
  · exact w_c10
  · exact w_c11
  · exact w_c12
  · exact w_c13
  · exact w_c14
  · exact w_c15
  · exact w_c16
  · exact w_c17
  · exact w_c18
set_option maxRecDepth 65536 in
theorem w_t1 : (words1.take 24).all (fun c => isCode c || c.before args0 about1) = true := by decide +kernel
set_option maxRecDepth 65536 in
theorem w_t2 : ((words1.drop 24).take 24).all (fun c => isCode c || c.before args0 about1) = true := by decide +kernel
set_option maxRecDepth 65536 in
theorem w_t3 : (((words1.drop 24).drop 24).take 24).all (fun c => isCode c || c.before args0 about1) = true := by decide +kernel
set_option maxRecDepth 65536 in
theorem w_t4 : ((((words1.drop 24).drop 24).drop 24).take 24).all (fun c => isCode c || c.before args0 about1) = true := by decide +kernel
set_option maxRecDepth 65536 in
theorem w_t5 : ((((words1.drop 24).drop 24).drop 24).drop 24).all (fun c => isCode c || c.before args0 about1) = true := by decide +kernel
theorem w_tables : (allAtoms (Jvm.Cond.code x code maxLocals ret :: tables_1)).before args0 about1 = true := by
  rw [allAtoms_all]
  show words1.all (fun c => c.before args0 about1) = true
  refine all_split ?_ w_codes
  rw [← List.take_append_drop 24 words1, List.all_append, w_t1, ← List.take_append_drop 24 (words1.drop 24), List.all_append, w_t2, ← List.take_append_drop 24 ((words1.drop 24).drop 24), List.all_append, w_t3, ← List.take_append_drop 24 (((words1.drop 24).drop 24).drop 24), List.all_append, w_t4, w_t5]
  rfl
set_option maxRecDepth 65536 in
theorem w_rest : rest_1_c.before args0 about1 = true := by decide +kernel
set_option maxRecDepth 65536 in
theorem w_case : (Jvm.Cond.and given_1 narrow_1).before args0 about1 = true := by decide +kernel
set_option maxRecDepth 65536 in
theorem w_consts : constsHeld consts_1 about1 := Jvm.Lit.constsHeldB_iff.mp (by decide +kernel)
theorem w_applies : (headSpec (Jvm.Cond.code x code maxLocals ret :: tables_1) room_1).applies x e0.platform about1 = true :=
  (Spec.applies_iff w_frames).mpr ⟨w_running, w_runnable, w_alone, w_named, w_hears, w_ripe, w_room, w_tables⟩
theorem atStart : AtStart classFile x code maxLocals ret World_1 tables_1 room_1 Calls_1 rest_1 Pre_1 launch0 p0 e0 about1 theMethod args0 below0 :=
  ⟨lists_1, trivial, launch0.admits_env _ _ _, launch0.least_env, fairChoices_fair.cas, fairChoices_fair.clock, w_frames, w_args, w_heap, w_applies, ⟨w_consts, trivial⟩, w_rest, w_case⟩
end start1
theorem witness_1 : WitnessClaimed_1 := ⟨start1.p0, start1.e0, start1.about1, start1.theMethod, start1.args0, start1.below0, start1.atStart⟩
end Jvm.Pilot.@@N@@
