import JvmDerived
import JvmDerived.Pilot.@@N@@Statement
import JvmDerived.Pilot.@@N@@Code
set_option linter.unusedVariables false
set_option linter.unusedSimpArgs false
namespace Jvm.Pilot.@@N@@.W
open Jvm Jvm.ClassFile Sem Op Lib Jvm.Free Jvm.Stand Jvm.LawKit Jvm.RoadKit
/-! own kit: a body's walk in one pass, backwards from its end ('Gl': from here the body comes to its end and there P holds) -/
section Walk
variable {p : Program} {l : Launch} {e : Env} {R : Room} {s : State} {m : MethodId} {args : Array Value} {below : List Frame} {meth : Method} {c : Code} {T T' : State} {locs : List Loc} {cells slots : Nat} {P : Option Value → Heap → List Loc → Prop} {C N : Nat} {Ls : Array Slot} {S : List Value} {pc pc' pc'' : Nat} {g : JFrame}
def Gl (p : Program) (e : Env) (below : List Frame) (s : State) (P : Option Value → Heap → List Loc → Prop) (C N : Nat) (T : State) (g : JFrame) : Prop :=
  ∃ (s₂ : State) (o : Outcome), Steps p.tables e below (T.setTop g) s₂ ∧ s₂.status = .running ∧ Ended s₂ below o ∧ ∃ v L, o = .returned v ∧ P v s₂.heap L ∧ FrameEnd s o s₂ L C N
theorem s1 (g' : JFrame) (h : ∀ t, Steps p.tables e below (T.setTop g') t → Steps p.tables e below (T.setTop g) t) (K : Gl p e below s P C N T g') : Gl p e below s P C N T g := by
  obtain ⟨s₂, o, h1, h2⟩ := K; exact ⟨s₂, o, h _ h1, h2⟩
theorem s2 (g' : JFrame) (h : ∀ t, Steps p.tables e below (T'.setTop g') t → Steps p.tables e below (T.setTop g) t) (K : Gl p e below s P C N T' g') : Gl p e below s P C N T g := by
  obtain ⟨s₂, o, h1, h2⟩ := K; exact ⟨s₂, o, h _ h1, h2⟩
theorem s3 (g' : JFrame) (h : Steps p.tables e below (T.setTop g) (T'.setTop g')) (K : Gl p e below s P C N T' g') : Gl p e below s P C N T g := by
  obtain ⟨s₂, o, h1, h2⟩ := K; exact ⟨s₂, o, h.trans h1, h2⟩
theorem cast {g' : JFrame} (q : g = g') (K : Gl p e below s P C N T g') : Gl p e below s P C N T g := q ▸ K
theorem fin (X : Stand p l e R s m args below meth c T locs cells slots) {v : Option Value} (hv : meth.sig.returnType = none → v = none) (hlk : meth.locks = false)
    (hs : ∀ fs, (∀ (f : JFrame) (acts : List Action), f.method = m → f.locked = none → f.entered = [] → (doReturn e (T.setTop f) acts v).1 = T.setFrames fs) → Steps p.tables e below (T.setTop g) (T.setFrames fs))
    (hP : P v T.heap locs) (hC : cells ≤ C) (hN : slots ≤ N) : Gl p e below s P C N T g := by
  obtain ⟨fs, hr, hrun, hended, hW, hsame⟩ := X.leave hv hlk
  exact ⟨_, _, hs fs hr, hrun, hended, _, _, rfl, hP, ⟨_, rfl⟩, hW, hsame.mono hC hN⟩
theorem retZ (X : Stand p l e R s m args below meth c T locs cells slots) (hx : p.tables.exec = Jvm.exec) (hlk : meth.locks = false) {z z' : Int32} {t : FieldType} (hret : meth.sig.returnType = some t) (ht : t = .boolean ∨ t = .byte ∨ t = .char ∨ t = .short)
    (hd : decode c.code pc = .ok (.ireturn, 1)) (hz : nar t z = z') (hP : P (some (.int z')) T.heap locs) (hC : cells ≤ C) (hN : slots ≤ N) : Gl p e below s P C N T (mkF m pc Ls (.int z :: S)) :=
  fin X (v := some (.int z')) (fun h => by rw [hret] at h; cases h) hlk (fun fs hr => by subst hz; exact RoadKit.retN X hx hret ht hd hr) hP hC hN
theorem retI (X : Stand p l e R s m args below meth c T locs cells slots) (hx : p.tables.exec = Jvm.exec) (hlk : meth.locks = false) {z : Int32} (hret : meth.sig.returnType = some .int)
    (hd : decode c.code pc = .ok (.ireturn, 1)) (hP : P (some (.int z)) T.heap locs) (hC : cells ≤ C) (hN : slots ≤ N) : Gl p e below s P C N T (mkF m pc Ls (.int z :: S)) :=
  fin X (v := some (.int z)) (fun h => by rw [hret] at h; cases h) hlk (fun fs hr => retOut X hx hret rfl (Or.inl ⟨rfl, Or.inl rfl, _, rfl⟩) hd hr) hP hC hN
theorem retL (X : Stand p l e R s m args below meth c T locs cells slots) (hx : p.tables.exec = Jvm.exec) (hlk : meth.locks = false) {z : Int64} (hret : meth.sig.returnType = some .long)
    (hd : decode c.code pc = .ok (.lreturn, 1)) (hP : P (some (.long z)) T.heap locs) (hC : cells ≤ C) (hN : slots ≤ N) : Gl p e below s P C N T (mkF m pc Ls (.long z :: S)) :=
  fin X (v := some (.long z)) (fun h => by rw [hret] at h; cases h) hlk (fun fs hr => retOut X hx hret rfl (Or.inr (Or.inl ⟨rfl, rfl, _, rfl⟩)) hd hr) hP hC hN
theorem retA (X : Stand p l e R s m args below meth c T locs cells slots) (hx : p.tables.exec = Jvm.exec) (hlk : meth.locks = false) {w : Value} {t : FieldType} (hret : meth.sig.returnType = some t) (ht : t.isReference = true) (hw : w.isRef = true) (hn : narrow t w = w)
    (hd : decode c.code pc = .ok (.areturn, 1)) (hP : P (some w) T.heap locs) (hC : cells ≤ C) (hN : slots ≤ N) : Gl p e below s P C N T (mkF m pc Ls (w :: S)) :=
  fin X (v := some w) (fun h => by rw [hret] at h; cases h) hlk (fun fs hr => retOut X hx hret hn (Or.inr (Or.inr (Or.inr (Or.inr ⟨rfl, ht, hw⟩)))) hd hr) hP hC hN
theorem ret0 (X : Stand p l e R s m args below meth c T locs cells slots) (hx : p.tables.exec = Jvm.exec) (hlk : meth.locks = false) (hret : meth.sig.returnType = none)
    (hd : decode c.code pc = .ok (.return_, 1)) (hP : P none T.heap locs) (hC : cells ≤ C) (hN : slots ≤ N) : Gl p e below s P C N T (mkF m pc Ls []) :=
  fin X (v := none) (fun _ => rfl) hlk (fun fs hr => X.returnOut hx hret hd hr) hP hC hN
/-! the branches -/
def cY : ClassFile.Cond → Int32 → Int32 → Prop
  | .eq, x, y => x = y
  | .ne, x, y => ¬ x = y
  | .lt, x, y => x < y
  | .ge, x, y => ¬ x < y
  | .gt, x, y => y < x
  | .le, x, y => ¬ y < x
def cN : ClassFile.Cond → Int32 → Int32 → Prop
  | .eq, x, y => ¬ x = y
  | .ne, x, y => x = y
  | .lt, x, y => ¬ x < y
  | .ge, x, y => x < y
  | .gt, x, y => ¬ y < x
  | .le, x, y => y < x
theorem cOr (cd : ClassFile.Cond) (x y : Int32) : (cY cd x y ∧ if_icmp.holds cd x y = true) ∨ (cN cd x y ∧ if_icmp.holds cd x y = false) := by
  cases cd with
  | eq => by_cases h : x = y; exact Or.inl ⟨h, (teq h).1⟩; exact Or.inr ⟨h, (feq h).1⟩
  | ne => by_cases h : x = y; exact Or.inr ⟨h, (teq h).2⟩; exact Or.inl ⟨h, (feq h).2⟩
  | lt => by_cases h : x < y; exact Or.inl ⟨h, (tlt h).1⟩; exact Or.inr ⟨h, (flt h).1⟩
  | ge => by_cases h : x < y; exact Or.inr ⟨h, (tlt h).2.1⟩; exact Or.inl ⟨h, (flt h).2.1⟩
  | gt => by_cases h : y < x; exact Or.inl ⟨h, (tlt h).2.2.1⟩; exact Or.inr ⟨h, (flt h).2.2.1⟩
  | le => by_cases h : y < x; exact Or.inr ⟨h, (tlt h).2.2.2⟩; exact Or.inl ⟨h, (flt h).2.2.2⟩
def lY : ClassFile.Cond → Int64 → Int64 → Prop
  | .eq, x, y => x = y
  | .ne, x, y => ¬ x = y
  | .lt, x, y => x < y
  | .ge, x, y => ¬ x < y
  | .gt, x, y => y < x
  | .le, x, y => ¬ y < x
def lN : ClassFile.Cond → Int64 → Int64 → Prop
  | .eq, x, y => ¬ x = y
  | .ne, x, y => x = y
  | .lt, x, y => ¬ x < y
  | .ge, x, y => x < y
  | .gt, x, y => ¬ y < x
  | .le, x, y => y < x
theorem lYc {cd : ClassFile.Cond} {x y : Int64} (h : cY cd (lcmpW x y) 0) : lY cd x y := by
  rw [lcW] at h
  cases cd with
  | eq => exact (lc_eq x y).mp h
  | ne => exact fun q => h ((lc_eq x y).mpr q)
  | lt => exact (lc_lt x y).mp h
  | ge => exact fun q => h ((lc_lt x y).mpr q)
  | gt => exact (lc_gt x y).mp h
  | le => exact fun q => h ((lc_gt x y).mpr q)
theorem lNc {cd : ClassFile.Cond} {x y : Int64} (h : cN cd (lcmpW x y) 0) : lN cd x y := by
  rw [lcW] at h
  cases cd with
  | eq => exact fun q => h ((lc_eq x y).mpr q)
  | ne => exact (lc_eq x y).mp h
  | lt => exact fun q => h ((lc_lt x y).mpr q)
  | ge => exact (lc_lt x y).mp h
  | gt => exact fun q => h ((lc_gt x y).mpr q)
  | le => exact (lc_gt x y).mp h
theorem icmp (X : Stand p l e R s m args below meth c T locs cells slots) (hx : p.tables.exec = Jvm.exec) {cd : ClassFile.Cond} {x y : Int32} {o : Int} (hd : decode c.code pc = .ok (.if_icmp cd o, 3)) (ho : 0 ≤ (pc : Int) + o) (hp : ((pc : Int) + o).toNat = pc') (hq : pc + 3 = pc'')
    (ky : cY cd x y → Gl p e below s P C N T (mkF m pc' Ls S)) (kn : cN cd x y → Gl p e below s P C N T (mkF m pc'' Ls S)) : Gl p e below s P C N T (mkF m pc Ls (.int y :: .int x :: S)) := by
  subst hq
  rcases cOr cd x y with ⟨h1, h2⟩ | ⟨h1, h2⟩
  · exact s1 _ (fun t k => XS.icmpYes X.here hx rfl (pc0 := pc) (pc' := pc') rfl hd rfl h2 ho hp k) (ky h1)
  · exact s1 _ (fun t k => XS.icmpNo X.here hx rfl hd rfl h2 k) (kn h1)
theorem ifc (X : Stand p l e R s m args below meth c T locs cells slots) (hx : p.tables.exec = Jvm.exec) {cd : ClassFile.Cond} {x : Int32} {o : Int} (hd : decode c.code pc = .ok (.ifCond cd o, 3)) (ho : 0 ≤ (pc : Int) + o) (hp : ((pc : Int) + o).toNat = pc') (hq : pc + 3 = pc'')
    (ky : cY cd x 0 → Gl p e below s P C N T (mkF m pc' Ls S)) (kn : cN cd x 0 → Gl p e below s P C N T (mkF m pc'' Ls S)) : Gl p e below s P C N T (mkF m pc Ls (.int x :: S)) := by
  subst hq
  rcases cOr cd x 0 with ⟨h1, h2⟩ | ⟨h1, h2⟩
  · exact s1 _ (fun t k => XS.ifYes X.here hx rfl (pc0 := pc) (pc' := pc') rfl hd rfl ((if0 _ _).trans h2) ho hp k) (ky h1)
  · exact s1 _ (fun t k => XS.ifNo X.here hx rfl hd rfl ((if0 _ _).trans h2) k) (kn h1)
theorem lif (X : Stand p l e R s m args below meth c T locs cells slots) (hx : p.tables.exec = Jvm.exec) {cd : ClassFile.Cond} {x y : Int64} {o : Int} (hd1 : decode c.code pc = .ok (.lcmp, 1)) {pc1 : Nat} (h1 : pc + 1 = pc1) (hd : decode c.code pc1 = .ok (.ifCond cd o, 3)) (ho : 0 ≤ (pc1 : Int) + o) (hp : ((pc1 : Int) + o).toNat = pc') (hq : pc1 + 3 = pc'')
    (ky : lY cd x y → Gl p e below s P C N T (mkF m pc' Ls S)) (kn : lN cd x y → Gl p e below s P C N T (mkF m pc'' Ls S)) : Gl p e below s P C N T (mkF m pc Ls (.long y :: .long x :: S)) := by
  subst h1
  exact s1 (mkF m (pc + 1) Ls (.int (lcmpW x y) :: S)) (fun t k => XS.lcmp X.here hx rfl hd1 rfl k) (ifc X hx hd ho hp hq (fun h => ky (lYc h)) (fun h => kn (lNc h)))
end Walk
/-! arrays of ints and of longs, by what each place holds -/
section Arrays
variable {Z : State} {h h' : Heap} {a b : Addr} {ty : FieldType} {n : Nat} {f : Nat → Int32} {q : Nat → Int64}
def up {α : Type} (f : Nat → α) (j : Nat) (v : α) : Nat → α := fun k => if k = j then v else f k
theorem up_same {α : Type} (f : Nat → α) (j : Nat) (v : α) : up f j v j = v := if_pos rfl
theorem up_other {α : Type} (f : Nat → α) {j k : Nat} (v : α) (h : ¬ k = j) : up f j v k = f k := if_neg h
def AI (Z : State) (h : Heap) (a : Addr) (ty : FieldType) (n : Nat) (f : Nat → Int32) : Prop := ∃ c : Cell, Arr Z h a c ty ∧ c.slots.size = n ∧ ∀ k, k < n → c.slots[k]? = some (.int (f k))
def AJ (Z : State) (h : Heap) (a : Addr) (n : Nat) (f : Nat → Int64) : Prop := ∃ c : Cell, Arr Z h a c .long ∧ c.slots.size = n ∧ ∀ k, k < n → c.slots[k]? = some (.long (f k))
theorem AI.lt (F : AI Z h a ty n f) : a < h.size := by obtain ⟨c, A, -⟩ := F; exact A.lt
theorem AJ.lt (F : AJ Z h a n q) : a < h.size := by obtain ⟨c, A, -⟩ := F; exact A.lt
theorem AI.ext (F : AI Z h a ty n f) (E : Ext h h') : AI Z h' a ty n f := by obtain ⟨c, A, r⟩ := F; exact ⟨c, A.ext E, r⟩
theorem AJ.ext (F : AJ Z h a n q) (E : Ext h h') : AJ Z h' a n q := by obtain ⟨c, A, r⟩ := F; exact ⟨c, A.ext E, r⟩
theorem AI.other {sl : Nat} {v : Value} (F : AI Z h b ty n f) (W : Wr h h' a sl v) (e : b ≠ a) : AI Z h' b ty n f := by obtain ⟨c, A, r⟩ := F; exact ⟨c, A.other W e, r⟩
theorem AJ.other {sl : Nat} {v : Value} (F : AJ Z h b n q) (W : Wr h h' a sl v) (e : b ≠ a) : AJ Z h' b n q := by obtain ⟨c, A, r⟩ := F; exact ⟨c, A.other W e, r⟩
theorem AI.keep {ws : List Addr} (F : AI Z h a ty n f) (K : Keep h h' ws) (e : a ∉ ws) : AI Z h' a ty n f := by obtain ⟨c, A, r⟩ := F; exact ⟨c, ⟨K.2.1 a c A.1 e, A.2⟩, r⟩
theorem AJ.keep {ws : List Addr} (F : AJ Z h a n q) (K : Keep h h' ws) (e : a ∉ ws) : AJ Z h' a n q := by obtain ⟨c, A, r⟩ := F; exact ⟨c, ⟨K.2.1 a c A.1 e, A.2⟩, r⟩
theorem slots_set {c : Cell} {j k : Nat} {v : Value} (hj : j < c.slots.size) : (c.setSlot j v).slots[k]? = if k = j then some v else c.slots[k]? := by
  by_cases e : k = j
  · subst e; simp [Cell.setSlot, hj]
  · simp only [Cell.setSlot, if_neg e]; exact Array.getElem?_setIfInBounds_ne (Ne.symm e)
theorem AI.set {j : Nat} {v : Int32} (F : AI Z h a ty n f) (W : Wr h h' a j (.int v)) (hj : j < n) : AI Z h' a ty n (up f j v) := by
  obtain ⟨c, A, r1, r2⟩ := F
  refine ⟨_, A.same W, by rw [sz_set]; exact r1, fun k hk => ?_⟩
  rw [slots_set (by omega)]
  by_cases e : k = j
  · rw [if_pos e, e, up_same]
  · rw [if_neg e, up_other _ _ e]; exact r2 k hk
theorem AJ.set {j : Nat} {v : Int64} (F : AJ Z h a n q) (W : Wr h h' a j (.long v)) (hj : j < n) : AJ Z h' a n (up q j v) := by
  obtain ⟨c, A, r1, r2⟩ := F
  refine ⟨_, A.same W, by rw [sz_set]; exact r1, fun k hk => ?_⟩
  rw [slots_set (by omega)]
  by_cases e : k = j
  · rw [if_pos e, e, up_same]
  · rw [if_neg e, up_other _ _ e]; exact r2 k hk
theorem clamp {z : Int32} (hz : z.toInt = n) : z.toNatClampNeg = n := by simp only [Int32.toNatClampNeg]; omega
theorem AI.new {k : ClassId} {z : Int32} (A : Arr Z h a (newA k ty z) ty) (hz : z.toInt = n) (hd : defaultValue ty = .int 0) : AI Z h a ty n (fun _ => 0) :=
  ⟨_, A, by rw [sz_new]; exact clamp hz, fun i hi => by rw [← clamp hz] at hi; simp [newA, hi, hd]⟩
theorem AJ.new {k : ClassId} {z : Int32} (A : Arr Z h a (newA k .long z) .long) (hz : z.toInt = n) : AJ Z h a n (fun _ => 0) :=
  ⟨_, A, by rw [sz_new]; exact clamp hz, fun i hi => by rw [← clamp hz] at hi; simp [newA, hi, defaultValue]⟩
theorem AI.congr {f' : Nat → Int32} (F : AI Z h a ty n f) (e : ∀ k, k < n → f' k = f k) : AI Z h a ty n f' := by obtain ⟨c, A, r1, r2⟩ := F; exact ⟨c, A, r1, fun k hk => by rw [e k hk]; exact r2 k hk⟩
theorem AJ.congr {f' : Nat → Int64} (F : AJ Z h a n q) (e : ∀ k, k < n → f' k = q k) : AJ Z h a n f' := by obtain ⟨c, A, r1, r2⟩ := F; exact ⟨c, A, r1, fun k hk => by rw [e k hk]; exact r2 k hk⟩
theorem inb {j : Int32} {k sz : Nat} (hj : j.toInt = k) (hk : k < sz) : ¬ (j < 0 ∨ sz ≤ j.toNatClampNeg) := by
  rw [clamp hj, Int32.lt_iff_toInt_lt, hj, show (0 : Int32).toInt = 0 from rfl]; omega
theorem szI {z : Int32} (hz : z.toInt = n) : Nat.toInt32 n = z := by
  rw [← Int32.toInt_inj, len_toInt (by have := z.toInt_lt; omega), hz]
end Arrays
section Steps
variable {p : Program} {l : Launch} {e : Env} {R : Room} {s : State} {m : MethodId} {args : Array Value} {below : List Frame} {meth : Method} {c : Code} {T T' : State} {locs : List Loc} {cells slots : Nat} {P : Option Value → Heap → List Loc → Prop} {C N : Nat} {Ls : Array Slot} {S : List Value} {pc pc' : Nat} {Z : State} {h : Heap} {a : Addr} {n n0 : Nat} {f : Nat → Int32} {q : Nat → Int64} {a0 : Array Value} {ty : FieldType}
theorem getf (X : Stand p l e R s m args below meth c T locs cells slots) (hx : p.tables.exec = Jvm.exec) (hZ : Z.Warmed39 s.vm) {own R0 O n d host : String} {index : Nat} (hown : s.vm.findClass own = some m.cls) (w : (Cond.fieldLink own index R0 n d).before a0 Z = true ∨ (Cond.fieldLinkNest own index R0 n d host).before a0 Z = true) (via : Via Z R0 O n d)
    (eT : T.heap = h) {v : Value} (F : Fld Z h a O n d v) (hd : decode c.code pc = .ok (.getfield index, 3)) (hq : pc + 3 = pc') (K : ∀ T', Stand p l e R s m args below meth c T' locs cells slots → T'.heap = h → Gl p e below s P C N T' (mkF m pc' Ls (v :: S))) : Gl p e below s P C N T (mkF m pc Ls (.ref a :: S)) := by
  subst hq
  obtain ⟨T', X', e', st⟩ := getF X hx hZ hown w via eT F (g := mkF m pc Ls (.ref a :: S)) rfl rfl hd
  exact s2 _ st (K T' X' e')
theorem gets (X : Stand p l e R s m args below meth c T locs cells slots) (hx : p.tables.exec = Jvm.exec) (hZ : Z.Warmed39 s.vm) {own R0 O n d host : String} {index : Nat} (hown : s.vm.findClass own = some m.cls) (w : (Cond.fieldLink own index R0 n d).before a0 Z = true ∨ (Cond.fieldLinkNest own index R0 n d host).before a0 Z = true) (via : Via Z R0 O n d)
    (eT : T.heap = h) {v : Value} (F : Sta Z h O n d v) (hd : decode c.code pc = .ok (.getstatic index, 3)) (hq : pc + 3 = pc') (K : ∀ T', Stand p l e R s m args below meth c T' locs cells slots → T'.heap = h → Gl p e below s P C N T' (mkF m pc' Ls (v :: S))) : Gl p e below s P C N T (mkF m pc Ls S) := by
  subst hq
  obtain ⟨T', X', e', st⟩ := getS2 X hx hZ hown w via eT F (g := mkF m pc Ls S) rfl hd
  exact s2 _ st (K T' X' e')
theorem putf (X : Stand p l e R s m args below meth c T locs cells slots) (hx : p.tables.exec = Jvm.exec) (hZ : Z.Warmed39 s.vm) {own R0 O n d host Cl : String} {index kk : Nat} (hown : s.vm.findClass own = some m.cls) (w : (Cond.fieldLink own index R0 n d).before a0 Z = true ∨ (Cond.fieldLinkNest own index R0 n d host).before a0 Z = true) (via : Via Z R0 O n d)
    (eT : T.heap = h) {v old : Value} (F : Fld Z h a O n d old) (E : Exa Z h a Cl) (L : (Cond.lays Cl O n d).before a0 Z = true ∨ ((Cond.laysFinal Cl O n d).before a0 Z = true ∧ own = O ∧ meth.name = "<init>")) (wi : (Cond.instantiable Cl kk).before a0 Z = true)
    (hty : parseFieldDescriptor d = some ty) (hn : narrow ty v = v) (hf : fits ty v = true) (N0 : Fr n0 locs) (ga : n0 ≤ a) (hd : decode c.code pc = .ok (.putfield index, 3)) (hq : pc + 3 = pc')
    (K : ∀ T' h' L', Stand p l e R s m args below meth c T' L' cells slots → T'.heap = h' → Wr h h' a (RoadKit.slotOf Z O n d) v → Fld Z h' a O n d v → Fr n0 L' → Gl p e below s P C N T' (mkF m pc' Ls S)) : Gl p e below s P C N T (mkF m pc Ls (v :: .ref a :: S)) := by
  subst hq
  obtain ⟨T', h', X', e', W, st⟩ := putF X hx hZ hown w via eT F E L wi hty hn hf (g := mkF m pc Ls (v :: .ref a :: S)) rfl rfl hd
  exact s2 _ st (K T' h' _ X' e' W (F.same W) (Fr.snoc X' N0 ga))
theorem newo (X : Stand p l e R s m args below meth c T locs cells slots) (hx : p.tables.exec = Jvm.exec) (hZ : Z.Warmed39 s.vm) {own Cl : String} {index n : Nat} (hown : s.vm.findClass own = some m.cls) (w : (Cond.classLink own index Cl).before a0 Z = true) (wi : (Cond.instantiable Cl n).before a0 Z = true) (wz : (Cond.initialized Cl).before a0 Z = true) (eT : T.heap = h)
    (hd : decode c.code pc = .ok (.new index, 3)) (hc : cells + 1 ≤ R.cells) (hl : slots + n ≤ R.slots) (hq : pc + 3 = pc')
    (K : ∀ T' h' a, Stand p l e R s m args below meth c T' locs (cells + 1) (slots + n) → T'.heap = h' → Ext h h' → a = h.size → Exa Z h' a Cl → (∀ {O nm d : String} {ty : FieldType}, Laid Z a0 Cl O nm d → parseFieldDescriptor d = some ty → Fld Z h' a O nm d (defaultValue ty)) → Gl p e below s P C N T' (mkF m pc' Ls (.ref a :: S))) : Gl p e below s P C N T (mkF m pc Ls S) := by
  subst hq
  obtain ⟨T', h', X', e', E, A, D, -, st⟩ := newO X hx hZ hown w wi wz eT (g := mkF m pc Ls S) rfl hd hc hl
  exact s2 _ st (K T' h' _ X' e' E rfl A D)
theorem newi (X : Stand p l e R s m args below meth c T locs cells slots) (hx : p.tables.exec = Jvm.exec) (hZ : Z.Warmed39 s.vm) {aty : ArrayType} (w : (Cond.arrayClass ty).before a0 Z = true) (hty : newarray.typeOf aty = ty) (hdv : defaultValue ty = .int 0) (eT : T.heap = h) {z : Int32} (hd : decode c.code pc = .ok (.newarray aty, 2)) (hz : z.toInt = n) {cap : Nat} (hcap : n ≤ cap) (hb : cap * 8 ≤ 536870912) (hc : cells + 1 ≤ R.cells) (hl : slots + cap ≤ R.slots) (hq : pc + 2 = pc')
    (K : ∀ T' h' a, Stand p l e R s m args below meth c T' locs (cells + 1) (slots + cap) → T'.heap = h' → Ext h h' → a = h.size → AI Z h' a ty n (fun _ => 0) → Gl p e below s P C N T' (mkF m pc' Ls (.ref a :: S))) : Gl p e below s P C N T (mkF m pc Ls (.int z :: S)) := by
  subst hq hty
  obtain ⟨T', h', k, X', e', E, A, st⟩ := newP X hx hZ w eT (g := mkF m pc Ls (.int z :: S)) rfl hd rfl (by rw [Int32.lt_iff_toInt_lt, hz, show (0 : Int32).toInt = 0 from rfl]; omega) (cap := cap) (by rw [clamp hz]; exact hcap) hb hc hl
  exact s2 _ st (K T' h' _ X' e' E rfl (AI.new A hz hdv))
theorem newj (X : Stand p l e R s m args below meth c T locs cells slots) (hx : p.tables.exec = Jvm.exec) (hZ : Z.Warmed39 s.vm) (w : (Cond.arrayClass .long).before a0 Z = true) (eT : T.heap = h) {z : Int32} (hd : decode c.code pc = .ok (.newarray .long, 2)) (hz : z.toInt = n) {cap : Nat} (hcap : n ≤ cap) (hb : cap * 8 ≤ 536870912) (hc : cells + 1 ≤ R.cells) (hl : slots + cap ≤ R.slots) (hq : pc + 2 = pc')
    (K : ∀ T' h' a, Stand p l e R s m args below meth c T' locs (cells + 1) (slots + cap) → T'.heap = h' → Ext h h' → a = h.size → AJ Z h' a n (fun _ => 0) → Gl p e below s P C N T' (mkF m pc' Ls (.ref a :: S))) : Gl p e below s P C N T (mkF m pc Ls (.int z :: S)) := by
  subst hq
  obtain ⟨T', h', k, X', e', E, A, st⟩ := newP X hx hZ (aty := .long) w eT (g := mkF m pc Ls (.int z :: S)) rfl hd rfl (by rw [Int32.lt_iff_toInt_lt, hz, show (0 : Int32).toInt = 0 from rfl]; omega) (cap := cap) (by rw [clamp hz]; exact hcap) hb hc hl
  exact s2 _ st (K T' h' _ X' e' E rfl (AJ.new A hz))
theorem ldi (X : Stand p l e R s m args below meth c T locs cells slots) (hx : p.tables.exec = Jvm.exec) (hZ : Z.Warmed39 s.vm) (eT : T.heap = h) (F : AI Z h a .int n f) {j : Int32} (k : Nat) (hj : j.toInt = k) (hk : k < n) (hd : decode c.code pc = .ok (.iaload, 1)) (hq : pc + 1 = pc')
    (K : Gl p e below s P C N T (mkF m pc' Ls (.int (f k) :: S))) : Gl p e below s P C N T (mkF m pc Ls (.int j :: .ref a :: S)) := by
  subst hq
  obtain ⟨cl, A, r1, r2⟩ := F
  exact s1 _ (fun t q => X.iaload hx (v := .int (f k)) (by rw [eT]; exact A.1) (State.isArrayOf_alike hZ.alike A.2.1) A.2.2 (inb hj (by omega)) (by rw [clamp hj]; exact r2 k hk) (g := mkF m pc Ls (.int j :: .ref a :: S)) rfl rfl hd t q) K
theorem ldz (X : Stand p l e R s m args below meth c T locs cells slots) (hx : p.tables.exec = Jvm.exec) (hZ : Z.Warmed39 s.vm) (eT : T.heap = h) (F : AI Z h a .boolean n f) {j : Int32} (k : Nat) (hj : j.toInt = k) (hk : k < n) (hd : decode c.code pc = .ok (.baload, 1)) (hq : pc + 1 = pc')
    (K : Gl p e below s P C N T (mkF m pc' Ls (.int (f k) :: S))) : Gl p e below s P C N T (mkF m pc Ls (.int j :: .ref a :: S)) := by
  subst hq
  obtain ⟨cl, A, r1, r2⟩ := F
  exact s1 _ (fun t q => X.baloadBooleans hx (v := .int (f k)) (by rw [eT]; exact A.1) (State.isArrayOf_alike hZ.alike A.2.1) A.2.2 (inb hj (by omega)) (by rw [clamp hj]; exact r2 k hk) (g := mkF m pc Ls (.int j :: .ref a :: S)) rfl rfl hd t q) K
theorem ldb (X : Stand p l e R s m args below meth c T locs cells slots) (hx : p.tables.exec = Jvm.exec) (hZ : Z.Warmed39 s.vm) (eT : T.heap = h) (F : AI Z h a .byte n f) {j : Int32} (k : Nat) (hj : j.toInt = k) (hk : k < n) (hd : decode c.code pc = .ok (.baload, 1)) (hq : pc + 1 = pc')
    (K : Gl p e below s P C N T (mkF m pc' Ls (.int (f k) :: S))) : Gl p e below s P C N T (mkF m pc Ls (.int j :: .ref a :: S)) := by
  subst hq
  obtain ⟨cl, A, r1, r2⟩ := F
  exact s1 _ (fun t q => X.baloadBytes hx (v := .int (f k)) (by rw [eT]; exact A.1) (State.isArrayOf_alike hZ.alike A.2.1) A.2.2 (inb hj (by omega)) (by rw [clamp hj]; exact r2 k hk) (g := mkF m pc Ls (.int j :: .ref a :: S)) rfl rfl hd t q) K
theorem ldj (X : Stand p l e R s m args below meth c T locs cells slots) (hx : p.tables.exec = Jvm.exec) (hZ : Z.Warmed39 s.vm) (eT : T.heap = h) (F : AJ Z h a n q) {j : Int32} (k : Nat) (hj : j.toInt = k) (hk : k < n) (hd : decode c.code pc = .ok (.laload, 1)) (hq : pc + 1 = pc')
    (K : Gl p e below s P C N T (mkF m pc' Ls (.long (q k) :: S))) : Gl p e below s P C N T (mkF m pc Ls (.int j :: .ref a :: S)) := by
  subst hq
  obtain ⟨cl, A, r1, r2⟩ := F
  exact s1 _ (fun t u => X.laload hx (v := .long (q k)) (by rw [eT]; exact A.1) (State.isArrayOf_alike hZ.alike A.2.1) A.2.2 (inb hj (by omega)) (by rw [clamp hj]; exact r2 k hk) (g := mkF m pc Ls (.int j :: .ref a :: S)) rfl rfl hd t u) K
theorem alen (X : Stand p l e R s m args below meth c T locs cells slots) (hx : p.tables.exec = Jvm.exec) (hZ : Z.Warmed39 s.vm) (eT : T.heap = h) (F : AI Z h a ty n f) {z : Int32} (hz : z.toInt = n) (hd : decode c.code pc = .ok (.arraylength, 1)) (hq : pc + 1 = pc')
    (K : Gl p e below s P C N T (mkF m pc' Ls (.int z :: S))) : Gl p e below s P C N T (mkF m pc Ls (.ref a :: S)) := by
  subst hq
  obtain ⟨cl, A, r1, r2⟩ := F
  exact s1 _ (fun t u => X.arraylength hx (by rw [eT]; exact A.1) (State.isArrayOf_alike hZ.alike A.2.1) (g := mkF m pc Ls (.ref a :: S)) rfl rfl hd t (by rw [r1, szI hz]; exact u)) K
theorem alenJ (X : Stand p l e R s m args below meth c T locs cells slots) (hx : p.tables.exec = Jvm.exec) (hZ : Z.Warmed39 s.vm) (eT : T.heap = h) (F : AJ Z h a n q) {z : Int32} (hz : z.toInt = n) (hd : decode c.code pc = .ok (.arraylength, 1)) (hq : pc + 1 = pc')
    (K : Gl p e below s P C N T (mkF m pc' Ls (.int z :: S))) : Gl p e below s P C N T (mkF m pc Ls (.ref a :: S)) := by
  subst hq
  obtain ⟨cl, A, r1, r2⟩ := F
  exact s1 _ (fun t u => X.arraylength hx (by rw [eT]; exact A.1) (State.isArrayOf_alike hZ.alike A.2.1) (g := mkF m pc Ls (.ref a :: S)) rfl rfl hd t (by rw [r1, szI hz]; exact u)) K
theorem sti (X : Stand p l e R s m args below meth c T locs cells slots) (hx : p.tables.exec = Jvm.exec) (hZ : Z.Warmed39 s.vm) (eT : T.heap = h) (F : AI Z h a .int n f) {j x : Int32} (k : Nat) (hj : j.toInt = k) (hk : k < n) (N0 : Fr n0 locs) (ga : n0 ≤ a) (hd : decode c.code pc = .ok (.iastore, 1)) (hq : pc + 1 = pc')
    (K : ∀ T' h' L', Stand p l e R s m args below meth c T' L' cells slots → T'.heap = h' → Wr h h' a k (.int x) → AI Z h' a .int n (up f k x) → Fr n0 L' → Gl p e below s P C N T' (mkF m pc' Ls S)) : Gl p e below s P C N T (mkF m pc Ls (.int x :: .int j :: .ref a :: S)) := by
  subst hq
  obtain ⟨cl, A, r1, r2⟩ := F
  obtain ⟨T', h', X', e', W, st⟩ := stI X hx hZ eT A (inb hj (by omega)) (g := mkF m pc Ls (.int x :: .int j :: .ref a :: S)) rfl rfl hd
  have N1 := Fr.snoc X' N0 ga
  rw [clamp hj] at W
  exact s2 _ st (K T' h' _ X' e' W (AI.set ⟨cl, A, r1, r2⟩ W hk) N1)
theorem stz (X : Stand p l e R s m args below meth c T locs cells slots) (hx : p.tables.exec = Jvm.exec) (hZ : Z.Warmed39 s.vm) (eT : T.heap = h) (F : AI Z h a .boolean n f) {j x x' : Int32} (hn : nar .boolean x = x') (k : Nat) (hj : j.toInt = k) (hk : k < n) (N0 : Fr n0 locs) (ga : n0 ≤ a) (hd : decode c.code pc = .ok (.bastore, 1)) (hq : pc + 1 = pc')
    (K : ∀ T' h' L', Stand p l e R s m args below meth c T' L' cells slots → T'.heap = h' → Wr h h' a k (.int x') → AI Z h' a .boolean n (up f k x') → Fr n0 L' → Gl p e below s P C N T' (mkF m pc' Ls S)) : Gl p e below s P C N T (mkF m pc Ls (.int x :: .int j :: .ref a :: S)) := by
  subst hq hn
  obtain ⟨cl, A, r1, r2⟩ := F
  obtain ⟨T', h', X', e', W, st⟩ := stZ X hx hZ eT A (inb hj (by omega)) (g := mkF m pc Ls (.int x :: .int j :: .ref a :: S)) rfl rfl hd
  have N1 := Fr.snoc X' N0 ga
  rw [clamp hj] at W
  exact s2 _ st (K T' h' _ X' e' W (AI.set ⟨cl, A, r1, r2⟩ W hk) N1)
theorem stb (X : Stand p l e R s m args below meth c T locs cells slots) (hx : p.tables.exec = Jvm.exec) (hZ : Z.Warmed39 s.vm) (eT : T.heap = h) (F : AI Z h a .byte n f) {j x x' : Int32} (hn : nar .byte x = x') (k : Nat) (hj : j.toInt = k) (hk : k < n) (N0 : Fr n0 locs) (ga : n0 ≤ a) (hd : decode c.code pc = .ok (.bastore, 1)) (hq : pc + 1 = pc')
    (K : ∀ T' h' L', Stand p l e R s m args below meth c T' L' cells slots → T'.heap = h' → Wr h h' a k (.int x') → AI Z h' a .byte n (up f k x') → Fr n0 L' → Gl p e below s P C N T' (mkF m pc' Ls S)) : Gl p e below s P C N T (mkF m pc Ls (.int x :: .int j :: .ref a :: S)) := by
  subst hq hn
  obtain ⟨cl, A, r1, r2⟩ := F
  obtain ⟨T', h', X', e', W, st⟩ := stB X hx hZ eT A (inb hj (by omega)) (g := mkF m pc Ls (.int x :: .int j :: .ref a :: S)) rfl rfl hd
  have N1 := Fr.snoc X' N0 ga
  rw [clamp hj] at W
  exact s2 _ st (K T' h' _ X' e' W (AI.set ⟨cl, A, r1, r2⟩ W hk) N1)
theorem stj (X : Stand p l e R s m args below meth c T locs cells slots) (hx : p.tables.exec = Jvm.exec) (hZ : Z.Warmed39 s.vm) (eT : T.heap = h) (F : AJ Z h a n q) {j : Int32} {x : Int64} (k : Nat) (hj : j.toInt = k) (hk : k < n) (N0 : Fr n0 locs) (ga : n0 ≤ a) (hd : decode c.code pc = .ok (.lastore, 1)) (hq : pc + 1 = pc')
    (K : ∀ T' h' L', Stand p l e R s m args below meth c T' L' cells slots → T'.heap = h' → Wr h h' a k (.long x) → AJ Z h' a n (up q k x) → Fr n0 L' → Gl p e below s P C N T' (mkF m pc' Ls S)) : Gl p e below s P C N T (mkF m pc Ls (.long x :: .int j :: .ref a :: S)) := by
  subst hq
  obtain ⟨cl, A, r1, r2⟩ := F
  obtain ⟨T', h', X', e', W, st⟩ := stJ X hx hZ eT A (inb hj (by omega)) (g := mkF m pc Ls (.long x :: .int j :: .ref a :: S)) rfl rfl hd
  have N1 := Fr.snoc X' N0 ga
  rw [clamp hj] at W
  exact s2 _ st (K T' h' _ X' e' W (AJ.set ⟨cl, A, r1, r2⟩ W hk) N1)
end Steps
end Jvm.Pilot.@@N@@.W
namespace Jvm.Pilot.@@N@@.W
open Jvm Jvm.ClassFile Sem Op Lib Jvm.Free Jvm.Stand Jvm.LawKit Jvm.RoadKit
/-! own kit, second part: int arrays that are cloned and copied -/
section Copy
variable {p : Program} {l : Launch} {e : Env} {R : Room} {s : State} {m : MethodId} {args : Array Value} {below : List Frame} {meth : Method} {c : Code} {T T' : State} {locs : List Loc} {cells slots : Nat} {P : Option Value → Heap → List Loc → Prop} {C N : Nat} {Ls : Array Slot} {S : List Value} {pc pc' : Nat} {Z : State} {h : Heap} {a b : Addr} {n n0 : Nat} {f q : Nat → Int32} {a0 : Array Value} {ty : FieldType}
theorem newie (X : Stand p l e R s m args below meth c T locs cells slots) (hx : p.tables.exec = Jvm.exec) (hZ : Z.Warmed39 s.vm) {aty : ArrayType} (w : (Cond.arrayClass ty).before a0 Z = true) (hty : newarray.typeOf aty = ty) (hdv : defaultValue ty = .int 0) (eT : T.heap = h) {z : Int32} (hd : decode c.code pc = .ok (.newarray aty, 2)) (hz : z.toInt = n) {cap : Nat} (hcap : n ≤ cap) (hb : cap * 8 ≤ 536870912) (hc : cells + 1 ≤ R.cells) (hl : slots + cap ≤ R.slots) {ad : String} (had : "[" ++ ty.toString = ad) (hq : pc + 2 = pc')
    (K : ∀ T' h' a, Stand p l e R s m args below meth c T' locs (cells + 1) (slots + cap) → T'.heap = h' → Ext h h' → a = h.size → AI Z h' a ty n (fun _ => 0) → Exa Z h' a ad → Gl p e below s P C N T' (mkF m pc' Ls (.ref a :: S))) : Gl p e below s P C N T (mkF m pc Ls (.int z :: S)) := by
  subst hq hty
  obtain ⟨T', h', k, X', e', E, A, E2, st⟩ := newPE X hx hZ w eT (g := mkF m pc Ls (.int z :: S)) rfl hd rfl (by rw [Int32.lt_iff_toInt_lt, hz, show (0 : Int32).toInt = 0 from rfl]; omega) (cap := cap) (by rw [clamp hz]; exact hcap) hb hc hl had
  exact s2 _ st (K T' h' _ X' e' E rfl (AI.new A hz hdv) E2)
theorem getD_map (n k : Nat) (g : Nat → Value) (d : Value) (hk : k < n) : ((List.range n).map g).getD k d = g k := by
  rw [List.getD_eq_getElem?_getD, List.getElem?_map, List.getElem?_range hk]; rfl
theorem AI.arv (F : AI Z h a .int n f) {z : Int32} (hz : z.toInt = n) : ∃ k, Arv Z h a k .int z ((List.range n).map fun i => .int (f i)) (.int 0) := by
  obtain ⟨cl, A, r1, r2⟩ := F
  refine ⟨cl.cls, cl, A, rfl, by rw [r1, clamp hz], by rw [Int32.lt_iff_toInt_lt, hz, show (0 : Int32).toInt = 0 from rfl]; omega, fun k hk => ?_, fun k hk => ?_⟩
  · rw [r1] at hk; rw [getD_map n k _ _ hk]; exact r2 k hk
  · rw [r1] at hk; rw [getD_map n k _ _ hk]; rfl
theorem AI.ofArv {k : ClassId} {z : Int32} {vs : List Value} {d : Value} (F : Arv Z h a k .int z vs d) (hz : z.toInt = n) (hv : ∀ i, i < n → vs.getD i d = .int (f i)) : AI Z h a .int n f := by
  obtain ⟨cl, A, -, r1, -, H, -⟩ := F
  rw [clamp hz] at r1
  exact ⟨cl, A, r1, fun i hi => by rw [H i (by omega), hv i hi]⟩
theorem cpi (X : Stand p l e R s m args below meth c T locs cells slots) (hx : p.tables.exec = Jvm.exec) (hZ : Z.Warmed39 s.vm) {own : String} {index : Nat} (hown : s.vm.findClass own = some m.cls)
    (w1 : (Cond.methodLink own index Jvm.Stand.acN).before a0 Z = true) (w2 : (Cond.native Jvm.Stand.acN).before a0 Z = true) (w3 : (Cond.static Jvm.Stand.acN).before a0 Z = true) (w4 : (Cond.initialized "java/lang/System").before a0 Z = true) (eT : T.heap = h)
    {k : Nat} {z z' nn : Int32} (A : AI Z h a .int n f) (hz : z.toInt = n) {nd : Nat} (B : AI Z h b .int nd q) (hz' : z'.toInt = nd) (hn : nn.toInt = k) (hk : k ≤ n) (hk' : k ≤ nd) (N0 : Fr n0 locs) (ge : n0 ≤ b)
    (hsize : Ls.size = c.maxLocals) (hd : decode c.code pc = .ok (.invokestatic index, 3)) (hf : 1 ≤ R.frames) {Wd : Nat} (hW : (S.map fun v => v.category).sum ≤ Wd) (hlo : Wd + 18 ≤ R.locals) (hq : pc + 3 = pc')
    (K : ∀ T' h' L', Stand p l e R s m args below meth c T' L' cells slots → T'.heap = h' → Fr n0 L' → Keep h h' [b] → AI Z h' b .int nd (fun i => if i < k then f i else q i) → Gl p e below s P C N T' (mkF m pc' Ls S)) :
    Gl p e below s P C N T (mkF m pc Ls (.int nn :: .int 0 :: .ref b :: .int 0 :: .ref a :: S)) := by
  subst hq
  obtain ⟨ka, VA⟩ := A.arv hz
  obtain ⟨kb, VB⟩ := B.arv hz'
  have c0 : (0 : Int32).toNatClampNeg = 0 := rfl
  have hnl : ¬ nn < 0 := by rw [Int32.lt_iff_toInt_lt, hn, show (0 : Int32).toInt = 0 from rfl]; omega
  obtain ⟨T', h', L', X', e', N', K', V', st⟩ := cpA X hx hZ hown w1 w2 w3 w4 eT VA VB (Or.inl ⟨rfl, rfl⟩) (sp := 0) (dp := 0) (nn := nn) (by decide) (by decide) hnl (by rw [c0, clamp hn, clamp hz]; omega) (by rw [c0, clamp hn, clamp hz']; omega) rfl (by rw [c0, clamp hn, List.length_map, List.length_range]; omega) N0 ge (g := mkF m pc Ls (.int nn :: .int 0 :: .ref b :: .int 0 :: .ref a :: S)) rfl hsize rfl hd hf (W := Wd) (by show 2 * 0 + _ ≤ _; omega) (by rw [show nativeFrameWords "java/lang/System" "arraycopy" 5 = 7 from rfl]; omega)
  refine s2 _ st (K T' h' L' X' e' N' K' (AI.ofArv V' hz' fun i hi => ?_))
  rw [c0, clamp hn, List.take_zero, List.nil_append, List.getD_eq_getElem?_getD]
  by_cases hik : i < k
  · rw [if_pos hik, List.getElem?_append_left (by rw [List.length_map, List.length_range]; exact hik), List.getElem?_map, List.getElem?_range hik]
    simp only [Option.map_some, Option.getD_some, Nat.zero_add]
    exact getD_map n i _ _ (by omega)
  · rw [if_neg hik, List.getElem?_append_right (by rw [List.length_map, List.length_range]; omega), List.length_map, List.length_range, List.getElem?_drop, Nat.zero_add, show k + (i - k) = i by omega, List.getElem?_map, List.getElem?_range hi]
    rfl
theorem clonei (X : Stand p l e R s m args below meth c T locs cells slots) (hx : p.tables.exec = Jvm.exec) (hZ : Z.Warmed39 s.vm) {own ad : String} {index : Nat} (hown : s.vm.findClass own = some m.cls)
    (w1 : (Cond.methodLink own index ⟨ad, "clone", "()Ljava/lang/Object;"⟩).before a0 Z = true) (w2 : (Cond.sameMethod ad "java/lang/Object" "clone" "()Ljava/lang/Object;").before a0 Z = true) (w3 : (Cond.native ⟨"java/lang/Object", "clone", "()Ljava/lang/Object;"⟩).before a0 Z = true)
    (w4 : (Cond.instanceMethod ⟨"java/lang/Object", "clone", "()Ljava/lang/Object;"⟩).before a0 Z = true) (w5 : (Cond.selects ad ⟨ad, "clone", "()Ljava/lang/Object;"⟩ ⟨"java/lang/Object", "clone", "()Ljava/lang/Object;"⟩).before a0 Z = true) (w6 : (Cond.castable ad "java/lang/Cloneable").before a0 Z = true)
    (eT : T.heap = h) (F : AI Z h a .int n f) (E : Exa Z h a ad) (hsize : Ls.size = c.maxLocals) (hd : decode c.code pc = .ok (.invokevirtual index, 3)) (hf : 1 ≤ R.frames) {Wd cap : Nat} (hW : (S.map fun v => v.category).sum ≤ Wd) (hl : Wd + 14 ≤ R.locals) (hcap : n ≤ cap) (hc : cells + 1 ≤ R.cells) (hsl : slots + cap ≤ R.slots) (hq : pc + 3 = pc')
    (K : ∀ T' h' b, Stand p l e R s m args below meth c T' locs (cells + 1) (slots + cap) → T'.heap = h' → Ext h h' → b = h.size → AI Z h' b .int n f → Exa Z h' b ad → Gl p e below s P C N T' (mkF m pc' Ls (.ref b :: S))) : Gl p e below s P C N T (mkF m pc Ls (.ref a :: S)) := by
  subst hq
  obtain ⟨cl, A, r1, r2⟩ := F
  obtain ⟨T', h', X', e', E', A', E2, st⟩ := cloneA X hx hZ hown w1 w2 w3 w4 w5 w6 eT A E (fitC_of A fun i hi v hv => by rw [r2 i (by omega)] at hv; cases hv; rfl) (g := mkF m pc Ls (.ref a :: S)) rfl hsize rfl hd hf (W := Wd) (cap := cap) (by show 2 * 0 + _ ≤ _; omega) hl (by omega) hc hsl
  exact s2 _ st (K T' h' _ X' e' E' rfl ⟨_, A', r1, r2⟩ E2)
theorem castc (X : Stand p l e R s m args below meth c T locs cells slots) (hx : p.tables.exec = Jvm.exec) (hZ : Z.Warmed39 s.vm) {own Kc : String} {index : Nat} (hown : s.vm.findClass own = some m.cls) (w : (Cond.classLink own index Kc).before a0 Z = true) (eT : T.heap = h) (F : Ins Z h a Kc true) (hd : decode c.code pc = .ok (.checkcast index, 3)) (hq : pc + 3 = pc')
    (K : ∀ T', Stand p l e R s m args below meth c T' locs cells slots → T'.heap = h → Gl p e below s P C N T' (mkF m pc' Ls (.ref a :: S))) : Gl p e below s P C N T (mkF m pc Ls (.ref a :: S)) := by
  subst hq
  obtain ⟨T', X', e', st⟩ := castY X hx hZ hown w eT F (g := mkF m pc Ls (.ref a :: S)) rfl rfl hd
  exact s2 _ st (K T' X' e')
end Copy
end Jvm.Pilot.@@N@@.W
namespace Jvm.Pilot.@@N@@.W
open Jvm Jvm.ClassFile Sem Op Lib Jvm.Free Jvm.Stand Jvm.LawKit Jvm.RoadKit
/-! own kit, third part: arrays of references -/
section Refs
variable {Z : State} {h h' : Heap} {a b : Addr} {ty : FieldType} {n : Nat} {f : Nat → Value} {O : ClassId → Prop}
def AR (Z : State) (h : Heap) (a : Addr) (ty : FieldType) (O : ClassId → Prop) (n : Nat) (f : Nat → Value) : Prop := ∃ c : Cell, Arr Z h a c ty ∧ O c.cls ∧ c.slots.size = n ∧ ∀ k, k < n → c.slots[k]? = some (f k)
theorem AR.lt (F : AR Z h a ty O n f) : a < h.size := by obtain ⟨c, A, -⟩ := F; exact A.lt
theorem AR.ext (F : AR Z h a ty O n f) (E : Ext h h') : AR Z h' a ty O n f := by obtain ⟨c, A, r⟩ := F; exact ⟨c, A.ext E, r⟩
theorem AR.other {sl : Nat} {v : Value} (F : AR Z h b ty O n f) (W : Wr h h' a sl v) (e : b ≠ a) : AR Z h' b ty O n f := by obtain ⟨c, A, r⟩ := F; exact ⟨c, A.other W e, r⟩
theorem AR.keep {ws : List Addr} (F : AR Z h a ty O n f) (K : Keep h h' ws) (e : a ∉ ws) : AR Z h' a ty O n f := by obtain ⟨c, A, r⟩ := F; exact ⟨c, ⟨K.2.1 a c A.1 e, A.2⟩, r⟩
theorem AR.set {j : Nat} {v : Value} (F : AR Z h a ty O n f) (W : Wr h h' a j v) (hj : j < n) : AR Z h' a ty O n (up f j v) := by
  obtain ⟨c, A, o, r1, r2⟩ := F
  refine ⟨_, A.same W, o, by rw [sz_set]; exact r1, fun k hk => ?_⟩
  rw [slots_set (by omega)]
  by_cases e : k = j
  · rw [if_pos e, e, up_same]
  · rw [if_neg e, up_other _ _ e]; exact r2 k hk
theorem AR.new {k : ClassId} {z : Int32} (A : Arr Z h a (newA k ty z) ty) (o : O k) (hz : z.toInt = n) (hd : defaultValue ty = .null) : AR Z h a ty O n (fun _ => .null) :=
  ⟨_, A, o, by rw [sz_new]; exact clamp hz, fun i hi => by rw [← clamp hz] at hi; simp [newA, hi, hd]⟩
theorem AR.sto {v : Value} (F : AR Z h a ty O n f) (hs : ∀ c : Cell, Arr Z h a c ty → O c.cls → Sto Z h a v) : Sto Z h a v := by obtain ⟨c, A, o, -⟩ := F; exact hs c A o
end Refs
section RSteps
variable {p : Program} {l : Launch} {e : Env} {R : Room} {s : State} {m : MethodId} {args : Array Value} {below : List Frame} {meth : Method} {c : Code} {T T' : State} {locs : List Loc} {cells slots : Nat} {P : Option Value → Heap → List Loc → Prop} {C N : Nat} {Ls : Array Slot} {S : List Value} {pc pc' : Nat} {Z : State} {h : Heap} {a : Addr} {n n0 : Nat} {f : Nat → Value} {a0 : Array Value} {ty : FieldType} {O : ClassId → Prop}
theorem newra (X : Stand p l e R s m args below meth c T locs cells slots) (hx : p.tables.exec = Jvm.exec) (hZ : Z.Warmed39 s.vm) {own Cl : String} {index : Nat} (hown : s.vm.findClass own = some m.cls) (hC : (FieldType.array ty).toString = Cl) (w1 : (Cond.classLink own index Cl).before a0 Z = true) (w2 : (Cond.arrayOver (.array ty)).before a0 Z = true)
    (eT : T.heap = h) {z : Int32} (hd : decode c.code pc = .ok (.anewarray index, 3)) (hz : z.toInt = n) {cap : Nat} (hcap : n ≤ cap) (hb : cap * 8 ≤ 536870912) (hc : cells + 1 ≤ R.cells) (hl : slots + cap ≤ R.slots) (hq : pc + 3 = pc')
    (K : ∀ T' h' a, Stand p l e R s m args below meth c T' locs (cells + 1) (slots + cap) → T'.heap = h' → Ext h h' → a = h.size → AR Z h' a (.array ty) (fun k => OvrA Z k ty Cl) n (fun _ => .null) → Gl p e below s P C N T' (mkF m pc' Ls (.ref a :: S))) : Gl p e below s P C N T (mkF m pc Ls (.int z :: S)) := by
  subst hq
  obtain ⟨T', h', k, X', e', E, A, -, o, st⟩ := newRA X hx hZ hown hC w1 w2 eT (g := mkF m pc Ls (.int z :: S)) rfl hd rfl (by rw [Int32.lt_iff_toInt_lt, hz, show (0 : Int32).toInt = 0 from rfl]; omega) (cap := cap) (by rw [clamp hz]; exact hcap) hb hc hl rfl
  exact s2 _ st (K T' h' _ X' e' E rfl (AR.new A o hz rfl))
theorem newr (X : Stand p l e R s m args below meth c T locs cells slots) (hx : p.tables.exec = Jvm.exec) (hZ : Z.Warmed39 s.vm) {own Cl : String} {index : Nat} (hown : s.vm.findClass own = some m.cls) (w1 : (Cond.classLink own index Cl).before a0 Z = true) (w2 : (Cond.arrayOver (.object Cl)).before a0 Z = true)
    (eT : T.heap = h) {z : Int32} (hd : decode c.code pc = .ok (.anewarray index, 3)) (hz : z.toInt = n) {cap : Nat} (hcap : n ≤ cap) (hb : cap * 8 ≤ 536870912) (hc : cells + 1 ≤ R.cells) (hl : slots + cap ≤ R.slots) (hq : pc + 3 = pc')
    (K : ∀ T' h' a, Stand p l e R s m args below meth c T' locs (cells + 1) (slots + cap) → T'.heap = h' → Ext h h' → a = h.size → AR Z h' a (.object Cl) (fun k => Ovr Z k Cl) n (fun _ => .null) → Gl p e below s P C N T' (mkF m pc' Ls (.ref a :: S))) : Gl p e below s P C N T (mkF m pc Ls (.int z :: S)) := by
  subst hq
  obtain ⟨T', h', k, X', e', E, A, o, st⟩ := newR X hx hZ hown w1 w2 eT (g := mkF m pc Ls (.int z :: S)) rfl hd rfl (by rw [Int32.lt_iff_toInt_lt, hz, show (0 : Int32).toInt = 0 from rfl]; omega) (cap := cap) (by rw [clamp hz]; exact hcap) hb hc hl
  exact s2 _ st (K T' h' _ X' e' E rfl (AR.new A o hz rfl))
theorem ldr (X : Stand p l e R s m args below meth c T locs cells slots) (hx : p.tables.exec = Jvm.exec) (hZ : Z.Warmed39 s.vm) (eT : T.heap = h) (F : AR Z h a ty O n f) (hty : ty.isReference = true) {j : Int32} (k : Nat) (hj : j.toInt = k) (hk : k < n) (hd : decode c.code pc = .ok (.aaload, 1)) (hq : pc + 1 = pc')
    (K : Gl p e below s P C N T (mkF m pc' Ls (f k :: S))) : Gl p e below s P C N T (mkF m pc Ls (.int j :: .ref a :: S)) := by
  subst hq
  obtain ⟨cl, A, -, r1, r2⟩ := F
  exact s1 _ (fun t q => X.aaload hx (v := f k) (by rw [eT]; exact A.1) (State.isArrayOf_alike hZ.alike A.2.1) hty A.2.2 (inb hj (by omega)) (by rw [clamp hj]; exact r2 k hk) (g := mkF m pc Ls (.int j :: .ref a :: S)) rfl rfl hd t q) K
theorem alenR (X : Stand p l e R s m args below meth c T locs cells slots) (hx : p.tables.exec = Jvm.exec) (hZ : Z.Warmed39 s.vm) (eT : T.heap = h) (F : AR Z h a ty O n f) {z : Int32} (hz : z.toInt = n) (hd : decode c.code pc = .ok (.arraylength, 1)) (hq : pc + 1 = pc')
    (K : Gl p e below s P C N T (mkF m pc' Ls (.int z :: S))) : Gl p e below s P C N T (mkF m pc Ls (.ref a :: S)) := by
  subst hq
  obtain ⟨cl, A, -, r1, r2⟩ := F
  exact s1 _ (fun t u => X.arraylength hx (by rw [eT]; exact A.1) (State.isArrayOf_alike hZ.alike A.2.1) (g := mkF m pc Ls (.ref a :: S)) rfl rfl hd t (by rw [r1, szI hz]; exact u)) K
theorem str (X : Stand p l e R s m args below meth c T locs cells slots) (hx : p.tables.exec = Jvm.exec) (hZ : Z.Warmed39 s.vm) (eT : T.heap = h) (F : AR Z h a ty O n f) (hty : ty.isReference = true) {j : Int32} {v : Value} (hs : Sto Z h a v) (k : Nat) (hj : j.toInt = k) (hk : k < n) (N0 : Fr n0 locs) (ga : n0 ≤ a) (hd : decode c.code pc = .ok (.aastore, 1)) (hq : pc + 1 = pc')
    (K : ∀ T' h' L', Stand p l e R s m args below meth c T' L' cells slots → T'.heap = h' → Wr h h' a k v → AR Z h' a ty O n (up f k v) → Fr n0 L' → Gl p e below s P C N T' (mkF m pc' Ls S)) : Gl p e below s P C N T (mkF m pc Ls (v :: .int j :: .ref a :: S)) := by
  subst hq
  obtain ⟨cl, A, o, r1, r2⟩ := F
  obtain ⟨T', h', X', e', W, st⟩ := stR X hx hZ eT A (inb hj (by omega)) hty hs (g := mkF m pc Ls (v :: .int j :: .ref a :: S)) rfl rfl hd
  have N1 := Fr.snoc X' N0 ga
  rw [clamp hj] at W
  exact s2 _ st (K T' h' _ X' e' W (AR.set ⟨cl, A, o, r1, r2⟩ W hk) N1)
theorem privSel {Cl : String} {k : Nat} {y : MethodName} (hZ : Z.Warmed39 s.vm) (wi : (Cond.instantiable Cl k).before a0 Z = true) (wp : (Cond.privateMethod y).before a0 Z = true) (wn : (Cond.instanceMethod y).before a0 Z = true) (hyc : y.cls = Cl) (hy : y.cls ≠ "java/lang/invoke/MethodHandle" ∧ y.cls ≠ "java/lang/invoke/VarHandle") : (Cond.selects y.cls y y).before args s = true := by
  subst hyc
  obtain ⟨c, k, h1, h2, h3, h4, -⟩ := Cond.instantiable_spec (mvT hZ wi (args := args) : (Cond.instantiable y.cls k).before args s = true)
  exact selects_self_of_private h1 h2 (Bool.or_eq_false_iff.mp h4).1 (Cond.privateMethod_at (mvP hZ wp (args := args))) (mvT hZ wn) hy
theorem dupX2 {tb : Tables} [Ours tb] {e : Env} {below : List Frame} {T target : State} {m : MethodId} {c : Code} {g : JFrame} (h : At T m c below) (hx : tb.exec = Jvm.exec) (hg : g.method = m) {x y z : Value} {rest : List Value} (hd : decode c.code g.pc = .ok (.dup_x2, 1)) (hs : g.stack = x :: y :: z :: rest) (hc : x.category = 1) (hc' : y.category = 1) (hc'' : z.category = 1)
    (hr : Steps tb e below (T.setTop { g with pc := g.pc + 1, stack := x :: y :: z :: x :: rest }) target) : Steps tb e below (T.setTop g) target := by
  subst hg
  jvm_step h [h.top, hx, hd, hs, hc, hc', hc'']
  first | exact hr | exact ⟨_, _, ⟨rfl, rfl⟩, hc'', hr⟩ | exact ⟨_, _, rfl, hc'', hr⟩ | simpa using hr
end RSteps
end Jvm.Pilot.@@N@@.W
namespace Jvm.Pilot.@@N@@
open Jvm Jvm.ClassFile Sem Op Lib Jvm.Free Jvm.Stand Jvm.LawKit Jvm.RoadKit Bundle Jvm.Pilot.@@N@@.Jvm.D
theorem own_eqI {args : Array Value} {Z : State} {t : Term} {k : Int32} (h : (Jvm.Cond.eq t (.int k)).value args Z none Z [] = some true) : t.eval args Z none [] Z = some (.int k) := by
  obtain ⟨x, y, h1, h2, k1, k2⟩ := cmp_v (Or.inl h)
  cases (Term.int_eval k).symm.trans h2
  obtain ⟨z, rfl⟩ := k2
  have := gotT (Cond.eq_ints h1 (Term.int_eval k)) h
  rw [h1, this]
theorem own_eqJ {args : Array Value} {Z : State} {t : Term} {k : Int64} (h : (Jvm.Cond.eq t (.long k)).value args Z none Z [] = some true) : t.eval args Z none [] Z = some (.long k) := by
  obtain ⟨x, y, h1, h2, k1, k2⟩ := cmp_v (Or.inl h)
  have e : (Term.long k).eval args Z none [] Z = some (.long k) := rfl
  cases e.symm.trans h2
  obtain ⟨z, rfl⟩ := k2
  have := gotT (eq_L h1 e) h
  rw [h1, this]
def own_BI (Z : State) (h : Heap) (a : Addr) (sg : Int32) (n : Nat) (f : Nat → Int32) : Prop := ∃ zm : Addr, Exa Z h a "java/math/BigInteger" ∧ Fld Z h a "java/math/BigInteger" "signum" "I" (.int sg) ∧ Fld Z h a "java/math/BigInteger" "mag" "[I" (.ref zm) ∧ W.AI Z h zm .int n f ∧ n ≤ 2 ∧ (sg = 0 ∨ sg = 1 ∨ sg = -1) ∧ (¬ sg = 0 → 1 ≤ n)
theorem own_BI.keep {Z : State} {h h' : Heap} {a : Addr} {sg : Int32} {n : Nat} {f : Nat → Int32} (H : own_BI Z h a sg n f) (K : Keep h h' []) : own_BI Z h' a sg n f := by
  obtain ⟨zm, d1, d2, d3, d4, r⟩ := H; exact ⟨zm, d1.keep K, d2.keep K nin0, d3.keep K nin0, d4.keep K nin0, r⟩
theorem own_BI.ext {Z : State} {h h' : Heap} {a : Addr} {sg : Int32} {n : Nat} {f : Nat → Int32} (H : own_BI Z h a sg n f) (E : Ext h h') : own_BI Z h' a sg n f := by
  obtain ⟨zm, d1, d2, d3, d4, r⟩ := H; exact ⟨zm, d1.ext E, d2.ext E, d3.ext E, d4.ext E, r⟩
theorem own_nz {n : Nat} (h : n ≤ 2) : (Int32.ofNat n).toInt = n := Int32.toInt_ofNat_small (by omega)
def own_RA (Z : State) (h : Heap) (a aO : Addr) (sg : Int32) (n : Nat) (f : Nat → Int32) : Prop := ∃ an : Addr, Exa Z h a "com/example/hybridge/hybridge/model/Rational" ∧ Fld Z h a "com/example/hybridge/hybridge/model/Rational" "numerator" "Ljava/math/BigInteger;" (.ref an) ∧ Fld Z h a "com/example/hybridge/hybridge/model/Rational" "denominator" "Ljava/math/BigInteger;" (.ref aO) ∧ own_BI Z h an sg n f
theorem own_RA.keep {Z : State} {h h' : Heap} {a aO : Addr} {sg : Int32} {n : Nat} {f : Nat → Int32} (H : own_RA Z h a aO sg n f) (K : Keep h h' []) : own_RA Z h' a aO sg n f := by
  obtain ⟨zm, d1, d2, d3, d4⟩ := H; exact ⟨zm, d1.keep K, d2.keep K nin0, d3.keep K nin0, d4.keep K⟩
abbrev own_ult (x y : Int32) : Prop := (x.toInt64 &&& (4294967295 : Int64)) < (y.toInt64 &&& (4294967295 : Int64))
theorem own_um (x : Int32) : (x.toInt64 &&& (4294967295 : Int64)).toInt = x.toInt % 4294967296 := by
  have h := c_maskL x.toInt64 (4294967295 : Int64) 32 (by decide) (by first | rfl | decide +kernel)
  rw [c_i2l] at h
  first | omega | exact h
theorem own_tri {x y : Int32} (h : ¬ x = y) : (own_ult x y ∧ ¬ own_ult y x) ∨ (own_ult y x ∧ ¬ own_ult x y) := by
  unfold own_ult
  rw [Int64.lt_iff_toInt_lt, Int64.lt_iff_toInt_lt, own_um, own_um]
  have h1 := rng32 x
  have h2 := rng32 y
  have h3 : x.toInt ≠ y.toInt := fun q => h (Int32.toInt_inj.mp q)
  omega
def own_cl (f g : Nat → Int32) (j : Nat) : Nat → Int32
  | 0 => 0
  | q + 1 => if f j = g j then own_cl f g (j + 1) q else if own_ult (f j) (g j) then -1 else 1
theorem own_cl1 {f g : Nat → Int32} {j q : Nat} (h : f j = g j) : own_cl f g j (q + 1) = own_cl f g (j + 1) q := by first | (rw [own_cl, if_pos h]; done) | exact if_pos h
theorem own_cl2 {f g : Nat → Int32} {j q : Nat} (h : ¬ f j = g j) (h2 : own_ult (f j) (g j)) : own_cl f g j (q + 1) = -1 := by first | (rw [own_cl, if_neg h, if_pos h2]; done) | exact (if_neg h).trans (if_pos h2)
theorem own_cl3 {f g : Nat → Int32} {j q : Nat} (h : ¬ f j = g j) (h2 : ¬ own_ult (f j) (g j)) : own_cl f g j (q + 1) = 1 := by first | (rw [own_cl, if_neg h, if_neg h2]; done) | exact (if_neg h).trans (if_neg h2)
theorem own_cla (f g : Nat → Int32) : ∀ (q j : Nat), own_cl g f j q = -own_cl f g j q
  | 0, j => show (0 : Int32) = -0 by decide
  | q + 1, j => by
    by_cases h : f j = g j
    · rw [own_cl1 (f := f) (g := g) (j := j) (q := q) h, own_cl1 (f := g) (g := f) (j := j) (q := q) h.symm]; exact own_cla f g q (j + 1)
    · have h' : ¬ g j = f j := fun z => h z.symm
      rcases own_tri h with ⟨a, b⟩ | ⟨a, b⟩
      · rw [own_cl2 (f := f) (g := g) (j := j) (q := q) h a, own_cl3 (f := g) (g := f) (j := j) (q := q) h' b] <;> decide
      · rw [own_cl3 (f := f) (g := g) (j := j) (q := q) h b, own_cl2 (f := g) (g := f) (j := j) (q := q) h' a] <;> decide
theorem own_cl0 (f g : Nat → Int32) : ∀ (q j : Nat), own_cl f g j q = 0 ∨ own_cl f g j q = 1 ∨ own_cl f g j q = -1
  | 0, _ => Or.inl rfl
  | q + 1, j => by
    by_cases h : f j = g j
    · rw [own_cl1 (f := f) (g := g) (j := j) (q := q) h]; exact own_cl0 f g q (j + 1)
    · rcases own_tri h with ⟨a, b⟩ | ⟨a, b⟩
      · exact Or.inr (Or.inr (own_cl2 (f := f) (g := g) (j := j) (q := q) h a))
      · exact Or.inr (Or.inl (own_cl3 (f := f) (g := g) (j := j) (q := q) h b))
def own_cm (n : Nat) (f : Nat → Int32) (k : Nat) (g : Nat → Int32) : Int32 := if n < k then -1 else if k < n then 1 else own_cl f g 0 n
theorem own_cma (n : Nat) (f : Nat → Int32) (k : Nat) (g : Nat → Int32) : own_cm k g n f = -own_cm n f k g := by
  unfold own_cm
  by_cases h : n < k
  · rw [if_neg (show ¬ k < n by omega), if_pos h, if_pos h] <;> decide
  · by_cases h2 : k < n
    · rw [if_pos h2, if_neg h, if_pos h2]
    · rw [if_neg h2, if_neg h, if_neg h, if_neg h2, show k = n by omega]; exact own_cla f g n 0
theorem own_cm0 (n : Nat) (f : Nat → Int32) (k : Nat) (g : Nat → Int32) : own_cm n f k g = 0 ∨ own_cm n f k g = 1 ∨ own_cm n f k g = -1 := by
  unfold own_cm
  by_cases h : n < k
  · rw [if_pos h]; exact Or.inr (Or.inr rfl)
  · by_cases h2 : k < n
    · rw [if_neg h, if_pos h2]; exact Or.inr (Or.inl rfl)
    · rw [if_neg h, if_neg h2]; exact own_cl0 f g n 0
def own_cmp (s : Int32) (n : Nat) (f : Nat → Int32) (t : Int32) (k : Nat) (g : Nat → Int32) : Int32 := if s = t then (if s = 1 then own_cm n f k g else if s = -1 then own_cm k g n f else 0) else if t < s then 1 else -1
theorem own_cmp0 (s : Int32) (n : Nat) (f : Nat → Int32) (t : Int32) (k : Nat) (g : Nat → Int32) : own_cmp s n f t k g = 0 ∨ own_cmp s n f t k g = 1 ∨ own_cmp s n f t k g = -1 := by
  unfold own_cmp
  by_cases h : s = t
  · rw [if_pos h]
    by_cases h1 : s = 1
    · rw [if_pos h1]; exact own_cm0 _ _ _ _
    · rw [if_neg h1]
      by_cases h2 : s = -1
      · rw [if_pos h2]; exact own_cm0 _ _ _ _
      · rw [if_neg h2]; exact Or.inl rfl
  · rw [if_neg h]
    by_cases h1 : t < s
    · rw [if_pos h1]; exact Or.inr (Or.inl rfl)
    · rw [if_neg h1]; exact Or.inr (Or.inr rfl)
theorem own_cmpa (s : Int32) (n : Nat) (f : Nat → Int32) (t : Int32) (k : Nat) (g : Nat → Int32) : own_cmp t k g s n f = -own_cmp s n f t k g := by
  unfold own_cmp
  by_cases h : s = t
  · subst h
    rw [if_pos rfl, if_pos rfl]
    by_cases h1 : s = 1
    · rw [if_pos h1, if_pos h1]; exact own_cma n f k g
    · rw [if_neg h1, if_neg h1]
      by_cases h2 : s = -1
      · rw [if_pos h2, if_pos h2]; exact own_cma k g n f
      · rw [if_neg h2, if_neg h2] <;> decide
  · have h' : ¬ t = s := fun q => h q.symm
    rw [if_neg h, if_neg h']
    have h0 : s.toInt ≠ t.toInt := fun q => h (Int32.toInt_inj.mp q)
    by_cases h1 : t < s
    · have h3 : ¬ s < t := fun q => by have q1 := Int32.lt_iff_toInt_lt.mp q; have q2 := Int32.lt_iff_toInt_lt.mp h1; omega
      rw [if_pos h1, if_neg h3]
    · have h3 : s < t := Int32.lt_iff_toInt_lt.mpr (by have q2 : ¬ t.toInt < s.toInt := fun q => h1 (Int32.lt_iff_toInt_lt.mpr q); omega)
      rw [if_neg h1, if_pos h3] <;> decide
def own_rel (s : Int32) (n : Nat) (f : Nat → Int32) (t : Int32) (k : Nat) (g : Nat → Int32) : Prop := (s = 0 ∧ t = 0) ∨ (¬ s = 0 ∧ t = s ∧ k = n ∧ g = f)
theorem own_cmpz (n : Nat) (f : Nat → Int32) (k : Nat) (g : Nat → Int32) : own_cmp 0 n f 0 k g = 0 := by
  unfold own_cmp; rw [if_pos rfl, if_neg (show ¬ (0 : Int32) = 1 by decide), if_neg (show ¬ (0 : Int32) = -1 by decide)]
theorem own_cmpm {s : Int32} {n : Nat} {f : Nat → Int32} {s' : Int32} {n' : Nat} {f' : Nat → Int32} {t : Int32} {k : Nat} {g : Nat → Int32} {t' : Int32} {k' : Nat} {g' : Nat → Int32} (h1 : own_rel s n f s' n' f') (h2 : own_rel t k g t' k' g') : own_cmp s' n' f' t' k' g' = own_cmp s n f t k g := by
  rcases h1 with ⟨rfl, rfl⟩ | ⟨a, rfl, rfl, rfl⟩
  · rcases h2 with ⟨rfl, rfl⟩ | ⟨b, rfl, rfl, rfl⟩
    · rw [own_cmpz, own_cmpz]
    · unfold own_cmp; rw [if_neg (Ne.symm b), if_neg (Ne.symm b)]
  · rcases h2 with ⟨rfl, rfl⟩ | ⟨b, rfl, rfl, rfl⟩
    · unfold own_cmp; rw [if_neg a, if_neg a]
    · rfl
def own_h : Nat → Int32 → Prop
  | 0, x => x < 0
  | 1, x => ¬ (0 : Int32) < x
  | 2, x => x = 0
  | 3, x => ¬ x < 0
  | _, x => (0 : Int32) < x
theorem own_hs (i : Fin 5) {x : Int32} (hx : x = 0 ∨ x = 1 ∨ x = -1) : own_h (4 - i.1) (-x) ↔ own_h i.1 x := by
  have e0 : ((0 : Int32) < -x) ↔ (x < 0) := by rcases hx with rfl | rfl | rfl <;> decide
  have e1 : (¬ -x < (0 : Int32)) ↔ (¬ (0 : Int32) < x) := by rcases hx with rfl | rfl | rfl <;> decide
  have e2 : (-x = (0 : Int32)) ↔ (x = 0) := by rcases hx with rfl | rfl | rfl <;> decide
  have e3 : (¬ (0 : Int32) < -x) ↔ (¬ x < 0) := by rcases hx with rfl | rfl | rfl <;> decide
  have e4 : (-x < (0 : Int32)) ↔ ((0 : Int32) < x) := by rcases hx with rfl | rfl | rfl <;> decide
  obtain ⟨k, hk⟩ := i
  rcases (show k = 0 ∨ k = 1 ∨ k = 2 ∨ k = 3 ∨ k = 4 by omega) with rfl | rfl | rfl | rfl | rfl
  · show own_h 4 (-x) ↔ own_h 0 x; exact e0
  · show own_h 3 (-x) ↔ own_h 1 x; exact e1
  · show own_h 2 (-x) ↔ own_h 2 x; exact e2
  · show own_h 1 (-x) ↔ own_h 3 x; exact e3
  · show own_h 0 (-x) ↔ own_h 4 x; exact e4
theorem pn_0 : plainName "java/lang/Number" = true := by first | (simp [plainName, overriddenIn]; done) | decide +kernel
theorem ef_7 (m : MethodId) (x0 : Addr) : entryFrame m #[(.ref x0)] 1 = mkF m 0 #[.val (.ref x0)] [] := by first | (simp [entryFrame, mkF, argsToLocals, Value.category]; done) | rfl
theorem d7_0 : decode jdk_18_method_1_code 0 = .ok (.aload_n 0, 1) := by decide +kernel
theorem d7_1 : decode jdk_18_method_1_code 1 = .ok (.invokespecial 1, 3) := by decide +kernel
theorem d7_4 : decode jdk_18_method_1_code 4 = .ok (.return_, 1) := by decide +kernel
def Q7 (Z : State) (ao : Addr) (h0 : Heap) (n0 : Nat) (v : Option Value) (h : Heap) (L : List Loc) : Prop := v = none ∧ Fr n0 L ∧ h = h0
set_option maxRecDepth 65536 in
set_option maxHeartbeats 40000000 in
theorem rm7 (l : Launch) (Z : State) (a0 : Array Value) (hw : ∀ d ∈ tables_1, d.before a0 Z = true) (ws : List Jvm.Cond) (ao : Addr) (h0 : Heap) (n0 : Nat) (Z0 : n0 ≤ h0.size) :
    MetFree l (⟨"java/lang/Number", "<init>", "()V"⟩ : MethodName) (head1 (Jvm.Cond.code (⟨"java/lang/Number", "<init>", "()V"⟩ : MethodName) jdk_18_method_1_code 1 none :: ws) ({ frames := 1, cells := 0, slots := 0, locals := 12 } : Room)) (fun a U => a = #[(.ref ao)] ∧ Z.Warmed39 U.vm ∧ U.heap = h0) (fun _ _ _ _ _ => True) (fun _ U o U' => ∃ v L, o = .returned v ∧ Q7 Z ao h0 n0 v U'.heap L ∧ FrameEnd U o U' L ({ frames := 1, cells := 0, slots := 0, locals := 12 } : Room).cells ({ frames := 1, cells := 0, slots := 0, locals := 12 } : Room).slots) := by
  refine MetFree.of_bodySF (plainFor_of_name pn_0) hisR ?_
  intro p e s m args below meth c s₁ Bd hml0 hP hK
  obtain ⟨rfl, hZ, hh⟩ := hP
  have hx := Bd.exec
  have hby := Bd.bytes
  have hml : c.maxLocals = 1 := hml0
  have hown : s.vm.findClass "java/lang/Number" = some m.cls := findClass_of_methodNamed Bd.named
  have hnm := (name_of_methodNamed Bd.named Bd.method).1
  have hlk : meth.locks = false := BodyLoose.notSynchronized Bd
  have X0 : Stand p l e ({ frames := 1, cells := 0, slots := 0, locals := 12 } : Room) s m #[(.ref ao)] below meth c s₁ [] 0 0 := Stand.of_body Bd
  have e0 : s₁.heap = h0 := by rw [← hh, Bd.state]; rfl
  have N0 := Fr.nil n0
  show W.Gl p e below s (Q7 Z ao h0 n0) ({ frames := 1, cells := 0, slots := 0, locals := 12 } : Room).cells ({ frames := 1, cells := 0, slots := 0, locals := 12 } : Room).slots s₁ (entryFrame m #[(.ref ao)] 1)
  refine W.cast (ef_7 m ao) ?_
  refine W.s1 (mkF m 1 #[.val (.ref ao)] [(.ref ao)]) (fun _ kx_ => XS.aloadN X0.here hx rfl (hb hby d7_0) rfl rfl kx_) ?_
  obtain ⟨T101, X101, e101, st101⟩ := initO X0 hx hZ hown (hw _ (List.mem_of_getElem? (i := 44) rfl)) (hw _ (List.mem_of_getElem? (i := 25) rfl)) (hw _ (List.mem_of_getElem? (i := 26) rfl)) e0 (g := (mkF m 1 #[.val (.ref ao)] [(.ref ao)])) rfl (by rw [hml]; rfl) rfl (hb hby d7_1) (by decide) (W := 0) (by show 2 * 0 + _ ≤ _; exact Nat.le_of_eq rfl) (by decide)
  refine W.s2 (mkF m 4 #[.val (.ref ao)] []) st101 ?_
  exact W.ret0 X101 hx hlk Bd.returns (hb hby d7_4) (by show Q7 Z ao h0 n0 _ T101.heap _; rw [e101]; exact ⟨rfl, N0, rfl⟩) (by decide) (by decide)
theorem pn_1 : plainName "java/math/BigInteger" = true := by first | (simp [plainName, overriddenIn]; done) | decide +kernel
theorem ef_6 (m : MethodId) (x0 : Addr) (x1 : Int64) : entryFrame m #[(.ref x0), (.long x1)] 4 = mkF m 0 #[.val (.ref x0), .val (.long x1), .second, .unset] [] := by first | (simp [entryFrame, mkF, argsToLocals, Value.category]; done) | rfl
theorem d6_0 : decode jdk_2097_method_30_code 0 = .ok (.aload_n 0, 1) := by decide +kernel
theorem d6_1 : decode jdk_2097_method_30_code 1 = .ok (.invokespecial 3, 3) := by decide +kernel
theorem pd_0 : parseMethodDescriptor "()V" = some ⟨[], none⟩ := by decide +kernel
theorem d6_4 : decode jdk_2097_method_30_code 4 = .ok (.lload_n 1, 1) := by decide +kernel
theorem d6_5 : decode jdk_2097_method_30_code 5 = .ok (.lconst 0, 1) := by decide +kernel
theorem d6_6 : decode jdk_2097_method_30_code 6 = .ok (.lcmp, 1) := by decide +kernel
theorem d6_7 : decode jdk_2097_method_30_code 7 = .ok (.ifCond .ge 14, 3) := by decide +kernel
theorem d6_21 : decode jdk_2097_method_30_code 21 = .ok (.aload_n 0, 1) := by decide +kernel
theorem d6_22 : decode jdk_2097_method_30_code 22 = .ok (.iconst 1, 1) := by decide +kernel
theorem d6_23 : decode jdk_2097_method_30_code 23 = .ok (.putfield 32, 3) := by decide +kernel
theorem d6_26 : decode jdk_2097_method_30_code 26 = .ok (.lload_n 1, 1) := by decide +kernel
theorem d6_27 : decode jdk_2097_method_30_code 27 = .ok (.bipush 32, 2) := by decide +kernel
theorem d6_29 : decode jdk_2097_method_30_code 29 = .ok (.lushr, 1) := by decide +kernel
theorem d6_30 : decode jdk_2097_method_30_code 30 = .ok (.l2i, 1) := by decide +kernel
theorem d6_31 : decode jdk_2097_method_30_code 31 = .ok (.istore_n 3, 1) := by decide +kernel
theorem d6_32 : decode jdk_2097_method_30_code 32 = .ok (.iload_n 3, 1) := by decide +kernel
theorem d6_33 : decode jdk_2097_method_30_code 33 = .ok (.ifCond .ne 21, 3) := by decide +kernel
theorem d6_54 : decode jdk_2097_method_30_code 54 = .ok (.aload_n 0, 1) := by decide +kernel
theorem d6_55 : decode jdk_2097_method_30_code 55 = .ok (.iconst 2, 1) := by decide +kernel
theorem d6_56 : decode jdk_2097_method_30_code 56 = .ok (.newarray .int, 2) := by decide +kernel
theorem d6_58 : decode jdk_2097_method_30_code 58 = .ok (.putfield 28, 3) := by decide +kernel
theorem d6_61 : decode jdk_2097_method_30_code 61 = .ok (.aload_n 0, 1) := by decide +kernel
theorem d6_62 : decode jdk_2097_method_30_code 62 = .ok (.getfield 28, 3) := by decide +kernel
theorem d6_65 : decode jdk_2097_method_30_code 65 = .ok (.iconst 0, 1) := by decide +kernel
theorem d6_66 : decode jdk_2097_method_30_code 66 = .ok (.iload_n 3, 1) := by decide +kernel
theorem d6_67 : decode jdk_2097_method_30_code 67 = .ok (.iastore, 1) := by decide +kernel
theorem d6_68 : decode jdk_2097_method_30_code 68 = .ok (.aload_n 0, 1) := by decide +kernel
theorem d6_69 : decode jdk_2097_method_30_code 69 = .ok (.getfield 28, 3) := by decide +kernel
theorem d6_72 : decode jdk_2097_method_30_code 72 = .ok (.iconst 1, 1) := by decide +kernel
theorem d6_73 : decode jdk_2097_method_30_code 73 = .ok (.lload_n 1, 1) := by decide +kernel
theorem d6_74 : decode jdk_2097_method_30_code 74 = .ok (.l2i, 1) := by decide +kernel
theorem d6_75 : decode jdk_2097_method_30_code 75 = .ok (.iastore, 1) := by decide +kernel
theorem d6_76 : decode jdk_2097_method_30_code 76 = .ok (.return_, 1) := by decide +kernel
theorem d6_36 : decode jdk_2097_method_30_code 36 = .ok (.aload_n 0, 1) := by decide +kernel
theorem d6_37 : decode jdk_2097_method_30_code 37 = .ok (.iconst 1, 1) := by decide +kernel
theorem d6_38 : decode jdk_2097_method_30_code 38 = .ok (.newarray .int, 2) := by decide +kernel
theorem d6_40 : decode jdk_2097_method_30_code 40 = .ok (.putfield 28, 3) := by decide +kernel
theorem d6_43 : decode jdk_2097_method_30_code 43 = .ok (.aload_n 0, 1) := by decide +kernel
theorem d6_44 : decode jdk_2097_method_30_code 44 = .ok (.getfield 28, 3) := by decide +kernel
theorem d6_47 : decode jdk_2097_method_30_code 47 = .ok (.iconst 0, 1) := by decide +kernel
theorem d6_48 : decode jdk_2097_method_30_code 48 = .ok (.lload_n 1, 1) := by decide +kernel
theorem d6_49 : decode jdk_2097_method_30_code 49 = .ok (.l2i, 1) := by decide +kernel
theorem d6_50 : decode jdk_2097_method_30_code 50 = .ok (.iastore, 1) := by decide +kernel
theorem d6_51 : decode jdk_2097_method_30_code 51 = .ok (.goto 25, 3) := by decide +kernel
theorem d6_10 : decode jdk_2097_method_30_code 10 = .ok (.lload_n 1, 1) := by decide +kernel
theorem d6_11 : decode jdk_2097_method_30_code 11 = .ok (.lneg, 1) := by decide +kernel
theorem d6_12 : decode jdk_2097_method_30_code 12 = .ok (.lstore_n 1, 1) := by decide +kernel
theorem d6_13 : decode jdk_2097_method_30_code 13 = .ok (.aload_n 0, 1) := by decide +kernel
theorem d6_14 : decode jdk_2097_method_30_code 14 = .ok (.iconst (-1), 1) := by decide +kernel
theorem d6_15 : decode jdk_2097_method_30_code 15 = .ok (.putfield 32, 3) := by decide +kernel
theorem d6_18 : decode jdk_2097_method_30_code 18 = .ok (.goto 8, 3) := by decide +kernel
def Q6 (Z : State) (ao : Addr) (yv : Int64) (u1 : Value) (u2 : Value) (h0 : Heap) (n0 : Nat) (v : Option Value) (h : Heap) (L : List Loc) : Prop := v = none ∧ Fr n0 L ∧ Keep h0 h [ao] ∧ ∃ (sg : Int32) (n : Nat) (f : Nat → Int32), own_BI Z h ao sg n f
set_option maxRecDepth 65536 in
set_option maxHeartbeats 40000000 in
theorem rm6 (l : Launch) (Z : State) (a0 : Array Value) (hw : ∀ d ∈ tables_1, d.before a0 Z = true) (ws : List Jvm.Cond) (ao : Addr) (yv : Int64) (u1 : Value) (u2 : Value) (h0 : Heap) (n0 : Nat) (Z0 : n0 ≤ h0.size) (E0 : Exa Z h0 ao "java/math/BigInteger") (Fs : Fld Z h0 ao "java/math/BigInteger" "signum" "I" u1) (Fm : Fld Z h0 ao "java/math/BigInteger" "mag" "[I" u2) (g0 : n0 ≤ ao) :
    MetFree l (⟨"java/math/BigInteger", "<init>", "(J)V"⟩ : MethodName) (head1 (Jvm.Cond.code (⟨"java/math/BigInteger", "<init>", "(J)V"⟩ : MethodName) jdk_2097_method_30_code 4 none :: ws) ({ frames := 2, cells := 1, slots := 2, locals := 24 } : Room)) (fun a U => a = #[(.ref ao), (.long yv)] ∧ Z.Warmed39 U.vm ∧ U.heap = h0) (fun _ _ _ _ _ => True) (fun _ U o U' => ∃ v L, o = .returned v ∧ Q6 Z ao yv u1 u2 h0 n0 v U'.heap L ∧ FrameEnd U o U' L ({ frames := 2, cells := 1, slots := 2, locals := 24 } : Room).cells ({ frames := 2, cells := 1, slots := 2, locals := 24 } : Room).slots) := by
  refine MetFree.of_bodySF (plainFor_of_name pn_1) hisR ?_
  intro p e s m args below meth c s₁ Bd hml0 hP hK
  obtain ⟨rfl, hZ, hh⟩ := hP
  have hx := Bd.exec
  have hby := Bd.bytes
  have hml : c.maxLocals = 4 := hml0
  have hown : s.vm.findClass "java/math/BigInteger" = some m.cls := findClass_of_methodNamed Bd.named
  have hnm := (name_of_methodNamed Bd.named Bd.method).1
  have hlk : meth.locks = false := BodyLoose.notSynchronized Bd
  have X0 : Stand p l e ({ frames := 2, cells := 1, slots := 2, locals := 24 } : Room) s m #[(.ref ao), (.long yv)] below meth c s₁ [] 0 0 := Stand.of_body Bd
  have e0 : s₁.heap = h0 := by rw [← hh, Bd.state]; rfl
  have N0 := Fr.nil n0
  show W.Gl p e below s (Q6 Z ao yv u1 u2 h0 n0) ({ frames := 2, cells := 1, slots := 2, locals := 24 } : Room).cells ({ frames := 2, cells := 1, slots := 2, locals := 24 } : Room).slots s₁ (entryFrame m #[(.ref ao), (.long yv)] 4)
  refine W.cast (ef_6 m ao yv) ?_
  have K0 : Keep h0 h0 [ao] := Keep.refl h0 [ao]
  refine W.s1 (mkF m 1 #[.val (.ref ao), .val (.long yv), .second, .unset] [(.ref ao)]) (fun _ kx_ => XS.aloadN X0.here hx rfl (hb hby d6_0) rfl rfl kx_) ?_
  obtain ⟨_, _, ⟨T101, L101, k101, n101⟩, -, X101, ⟨Lc101, hQ101, l101, y101, z101⟩, st101⟩ := X0.specialBack hx (y := (⟨"java/lang/Number", "<init>", "()V"⟩ : MethodName)) rfl hown (mvT hZ (hw _ (List.mem_of_getElem? (i := 38) rfl))) (mvT hZ (hw _ (List.mem_of_getElem? (i := 39) rfl))) (mvT hZ (hw _ (List.mem_of_getElem? (i := 43) rfl))) (by decide) (backOf (W := 0) (rm7 l Z a0 hw [] ao h0 n0 Z0 ) hZ (hw _ (List.mem_of_getElem? (i := 43) rfl)) (hw _ (List.mem_of_getElem? (i := 42) rfl)) (by decide) (by decide)) (g := (mkF m 1 #[.val (.ref ao), .val (.long yv), .second, .unset] [(.ref ao)])) rfl (by rw [hml]; rfl) (Steps.refl _) (a := ao) (argsL := []) (rest := []) (lenOf pd_0 rfl) rfl (by show 2 * 0 + _ ≤ _; exact Nat.le_of_eq rfl) (hb hby d6_1) (fun _ _ => ⟨rfl, e0, (by decide : 0 + 0 ≤ _), (by decide : 0 + 0 ≤ _)⟩)
  dsimp only [Pt.U, Pt.locs, Pt.cells, Pt.slots] at X101 l101 y101 z101 st101 hQ101
  subst l101 y101 z101
  obtain ⟨rfl, Nq101, eq101⟩ := hQ101
  have N101 := Fr.app N0 Nq101
  refine W.s3 (mkF m 4 #[.val (.ref ao), .val (.long yv), .second, .unset] []) st101 ?_
  refine W.s1 (mkF m 5 #[.val (.ref ao), .val (.long yv), .second, .unset] [(.long yv)]) (fun _ kx_ => XS.lloadN X101.here hx rfl (hb hby d6_4) rfl kx_) ?_
  refine W.s1 (mkF m 6 #[.val (.ref ao), .val (.long yv), .second, .unset] [(.long (0 : Int64)), (.long yv)]) (fun _ kx_ => XS.lconst X101.here hx rfl (hb hby d6_5) kx_) ?_
  refine W.lif X101 hx (hb hby d6_6) (pc1 := 7) rfl (hb hby d6_7) (pc' := 21) (pc'' := 10) (by decide) (by decide) rfl (fun (c7 : ¬ yv < (0 : Int64)) => ?_) (fun (c7 : yv < (0 : Int64)) => ?_)
  · refine W.s1 (mkF m 22 #[.val (.ref ao), .val (.long yv), .second, .unset] [(.ref ao)]) (fun _ kx_ => XS.aloadN X101.here hx rfl (hb hby d6_21) rfl rfl kx_) ?_
    refine W.s1 (mkF m 23 #[.val (.ref ao), .val (.long yv), .second, .unset] [(.int (1 : Int32)), (.ref ao)]) (fun _ kx_ => XS.iconst X101.here hx rfl (hb hby d6_22) kx_) ?_
    refine W.putf X101 hx hZ hown (host := "") (Or.inl (hw _ (List.mem_of_getElem? (i := 45) rfl))) Via.refl eq101 Fs E0 (Or.inr ⟨(hw _ (List.mem_of_getElem? (i := 46) rfl)), rfl, hnm⟩) (hw _ (List.mem_of_getElem? (i := 33) rfl)) (ty := .int) (by decide) rfl rfl N101 g0 (hb hby d6_23) (pc' := 26) rfl (fun T102 h102 L102 X102 e102 W102 fw102 N102 => ?_)
    have Z102 : n0 ≤ h102.size := Nat.le_trans Z0 (Keep.of_wr W102).1
    have f103 := E0.wr W102
    have f104 := Fm.other W102 (Or.inr (slot_ne (Or.inr (hw _ (List.mem_of_getElem? (i := 49) rfl))) (Or.inr (hw _ (List.mem_of_getElem? (i := 46) rfl))) (by decide) (t := (.array .int)) (t' := .int) (by decide) (by decide)))
    have K102 : Keep h0 h102 [ao] := K0.wr W102 (Or.inl (List.mem_of_getElem? (i := 0) rfl))
    refine W.s1 (mkF m 27 #[.val (.ref ao), .val (.long yv), .second, .unset] [(.long yv)]) (fun _ kx_ => XS.lloadN X102.here hx rfl (hb hby d6_26) rfl kx_) ?_
    refine W.s1 (mkF m 29 #[.val (.ref ao), .val (.long yv), .second, .unset] [(.int (32 : Int32)), (.long yv)]) (fun _ kx_ => XS.bipush X102.here hx rfl (hb hby d6_27) kx_) ?_
    refine W.s1 (mkF m 30 #[.val (.ref ao), .val (.long yv), .second, .unset] [(.long ((yv.toUInt64 >>> ((32 : Int32) &&& 0x3f).toInt64.toUInt64).toInt64))]) (fun _ kx_ => XS.lushr X102.here hx rfl (hb hby d6_29) rfl kx_) ?_
    refine W.s1 (mkF m 31 #[.val (.ref ao), .val (.long yv), .second, .unset] [(.int (((yv.toUInt64 >>> ((32 : Int32) &&& 0x3f).toInt64.toUInt64).toInt64).toInt32))]) (fun _ kx_ => XS.l2i X102.here hx rfl (hb hby d6_30) rfl kx_) ?_
    generalize hg_xh : (((yv.toUInt64 >>> ((32 : Int32) &&& 0x3f).toInt64.toUInt64).toInt64).toInt32) = xh
    refine W.s1 (mkF m 32 #[.val (.ref ao), .val (.long yv), .second, .val (.int xh)] []) (fun _ kx_ => XS.istoreN X102.here hx rfl (hb hby d6_31) rfl (l' := #[.val (.ref ao), .val (.long yv), .second, .val (.int xh)]) rfl kx_) ?_
    refine W.s1 (mkF m 33 #[.val (.ref ao), .val (.long yv), .second, .val (.int xh)] [(.int xh)]) (fun _ kx_ => XS.iloadN X102.here hx rfl (hb hby d6_32) rfl kx_) ?_
    refine W.ifc X102 hx (hb hby d6_33) (pc' := 54) (pc'' := 36) (by decide) (by decide) rfl (fun (c33 : ¬ xh = (0 : Int32)) => ?_) (fun (c33 : xh = (0 : Int32)) => ?_)
    · refine W.s1 (mkF m 55 #[.val (.ref ao), .val (.long yv), .second, .val (.int xh)] [(.ref ao)]) (fun _ kx_ => XS.aloadN X102.here hx rfl (hb hby d6_54) rfl rfl kx_) ?_
      refine W.s1 (mkF m 56 #[.val (.ref ao), .val (.long yv), .second, .val (.int xh)] [(.int (2 : Int32)), (.ref ao)]) (fun _ kx_ => XS.iconst X102.here hx rfl (hb hby d6_55) kx_) ?_
      refine W.newi X102 hx hZ (ty := .int) (aty := .int) (hw _ (List.mem_of_getElem? (i := 47) rfl)) rfl rfl e102 (hb hby d6_56) (n := 2) rfl (cap := 2) (Nat.le_refl _) (by decide) (by decide) (by decide) (pc' := 58) rfl (fun T105 h105 b105 X105 e105 E105 g105 A105 => ?_)
      have ne106 : ao ≠ b105 := Nat.ne_of_lt (Nat.lt_of_lt_of_le f103.lt (Nat.le_of_eq g105.symm))
      have ge105 : n0 ≤ b105 := Nat.le_trans Z102 (Nat.le_of_eq g105.symm)
      have sz105 : h0.size ≤ b105 := Nat.le_trans K102.1 (Nat.le_of_eq g105.symm)
      have Z105 : n0 ≤ h105.size := Nat.le_trans Z102 E105.1
      have K105 : Keep h0 h105 [ao] := K102.ext E105
      have f107 := f103.ext E105
      have f108 := fw102.ext E105
      have f109 := f104.ext E105
      refine W.putf X105 hx hZ hown (host := "") (Or.inl (hw _ (List.mem_of_getElem? (i := 48) rfl))) Via.refl e105 f109 f107 (Or.inr ⟨(hw _ (List.mem_of_getElem? (i := 49) rfl)), rfl, hnm⟩) (hw _ (List.mem_of_getElem? (i := 33) rfl)) (ty := (.array .int)) (by decide) rfl rfl N102 g0 (hb hby d6_58) (pc' := 61) rfl (fun T110 h110 L110 X110 e110 W110 fw110 N110 => ?_)
      have Z110 : n0 ≤ h110.size := Nat.le_trans Z105 (Keep.of_wr W110).1
      have f111 := f107.wr W110
      have f112 := f108.other W110 (Or.inr (slot_ne (Or.inr (hw _ (List.mem_of_getElem? (i := 46) rfl))) (Or.inr (hw _ (List.mem_of_getElem? (i := 49) rfl))) (by decide) (t := .int) (t' := (.array .int)) (by decide) (by decide)))
      have f113 := A105.other W110 (Ne.symm ne106)
      have K110 : Keep h0 h110 [ao] := K105.wr W110 (Or.inl (List.mem_of_getElem? (i := 0) rfl))
      refine W.s1 (mkF m 62 #[.val (.ref ao), .val (.long yv), .second, .val (.int xh)] [(.ref ao)]) (fun _ kx_ => XS.aloadN X110.here hx rfl (hb hby d6_61) rfl rfl kx_) ?_
      refine W.getf X110 hx hZ hown (host := "") (Or.inl (hw _ (List.mem_of_getElem? (i := 48) rfl))) Via.refl e110 fw110 (hb hby d6_62) (pc' := 65) rfl (fun T114 X114 e114 => ?_)
      refine W.s1 (mkF m 66 #[.val (.ref ao), .val (.long yv), .second, .val (.int xh)] [(.int (0 : Int32)), (.ref b105)]) (fun _ kx_ => XS.iconst X114.here hx rfl (hb hby d6_65) kx_) ?_
      refine W.s1 (mkF m 67 #[.val (.ref ao), .val (.long yv), .second, .val (.int xh)] [(.int xh), (.int (0 : Int32)), (.ref b105)]) (fun _ kx_ => XS.iloadN X114.here hx rfl (hb hby d6_66) rfl kx_) ?_
      refine W.sti X114 hx hZ e114 f113 0 rfl (by first | decide | simp) N110 ge105 (hb hby d6_67) (pc' := 68) rfl (fun T115 h115 L115 X115 e115 W115 fw115 N115 => ?_)
      have Z115 : n0 ≤ h115.size := Nat.le_trans Z110 (Keep.of_wr W115).1
      have f116 := f111.wr W115
      have f117 := f112.other W115 (Or.inl ne106)
      have f118 := fw110.other W115 (Or.inl ne106)
      have K115 : Keep h0 h115 [ao] := K110.wr W115 (Or.inr sz105)
      refine W.s1 (mkF m 69 #[.val (.ref ao), .val (.long yv), .second, .val (.int xh)] [(.ref ao)]) (fun _ kx_ => XS.aloadN X115.here hx rfl (hb hby d6_68) rfl rfl kx_) ?_
      refine W.getf X115 hx hZ hown (host := "") (Or.inl (hw _ (List.mem_of_getElem? (i := 48) rfl))) Via.refl e115 f118 (hb hby d6_69) (pc' := 72) rfl (fun T119 X119 e119 => ?_)
      refine W.s1 (mkF m 73 #[.val (.ref ao), .val (.long yv), .second, .val (.int xh)] [(.int (1 : Int32)), (.ref b105)]) (fun _ kx_ => XS.iconst X119.here hx rfl (hb hby d6_72) kx_) ?_
      refine W.s1 (mkF m 74 #[.val (.ref ao), .val (.long yv), .second, .val (.int xh)] [(.long yv), (.int (1 : Int32)), (.ref b105)]) (fun _ kx_ => XS.lloadN X119.here hx rfl (hb hby d6_73) rfl kx_) ?_
      refine W.s1 (mkF m 75 #[.val (.ref ao), .val (.long yv), .second, .val (.int xh)] [(.int (yv.toInt32)), (.int (1 : Int32)), (.ref b105)]) (fun _ kx_ => XS.l2i X119.here hx rfl (hb hby d6_74) rfl kx_) ?_
      refine W.sti X119 hx hZ e119 fw115 1 rfl (by first | decide | simp) N115 ge105 (hb hby d6_75) (pc' := 76) rfl (fun T120 h120 L120 X120 e120 W120 fw120 N120 => ?_)
      have Z120 : n0 ≤ h120.size := Nat.le_trans Z115 (Keep.of_wr W120).1
      have f121 := f116.wr W120
      have f122 := f117.other W120 (Or.inl ne106)
      have f123 := f118.other W120 (Or.inl ne106)
      have K120 : Keep h0 h120 [ao] := K115.wr W120 (Or.inr sz105)
      exact W.ret0 X120 hx hlk Bd.returns (hb hby d6_76) (by show Q6 Z ao yv u1 u2 h0 n0 _ T120.heap _; rw [e120]; exact ⟨rfl, N120, K120, _, _, _, ⟨b105, f121, f122, f123, fw120, by decide, by decide, fun _ => by decide⟩⟩) (by decide) (by decide)
    · refine W.s1 (mkF m 37 #[.val (.ref ao), .val (.long yv), .second, .val (.int xh)] [(.ref ao)]) (fun _ kx_ => XS.aloadN X102.here hx rfl (hb hby d6_36) rfl rfl kx_) ?_
      refine W.s1 (mkF m 38 #[.val (.ref ao), .val (.long yv), .second, .val (.int xh)] [(.int (1 : Int32)), (.ref ao)]) (fun _ kx_ => XS.iconst X102.here hx rfl (hb hby d6_37) kx_) ?_
      refine W.newi X102 hx hZ (ty := .int) (aty := .int) (hw _ (List.mem_of_getElem? (i := 47) rfl)) rfl rfl e102 (hb hby d6_38) (n := 1) rfl (cap := 1) (Nat.le_refl _) (by decide) (by decide) (by decide) (pc' := 40) rfl (fun T124 h124 b124 X124 e124 E124 g124 A124 => ?_)
      have ne125 : ao ≠ b124 := Nat.ne_of_lt (Nat.lt_of_lt_of_le f103.lt (Nat.le_of_eq g124.symm))
      have ge124 : n0 ≤ b124 := Nat.le_trans Z102 (Nat.le_of_eq g124.symm)
      have sz124 : h0.size ≤ b124 := Nat.le_trans K102.1 (Nat.le_of_eq g124.symm)
      have Z124 : n0 ≤ h124.size := Nat.le_trans Z102 E124.1
      have K124 : Keep h0 h124 [ao] := K102.ext E124
      have f126 := f103.ext E124
      have f127 := fw102.ext E124
      have f128 := f104.ext E124
      refine W.putf X124 hx hZ hown (host := "") (Or.inl (hw _ (List.mem_of_getElem? (i := 48) rfl))) Via.refl e124 f128 f126 (Or.inr ⟨(hw _ (List.mem_of_getElem? (i := 49) rfl)), rfl, hnm⟩) (hw _ (List.mem_of_getElem? (i := 33) rfl)) (ty := (.array .int)) (by decide) rfl rfl N102 g0 (hb hby d6_40) (pc' := 43) rfl (fun T129 h129 L129 X129 e129 W129 fw129 N129 => ?_)
      have Z129 : n0 ≤ h129.size := Nat.le_trans Z124 (Keep.of_wr W129).1
      have f130 := f126.wr W129
      have f131 := f127.other W129 (Or.inr (slot_ne (Or.inr (hw _ (List.mem_of_getElem? (i := 46) rfl))) (Or.inr (hw _ (List.mem_of_getElem? (i := 49) rfl))) (by decide) (t := .int) (t' := (.array .int)) (by decide) (by decide)))
      have f132 := A124.other W129 (Ne.symm ne125)
      have K129 : Keep h0 h129 [ao] := K124.wr W129 (Or.inl (List.mem_of_getElem? (i := 0) rfl))
      refine W.s1 (mkF m 44 #[.val (.ref ao), .val (.long yv), .second, .val (.int xh)] [(.ref ao)]) (fun _ kx_ => XS.aloadN X129.here hx rfl (hb hby d6_43) rfl rfl kx_) ?_
      refine W.getf X129 hx hZ hown (host := "") (Or.inl (hw _ (List.mem_of_getElem? (i := 48) rfl))) Via.refl e129 fw129 (hb hby d6_44) (pc' := 47) rfl (fun T133 X133 e133 => ?_)
      refine W.s1 (mkF m 48 #[.val (.ref ao), .val (.long yv), .second, .val (.int xh)] [(.int (0 : Int32)), (.ref b124)]) (fun _ kx_ => XS.iconst X133.here hx rfl (hb hby d6_47) kx_) ?_
      refine W.s1 (mkF m 49 #[.val (.ref ao), .val (.long yv), .second, .val (.int xh)] [(.long yv), (.int (0 : Int32)), (.ref b124)]) (fun _ kx_ => XS.lloadN X133.here hx rfl (hb hby d6_48) rfl kx_) ?_
      refine W.s1 (mkF m 50 #[.val (.ref ao), .val (.long yv), .second, .val (.int xh)] [(.int (yv.toInt32)), (.int (0 : Int32)), (.ref b124)]) (fun _ kx_ => XS.l2i X133.here hx rfl (hb hby d6_49) rfl kx_) ?_
      refine W.sti X133 hx hZ e133 f132 0 rfl (by first | decide | simp) N129 ge124 (hb hby d6_50) (pc' := 51) rfl (fun T134 h134 L134 X134 e134 W134 fw134 N134 => ?_)
      have Z134 : n0 ≤ h134.size := Nat.le_trans Z129 (Keep.of_wr W134).1
      have f135 := f130.wr W134
      have f136 := f131.other W134 (Or.inl ne125)
      have f137 := fw129.other W134 (Or.inl ne125)
      have K134 : Keep h0 h134 [ao] := K129.wr W134 (Or.inr sz124)
      refine W.s1 (mkF m 76 #[.val (.ref ao), .val (.long yv), .second, .val (.int xh)] []) (fun _ kx_ => XS.goto X134.here hx rfl (pc0 := 51) (pc' := 76) rfl (hb hby d6_51) (by decide) (by decide) kx_) ?_
      exact W.ret0 X134 hx hlk Bd.returns (hb hby d6_76) (by show Q6 Z ao yv u1 u2 h0 n0 _ T134.heap _; rw [e134]; exact ⟨rfl, N134, K134, _, _, _, ⟨b124, f135, f136, f137, fw134, by decide, by decide, fun _ => by decide⟩⟩) (by decide) (by decide)
  · refine W.s1 (mkF m 11 #[.val (.ref ao), .val (.long yv), .second, .unset] [(.long yv)]) (fun _ kx_ => XS.lloadN X101.here hx rfl (hb hby d6_10) rfl kx_) ?_
    refine W.s1 (mkF m 12 #[.val (.ref ao), .val (.long yv), .second, .unset] [(.long (-yv))]) (fun _ kx_ => XS.lneg X101.here hx rfl (hb hby d6_11) rfl kx_) ?_
    refine W.s1 (mkF m 13 #[.val (.ref ao), .val (.long (-yv)), .second, .unset] []) (fun _ kx_ => XS.lstoreN X101.here hx rfl (hb hby d6_12) rfl (l' := #[.val (.ref ao), .val (.long (-yv)), .second, .unset]) rfl kx_) ?_
    refine W.s1 (mkF m 14 #[.val (.ref ao), .val (.long (-yv)), .second, .unset] [(.ref ao)]) (fun _ kx_ => XS.aloadN X101.here hx rfl (hb hby d6_13) rfl rfl kx_) ?_
    refine W.s1 (mkF m 15 #[.val (.ref ao), .val (.long (-yv)), .second, .unset] [(.int (-1 : Int32)), (.ref ao)]) (fun _ kx_ => XS.iconst X101.here hx rfl (hb hby d6_14) kx_) ?_
    refine W.putf X101 hx hZ hown (host := "") (Or.inl (hw _ (List.mem_of_getElem? (i := 45) rfl))) Via.refl eq101 Fs E0 (Or.inr ⟨(hw _ (List.mem_of_getElem? (i := 46) rfl)), rfl, hnm⟩) (hw _ (List.mem_of_getElem? (i := 33) rfl)) (ty := .int) (by decide) rfl rfl N101 g0 (hb hby d6_15) (pc' := 18) rfl (fun T138 h138 L138 X138 e138 W138 fw138 N138 => ?_)
    have Z138 : n0 ≤ h138.size := Nat.le_trans Z0 (Keep.of_wr W138).1
    have f139 := E0.wr W138
    have f140 := Fm.other W138 (Or.inr (slot_ne (Or.inr (hw _ (List.mem_of_getElem? (i := 49) rfl))) (Or.inr (hw _ (List.mem_of_getElem? (i := 46) rfl))) (by decide) (t := (.array .int)) (t' := .int) (by decide) (by decide)))
    have K138 : Keep h0 h138 [ao] := K0.wr W138 (Or.inl (List.mem_of_getElem? (i := 0) rfl))
    refine W.s1 (mkF m 26 #[.val (.ref ao), .val (.long (-yv)), .second, .unset] []) (fun _ kx_ => XS.goto X138.here hx rfl (pc0 := 18) (pc' := 26) rfl (hb hby d6_18) (by decide) (by decide) kx_) ?_
    refine W.s1 (mkF m 27 #[.val (.ref ao), .val (.long (-yv)), .second, .unset] [(.long (-yv))]) (fun _ kx_ => XS.lloadN X138.here hx rfl (hb hby d6_26) rfl kx_) ?_
    refine W.s1 (mkF m 29 #[.val (.ref ao), .val (.long (-yv)), .second, .unset] [(.int (32 : Int32)), (.long (-yv))]) (fun _ kx_ => XS.bipush X138.here hx rfl (hb hby d6_27) kx_) ?_
    refine W.s1 (mkF m 30 #[.val (.ref ao), .val (.long (-yv)), .second, .unset] [(.long (((-yv).toUInt64 >>> ((32 : Int32) &&& 0x3f).toInt64.toUInt64).toInt64))]) (fun _ kx_ => XS.lushr X138.here hx rfl (hb hby d6_29) rfl kx_) ?_
    refine W.s1 (mkF m 31 #[.val (.ref ao), .val (.long (-yv)), .second, .unset] [(.int ((((-yv).toUInt64 >>> ((32 : Int32) &&& 0x3f).toInt64.toUInt64).toInt64).toInt32))]) (fun _ kx_ => XS.l2i X138.here hx rfl (hb hby d6_30) rfl kx_) ?_
    generalize hg_xh : ((((-yv).toUInt64 >>> ((32 : Int32) &&& 0x3f).toInt64.toUInt64).toInt64).toInt32) = xh
    refine W.s1 (mkF m 32 #[.val (.ref ao), .val (.long (-yv)), .second, .val (.int xh)] []) (fun _ kx_ => XS.istoreN X138.here hx rfl (hb hby d6_31) rfl (l' := #[.val (.ref ao), .val (.long (-yv)), .second, .val (.int xh)]) rfl kx_) ?_
    refine W.s1 (mkF m 33 #[.val (.ref ao), .val (.long (-yv)), .second, .val (.int xh)] [(.int xh)]) (fun _ kx_ => XS.iloadN X138.here hx rfl (hb hby d6_32) rfl kx_) ?_
    refine W.ifc X138 hx (hb hby d6_33) (pc' := 54) (pc'' := 36) (by decide) (by decide) rfl (fun (c33 : ¬ xh = (0 : Int32)) => ?_) (fun (c33 : xh = (0 : Int32)) => ?_)
    · refine W.s1 (mkF m 55 #[.val (.ref ao), .val (.long (-yv)), .second, .val (.int xh)] [(.ref ao)]) (fun _ kx_ => XS.aloadN X138.here hx rfl (hb hby d6_54) rfl rfl kx_) ?_
      refine W.s1 (mkF m 56 #[.val (.ref ao), .val (.long (-yv)), .second, .val (.int xh)] [(.int (2 : Int32)), (.ref ao)]) (fun _ kx_ => XS.iconst X138.here hx rfl (hb hby d6_55) kx_) ?_
      refine W.newi X138 hx hZ (ty := .int) (aty := .int) (hw _ (List.mem_of_getElem? (i := 47) rfl)) rfl rfl e138 (hb hby d6_56) (n := 2) rfl (cap := 2) (Nat.le_refl _) (by decide) (by decide) (by decide) (pc' := 58) rfl (fun T141 h141 b141 X141 e141 E141 g141 A141 => ?_)
      have ne142 : ao ≠ b141 := Nat.ne_of_lt (Nat.lt_of_lt_of_le f139.lt (Nat.le_of_eq g141.symm))
      have ge141 : n0 ≤ b141 := Nat.le_trans Z138 (Nat.le_of_eq g141.symm)
      have sz141 : h0.size ≤ b141 := Nat.le_trans K138.1 (Nat.le_of_eq g141.symm)
      have Z141 : n0 ≤ h141.size := Nat.le_trans Z138 E141.1
      have K141 : Keep h0 h141 [ao] := K138.ext E141
      have f143 := f139.ext E141
      have f144 := fw138.ext E141
      have f145 := f140.ext E141
      refine W.putf X141 hx hZ hown (host := "") (Or.inl (hw _ (List.mem_of_getElem? (i := 48) rfl))) Via.refl e141 f145 f143 (Or.inr ⟨(hw _ (List.mem_of_getElem? (i := 49) rfl)), rfl, hnm⟩) (hw _ (List.mem_of_getElem? (i := 33) rfl)) (ty := (.array .int)) (by decide) rfl rfl N138 g0 (hb hby d6_58) (pc' := 61) rfl (fun T146 h146 L146 X146 e146 W146 fw146 N146 => ?_)
      have Z146 : n0 ≤ h146.size := Nat.le_trans Z141 (Keep.of_wr W146).1
      have f147 := f143.wr W146
      have f148 := f144.other W146 (Or.inr (slot_ne (Or.inr (hw _ (List.mem_of_getElem? (i := 46) rfl))) (Or.inr (hw _ (List.mem_of_getElem? (i := 49) rfl))) (by decide) (t := .int) (t' := (.array .int)) (by decide) (by decide)))
      have f149 := A141.other W146 (Ne.symm ne142)
      have K146 : Keep h0 h146 [ao] := K141.wr W146 (Or.inl (List.mem_of_getElem? (i := 0) rfl))
      refine W.s1 (mkF m 62 #[.val (.ref ao), .val (.long (-yv)), .second, .val (.int xh)] [(.ref ao)]) (fun _ kx_ => XS.aloadN X146.here hx rfl (hb hby d6_61) rfl rfl kx_) ?_
      refine W.getf X146 hx hZ hown (host := "") (Or.inl (hw _ (List.mem_of_getElem? (i := 48) rfl))) Via.refl e146 fw146 (hb hby d6_62) (pc' := 65) rfl (fun T150 X150 e150 => ?_)
      refine W.s1 (mkF m 66 #[.val (.ref ao), .val (.long (-yv)), .second, .val (.int xh)] [(.int (0 : Int32)), (.ref b141)]) (fun _ kx_ => XS.iconst X150.here hx rfl (hb hby d6_65) kx_) ?_
      refine W.s1 (mkF m 67 #[.val (.ref ao), .val (.long (-yv)), .second, .val (.int xh)] [(.int xh), (.int (0 : Int32)), (.ref b141)]) (fun _ kx_ => XS.iloadN X150.here hx rfl (hb hby d6_66) rfl kx_) ?_
      refine W.sti X150 hx hZ e150 f149 0 rfl (by first | decide | simp) N146 ge141 (hb hby d6_67) (pc' := 68) rfl (fun T151 h151 L151 X151 e151 W151 fw151 N151 => ?_)
      have Z151 : n0 ≤ h151.size := Nat.le_trans Z146 (Keep.of_wr W151).1
      have f152 := f147.wr W151
      have f153 := f148.other W151 (Or.inl ne142)
      have f154 := fw146.other W151 (Or.inl ne142)
      have K151 : Keep h0 h151 [ao] := K146.wr W151 (Or.inr sz141)
      refine W.s1 (mkF m 69 #[.val (.ref ao), .val (.long (-yv)), .second, .val (.int xh)] [(.ref ao)]) (fun _ kx_ => XS.aloadN X151.here hx rfl (hb hby d6_68) rfl rfl kx_) ?_
      refine W.getf X151 hx hZ hown (host := "") (Or.inl (hw _ (List.mem_of_getElem? (i := 48) rfl))) Via.refl e151 f154 (hb hby d6_69) (pc' := 72) rfl (fun T155 X155 e155 => ?_)
      refine W.s1 (mkF m 73 #[.val (.ref ao), .val (.long (-yv)), .second, .val (.int xh)] [(.int (1 : Int32)), (.ref b141)]) (fun _ kx_ => XS.iconst X155.here hx rfl (hb hby d6_72) kx_) ?_
      refine W.s1 (mkF m 74 #[.val (.ref ao), .val (.long (-yv)), .second, .val (.int xh)] [(.long (-yv)), (.int (1 : Int32)), (.ref b141)]) (fun _ kx_ => XS.lloadN X155.here hx rfl (hb hby d6_73) rfl kx_) ?_
      refine W.s1 (mkF m 75 #[.val (.ref ao), .val (.long (-yv)), .second, .val (.int xh)] [(.int ((-yv).toInt32)), (.int (1 : Int32)), (.ref b141)]) (fun _ kx_ => XS.l2i X155.here hx rfl (hb hby d6_74) rfl kx_) ?_
      refine W.sti X155 hx hZ e155 fw151 1 rfl (by first | decide | simp) N151 ge141 (hb hby d6_75) (pc' := 76) rfl (fun T156 h156 L156 X156 e156 W156 fw156 N156 => ?_)
      have Z156 : n0 ≤ h156.size := Nat.le_trans Z151 (Keep.of_wr W156).1
      have f157 := f152.wr W156
      have f158 := f153.other W156 (Or.inl ne142)
      have f159 := f154.other W156 (Or.inl ne142)
      have K156 : Keep h0 h156 [ao] := K151.wr W156 (Or.inr sz141)
      exact W.ret0 X156 hx hlk Bd.returns (hb hby d6_76) (by show Q6 Z ao yv u1 u2 h0 n0 _ T156.heap _; rw [e156]; exact ⟨rfl, N156, K156, _, _, _, ⟨b141, f157, f158, f159, fw156, by decide, by decide, fun _ => by decide⟩⟩) (by decide) (by decide)
    · refine W.s1 (mkF m 37 #[.val (.ref ao), .val (.long (-yv)), .second, .val (.int xh)] [(.ref ao)]) (fun _ kx_ => XS.aloadN X138.here hx rfl (hb hby d6_36) rfl rfl kx_) ?_
      refine W.s1 (mkF m 38 #[.val (.ref ao), .val (.long (-yv)), .second, .val (.int xh)] [(.int (1 : Int32)), (.ref ao)]) (fun _ kx_ => XS.iconst X138.here hx rfl (hb hby d6_37) kx_) ?_
      refine W.newi X138 hx hZ (ty := .int) (aty := .int) (hw _ (List.mem_of_getElem? (i := 47) rfl)) rfl rfl e138 (hb hby d6_38) (n := 1) rfl (cap := 1) (Nat.le_refl _) (by decide) (by decide) (by decide) (pc' := 40) rfl (fun T160 h160 b160 X160 e160 E160 g160 A160 => ?_)
      have ne161 : ao ≠ b160 := Nat.ne_of_lt (Nat.lt_of_lt_of_le f139.lt (Nat.le_of_eq g160.symm))
      have ge160 : n0 ≤ b160 := Nat.le_trans Z138 (Nat.le_of_eq g160.symm)
      have sz160 : h0.size ≤ b160 := Nat.le_trans K138.1 (Nat.le_of_eq g160.symm)
      have Z160 : n0 ≤ h160.size := Nat.le_trans Z138 E160.1
      have K160 : Keep h0 h160 [ao] := K138.ext E160
      have f162 := f139.ext E160
      have f163 := fw138.ext E160
      have f164 := f140.ext E160
      refine W.putf X160 hx hZ hown (host := "") (Or.inl (hw _ (List.mem_of_getElem? (i := 48) rfl))) Via.refl e160 f164 f162 (Or.inr ⟨(hw _ (List.mem_of_getElem? (i := 49) rfl)), rfl, hnm⟩) (hw _ (List.mem_of_getElem? (i := 33) rfl)) (ty := (.array .int)) (by decide) rfl rfl N138 g0 (hb hby d6_40) (pc' := 43) rfl (fun T165 h165 L165 X165 e165 W165 fw165 N165 => ?_)
      have Z165 : n0 ≤ h165.size := Nat.le_trans Z160 (Keep.of_wr W165).1
      have f166 := f162.wr W165
      have f167 := f163.other W165 (Or.inr (slot_ne (Or.inr (hw _ (List.mem_of_getElem? (i := 46) rfl))) (Or.inr (hw _ (List.mem_of_getElem? (i := 49) rfl))) (by decide) (t := .int) (t' := (.array .int)) (by decide) (by decide)))
      have f168 := A160.other W165 (Ne.symm ne161)
      have K165 : Keep h0 h165 [ao] := K160.wr W165 (Or.inl (List.mem_of_getElem? (i := 0) rfl))
      refine W.s1 (mkF m 44 #[.val (.ref ao), .val (.long (-yv)), .second, .val (.int xh)] [(.ref ao)]) (fun _ kx_ => XS.aloadN X165.here hx rfl (hb hby d6_43) rfl rfl kx_) ?_
      refine W.getf X165 hx hZ hown (host := "") (Or.inl (hw _ (List.mem_of_getElem? (i := 48) rfl))) Via.refl e165 fw165 (hb hby d6_44) (pc' := 47) rfl (fun T169 X169 e169 => ?_)
      refine W.s1 (mkF m 48 #[.val (.ref ao), .val (.long (-yv)), .second, .val (.int xh)] [(.int (0 : Int32)), (.ref b160)]) (fun _ kx_ => XS.iconst X169.here hx rfl (hb hby d6_47) kx_) ?_
      refine W.s1 (mkF m 49 #[.val (.ref ao), .val (.long (-yv)), .second, .val (.int xh)] [(.long (-yv)), (.int (0 : Int32)), (.ref b160)]) (fun _ kx_ => XS.lloadN X169.here hx rfl (hb hby d6_48) rfl kx_) ?_
      refine W.s1 (mkF m 50 #[.val (.ref ao), .val (.long (-yv)), .second, .val (.int xh)] [(.int ((-yv).toInt32)), (.int (0 : Int32)), (.ref b160)]) (fun _ kx_ => XS.l2i X169.here hx rfl (hb hby d6_49) rfl kx_) ?_
      refine W.sti X169 hx hZ e169 f168 0 rfl (by first | decide | simp) N165 ge160 (hb hby d6_50) (pc' := 51) rfl (fun T170 h170 L170 X170 e170 W170 fw170 N170 => ?_)
      have Z170 : n0 ≤ h170.size := Nat.le_trans Z165 (Keep.of_wr W170).1
      have f171 := f166.wr W170
      have f172 := f167.other W170 (Or.inl ne161)
      have f173 := fw165.other W170 (Or.inl ne161)
      have K170 : Keep h0 h170 [ao] := K165.wr W170 (Or.inr sz160)
      refine W.s1 (mkF m 76 #[.val (.ref ao), .val (.long (-yv)), .second, .val (.int xh)] []) (fun _ kx_ => XS.goto X170.here hx rfl (pc0 := 51) (pc' := 76) rfl (hb hby d6_51) (by decide) (by decide) kx_) ?_
      exact W.ret0 X170 hx hlk Bd.returns (hb hby d6_76) (by show Q6 Z ao yv u1 u2 h0 n0 _ T170.heap _; rw [e170]; exact ⟨rfl, N170, K170, _, _, _, ⟨b160, f171, f172, f173, fw170, by decide, by decide, fun _ => by decide⟩⟩) (by decide) (by decide)
theorem ef_18 (m : MethodId) (x0 : Addr) (x1 : Addr) (x2 : Int32) : entryFrame m #[(.ref x0), (.ref x1), (.int x2)] 3 = mkF m 0 #[.val (.ref x0), .val (.ref x1), .val (.int x2)] [] := by first | (simp [entryFrame, mkF, argsToLocals, Value.category]; done) | rfl
theorem d18_0 : decode jdk_2097_method_25_code 0 = .ok (.aload_n 0, 1) := by decide +kernel
theorem d18_1 : decode jdk_2097_method_25_code 1 = .ok (.invokespecial 3, 3) := by decide +kernel
theorem d18_4 : decode jdk_2097_method_25_code 4 = .ok (.aload_n 0, 1) := by decide +kernel
theorem d18_5 : decode jdk_2097_method_25_code 5 = .ok (.aload_n 1, 1) := by decide +kernel
theorem d18_6 : decode jdk_2097_method_25_code 6 = .ok (.arraylength, 1) := by decide +kernel
theorem d18_7 : decode jdk_2097_method_25_code 7 = .ok (.ifCond .ne 7, 3) := by decide +kernel
theorem d18_14 : decode jdk_2097_method_25_code 14 = .ok (.iload_n 2, 1) := by decide +kernel
theorem d18_15 : decode jdk_2097_method_25_code 15 = .ok (.putfield 32, 3) := by decide +kernel
theorem d18_18 : decode jdk_2097_method_25_code 18 = .ok (.aload_n 0, 1) := by decide +kernel
theorem d18_19 : decode jdk_2097_method_25_code 19 = .ok (.aload_n 1, 1) := by decide +kernel
theorem d18_20 : decode jdk_2097_method_25_code 20 = .ok (.putfield 28, 3) := by decide +kernel
theorem d18_23 : decode jdk_2097_method_25_code 23 = .ok (.aload_n 0, 1) := by decide +kernel
theorem d18_24 : decode jdk_2097_method_25_code 24 = .ok (.getfield 28, 3) := by decide +kernel
theorem d18_27 : decode jdk_2097_method_25_code 27 = .ok (.arraylength, 1) := by decide +kernel
theorem d18_28 : decode jdk_2097_method_25_code 28 = .ok (.ldc 43, 2) := by decide +kernel
theorem d18_30 : decode jdk_2097_method_25_code 30 = .ok (.if_icmp .lt 7, 3) := by decide +kernel
theorem d18_37 : decode jdk_2097_method_25_code 37 = .ok (.return_, 1) := by decide +kernel
def Q18 (Z : State) (ao : Addr) (zm : Addr) (xs : Int32) (u1 : Value) (u2 : Value) (n : Nat) (f : Nat → Int32) (h0 : Heap) (n0 : Nat) (v : Option Value) (h : Heap) (L : List Loc) : Prop := v = none ∧ Fr n0 L ∧ Keep h0 h [ao] ∧ own_BI Z h ao xs n f
set_option maxRecDepth 65536 in
set_option maxHeartbeats 40000000 in
theorem rm18 (l : Launch) (Z : State) (a0 : Array Value) (hw : ∀ d ∈ tables_1, d.before a0 Z = true) (ws : List Jvm.Cond) (ao : Addr) (zm : Addr) (xs : Int32) (u1 : Value) (u2 : Value) (n : Nat) (f : Nat → Int32) (h0 : Heap) (n0 : Nat) (Z0 : n0 ≤ h0.size) (E0 : Exa Z h0 ao "java/math/BigInteger") (Fs : Fld Z h0 ao "java/math/BigInteger" "signum" "I" u1) (Fm : Fld Z h0 ao "java/math/BigInteger" "mag" "[I" u2) (g0 : n0 ≤ ao) (Am : W.AI Z h0 zm .int n f) (hn : n ≤ 2) (hn1 : 1 ≤ n) (hs : xs = 1 ∨ xs = -1) (nem : ao ≠ zm) :
    MetFree l (⟨"java/math/BigInteger", "<init>", "([II)V"⟩ : MethodName) (head1 (Jvm.Cond.code (⟨"java/math/BigInteger", "<init>", "([II)V"⟩ : MethodName) jdk_2097_method_25_code 3 none :: ws) ({ frames := 2, cells := 0, slots := 0, locals := 24 } : Room)) (fun a U => a = #[(.ref ao), (.ref zm), (.int xs)] ∧ Z.Warmed39 U.vm ∧ U.heap = h0) (fun _ _ _ _ _ => True) (fun _ U o U' => ∃ v L, o = .returned v ∧ Q18 Z ao zm xs u1 u2 n f h0 n0 v U'.heap L ∧ FrameEnd U o U' L ({ frames := 2, cells := 0, slots := 0, locals := 24 } : Room).cells ({ frames := 2, cells := 0, slots := 0, locals := 24 } : Room).slots) := by
  refine MetFree.of_bodySF (plainFor_of_name pn_1) hisR ?_
  intro p e s m args below meth c s₁ Bd hml0 hP hK
  obtain ⟨rfl, hZ, hh⟩ := hP
  have hx := Bd.exec
  have hby := Bd.bytes
  have hml : c.maxLocals = 3 := hml0
  have hown : s.vm.findClass "java/math/BigInteger" = some m.cls := findClass_of_methodNamed Bd.named
  have hnm := (name_of_methodNamed Bd.named Bd.method).1
  have hlk : meth.locks = false := BodyLoose.notSynchronized Bd
  have X0 : Stand p l e ({ frames := 2, cells := 0, slots := 0, locals := 24 } : Room) s m #[(.ref ao), (.ref zm), (.int xs)] below meth c s₁ [] 0 0 := Stand.of_body Bd
  have e0 : s₁.heap = h0 := by rw [← hh, Bd.state]; rfl
  have N0 := Fr.nil n0
  show W.Gl p e below s (Q18 Z ao zm xs u1 u2 n f h0 n0) ({ frames := 2, cells := 0, slots := 0, locals := 24 } : Room).cells ({ frames := 2, cells := 0, slots := 0, locals := 24 } : Room).slots s₁ (entryFrame m #[(.ref ao), (.ref zm), (.int xs)] 3)
  refine W.cast (ef_18 m ao zm xs) ?_
  have K0 : Keep h0 h0 [ao] := Keep.refl h0 [ao]
  have hz := own_nz hn
  refine W.s1 (mkF m 1 #[.val (.ref ao), .val (.ref zm), .val (.int xs)] [(.ref ao)]) (fun _ kx_ => XS.aloadN X0.here hx rfl (hb hby d18_0) rfl rfl kx_) ?_
  obtain ⟨_, _, ⟨T101, L101, k101, n101⟩, -, X101, ⟨Lc101, hQ101, l101, y101, z101⟩, st101⟩ := X0.specialBack hx (y := (⟨"java/lang/Number", "<init>", "()V"⟩ : MethodName)) rfl hown (mvT hZ (hw _ (List.mem_of_getElem? (i := 38) rfl))) (mvT hZ (hw _ (List.mem_of_getElem? (i := 39) rfl))) (mvT hZ (hw _ (List.mem_of_getElem? (i := 43) rfl))) (by decide) (backOf (W := 0) (rm7 l Z a0 hw [] ao h0 n0 Z0 ) hZ (hw _ (List.mem_of_getElem? (i := 43) rfl)) (hw _ (List.mem_of_getElem? (i := 42) rfl)) (by decide) (by decide)) (g := (mkF m 1 #[.val (.ref ao), .val (.ref zm), .val (.int xs)] [(.ref ao)])) rfl (by rw [hml]; rfl) (Steps.refl _) (a := ao) (argsL := []) (rest := []) (lenOf pd_0 rfl) rfl (by show 2 * 0 + _ ≤ _; exact Nat.le_of_eq rfl) (hb hby d18_1) (fun _ _ => ⟨rfl, e0, (by decide : 0 + 0 ≤ _), (by decide : 0 + 0 ≤ _)⟩)
  dsimp only [Pt.U, Pt.locs, Pt.cells, Pt.slots] at X101 l101 y101 z101 st101 hQ101
  subst l101 y101 z101
  obtain ⟨rfl, Nq101, eq101⟩ := hQ101
  have N101 := Fr.app N0 Nq101
  refine W.s3 (mkF m 4 #[.val (.ref ao), .val (.ref zm), .val (.int xs)] []) st101 ?_
  refine W.s1 (mkF m 5 #[.val (.ref ao), .val (.ref zm), .val (.int xs)] [(.ref ao)]) (fun _ kx_ => XS.aloadN X101.here hx rfl (hb hby d18_4) rfl rfl kx_) ?_
  refine W.s1 (mkF m 6 #[.val (.ref ao), .val (.ref zm), .val (.int xs)] [(.ref zm), (.ref ao)]) (fun _ kx_ => XS.aloadN X101.here hx rfl (hb hby d18_5) rfl rfl kx_) ?_
  refine W.alen X101 hx hZ eq101 Am (z := (Int32.ofNat n)) hz (hb hby d18_6) (pc' := 7) rfl ?_
  refine W.ifc X101 hx (hb hby d18_7) (pc' := 14) (pc'' := 10) (by decide) (by decide) rfl (fun (c7 : ¬ (Int32.ofNat n) = (0 : Int32)) => ?_) (fun (c7 : (Int32.ofNat n) = (0 : Int32)) => ?_)
  · refine W.s1 (mkF m 15 #[.val (.ref ao), .val (.ref zm), .val (.int xs)] [(.int xs), (.ref ao)]) (fun _ kx_ => XS.iloadN X101.here hx rfl (hb hby d18_14) rfl kx_) ?_
    refine W.putf X101 hx hZ hown (host := "") (Or.inl (hw _ (List.mem_of_getElem? (i := 45) rfl))) Via.refl eq101 Fs E0 (Or.inr ⟨(hw _ (List.mem_of_getElem? (i := 46) rfl)), rfl, hnm⟩) (hw _ (List.mem_of_getElem? (i := 33) rfl)) (ty := .int) (by decide) rfl rfl N101 g0 (hb hby d18_15) (pc' := 18) rfl (fun T102 h102 L102 X102 e102 W102 fw102 N102 => ?_)
    have Z102 : n0 ≤ h102.size := Nat.le_trans Z0 (Keep.of_wr W102).1
    have f103 := E0.wr W102
    have f104 := Fm.other W102 (Or.inr (slot_ne (Or.inr (hw _ (List.mem_of_getElem? (i := 49) rfl))) (Or.inr (hw _ (List.mem_of_getElem? (i := 46) rfl))) (by decide) (t := (.array .int)) (t' := .int) (by decide) (by decide)))
    have f105 := Am.other W102 (Ne.symm nem)
    have K102 : Keep h0 h102 [ao] := K0.wr W102 (Or.inl (List.mem_of_getElem? (i := 0) rfl))
    refine W.s1 (mkF m 19 #[.val (.ref ao), .val (.ref zm), .val (.int xs)] [(.ref ao)]) (fun _ kx_ => XS.aloadN X102.here hx rfl (hb hby d18_18) rfl rfl kx_) ?_
    refine W.s1 (mkF m 20 #[.val (.ref ao), .val (.ref zm), .val (.int xs)] [(.ref zm), (.ref ao)]) (fun _ kx_ => XS.aloadN X102.here hx rfl (hb hby d18_19) rfl rfl kx_) ?_
    refine W.putf X102 hx hZ hown (host := "") (Or.inl (hw _ (List.mem_of_getElem? (i := 48) rfl))) Via.refl e102 f104 f103 (Or.inr ⟨(hw _ (List.mem_of_getElem? (i := 49) rfl)), rfl, hnm⟩) (hw _ (List.mem_of_getElem? (i := 33) rfl)) (ty := (.array .int)) (by decide) rfl rfl N102 g0 (hb hby d18_20) (pc' := 23) rfl (fun T106 h106 L106 X106 e106 W106 fw106 N106 => ?_)
    have Z106 : n0 ≤ h106.size := Nat.le_trans Z102 (Keep.of_wr W106).1
    have f107 := f103.wr W106
    have f108 := fw102.other W106 (Or.inr (slot_ne (Or.inr (hw _ (List.mem_of_getElem? (i := 46) rfl))) (Or.inr (hw _ (List.mem_of_getElem? (i := 49) rfl))) (by decide) (t := .int) (t' := (.array .int)) (by decide) (by decide)))
    have f109 := f105.other W106 (Ne.symm nem)
    have K106 : Keep h0 h106 [ao] := K102.wr W106 (Or.inl (List.mem_of_getElem? (i := 0) rfl))
    refine W.s1 (mkF m 24 #[.val (.ref ao), .val (.ref zm), .val (.int xs)] [(.ref ao)]) (fun _ kx_ => XS.aloadN X106.here hx rfl (hb hby d18_23) rfl rfl kx_) ?_
    refine W.getf X106 hx hZ hown (host := "") (Or.inl (hw _ (List.mem_of_getElem? (i := 48) rfl))) Via.refl e106 fw106 (hb hby d18_24) (pc' := 27) rfl (fun T110 X110 e110 => ?_)
    refine W.alen X110 hx hZ e110 f109 (z := (Int32.ofNat n)) hz (hb hby d18_27) (pc' := 28) rfl ?_
    refine W.s1 (mkF m 30 #[.val (.ref ao), .val (.ref zm), .val (.int xs)] [(.int (67108864 : Int32)), (.int (Int32.ofNat n))]) (fun _ kx_ => X110.ldcInt hx hown (mvT hZ (hw _ (List.mem_of_getElem? (i := 109) rfl))) (g := (mkF m 28 #[.val (.ref ao), .val (.ref zm), .val (.int xs)] [(.int (Int32.ofNat n))])) rfl (hb hby d18_28) _ kx_) ?_
    refine W.icmp X110 hx (hb hby d18_30) (pc' := 37) (pc'' := 33) (by decide) (by decide) rfl (fun (c30 : (Int32.ofNat n) < (67108864 : Int32)) => ?_) (fun (c30 : ¬ (Int32.ofNat n) < (67108864 : Int32)) => ?_)
    · exact W.ret0 X110 hx hlk Bd.returns (hb hby d18_37) (by show Q18 Z ao zm xs u1 u2 n f h0 n0 _ T110.heap _; rw [e110]; exact ⟨rfl, N106, K106, ⟨zm, f107, f108, fw106, f109, hn, Or.inr hs, fun _ => hn1⟩⟩) (by decide) (by decide)
    · exact absurd (show Int32.ofNat n < 67108864 by rw [Int32.lt_iff_toInt_lt, hz, show (67108864 : Int32).toInt = 67108864 from rfl]; omega) c30
  · exact absurd c7 (fun q => by rw [q] at hz; have e0 : (0 : Int32).toInt = 0 := rfl; omega)
theorem ef_3 (m : MethodId) (x0 : Int64) : entryFrame m #[(.long x0)] 2 = mkF m 0 #[.val (.long x0), .second] [] := by first | (simp [entryFrame, mkF, argsToLocals, Value.category]; done) | rfl
theorem d3_0 : decode jdk_2097_method_29_code 0 = .ok (.lload_n 0, 1) := by decide +kernel
theorem d3_1 : decode jdk_2097_method_29_code 1 = .ok (.lconst 0, 1) := by decide +kernel
theorem d3_2 : decode jdk_2097_method_29_code 2 = .ok (.lcmp, 1) := by decide +kernel
theorem d3_3 : decode jdk_2097_method_29_code 3 = .ok (.ifCond .ne 7, 3) := by decide +kernel
theorem d3_10 : decode jdk_2097_method_29_code 10 = .ok (.lload_n 0, 1) := by decide +kernel
theorem d3_11 : decode jdk_2097_method_29_code 11 = .ok (.lconst 0, 1) := by decide +kernel
theorem d3_12 : decode jdk_2097_method_29_code 12 = .ok (.lcmp, 1) := by decide +kernel
theorem d3_13 : decode jdk_2097_method_29_code 13 = .ok (.ifCond .le 18, 3) := by decide +kernel
theorem d3_31 : decode jdk_2097_method_29_code 31 = .ok (.lload_n 0, 1) := by decide +kernel
theorem d3_32 : decode jdk_2097_method_29_code 32 = .ok (.lconst 0, 1) := by decide +kernel
theorem d3_33 : decode jdk_2097_method_29_code 33 = .ok (.lcmp, 1) := by decide +kernel
theorem d3_34 : decode jdk_2097_method_29_code 34 = .ok (.ifCond .ge 19, 3) := by decide +kernel
theorem d3_53 : decode jdk_2097_method_29_code 53 = .ok (.new 23, 3) := by decide +kernel
theorem d3_56 : decode jdk_2097_method_29_code 56 = .ok (.dup, 1) := by decide +kernel
theorem d3_57 : decode jdk_2097_method_29_code 57 = .ok (.lload_n 0, 1) := by decide +kernel
theorem d3_58 : decode jdk_2097_method_29_code 58 = .ok (.invokespecial 356, 3) := by decide +kernel
theorem pd_1 : parseMethodDescriptor "(J)V" = some ⟨[.long], none⟩ := by decide +kernel
theorem d3_61 : decode jdk_2097_method_29_code 61 = .ok (.areturn, 1) := by decide +kernel
theorem d3_37 : decode jdk_2097_method_29_code 37 = .ok (.lload_n 0, 1) := by decide +kernel
theorem d3_38 : decode jdk_2097_method_29_code 38 = .ok (.ldc2_w 351, 3) := by decide +kernel
theorem d3_41 : decode jdk_2097_method_29_code 41 = .ok (.lcmp, 1) := by decide +kernel
theorem d3_42 : decode jdk_2097_method_29_code 42 = .ok (.ifCond .lt 11, 3) := by decide +kernel
theorem d3_45 : decode jdk_2097_method_29_code 45 = .ok (.getstatic 353, 3) := by decide +kernel
theorem d3_48 : decode jdk_2097_method_29_code 48 = .ok (.lload_n 0, 1) := by decide +kernel
theorem d3_49 : decode jdk_2097_method_29_code 49 = .ok (.lneg, 1) := by decide +kernel
theorem d3_50 : decode jdk_2097_method_29_code 50 = .ok (.l2i, 1) := by decide +kernel
theorem d3_51 : decode jdk_2097_method_29_code 51 = .ok (.aaload, 1) := by decide +kernel
theorem d3_52 : decode jdk_2097_method_29_code 52 = .ok (.areturn, 1) := by decide +kernel
theorem d3_16 : decode jdk_2097_method_29_code 16 = .ok (.lload_n 0, 1) := by decide +kernel
theorem d3_17 : decode jdk_2097_method_29_code 17 = .ok (.ldc2_w 345, 3) := by decide +kernel
theorem d3_20 : decode jdk_2097_method_29_code 20 = .ok (.lcmp, 1) := by decide +kernel
theorem d3_21 : decode jdk_2097_method_29_code 21 = .ok (.ifCond .gt 10, 3) := by decide +kernel
theorem d3_24 : decode jdk_2097_method_29_code 24 = .ok (.getstatic 347, 3) := by decide +kernel
theorem d3_27 : decode jdk_2097_method_29_code 27 = .ok (.lload_n 0, 1) := by decide +kernel
theorem d3_28 : decode jdk_2097_method_29_code 28 = .ok (.l2i, 1) := by decide +kernel
theorem d3_29 : decode jdk_2097_method_29_code 29 = .ok (.aaload, 1) := by decide +kernel
theorem d3_30 : decode jdk_2097_method_29_code 30 = .ok (.areturn, 1) := by decide +kernel
theorem d3_6 : decode jdk_2097_method_29_code 6 = .ok (.getstatic 22, 3) := by decide +kernel
theorem d3_9 : decode jdk_2097_method_29_code 9 = .ok (.areturn, 1) := by decide +kernel
def Q3 (Z : State) (yv : Int64) (aZ : Addr) (zp : Addr) (zq : Addr) (nZ : Nat) (fZ : Nat → Int32) (fp : Nat → Value) (fq : Nat → Value) (h0 : Heap) (n0 : Nat) (v : Option Value) (h : Heap) (L : List Loc) : Prop := ∃ (a : Addr) (sg : Int32) (n : Nat) (f : Nat → Int32), v = some (.ref a) ∧ Fr n0 L ∧ Keep h0 h [] ∧ own_BI Z h a sg n f
set_option maxRecDepth 65536 in
set_option maxHeartbeats 40000000 in
theorem rm3 (l : Launch) (Z : State) (a0 : Array Value) (hw : ∀ d ∈ tables_1, d.before a0 Z = true) (ws : List Jvm.Cond) (yv : Int64) (aZ : Addr) (zp : Addr) (zq : Addr) (nZ : Nat) (fZ : Nat → Int32) (fp : Nat → Value) (fq : Nat → Value) (h0 : Heap) (n0 : Nat) (Z0 : n0 ≤ h0.size) (O0 : Old Z n0 h0) (S_ZERO : Sta Z Z.heap "java/math/BigInteger" "ZERO" "Ljava/math/BigInteger;" (.ref aZ)) (S_posConst : Sta Z Z.heap "java/math/BigInteger" "posConst" "[Ljava/math/BigInteger;" (.ref zp)) (S_negConst : Sta Z Z.heap "java/math/BigInteger" "negConst" "[Ljava/math/BigInteger;" (.ref zq)) (HZ : own_BI Z Z.heap aZ 0 nZ fZ) (A_zp : W.AR Z Z.heap zp (.object "java/math/BigInteger") (fun _ => True) 17 fp) (A_zq : W.AR Z Z.heap zq (.object "java/math/BigInteger") (fun _ => True) 17 fq) (h_zp : ∀ k, 1 ≤ k → k ≤ 16 → ∃ (a : Addr) (sg : Int32) (n : Nat) (f : Nat → Int32), fp k = .ref a ∧ own_BI Z Z.heap a sg n f) (h_zq : ∀ k, 1 ≤ k → k ≤ 16 → ∃ (a : Addr) (sg : Int32) (n : Nat) (f : Nat → Int32), fq k = .ref a ∧ own_BI Z Z.heap a sg n f) :
    MetFree l (⟨"java/math/BigInteger", "valueOf", "(J)Ljava/math/BigInteger;"⟩ : MethodName) (head1 (Jvm.Cond.code (⟨"java/math/BigInteger", "valueOf", "(J)Ljava/math/BigInteger;"⟩ : MethodName) jdk_2097_method_29_code 2 (some (.object "java/math/BigInteger")) :: ws) ({ frames := 3, cells := 2, slots := 8, locals := 40 } : Room)) (fun a U => a = #[(.long yv)] ∧ Z.Warmed39 U.vm ∧ U.heap = h0) (fun _ _ _ _ _ => True) (fun _ U o U' => ∃ v L, o = .returned v ∧ Q3 Z yv aZ zp zq nZ fZ fp fq h0 n0 v U'.heap L ∧ FrameEnd U o U' L ({ frames := 3, cells := 2, slots := 8, locals := 40 } : Room).cells ({ frames := 3, cells := 2, slots := 8, locals := 40 } : Room).slots) := by
  refine MetFree.of_bodySF (plainFor_of_name pn_1) hisR ?_
  intro p e s m args below meth c s₁ Bd hml0 hP hK
  obtain ⟨rfl, hZ, hh⟩ := hP
  have hx := Bd.exec
  have hby := Bd.bytes
  have hml : c.maxLocals = 2 := hml0
  have hown : s.vm.findClass "java/math/BigInteger" = some m.cls := findClass_of_methodNamed Bd.named
  have hnm := (name_of_methodNamed Bd.named Bd.method).1
  have hlk : meth.locks = false := BodyLoose.notSynchronized Bd
  have X0 : Stand p l e ({ frames := 3, cells := 2, slots := 8, locals := 40 } : Room) s m #[(.long yv)] below meth c s₁ [] 0 0 := Stand.of_body Bd
  have e0 : s₁.heap = h0 := by rw [← hh, Bd.state]; rfl
  have N0 := Fr.nil n0
  show W.Gl p e below s (Q3 Z yv aZ zp zq nZ fZ fp fq h0 n0) ({ frames := 3, cells := 2, slots := 8, locals := 40 } : Room).cells ({ frames := 3, cells := 2, slots := 8, locals := 40 } : Room).slots s₁ (entryFrame m #[(.long yv)] 2)
  refine W.cast (ef_3 m yv) ?_
  have K0 : Keep h0 h0 [] := Keep.refl h0 []
  have B_zp := A_zp.ext O0.2
  have B_zq := A_zq.ext O0.2
  refine W.s1 (mkF m 1 #[.val (.long yv), .second] [(.long yv)]) (fun _ kx_ => XS.lloadN X0.here hx rfl (hb hby d3_0) rfl kx_) ?_
  refine W.s1 (mkF m 2 #[.val (.long yv), .second] [(.long (0 : Int64)), (.long yv)]) (fun _ kx_ => XS.lconst X0.here hx rfl (hb hby d3_1) kx_) ?_
  refine W.lif X0 hx (hb hby d3_2) (pc1 := 3) rfl (hb hby d3_3) (pc' := 10) (pc'' := 6) (by decide) (by decide) rfl (fun (c3 : ¬ yv = (0 : Int64)) => ?_) (fun (c3 : yv = (0 : Int64)) => ?_)
  · refine W.s1 (mkF m 11 #[.val (.long yv), .second] [(.long yv)]) (fun _ kx_ => XS.lloadN X0.here hx rfl (hb hby d3_10) rfl kx_) ?_
    refine W.s1 (mkF m 12 #[.val (.long yv), .second] [(.long (0 : Int64)), (.long yv)]) (fun _ kx_ => XS.lconst X0.here hx rfl (hb hby d3_11) kx_) ?_
    refine W.lif X0 hx (hb hby d3_12) (pc1 := 13) rfl (hb hby d3_13) (pc' := 31) (pc'' := 16) (by decide) (by decide) rfl (fun (c13 : ¬ (0 : Int64) < yv) => ?_) (fun (c13 : (0 : Int64) < yv) => ?_)
    · refine W.s1 (mkF m 32 #[.val (.long yv), .second] [(.long yv)]) (fun _ kx_ => XS.lloadN X0.here hx rfl (hb hby d3_31) rfl kx_) ?_
      refine W.s1 (mkF m 33 #[.val (.long yv), .second] [(.long (0 : Int64)), (.long yv)]) (fun _ kx_ => XS.lconst X0.here hx rfl (hb hby d3_32) kx_) ?_
      refine W.lif X0 hx (hb hby d3_33) (pc1 := 34) rfl (hb hby d3_34) (pc' := 53) (pc'' := 37) (by decide) (by decide) rfl (fun (c34 : ¬ yv < (0 : Int64)) => ?_) (fun (c34 : yv < (0 : Int64)) => ?_)
      · refine W.newo X0 hx hZ hown (hw _ (List.mem_of_getElem? (i := 32) rfl)) (hw _ (List.mem_of_getElem? (i := 33) rfl)) (hw _ (List.mem_of_getElem? (i := 16) rfl)) e0 (hb hby d3_53) (by decide) (by decide) (pc' := 56) rfl (fun T101 h101 b101 X101 e101 E101 g101 A101 D101 => ?_)
        have ne102 : zp ≠ b101 := Nat.ne_of_lt (Nat.lt_of_lt_of_le B_zp.lt (Nat.le_of_eq g101.symm))
        have ne103 : zq ≠ b101 := Nat.ne_of_lt (Nat.lt_of_lt_of_le B_zq.lt (Nat.le_of_eq g101.symm))
        have ge101 : n0 ≤ b101 := Nat.le_trans Z0 (Nat.le_of_eq g101.symm)
        have sz101 : h0.size ≤ b101 := Nat.le_trans K0.1 (Nat.le_of_eq g101.symm)
        have Z101 : n0 ≤ h101.size := Nat.le_trans Z0 E101.1
        have K101 : Keep h0 h101 [] := K0.ext E101
        have f104 := O0.ext E101
        have f105 := B_zp.ext E101
        have f106 := B_zq.ext E101
        have f107 : Fld Z h101 b101 "java/math/BigInteger" "signum" "I" (.int (0 : Int32)) := D101 (Or.inr (hw _ (List.mem_of_getElem? (i := 46) rfl))) (ty := .int) (by decide)
        have f108 : Fld Z h101 b101 "java/math/BigInteger" "mag" "[I" .null := D101 (Or.inr (hw _ (List.mem_of_getElem? (i := 49) rfl))) (ty := (.array .int)) (by decide)
        refine W.s1 (mkF m 57 #[.val (.long yv), .second] [(.ref b101), (.ref b101)]) (fun _ kx_ => XS.dup X101.here hx rfl (hb hby d3_56) rfl rfl kx_) ?_
        refine W.s1 (mkF m 58 #[.val (.long yv), .second] [(.long yv), (.ref b101), (.ref b101)]) (fun _ kx_ => XS.lloadN X101.here hx rfl (hb hby d3_57) rfl kx_) ?_
        obtain ⟨_, _, ⟨T109, L109, k109, n109⟩, -, X109, ⟨Lc109, hQ109, l109, y109, z109⟩, st109⟩ := X101.specialBack hx (y := (⟨"java/math/BigInteger", "<init>", "(J)V"⟩ : MethodName)) rfl hown (mvT hZ (hw _ (List.mem_of_getElem? (i := 34) rfl))) (mvT hZ (hw _ (List.mem_of_getElem? (i := 35) rfl))) (mvT hZ (hw _ (List.mem_of_getElem? (i := 37) rfl))) (by decide) (backOf (W := 1) (rm6 l Z a0 hw [] b101 yv (.int (0 : Int32)) .null h101 n0 Z101 A101 f107 f108 ge101) hZ (hw _ (List.mem_of_getElem? (i := 37) rfl)) (hw _ (List.mem_of_getElem? (i := 16) rfl)) (by decide) (by decide)) (g := (mkF m 58 #[.val (.long yv), .second] [(.long yv), (.ref b101), (.ref b101)])) rfl (by rw [hml]; rfl) (Steps.refl _) (a := b101) (argsL := [(.long yv)]) (rest := [(.ref b101)]) (lenOf pd_1 rfl) rfl (by show 2 * 0 + _ ≤ _; exact Nat.le_of_eq rfl) (hb hby d3_58) (fun _ _ => ⟨rfl, e101, (by decide : 1 + 1 ≤ _), (by decide : 6 + 2 ≤ _)⟩)
        dsimp only [Pt.U, Pt.locs, Pt.cells, Pt.slots] at X109 l109 y109 z109 st109 hQ109
        subst l109 y109 z109
        obtain ⟨h109, e109⟩ : ∃ z, T109.heap = z := ⟨_, rfl⟩
        rw [e109] at hQ109
        obtain ⟨rfl, Nq109, Kq109, sc, nc, fc, Hc⟩ := hQ109
        have N109 := Fr.app N0 Nq109
        have Z109 : n0 ≤ h109.size := Nat.le_trans Z101 Kq109.1
        have K109 : Keep h0 h109 [] := K101.trans Kq109 (allS (Or.inr sz101) all0)
        have f110 := f104.keep Kq109 (allS ge101 all0)
        have f111 := f105.keep Kq109 (ninS ne102 nin0)
        have f112 := f106.keep Kq109 (ninS ne103 nin0)
        have f113 := A101.keep Kq109
        refine W.s3 (mkF m 61 #[.val (.long yv), .second] [(.ref b101)]) st109 ?_
        exact W.retA X109 hx hlk Bd.returns rfl rfl rfl (hb hby d3_61) (by show Q3 Z yv aZ zp zq nZ fZ fp fq h0 n0 _ T109.heap _; rw [e109]; exact ⟨_, _, _, _, rfl, N109, K109, Hc⟩) (by decide) (by decide)
      · refine W.s1 (mkF m 38 #[.val (.long yv), .second] [(.long yv)]) (fun _ kx_ => XS.lloadN X0.here hx rfl (hb hby d3_37) rfl kx_) ?_
        refine W.s1 (mkF m 41 #[.val (.long yv), .second] [(.long (-16 : Int64)), (.long yv)]) (fun _ kx_ => X0.ldc2Long hx hown (mvT hZ (hw _ (List.mem_of_getElem? (i := 31) rfl))) (g := (mkF m 38 #[.val (.long yv), .second] [(.long yv)])) rfl (hb hby d3_38) _ kx_) ?_
        refine W.lif X0 hx (hb hby d3_41) (pc1 := 42) rfl (hb hby d3_42) (pc' := 53) (pc'' := 45) (by decide) (by decide) rfl (fun (c42 : yv < (-16 : Int64)) => ?_) (fun (c42 : ¬ yv < (-16 : Int64)) => ?_)
        · refine W.newo X0 hx hZ hown (hw _ (List.mem_of_getElem? (i := 32) rfl)) (hw _ (List.mem_of_getElem? (i := 33) rfl)) (hw _ (List.mem_of_getElem? (i := 16) rfl)) e0 (hb hby d3_53) (by decide) (by decide) (pc' := 56) rfl (fun T116 h116 b116 X116 e116 E116 g116 A116 D116 => ?_)
          have ne117 : zp ≠ b116 := Nat.ne_of_lt (Nat.lt_of_lt_of_le B_zp.lt (Nat.le_of_eq g116.symm))
          have ne118 : zq ≠ b116 := Nat.ne_of_lt (Nat.lt_of_lt_of_le B_zq.lt (Nat.le_of_eq g116.symm))
          have ge116 : n0 ≤ b116 := Nat.le_trans Z0 (Nat.le_of_eq g116.symm)
          have sz116 : h0.size ≤ b116 := Nat.le_trans K0.1 (Nat.le_of_eq g116.symm)
          have Z116 : n0 ≤ h116.size := Nat.le_trans Z0 E116.1
          have K116 : Keep h0 h116 [] := K0.ext E116
          have f119 := O0.ext E116
          have f120 := B_zp.ext E116
          have f121 := B_zq.ext E116
          have f122 : Fld Z h116 b116 "java/math/BigInteger" "signum" "I" (.int (0 : Int32)) := D116 (Or.inr (hw _ (List.mem_of_getElem? (i := 46) rfl))) (ty := .int) (by decide)
          have f123 : Fld Z h116 b116 "java/math/BigInteger" "mag" "[I" .null := D116 (Or.inr (hw _ (List.mem_of_getElem? (i := 49) rfl))) (ty := (.array .int)) (by decide)
          refine W.s1 (mkF m 57 #[.val (.long yv), .second] [(.ref b116), (.ref b116)]) (fun _ kx_ => XS.dup X116.here hx rfl (hb hby d3_56) rfl rfl kx_) ?_
          refine W.s1 (mkF m 58 #[.val (.long yv), .second] [(.long yv), (.ref b116), (.ref b116)]) (fun _ kx_ => XS.lloadN X116.here hx rfl (hb hby d3_57) rfl kx_) ?_
          obtain ⟨_, _, ⟨T124, L124, k124, n124⟩, -, X124, ⟨Lc124, hQ124, l124, y124, z124⟩, st124⟩ := X116.specialBack hx (y := (⟨"java/math/BigInteger", "<init>", "(J)V"⟩ : MethodName)) rfl hown (mvT hZ (hw _ (List.mem_of_getElem? (i := 34) rfl))) (mvT hZ (hw _ (List.mem_of_getElem? (i := 35) rfl))) (mvT hZ (hw _ (List.mem_of_getElem? (i := 37) rfl))) (by decide) (backOf (W := 1) (rm6 l Z a0 hw [] b116 yv (.int (0 : Int32)) .null h116 n0 Z116 A116 f122 f123 ge116) hZ (hw _ (List.mem_of_getElem? (i := 37) rfl)) (hw _ (List.mem_of_getElem? (i := 16) rfl)) (by decide) (by decide)) (g := (mkF m 58 #[.val (.long yv), .second] [(.long yv), (.ref b116), (.ref b116)])) rfl (by rw [hml]; rfl) (Steps.refl _) (a := b116) (argsL := [(.long yv)]) (rest := [(.ref b116)]) (lenOf pd_1 rfl) rfl (by show 2 * 0 + _ ≤ _; exact Nat.le_of_eq rfl) (hb hby d3_58) (fun _ _ => ⟨rfl, e116, (by decide : 1 + 1 ≤ _), (by decide : 6 + 2 ≤ _)⟩)
          dsimp only [Pt.U, Pt.locs, Pt.cells, Pt.slots] at X124 l124 y124 z124 st124 hQ124
          subst l124 y124 z124
          obtain ⟨h124, e124⟩ : ∃ z, T124.heap = z := ⟨_, rfl⟩
          rw [e124] at hQ124
          obtain ⟨rfl, Nq124, Kq124, sc, nc, fc, Hc⟩ := hQ124
          have N124 := Fr.app N0 Nq124
          have Z124 : n0 ≤ h124.size := Nat.le_trans Z116 Kq124.1
          have K124 : Keep h0 h124 [] := K116.trans Kq124 (allS (Or.inr sz116) all0)
          have f125 := f119.keep Kq124 (allS ge116 all0)
          have f126 := f120.keep Kq124 (ninS ne117 nin0)
          have f127 := f121.keep Kq124 (ninS ne118 nin0)
          have f128 := A116.keep Kq124
          refine W.s3 (mkF m 61 #[.val (.long yv), .second] [(.ref b116)]) st124 ?_
          exact W.retA X124 hx hlk Bd.returns rfl rfl rfl (hb hby d3_61) (by show Q3 Z yv aZ zp zq nZ fZ fp fq h0 n0 _ T124.heap _; rw [e124]; exact ⟨_, _, _, _, rfl, N124, K124, Hc⟩) (by decide) (by decide)
        · refine W.gets X0 hx hZ hown (host := "") (Or.inl (hw _ (List.mem_of_getElem? (i := 126) rfl))) Via.refl e0 (Sta.ext O0.2 S_negConst) (hb hby d3_45) (pc' := 48) rfl (fun T131 X131 e131 => ?_)
          refine W.s1 (mkF m 49 #[.val (.long yv), .second] [(.long yv), (.ref zq)]) (fun _ kx_ => XS.lloadN X131.here hx rfl (hb hby d3_48) rfl kx_) ?_
          refine W.s1 (mkF m 50 #[.val (.long yv), .second] [(.long (-yv)), (.ref zq)]) (fun _ kx_ => XS.lneg X131.here hx rfl (hb hby d3_49) rfl kx_) ?_
          refine W.s1 (mkF m 51 #[.val (.long yv), .second] [(.int ((-yv).toInt32)), (.ref zq)]) (fun _ kx_ => XS.l2i X131.here hx rfl (hb hby d3_50) rfl kx_) ?_
          obtain ⟨k, hk, hk1, hk2⟩ : ∃ k : Nat, ((-yv).toInt32).toInt = k ∧ 1 ≤ k ∧ k ≤ 16 := by rw [Int64.lt_iff_toInt_lt] at c34 c42; have e0 : (0 : Int64).toInt = 0 := rfl; have e1 : (-16 : Int64).toInt = -16 := rfl; have q0 := c_lneg yv; have q3 := (-yv).toInt_lt; have q4 := (-yv).le_toInt; have q1 := c_l2i (-yv); have q2 := rng32 (-yv).toInt32; exact ⟨(-yv).toInt32.toInt.toNat, by omega, by omega, by omega⟩
          refine W.ldr X131 hx hZ e131 B_zq rfl k hk (by omega) (hb hby d3_51) (pc' := 52) rfl ?_
          obtain ⟨ac, sc, nc, fc, ec, Hc⟩ := h_zq k hk1 hk2
          rw [ec]
          exact W.retA X131 hx hlk Bd.returns rfl rfl rfl (hb hby d3_52) (by show Q3 Z yv aZ zp zq nZ fZ fp fq h0 n0 _ T131.heap _; rw [e131]; exact ⟨_, _, _, _, rfl, N0, K0, (Hc.ext O0.2)⟩) (by decide) (by decide)
    · refine W.s1 (mkF m 17 #[.val (.long yv), .second] [(.long yv)]) (fun _ kx_ => XS.lloadN X0.here hx rfl (hb hby d3_16) rfl kx_) ?_
      refine W.s1 (mkF m 20 #[.val (.long yv), .second] [(.long (16 : Int64)), (.long yv)]) (fun _ kx_ => X0.ldc2Long hx hown (mvT hZ (hw _ (List.mem_of_getElem? (i := 18) rfl))) (g := (mkF m 17 #[.val (.long yv), .second] [(.long yv)])) rfl (hb hby d3_17) _ kx_) ?_
      refine W.lif X0 hx (hb hby d3_20) (pc1 := 21) rfl (hb hby d3_21) (pc' := 31) (pc'' := 24) (by decide) (by decide) rfl (fun (c21 : (16 : Int64) < yv) => ?_) (fun (c21 : ¬ (16 : Int64) < yv) => ?_)
      · refine W.s1 (mkF m 32 #[.val (.long yv), .second] [(.long yv)]) (fun _ kx_ => XS.lloadN X0.here hx rfl (hb hby d3_31) rfl kx_) ?_
        refine W.s1 (mkF m 33 #[.val (.long yv), .second] [(.long (0 : Int64)), (.long yv)]) (fun _ kx_ => XS.lconst X0.here hx rfl (hb hby d3_32) kx_) ?_
        refine W.lif X0 hx (hb hby d3_33) (pc1 := 34) rfl (hb hby d3_34) (pc' := 53) (pc'' := 37) (by decide) (by decide) rfl (fun (c34 : ¬ yv < (0 : Int64)) => ?_) (fun (c34 : yv < (0 : Int64)) => ?_)
        · refine W.newo X0 hx hZ hown (hw _ (List.mem_of_getElem? (i := 32) rfl)) (hw _ (List.mem_of_getElem? (i := 33) rfl)) (hw _ (List.mem_of_getElem? (i := 16) rfl)) e0 (hb hby d3_53) (by decide) (by decide) (pc' := 56) rfl (fun T132 h132 b132 X132 e132 E132 g132 A132 D132 => ?_)
          have ne133 : zp ≠ b132 := Nat.ne_of_lt (Nat.lt_of_lt_of_le B_zp.lt (Nat.le_of_eq g132.symm))
          have ne134 : zq ≠ b132 := Nat.ne_of_lt (Nat.lt_of_lt_of_le B_zq.lt (Nat.le_of_eq g132.symm))
          have ge132 : n0 ≤ b132 := Nat.le_trans Z0 (Nat.le_of_eq g132.symm)
          have sz132 : h0.size ≤ b132 := Nat.le_trans K0.1 (Nat.le_of_eq g132.symm)
          have Z132 : n0 ≤ h132.size := Nat.le_trans Z0 E132.1
          have K132 : Keep h0 h132 [] := K0.ext E132
          have f135 := O0.ext E132
          have f136 := B_zp.ext E132
          have f137 := B_zq.ext E132
          have f138 : Fld Z h132 b132 "java/math/BigInteger" "signum" "I" (.int (0 : Int32)) := D132 (Or.inr (hw _ (List.mem_of_getElem? (i := 46) rfl))) (ty := .int) (by decide)
          have f139 : Fld Z h132 b132 "java/math/BigInteger" "mag" "[I" .null := D132 (Or.inr (hw _ (List.mem_of_getElem? (i := 49) rfl))) (ty := (.array .int)) (by decide)
          refine W.s1 (mkF m 57 #[.val (.long yv), .second] [(.ref b132), (.ref b132)]) (fun _ kx_ => XS.dup X132.here hx rfl (hb hby d3_56) rfl rfl kx_) ?_
          refine W.s1 (mkF m 58 #[.val (.long yv), .second] [(.long yv), (.ref b132), (.ref b132)]) (fun _ kx_ => XS.lloadN X132.here hx rfl (hb hby d3_57) rfl kx_) ?_
          obtain ⟨_, _, ⟨T140, L140, k140, n140⟩, -, X140, ⟨Lc140, hQ140, l140, y140, z140⟩, st140⟩ := X132.specialBack hx (y := (⟨"java/math/BigInteger", "<init>", "(J)V"⟩ : MethodName)) rfl hown (mvT hZ (hw _ (List.mem_of_getElem? (i := 34) rfl))) (mvT hZ (hw _ (List.mem_of_getElem? (i := 35) rfl))) (mvT hZ (hw _ (List.mem_of_getElem? (i := 37) rfl))) (by decide) (backOf (W := 1) (rm6 l Z a0 hw [] b132 yv (.int (0 : Int32)) .null h132 n0 Z132 A132 f138 f139 ge132) hZ (hw _ (List.mem_of_getElem? (i := 37) rfl)) (hw _ (List.mem_of_getElem? (i := 16) rfl)) (by decide) (by decide)) (g := (mkF m 58 #[.val (.long yv), .second] [(.long yv), (.ref b132), (.ref b132)])) rfl (by rw [hml]; rfl) (Steps.refl _) (a := b132) (argsL := [(.long yv)]) (rest := [(.ref b132)]) (lenOf pd_1 rfl) rfl (by show 2 * 0 + _ ≤ _; exact Nat.le_of_eq rfl) (hb hby d3_58) (fun _ _ => ⟨rfl, e132, (by decide : 1 + 1 ≤ _), (by decide : 6 + 2 ≤ _)⟩)
          dsimp only [Pt.U, Pt.locs, Pt.cells, Pt.slots] at X140 l140 y140 z140 st140 hQ140
          subst l140 y140 z140
          obtain ⟨h140, e140⟩ : ∃ z, T140.heap = z := ⟨_, rfl⟩
          rw [e140] at hQ140
          obtain ⟨rfl, Nq140, Kq140, sc, nc, fc, Hc⟩ := hQ140
          have N140 := Fr.app N0 Nq140
          have Z140 : n0 ≤ h140.size := Nat.le_trans Z132 Kq140.1
          have K140 : Keep h0 h140 [] := K132.trans Kq140 (allS (Or.inr sz132) all0)
          have f141 := f135.keep Kq140 (allS ge132 all0)
          have f142 := f136.keep Kq140 (ninS ne133 nin0)
          have f143 := f137.keep Kq140 (ninS ne134 nin0)
          have f144 := A132.keep Kq140
          refine W.s3 (mkF m 61 #[.val (.long yv), .second] [(.ref b132)]) st140 ?_
          exact W.retA X140 hx hlk Bd.returns rfl rfl rfl (hb hby d3_61) (by show Q3 Z yv aZ zp zq nZ fZ fp fq h0 n0 _ T140.heap _; rw [e140]; exact ⟨_, _, _, _, rfl, N140, K140, Hc⟩) (by decide) (by decide)
        · refine W.s1 (mkF m 38 #[.val (.long yv), .second] [(.long yv)]) (fun _ kx_ => XS.lloadN X0.here hx rfl (hb hby d3_37) rfl kx_) ?_
          refine W.s1 (mkF m 41 #[.val (.long yv), .second] [(.long (-16 : Int64)), (.long yv)]) (fun _ kx_ => X0.ldc2Long hx hown (mvT hZ (hw _ (List.mem_of_getElem? (i := 31) rfl))) (g := (mkF m 38 #[.val (.long yv), .second] [(.long yv)])) rfl (hb hby d3_38) _ kx_) ?_
          refine W.lif X0 hx (hb hby d3_41) (pc1 := 42) rfl (hb hby d3_42) (pc' := 53) (pc'' := 45) (by decide) (by decide) rfl (fun (c42 : yv < (-16 : Int64)) => ?_) (fun (c42 : ¬ yv < (-16 : Int64)) => ?_)
          · refine W.newo X0 hx hZ hown (hw _ (List.mem_of_getElem? (i := 32) rfl)) (hw _ (List.mem_of_getElem? (i := 33) rfl)) (hw _ (List.mem_of_getElem? (i := 16) rfl)) e0 (hb hby d3_53) (by decide) (by decide) (pc' := 56) rfl (fun T147 h147 b147 X147 e147 E147 g147 A147 D147 => ?_)
            have ne148 : zp ≠ b147 := Nat.ne_of_lt (Nat.lt_of_lt_of_le B_zp.lt (Nat.le_of_eq g147.symm))
            have ne149 : zq ≠ b147 := Nat.ne_of_lt (Nat.lt_of_lt_of_le B_zq.lt (Nat.le_of_eq g147.symm))
            have ge147 : n0 ≤ b147 := Nat.le_trans Z0 (Nat.le_of_eq g147.symm)
            have sz147 : h0.size ≤ b147 := Nat.le_trans K0.1 (Nat.le_of_eq g147.symm)
            have Z147 : n0 ≤ h147.size := Nat.le_trans Z0 E147.1
            have K147 : Keep h0 h147 [] := K0.ext E147
            have f150 := O0.ext E147
            have f151 := B_zp.ext E147
            have f152 := B_zq.ext E147
            have f153 : Fld Z h147 b147 "java/math/BigInteger" "signum" "I" (.int (0 : Int32)) := D147 (Or.inr (hw _ (List.mem_of_getElem? (i := 46) rfl))) (ty := .int) (by decide)
            have f154 : Fld Z h147 b147 "java/math/BigInteger" "mag" "[I" .null := D147 (Or.inr (hw _ (List.mem_of_getElem? (i := 49) rfl))) (ty := (.array .int)) (by decide)
            refine W.s1 (mkF m 57 #[.val (.long yv), .second] [(.ref b147), (.ref b147)]) (fun _ kx_ => XS.dup X147.here hx rfl (hb hby d3_56) rfl rfl kx_) ?_
            refine W.s1 (mkF m 58 #[.val (.long yv), .second] [(.long yv), (.ref b147), (.ref b147)]) (fun _ kx_ => XS.lloadN X147.here hx rfl (hb hby d3_57) rfl kx_) ?_
            obtain ⟨_, _, ⟨T155, L155, k155, n155⟩, -, X155, ⟨Lc155, hQ155, l155, y155, z155⟩, st155⟩ := X147.specialBack hx (y := (⟨"java/math/BigInteger", "<init>", "(J)V"⟩ : MethodName)) rfl hown (mvT hZ (hw _ (List.mem_of_getElem? (i := 34) rfl))) (mvT hZ (hw _ (List.mem_of_getElem? (i := 35) rfl))) (mvT hZ (hw _ (List.mem_of_getElem? (i := 37) rfl))) (by decide) (backOf (W := 1) (rm6 l Z a0 hw [] b147 yv (.int (0 : Int32)) .null h147 n0 Z147 A147 f153 f154 ge147) hZ (hw _ (List.mem_of_getElem? (i := 37) rfl)) (hw _ (List.mem_of_getElem? (i := 16) rfl)) (by decide) (by decide)) (g := (mkF m 58 #[.val (.long yv), .second] [(.long yv), (.ref b147), (.ref b147)])) rfl (by rw [hml]; rfl) (Steps.refl _) (a := b147) (argsL := [(.long yv)]) (rest := [(.ref b147)]) (lenOf pd_1 rfl) rfl (by show 2 * 0 + _ ≤ _; exact Nat.le_of_eq rfl) (hb hby d3_58) (fun _ _ => ⟨rfl, e147, (by decide : 1 + 1 ≤ _), (by decide : 6 + 2 ≤ _)⟩)
            dsimp only [Pt.U, Pt.locs, Pt.cells, Pt.slots] at X155 l155 y155 z155 st155 hQ155
            subst l155 y155 z155
            obtain ⟨h155, e155⟩ : ∃ z, T155.heap = z := ⟨_, rfl⟩
            rw [e155] at hQ155
            obtain ⟨rfl, Nq155, Kq155, sc, nc, fc, Hc⟩ := hQ155
            have N155 := Fr.app N0 Nq155
            have Z155 : n0 ≤ h155.size := Nat.le_trans Z147 Kq155.1
            have K155 : Keep h0 h155 [] := K147.trans Kq155 (allS (Or.inr sz147) all0)
            have f156 := f150.keep Kq155 (allS ge147 all0)
            have f157 := f151.keep Kq155 (ninS ne148 nin0)
            have f158 := f152.keep Kq155 (ninS ne149 nin0)
            have f159 := A147.keep Kq155
            refine W.s3 (mkF m 61 #[.val (.long yv), .second] [(.ref b147)]) st155 ?_
            exact W.retA X155 hx hlk Bd.returns rfl rfl rfl (hb hby d3_61) (by show Q3 Z yv aZ zp zq nZ fZ fp fq h0 n0 _ T155.heap _; rw [e155]; exact ⟨_, _, _, _, rfl, N155, K155, Hc⟩) (by decide) (by decide)
          · refine W.gets X0 hx hZ hown (host := "") (Or.inl (hw _ (List.mem_of_getElem? (i := 126) rfl))) Via.refl e0 (Sta.ext O0.2 S_negConst) (hb hby d3_45) (pc' := 48) rfl (fun T162 X162 e162 => ?_)
            refine W.s1 (mkF m 49 #[.val (.long yv), .second] [(.long yv), (.ref zq)]) (fun _ kx_ => XS.lloadN X162.here hx rfl (hb hby d3_48) rfl kx_) ?_
            refine W.s1 (mkF m 50 #[.val (.long yv), .second] [(.long (-yv)), (.ref zq)]) (fun _ kx_ => XS.lneg X162.here hx rfl (hb hby d3_49) rfl kx_) ?_
            refine W.s1 (mkF m 51 #[.val (.long yv), .second] [(.int ((-yv).toInt32)), (.ref zq)]) (fun _ kx_ => XS.l2i X162.here hx rfl (hb hby d3_50) rfl kx_) ?_
            obtain ⟨k, hk, hk1, hk2⟩ : ∃ k : Nat, ((-yv).toInt32).toInt = k ∧ 1 ≤ k ∧ k ≤ 16 := by rw [Int64.lt_iff_toInt_lt] at c34 c42; have e0 : (0 : Int64).toInt = 0 := rfl; have e1 : (-16 : Int64).toInt = -16 := rfl; have q0 := c_lneg yv; have q3 := (-yv).toInt_lt; have q4 := (-yv).le_toInt; have q1 := c_l2i (-yv); have q2 := rng32 (-yv).toInt32; exact ⟨(-yv).toInt32.toInt.toNat, by omega, by omega, by omega⟩
            refine W.ldr X162 hx hZ e162 B_zq rfl k hk (by omega) (hb hby d3_51) (pc' := 52) rfl ?_
            obtain ⟨ac, sc, nc, fc, ec, Hc⟩ := h_zq k hk1 hk2
            rw [ec]
            exact W.retA X162 hx hlk Bd.returns rfl rfl rfl (hb hby d3_52) (by show Q3 Z yv aZ zp zq nZ fZ fp fq h0 n0 _ T162.heap _; rw [e162]; exact ⟨_, _, _, _, rfl, N0, K0, (Hc.ext O0.2)⟩) (by decide) (by decide)
      · refine W.gets X0 hx hZ hown (host := "") (Or.inl (hw _ (List.mem_of_getElem? (i := 19) rfl))) Via.refl e0 (Sta.ext O0.2 S_posConst) (hb hby d3_24) (pc' := 27) rfl (fun T163 X163 e163 => ?_)
        refine W.s1 (mkF m 28 #[.val (.long yv), .second] [(.long yv), (.ref zp)]) (fun _ kx_ => XS.lloadN X163.here hx rfl (hb hby d3_27) rfl kx_) ?_
        refine W.s1 (mkF m 29 #[.val (.long yv), .second] [(.int (yv.toInt32)), (.ref zp)]) (fun _ kx_ => XS.l2i X163.here hx rfl (hb hby d3_28) rfl kx_) ?_
        obtain ⟨k, hk, hk1, hk2⟩ : ∃ k : Nat, (yv.toInt32).toInt = k ∧ 1 ≤ k ∧ k ≤ 16 := by rw [Int64.lt_iff_toInt_lt] at c13 c21; have e0 : (0 : Int64).toInt = 0 := rfl; have e1 : (16 : Int64).toInt = 16 := rfl; have q1 := c_l2i yv; have q2 := rng32 yv.toInt32; exact ⟨yv.toInt32.toInt.toNat, by omega, by omega, by omega⟩
        refine W.ldr X163 hx hZ e163 B_zp rfl k hk (by omega) (hb hby d3_29) (pc' := 30) rfl ?_
        obtain ⟨ac, sc, nc, fc, ec, Hc⟩ := h_zp k hk1 hk2
        rw [ec]
        exact W.retA X163 hx hlk Bd.returns rfl rfl rfl (hb hby d3_30) (by show Q3 Z yv aZ zp zq nZ fZ fp fq h0 n0 _ T163.heap _; rw [e163]; exact ⟨_, _, _, _, rfl, N0, K0, (Hc.ext O0.2)⟩) (by decide) (by decide)
  · refine W.gets X0 hx hZ hown (host := "") (Or.inl (hw _ (List.mem_of_getElem? (i := 131) rfl))) Via.refl e0 (Sta.ext O0.2 S_ZERO) (hb hby d3_6) (pc' := 9) rfl (fun T164 X164 e164 => ?_)
    exact W.retA X164 hx hlk Bd.returns rfl rfl rfl (hb hby d3_9) (by show Q3 Z yv aZ zp zq nZ fZ fp fq h0 n0 _ T164.heap _; rw [e164]; exact ⟨_, _, _, _, rfl, N0, K0, (HZ.ext O0.2)⟩) (by decide) (by decide)
theorem pn_2 : plainName "com/example/hybridge/hybridge/model/Rational" = true := by first | (simp [plainName, overriddenIn]; done) | decide +kernel
theorem ef_4 (m : MethodId) (x0 : Addr) (x1 : Addr) (x2 : Addr) : entryFrame m #[(.ref x0), (.ref x1), (.ref x2)] 3 = mkF m 0 #[.val (.ref x0), .val (.ref x1), .val (.ref x2)] [] := by first | (simp [entryFrame, mkF, argsToLocals, Value.category]; done) | rfl
theorem d4_0 : decode prog_75_method_1_code 0 = .ok (.aload_n 0, 1) := by decide +kernel
theorem d4_1 : decode prog_75_method_1_code 1 = .ok (.invokespecial 1, 3) := by decide +kernel
theorem d4_4 : decode prog_75_method_1_code 4 = .ok (.aload_n 0, 1) := by decide +kernel
theorem d4_5 : decode prog_75_method_1_code 5 = .ok (.aload_n 1, 1) := by decide +kernel
theorem d4_6 : decode prog_75_method_1_code 6 = .ok (.putfield 7, 3) := by decide +kernel
theorem d4_9 : decode prog_75_method_1_code 9 = .ok (.aload_n 0, 1) := by decide +kernel
theorem d4_10 : decode prog_75_method_1_code 10 = .ok (.aload_n 2, 1) := by decide +kernel
theorem d4_11 : decode prog_75_method_1_code 11 = .ok (.putfield 13, 3) := by decide +kernel
theorem d4_14 : decode prog_75_method_1_code 14 = .ok (.return_, 1) := by decide +kernel
def Q4 (Z : State) (ao : Addr) (an : Addr) (ad : Addr) (u1 : Value) (u2 : Value) (h0 : Heap) (n0 : Nat) (v : Option Value) (h : Heap) (L : List Loc) : Prop := v = none ∧ Fr n0 L ∧ Keep h0 h [ao] ∧ Fld Z h ao "com/example/hybridge/hybridge/model/Rational" "numerator" "Ljava/math/BigInteger;" (.ref an) ∧ Fld Z h ao "com/example/hybridge/hybridge/model/Rational" "denominator" "Ljava/math/BigInteger;" (.ref ad)
set_option maxRecDepth 65536 in
set_option maxHeartbeats 40000000 in
theorem rm4 (l : Launch) (Z : State) (a0 : Array Value) (hw : ∀ d ∈ tables_1, d.before a0 Z = true) (ws : List Jvm.Cond) (ao : Addr) (an : Addr) (ad : Addr) (u1 : Value) (u2 : Value) (h0 : Heap) (n0 : Nat) (Z0 : n0 ≤ h0.size) (E0 : Exa Z h0 ao "com/example/hybridge/hybridge/model/Rational") (F1 : Fld Z h0 ao "com/example/hybridge/hybridge/model/Rational" "numerator" "Ljava/math/BigInteger;" u1) (F2 : Fld Z h0 ao "com/example/hybridge/hybridge/model/Rational" "denominator" "Ljava/math/BigInteger;" u2) (g0 : n0 ≤ ao) :
    MetFree l (⟨"com/example/hybridge/hybridge/model/Rational", "<init>", "(Ljava/math/BigInteger;Ljava/math/BigInteger;)V"⟩ : MethodName) (head1 (Jvm.Cond.code (⟨"com/example/hybridge/hybridge/model/Rational", "<init>", "(Ljava/math/BigInteger;Ljava/math/BigInteger;)V"⟩ : MethodName) prog_75_method_1_code 3 none :: ws) ({ frames := 1, cells := 0, slots := 0, locals := 12 } : Room)) (fun a U => a = #[(.ref ao), (.ref an), (.ref ad)] ∧ Z.Warmed39 U.vm ∧ U.heap = h0) (fun _ _ _ _ _ => True) (fun _ U o U' => ∃ v L, o = .returned v ∧ Q4 Z ao an ad u1 u2 h0 n0 v U'.heap L ∧ FrameEnd U o U' L ({ frames := 1, cells := 0, slots := 0, locals := 12 } : Room).cells ({ frames := 1, cells := 0, slots := 0, locals := 12 } : Room).slots) := by
  refine MetFree.of_bodySF (plainFor_of_name pn_2) hisR ?_
  intro p e s m args below meth c s₁ Bd hml0 hP hK
  obtain ⟨rfl, hZ, hh⟩ := hP
  have hx := Bd.exec
  have hby := Bd.bytes
  have hml : c.maxLocals = 3 := hml0
  have hown : s.vm.findClass "com/example/hybridge/hybridge/model/Rational" = some m.cls := findClass_of_methodNamed Bd.named
  have hnm := (name_of_methodNamed Bd.named Bd.method).1
  have hlk : meth.locks = false := BodyLoose.notSynchronized Bd
  have X0 : Stand p l e ({ frames := 1, cells := 0, slots := 0, locals := 12 } : Room) s m #[(.ref ao), (.ref an), (.ref ad)] below meth c s₁ [] 0 0 := Stand.of_body Bd
  have e0 : s₁.heap = h0 := by rw [← hh, Bd.state]; rfl
  have N0 := Fr.nil n0
  show W.Gl p e below s (Q4 Z ao an ad u1 u2 h0 n0) ({ frames := 1, cells := 0, slots := 0, locals := 12 } : Room).cells ({ frames := 1, cells := 0, slots := 0, locals := 12 } : Room).slots s₁ (entryFrame m #[(.ref ao), (.ref an), (.ref ad)] 3)
  refine W.cast (ef_4 m ao an ad) ?_
  have K0 : Keep h0 h0 [ao] := Keep.refl h0 [ao]
  refine W.s1 (mkF m 1 #[.val (.ref ao), .val (.ref an), .val (.ref ad)] [(.ref ao)]) (fun _ kx_ => XS.aloadN X0.here hx rfl (hb hby d4_0) rfl rfl kx_) ?_
  obtain ⟨T101, X101, e101, st101⟩ := initO X0 hx hZ hown (hw _ (List.mem_of_getElem? (i := 24) rfl)) (hw _ (List.mem_of_getElem? (i := 25) rfl)) (hw _ (List.mem_of_getElem? (i := 26) rfl)) e0 (g := (mkF m 1 #[.val (.ref ao), .val (.ref an), .val (.ref ad)] [(.ref ao)])) rfl (by rw [hml]; rfl) rfl (hb hby d4_1) (by decide) (W := 0) (by show 2 * 0 + _ ≤ _; exact Nat.le_of_eq rfl) (by decide)
  refine W.s2 (mkF m 4 #[.val (.ref ao), .val (.ref an), .val (.ref ad)] []) st101 ?_
  refine W.s1 (mkF m 5 #[.val (.ref ao), .val (.ref an), .val (.ref ad)] [(.ref ao)]) (fun _ kx_ => XS.aloadN X101.here hx rfl (hb hby d4_4) rfl rfl kx_) ?_
  refine W.s1 (mkF m 6 #[.val (.ref ao), .val (.ref an), .val (.ref ad)] [(.ref an), (.ref ao)]) (fun _ kx_ => XS.aloadN X101.here hx rfl (hb hby d4_5) rfl rfl kx_) ?_
  refine W.putf X101 hx hZ hown (host := "") (Or.inl (hw _ (List.mem_of_getElem? (i := 27) rfl))) Via.refl e101 F1 E0 (Or.inr ⟨(hw _ (List.mem_of_getElem? (i := 28) rfl)), rfl, hnm⟩) (hw _ (List.mem_of_getElem? (i := 13) rfl)) (ty := (.object "java/math/BigInteger")) (by decide) rfl rfl N0 g0 (hb hby d4_6) (pc' := 9) rfl (fun T102 h102 L102 X102 e102 W102 fw102 N102 => ?_)
  have Z102 : n0 ≤ h102.size := Nat.le_trans Z0 (Keep.of_wr W102).1
  have f103 := E0.wr W102
  have f104 := F2.other W102 (Or.inr (slot_ne (Or.inr (hw _ (List.mem_of_getElem? (i := 30) rfl))) (Or.inr (hw _ (List.mem_of_getElem? (i := 28) rfl))) (by decide) (t := (.object "java/math/BigInteger")) (t' := (.object "java/math/BigInteger")) (by decide) (by decide)))
  have K102 : Keep h0 h102 [ao] := K0.wr W102 (Or.inl (List.mem_of_getElem? (i := 0) rfl))
  refine W.s1 (mkF m 10 #[.val (.ref ao), .val (.ref an), .val (.ref ad)] [(.ref ao)]) (fun _ kx_ => XS.aloadN X102.here hx rfl (hb hby d4_9) rfl rfl kx_) ?_
  refine W.s1 (mkF m 11 #[.val (.ref ao), .val (.ref an), .val (.ref ad)] [(.ref ad), (.ref ao)]) (fun _ kx_ => XS.aloadN X102.here hx rfl (hb hby d4_10) rfl rfl kx_) ?_
  refine W.putf X102 hx hZ hown (host := "") (Or.inl (hw _ (List.mem_of_getElem? (i := 29) rfl))) Via.refl e102 f104 f103 (Or.inr ⟨(hw _ (List.mem_of_getElem? (i := 30) rfl)), rfl, hnm⟩) (hw _ (List.mem_of_getElem? (i := 13) rfl)) (ty := (.object "java/math/BigInteger")) (by decide) rfl rfl N102 g0 (hb hby d4_11) (pc' := 14) rfl (fun T105 h105 L105 X105 e105 W105 fw105 N105 => ?_)
  have Z105 : n0 ≤ h105.size := Nat.le_trans Z102 (Keep.of_wr W105).1
  have f106 := f103.wr W105
  have f107 := fw102.other W105 (Or.inr (slot_ne (Or.inr (hw _ (List.mem_of_getElem? (i := 28) rfl))) (Or.inr (hw _ (List.mem_of_getElem? (i := 30) rfl))) (by decide) (t := (.object "java/math/BigInteger")) (t' := (.object "java/math/BigInteger")) (by decide) (by decide)))
  have K105 : Keep h0 h105 [ao] := K102.wr W105 (Or.inl (List.mem_of_getElem? (i := 0) rfl))
  exact W.ret0 X105 hx hlk Bd.returns (hb hby d4_14) (by show Q4 Z ao an ad u1 u2 h0 n0 _ T105.heap _; rw [e105]; exact ⟨rfl, N105, K105, f107, fw105⟩) (by decide) (by decide)
theorem ef_2 (m : MethodId) (x0 : Int64) : entryFrame m #[(.long x0)] 2 = mkF m 0 #[.val (.long x0), .second] [] := by first | (simp [entryFrame, mkF, argsToLocals, Value.category]; done) | rfl
theorem d2_0 : decode prog_75_method_2_code 0 = .ok (.new 8, 3) := by decide +kernel
theorem d2_3 : decode prog_75_method_2_code 3 = .ok (.dup, 1) := by decide +kernel
theorem d2_4 : decode prog_75_method_2_code 4 = .ok (.lload_n 0, 1) := by decide +kernel
theorem d2_5 : decode prog_75_method_2_code 5 = .ok (.invokestatic 16, 3) := by decide +kernel
theorem pd_2 : parseMethodDescriptor "(J)Ljava/math/BigInteger;" = some ⟨[.long], some (.object "java/math/BigInteger")⟩ := by decide +kernel
theorem d2_8 : decode prog_75_method_2_code 8 = .ok (.getstatic 22, 3) := by decide +kernel
theorem d2_11 : decode prog_75_method_2_code 11 = .ok (.invokespecial 25, 3) := by decide +kernel
theorem pd_3 : parseMethodDescriptor "(Ljava/math/BigInteger;Ljava/math/BigInteger;)V" = some ⟨[(.object "java/math/BigInteger"), (.object "java/math/BigInteger")], none⟩ := by decide +kernel
theorem d2_14 : decode prog_75_method_2_code 14 = .ok (.areturn, 1) := by decide +kernel
def Q2 (Z : State) (yv : Int64) (aZ : Addr) (zp : Addr) (zq : Addr) (nZ : Nat) (fZ : Nat → Int32) (fp : Nat → Value) (fq : Nat → Value) (aO : Addr) (h0 : Heap) (n0 : Nat) (v : Option Value) (h : Heap) (L : List Loc) : Prop := ∃ (a : Addr) (sg : Int32) (n : Nat) (f : Nat → Int32), v = some (.ref a) ∧ Fr n0 L ∧ Keep h0 h [] ∧ own_RA Z h a aO sg n f
set_option maxRecDepth 65536 in
set_option maxHeartbeats 40000000 in
theorem rm2 (l : Launch) (Z : State) (a0 : Array Value) (hw : ∀ d ∈ tables_1, d.before a0 Z = true) (ws : List Jvm.Cond) (yv : Int64) (aZ : Addr) (zp : Addr) (zq : Addr) (nZ : Nat) (fZ : Nat → Int32) (fp : Nat → Value) (fq : Nat → Value) (aO : Addr) (h0 : Heap) (n0 : Nat) (Z0 : n0 ≤ h0.size) (O0 : Old Z n0 h0) (S_ZERO : Sta Z Z.heap "java/math/BigInteger" "ZERO" "Ljava/math/BigInteger;" (.ref aZ)) (S_posConst : Sta Z Z.heap "java/math/BigInteger" "posConst" "[Ljava/math/BigInteger;" (.ref zp)) (S_negConst : Sta Z Z.heap "java/math/BigInteger" "negConst" "[Ljava/math/BigInteger;" (.ref zq)) (HZ : own_BI Z Z.heap aZ 0 nZ fZ) (A_zp : W.AR Z Z.heap zp (.object "java/math/BigInteger") (fun _ => True) 17 fp) (A_zq : W.AR Z Z.heap zq (.object "java/math/BigInteger") (fun _ => True) 17 fq) (h_zp : ∀ k, 1 ≤ k → k ≤ 16 → ∃ (a : Addr) (sg : Int32) (n : Nat) (f : Nat → Int32), fp k = .ref a ∧ own_BI Z Z.heap a sg n f) (h_zq : ∀ k, 1 ≤ k → k ≤ 16 → ∃ (a : Addr) (sg : Int32) (n : Nat) (f : Nat → Int32), fq k = .ref a ∧ own_BI Z Z.heap a sg n f) (S_ONE : Sta Z Z.heap "java/math/BigInteger" "ONE" "Ljava/math/BigInteger;" (.ref aO)) :
    MetFree l (⟨"com/example/hybridge/hybridge/model/Rational", "of", "(J)Lcom/example/hybridge/hybridge/model/Rational;"⟩ : MethodName) (head1 (Jvm.Cond.code (⟨"com/example/hybridge/hybridge/model/Rational", "of", "(J)Lcom/example/hybridge/hybridge/model/Rational;"⟩ : MethodName) prog_75_method_2_code 2 (some (.object "com/example/hybridge/hybridge/model/Rational")) :: ws) ({ frames := 4, cells := 3, slots := 10, locals := 55 } : Room)) (fun a U => a = #[(.long yv)] ∧ Z.Warmed39 U.vm ∧ U.heap = h0) (fun _ _ _ _ _ => True) (fun _ U o U' => ∃ v L, o = .returned v ∧ Q2 Z yv aZ zp zq nZ fZ fp fq aO h0 n0 v U'.heap L ∧ FrameEnd U o U' L ({ frames := 4, cells := 3, slots := 10, locals := 55 } : Room).cells ({ frames := 4, cells := 3, slots := 10, locals := 55 } : Room).slots) := by
  refine MetFree.of_bodySF (plainFor_of_name pn_2) hisR ?_
  intro p e s m args below meth c s₁ Bd hml0 hP hK
  obtain ⟨rfl, hZ, hh⟩ := hP
  have hx := Bd.exec
  have hby := Bd.bytes
  have hml : c.maxLocals = 2 := hml0
  have hown : s.vm.findClass "com/example/hybridge/hybridge/model/Rational" = some m.cls := findClass_of_methodNamed Bd.named
  have hnm := (name_of_methodNamed Bd.named Bd.method).1
  have hlk : meth.locks = false := BodyLoose.notSynchronized Bd
  have X0 : Stand p l e ({ frames := 4, cells := 3, slots := 10, locals := 55 } : Room) s m #[(.long yv)] below meth c s₁ [] 0 0 := Stand.of_body Bd
  have e0 : s₁.heap = h0 := by rw [← hh, Bd.state]; rfl
  have N0 := Fr.nil n0
  show W.Gl p e below s (Q2 Z yv aZ zp zq nZ fZ fp fq aO h0 n0) ({ frames := 4, cells := 3, slots := 10, locals := 55 } : Room).cells ({ frames := 4, cells := 3, slots := 10, locals := 55 } : Room).slots s₁ (entryFrame m #[(.long yv)] 2)
  refine W.cast (ef_2 m yv) ?_
  have K0 : Keep h0 h0 [] := Keep.refl h0 []
  refine W.newo X0 hx hZ hown (hw _ (List.mem_of_getElem? (i := 12) rfl)) (hw _ (List.mem_of_getElem? (i := 13) rfl)) (hw _ (List.mem_of_getElem? (i := 10) rfl)) e0 (hb hby d2_0) (by decide) (by decide) (pc' := 3) rfl (fun T101 h101 b101 X101 e101 E101 g101 A101 D101 => ?_)
  have ge101 : n0 ≤ b101 := Nat.le_trans Z0 (Nat.le_of_eq g101.symm)
  have sz101 : h0.size ≤ b101 := Nat.le_trans K0.1 (Nat.le_of_eq g101.symm)
  have Z101 : n0 ≤ h101.size := Nat.le_trans Z0 E101.1
  have K101 : Keep h0 h101 [] := K0.ext E101
  have f102 := O0.ext E101
  have f103 : Fld Z h101 b101 "com/example/hybridge/hybridge/model/Rational" "numerator" "Ljava/math/BigInteger;" .null := D101 (Or.inr (hw _ (List.mem_of_getElem? (i := 28) rfl))) (ty := (.object "java/math/BigInteger")) (by decide)
  have f104 : Fld Z h101 b101 "com/example/hybridge/hybridge/model/Rational" "denominator" "Ljava/math/BigInteger;" .null := D101 (Or.inr (hw _ (List.mem_of_getElem? (i := 30) rfl))) (ty := (.object "java/math/BigInteger")) (by decide)
  refine W.s1 (mkF m 4 #[.val (.long yv), .second] [(.ref b101), (.ref b101)]) (fun _ kx_ => XS.dup X101.here hx rfl (hb hby d2_3) rfl rfl kx_) ?_
  refine W.s1 (mkF m 5 #[.val (.long yv), .second] [(.long yv), (.ref b101), (.ref b101)]) (fun _ kx_ => XS.lloadN X101.here hx rfl (hb hby d2_4) rfl kx_) ?_
  obtain ⟨_, _, ⟨T105, L105, k105, n105⟩, -, X105, ⟨Lc105, hQ105, l105, y105, z105⟩, st105⟩ := Jvm.LawKit.callS X101 hx (y := (⟨"java/math/BigInteger", "valueOf", "(J)Ljava/math/BigInteger;"⟩ : MethodName)) hown (mvT hZ (hw _ (List.mem_of_getElem? (i := 14) rfl))) (mvT hZ (hw _ (List.mem_of_getElem? (i := 15) rfl))) (mvT hZ (hw _ (List.mem_of_getElem? (i := 16) rfl))) (mvT hZ (hw _ (List.mem_of_getElem? (i := 17) rfl))) (by decide) (backOf (W := 2) (rm3 l Z a0 hw [] yv aZ zp zq nZ fZ fp fq h101 n0 Z101 f102 S_ZERO S_posConst S_negConst HZ A_zp A_zq h_zp h_zq) hZ (hw _ (List.mem_of_getElem? (i := 17) rfl)) (hw _ (List.mem_of_getElem? (i := 16) rfl)) (by decide) (by decide)) (g := (mkF m 5 #[.val (.long yv), .second] [(.long yv), (.ref b101), (.ref b101)])) rfl (by rw [hml]; rfl) (argsL := [(.long yv)]) (rest := [(.ref b101), (.ref b101)]) (lenOf pd_2 rfl) rfl (by show 2 * 0 + _ ≤ _; exact Nat.le_of_eq rfl) (hb hby d2_5) (fun _ _ => ⟨rfl, e101, (by decide : 1 + 2 ≤ _), (by decide : 2 + 8 ≤ _)⟩)
  dsimp only [Pt.U, Pt.locs, Pt.cells, Pt.slots] at X105 l105 y105 z105 st105 hQ105
  subst l105 y105 z105
  obtain ⟨h105, e105⟩ : ∃ z, T105.heap = z := ⟨_, rfl⟩
  rw [e105] at hQ105
  obtain ⟨an, sn, nn, fn, rfl, Nq105, Kq105, Hn⟩ := hQ105
  have N105 := Fr.app N0 Nq105
  have Z105 : n0 ≤ h105.size := Nat.le_trans Z101 Kq105.1
  have K105 : Keep h0 h105 [] := K101.trans Kq105 all0
  have f106 := f102.keep Kq105 all0
  have f107 := A101.keep Kq105
  have f108 := f103.keep Kq105 nin0
  have f109 := f104.keep Kq105 nin0
  have nev : b101 ≠ an := fun q => by obtain ⟨_, d1, _⟩ := Hn; exact ne_exa f107 d1 (by decide) q
  refine W.s2 (mkF m 8 #[.val (.long yv), .second] [(.ref an), (.ref b101), (.ref b101)]) st105 ?_
  refine W.gets X105 hx hZ hown (host := "") (Or.inl (hw _ (List.mem_of_getElem? (i := 20) rfl))) Via.refl e105 (Sta.ext f106.2 S_ONE) (hb hby d2_8) (pc' := 11) rfl (fun T110 X110 e110 => ?_)
  obtain ⟨_, _, ⟨T111, L111, k111, n111⟩, -, X111, ⟨Lc111, hQ111, l111, y111, z111⟩, st111⟩ := X110.specialBack hx (y := (⟨"com/example/hybridge/hybridge/model/Rational", "<init>", "(Ljava/math/BigInteger;Ljava/math/BigInteger;)V"⟩ : MethodName)) rfl hown (mvT hZ (hw _ (List.mem_of_getElem? (i := 21) rfl))) (mvT hZ (hw _ (List.mem_of_getElem? (i := 22) rfl))) (mvT hZ (hw _ (List.mem_of_getElem? (i := 23) rfl))) (by decide) (backOf (W := 1) (rm4 l Z a0 hw [] b101 an aO .null .null h105 n0 Z105 f107 f108 f109 ge101) hZ (hw _ (List.mem_of_getElem? (i := 23) rfl)) (hw _ (List.mem_of_getElem? (i := 10) rfl)) (by decide) (by decide)) (g := (mkF m 11 #[.val (.long yv), .second] [(.ref aO), (.ref an), (.ref b101), (.ref b101)])) rfl (by rw [hml]; rfl) (Steps.refl _) (a := b101) (argsL := [(.ref an), (.ref aO)]) (rest := [(.ref b101)]) (lenOf pd_3 rfl) rfl (by show 2 * 0 + _ ≤ _; exact Nat.le_of_eq rfl) (hb hby d2_11) (fun _ _ => ⟨rfl, e110, (by decide : 3 + 0 ≤ _), (by decide : 10 + 0 ≤ _)⟩)
  dsimp only [Pt.U, Pt.locs, Pt.cells, Pt.slots] at X111 l111 y111 z111 st111 hQ111
  subst l111 y111 z111
  obtain ⟨h111, e111⟩ : ∃ z, T111.heap = z := ⟨_, rfl⟩
  rw [e111] at hQ111
  obtain ⟨rfl, Nq111, Kq111, G1, G2⟩ := hQ111
  have N111 := Fr.app N105 Nq111
  have Z111 : n0 ≤ h111.size := Nat.le_trans Z105 Kq111.1
  have K111 : Keep h0 h111 [] := K105.trans Kq111 (allS (Or.inr sz101) all0)
  have Hn' : own_BI Z h111 an sn nn fn := by obtain ⟨zm, d1, d2, d3, d4, r⟩ := Hn; exact ⟨zm, d1.keep Kq111, d2.keep Kq111 (ninS (Ne.symm nev) nin0), d3.keep Kq111 (ninS (Ne.symm nev) nin0), d4.keep Kq111 (ninS (fun q => by obtain ⟨c4, A4, _⟩ := d4; exact ne_arr f107 (hw _ (List.mem_of_getElem? (i := 13) rfl)) A4 q.symm) nin0), r⟩
  have f112 := f106.keep Kq111 (allS ge101 all0)
  have f113 := f107.keep Kq111
  refine W.s3 (mkF m 14 #[.val (.long yv), .second] [(.ref b101)]) st111 ?_
  exact W.retA X111 hx hlk Bd.returns rfl rfl rfl (hb hby d2_14) (by show Q2 Z yv aZ zp zq nZ fZ fp fq aO h0 n0 _ T111.heap _; rw [e111]; exact ⟨_, _, _, _, rfl, N111, K111, an, f113, G1, G2, Hn'⟩) (by decide) (by decide)
theorem pn_3 : plainName "java/lang/Enum" = true := by first | (simp [plainName, overriddenIn]; done) | decide +kernel
theorem ef_9 (m : MethodId) (x0 : Addr) : entryFrame m #[(.ref x0)] 1 = mkF m 0 #[.val (.ref x0)] [] := by first | (simp [entryFrame, mkF, argsToLocals, Value.category]; done) | rfl
theorem d9_0 : decode jdk_37_method_2_code 0 = .ok (.aload_n 0, 1) := by decide +kernel
theorem d9_1 : decode jdk_37_method_2_code 1 = .ok (.getfield 7, 3) := by decide +kernel
theorem d9_4 : decode jdk_37_method_2_code 4 = .ok (.ireturn, 1) := by decide +kernel
def Q9 (Z : State) (ao : Addr) (xo : Int32) (h0 : Heap) (n0 : Nat) (v : Option Value) (h : Heap) (L : List Loc) : Prop := v = some (.int xo) ∧ Fr n0 L ∧ h = h0
set_option maxRecDepth 65536 in
set_option maxHeartbeats 40000000 in
theorem rm9 (l : Launch) (Z : State) (a0 : Array Value) (hw : ∀ d ∈ tables_1, d.before a0 Z = true) (ws : List Jvm.Cond) (ao : Addr) (xo : Int32) (h0 : Heap) (n0 : Nat) (Z0 : n0 ≤ h0.size) (F0 : Fld Z h0 ao "java/lang/Enum" "ordinal" "I" (.int xo)) :
    MetFree l (⟨"java/lang/Enum", "ordinal", "()I"⟩ : MethodName) (head1 (Jvm.Cond.code (⟨"java/lang/Enum", "ordinal", "()I"⟩ : MethodName) jdk_37_method_2_code 1 (some .int) :: ws) ({ frames := 0, cells := 0, slots := 0, locals := 0 } : Room)) (fun a U => a = #[(.ref ao)] ∧ Z.Warmed39 U.vm ∧ U.heap = h0) (fun _ _ _ _ _ => True) (fun _ U o U' => ∃ v L, o = .returned v ∧ Q9 Z ao xo h0 n0 v U'.heap L ∧ FrameEnd U o U' L ({ frames := 0, cells := 0, slots := 0, locals := 0 } : Room).cells ({ frames := 0, cells := 0, slots := 0, locals := 0 } : Room).slots) := by
  refine MetFree.of_bodySF (plainFor_of_name pn_3) hisR ?_
  intro p e s m args below meth c s₁ Bd hml0 hP hK
  obtain ⟨rfl, hZ, hh⟩ := hP
  have hx := Bd.exec
  have hby := Bd.bytes
  have hml : c.maxLocals = 1 := hml0
  have hown : s.vm.findClass "java/lang/Enum" = some m.cls := findClass_of_methodNamed Bd.named
  have hnm := (name_of_methodNamed Bd.named Bd.method).1
  have hlk : meth.locks = false := BodyLoose.notSynchronized Bd
  have X0 : Stand p l e ({ frames := 0, cells := 0, slots := 0, locals := 0 } : Room) s m #[(.ref ao)] below meth c s₁ [] 0 0 := Stand.of_body Bd
  have e0 : s₁.heap = h0 := by rw [← hh, Bd.state]; rfl
  have N0 := Fr.nil n0
  show W.Gl p e below s (Q9 Z ao xo h0 n0) ({ frames := 0, cells := 0, slots := 0, locals := 0 } : Room).cells ({ frames := 0, cells := 0, slots := 0, locals := 0 } : Room).slots s₁ (entryFrame m #[(.ref ao)] 1)
  refine W.cast (ef_9 m ao) ?_
  refine W.s1 (mkF m 1 #[.val (.ref ao)] [(.ref ao)]) (fun _ kx_ => XS.aloadN X0.here hx rfl (hb hby d9_0) rfl rfl kx_) ?_
  refine W.getf X0 hx hZ hown (host := "") (Or.inl (hw _ (List.mem_of_getElem? (i := 62) rfl))) Via.refl e0 F0 (hb hby d9_1) (pc' := 4) rfl (fun T101 X101 e101 => ?_)
  exact W.retI X101 hx hlk Bd.returns (hb hby d9_4) (by show Q9 Z ao xo h0 n0 _ T101.heap _; rw [e101]; exact ⟨rfl, N0, rfl⟩) (by decide) (by decide)
theorem pn_4 : plainName "com/example/hybridge/hybridge/model/RelationSwappedPinLaw" = true := by first | (simp [plainName, overriddenIn]; done) | decide +kernel
theorem ef_1 (m : MethodId) (x0 : Int32) : entryFrame m #[(.int x0)] 2 = mkF m 0 #[.val (.int x0), .unset] [] := by first | (simp [entryFrame, mkF, argsToLocals, Value.category]; done) | rfl
theorem d1_0 : decode method_2_code 0 = .ok (.iload_n 0, 1) := by decide +kernel
theorem d1_1 : decode method_2_code 1 = .ok (.ldc 7, 2) := by decide +kernel
theorem d1_3 : decode method_2_code 3 = .ok (.iand, 1) := by decide +kernel
theorem d1_4 : decode method_2_code 4 = .ok (.iconst 5, 1) := by decide +kernel
theorem d1_5 : decode method_2_code 5 = .ok (.irem, 1) := by decide +kernel
theorem d1_6 : decode method_2_code 6 = .ok (.istore_n 1, 1) := by decide +kernel
theorem d1_7 : decode method_2_code 7 = .ok (.iload_n 1, 1) := by decide +kernel
theorem d1_8 : decode method_2_code 8 = .ok (.ifCond .ne 7, 3) := by decide +kernel
theorem d1_15 : decode method_2_code 15 = .ok (.iload_n 1, 1) := by decide +kernel
theorem d1_16 : decode method_2_code 16 = .ok (.iconst 1, 1) := by decide +kernel
theorem d1_17 : decode method_2_code 17 = .ok (.if_icmp .ne 7, 3) := by decide +kernel
theorem d1_24 : decode method_2_code 24 = .ok (.iload_n 1, 1) := by decide +kernel
theorem d1_25 : decode method_2_code 25 = .ok (.iconst 2, 1) := by decide +kernel
theorem d1_26 : decode method_2_code 26 = .ok (.if_icmp .ne 7, 3) := by decide +kernel
theorem d1_33 : decode method_2_code 33 = .ok (.iload_n 1, 1) := by decide +kernel
theorem d1_34 : decode method_2_code 34 = .ok (.iconst 3, 1) := by decide +kernel
theorem d1_35 : decode method_2_code 35 = .ok (.if_icmp .ne 7, 3) := by decide +kernel
theorem d1_42 : decode method_2_code 42 = .ok (.getstatic 23, 3) := by decide +kernel
theorem d1_45 : decode method_2_code 45 = .ok (.areturn, 1) := by decide +kernel
theorem d1_38 : decode method_2_code 38 = .ok (.getstatic 20, 3) := by decide +kernel
theorem d1_41 : decode method_2_code 41 = .ok (.areturn, 1) := by decide +kernel
theorem d1_29 : decode method_2_code 29 = .ok (.getstatic 17, 3) := by decide +kernel
theorem d1_32 : decode method_2_code 32 = .ok (.areturn, 1) := by decide +kernel
theorem d1_20 : decode method_2_code 20 = .ok (.getstatic 14, 3) := by decide +kernel
theorem d1_23 : decode method_2_code 23 = .ok (.areturn, 1) := by decide +kernel
theorem d1_11 : decode method_2_code 11 = .ok (.getstatic 8, 3) := by decide +kernel
theorem d1_14 : decode method_2_code 14 = .ok (.areturn, 1) := by decide +kernel
def Q1 (Z : State) (xk : Int32) (ka0 : Addr) (ka1 : Addr) (ka2 : Addr) (ka3 : Addr) (ka4 : Addr) (h0 : Heap) (n0 : Nat) (v : Option Value) (h : Heap) (L : List Loc) : Prop := ∃ a : Addr, v = some (.ref a) ∧ Fr n0 L ∧ h = h0 ∧ (ka0 = a ∨ ka1 = a ∨ ka2 = a ∨ ka3 = a ∨ ka4 = a)
set_option maxRecDepth 65536 in
set_option maxHeartbeats 40000000 in
theorem rm1 (l : Launch) (Z : State) (a0 : Array Value) (hw : ∀ d ∈ tables_1, d.before a0 Z = true) (ws : List Jvm.Cond) (xk : Int32) (ka0 : Addr) (ka1 : Addr) (ka2 : Addr) (ka3 : Addr) (ka4 : Addr) (h0 : Heap) (n0 : Nat) (Z0 : n0 ≤ h0.size) (O0 : Old Z n0 h0) (S_LESS : Sta Z Z.heap "com/example/hybridge/hybridge/model/Relation" "LESS" "Lcom/example/hybridge/hybridge/model/Relation;" (.ref ka0)) (S_LESS_OR_EQUAL : Sta Z Z.heap "com/example/hybridge/hybridge/model/Relation" "LESS_OR_EQUAL" "Lcom/example/hybridge/hybridge/model/Relation;" (.ref ka1)) (S_EQUAL : Sta Z Z.heap "com/example/hybridge/hybridge/model/Relation" "EQUAL" "Lcom/example/hybridge/hybridge/model/Relation;" (.ref ka2)) (S_GREATER_OR_EQUAL : Sta Z Z.heap "com/example/hybridge/hybridge/model/Relation" "GREATER_OR_EQUAL" "Lcom/example/hybridge/hybridge/model/Relation;" (.ref ka3)) (S_GREATER : Sta Z Z.heap "com/example/hybridge/hybridge/model/Relation" "GREATER" "Lcom/example/hybridge/hybridge/model/Relation;" (.ref ka4)) :
    MetFree l (⟨"com/example/hybridge/hybridge/model/RelationSwappedPinLaw", "pick", "(I)Lcom/example/hybridge/hybridge/model/Relation;"⟩ : MethodName) (head1 (Jvm.Cond.code (⟨"com/example/hybridge/hybridge/model/RelationSwappedPinLaw", "pick", "(I)Lcom/example/hybridge/hybridge/model/Relation;"⟩ : MethodName) method_2_code 2 (some (.object "com/example/hybridge/hybridge/model/Relation")) :: ws) ({ frames := 0, cells := 0, slots := 0, locals := 0 } : Room)) (fun a U => a = #[(.int xk)] ∧ Z.Warmed39 U.vm ∧ U.heap = h0) (fun _ _ _ _ _ => True) (fun _ U o U' => ∃ v L, o = .returned v ∧ Q1 Z xk ka0 ka1 ka2 ka3 ka4 h0 n0 v U'.heap L ∧ FrameEnd U o U' L ({ frames := 0, cells := 0, slots := 0, locals := 0 } : Room).cells ({ frames := 0, cells := 0, slots := 0, locals := 0 } : Room).slots) := by
  refine MetFree.of_bodySF (plainFor_of_name pn_4) hisR ?_
  intro p e s m args below meth c s₁ Bd hml0 hP hK
  obtain ⟨rfl, hZ, hh⟩ := hP
  have hx := Bd.exec
  have hby := Bd.bytes
  have hml : c.maxLocals = 2 := hml0
  have hown : s.vm.findClass "com/example/hybridge/hybridge/model/RelationSwappedPinLaw" = some m.cls := findClass_of_methodNamed Bd.named
  have hnm := (name_of_methodNamed Bd.named Bd.method).1
  have hlk : meth.locks = false := BodyLoose.notSynchronized Bd
  have X0 : Stand p l e ({ frames := 0, cells := 0, slots := 0, locals := 0 } : Room) s m #[(.int xk)] below meth c s₁ [] 0 0 := Stand.of_body Bd
  have e0 : s₁.heap = h0 := by rw [← hh, Bd.state]; rfl
  have N0 := Fr.nil n0
  show W.Gl p e below s (Q1 Z xk ka0 ka1 ka2 ka3 ka4 h0 n0) ({ frames := 0, cells := 0, slots := 0, locals := 0 } : Room).cells ({ frames := 0, cells := 0, slots := 0, locals := 0 } : Room).slots s₁ (entryFrame m #[(.int xk)] 2)
  refine W.cast (ef_1 m xk) ?_
  refine W.s1 (mkF m 1 #[.val (.int xk), .unset] [(.int xk)]) (fun _ kx_ => XS.iloadN X0.here hx rfl (hb hby d1_0) rfl kx_) ?_
  refine W.s1 (mkF m 3 #[.val (.int xk), .unset] [(.int (2147483647 : Int32)), (.int xk)]) (fun _ kx_ => X0.ldcInt hx hown (mvT hZ (hw _ (List.mem_of_getElem? (i := 4) rfl))) (g := (mkF m 1 #[.val (.int xk), .unset] [(.int xk)])) rfl (hb hby d1_1) _ kx_) ?_
  refine W.s1 (mkF m 4 #[.val (.int xk), .unset] [(.int (xk &&& (2147483647 : Int32)))]) (fun _ kx_ => XS.iand X0.here hx rfl (hb hby d1_3) rfl kx_) ?_
  refine W.s1 (mkF m 5 #[.val (.int xk), .unset] [(.int (5 : Int32)), (.int (xk &&& (2147483647 : Int32)))]) (fun _ kx_ => XS.iconst X0.here hx rfl (hb hby d1_4) kx_) ?_
  refine W.s1 (mkF m 6 #[.val (.int xk), .unset] [(.int ((xk &&& (2147483647 : Int32)) % (5 : Int32)))]) (fun _ kx_ => iremM X0 hx rfl (hb hby d1_5) rfl (by decide) kx_) ?_
  generalize hg_xi : ((xk &&& (2147483647 : Int32)) % (5 : Int32)) = xi
  refine W.s1 (mkF m 7 #[.val (.int xk), .val (.int xi)] []) (fun _ kx_ => XS.istoreN X0.here hx rfl (hb hby d1_6) rfl (l' := #[.val (.int xk), .val (.int xi)]) rfl kx_) ?_
  refine W.s1 (mkF m 8 #[.val (.int xk), .val (.int xi)] [(.int xi)]) (fun _ kx_ => XS.iloadN X0.here hx rfl (hb hby d1_7) rfl kx_) ?_
  refine W.ifc X0 hx (hb hby d1_8) (pc' := 15) (pc'' := 11) (by decide) (by decide) rfl (fun (c8 : ¬ xi = (0 : Int32)) => ?_) (fun (c8 : xi = (0 : Int32)) => ?_)
  · refine W.s1 (mkF m 16 #[.val (.int xk), .val (.int xi)] [(.int xi)]) (fun _ kx_ => XS.iloadN X0.here hx rfl (hb hby d1_15) rfl kx_) ?_
    refine W.s1 (mkF m 17 #[.val (.int xk), .val (.int xi)] [(.int (1 : Int32)), (.int xi)]) (fun _ kx_ => XS.iconst X0.here hx rfl (hb hby d1_16) kx_) ?_
    refine W.icmp X0 hx (hb hby d1_17) (pc' := 24) (pc'' := 20) (by decide) (by decide) rfl (fun (c17 : ¬ xi = (1 : Int32)) => ?_) (fun (c17 : xi = (1 : Int32)) => ?_)
    · refine W.s1 (mkF m 25 #[.val (.int xk), .val (.int xi)] [(.int xi)]) (fun _ kx_ => XS.iloadN X0.here hx rfl (hb hby d1_24) rfl kx_) ?_
      refine W.s1 (mkF m 26 #[.val (.int xk), .val (.int xi)] [(.int (2 : Int32)), (.int xi)]) (fun _ kx_ => XS.iconst X0.here hx rfl (hb hby d1_25) kx_) ?_
      refine W.icmp X0 hx (hb hby d1_26) (pc' := 33) (pc'' := 29) (by decide) (by decide) rfl (fun (c26 : ¬ xi = (2 : Int32)) => ?_) (fun (c26 : xi = (2 : Int32)) => ?_)
      · refine W.s1 (mkF m 34 #[.val (.int xk), .val (.int xi)] [(.int xi)]) (fun _ kx_ => XS.iloadN X0.here hx rfl (hb hby d1_33) rfl kx_) ?_
        refine W.s1 (mkF m 35 #[.val (.int xk), .val (.int xi)] [(.int (3 : Int32)), (.int xi)]) (fun _ kx_ => XS.iconst X0.here hx rfl (hb hby d1_34) kx_) ?_
        refine W.icmp X0 hx (hb hby d1_35) (pc' := 42) (pc'' := 38) (by decide) (by decide) rfl (fun (c35 : ¬ xi = (3 : Int32)) => ?_) (fun (c35 : xi = (3 : Int32)) => ?_)
        · refine W.gets X0 hx hZ hown (host := "") (Or.inl (hw _ (List.mem_of_getElem? (i := 132) rfl))) Via.refl e0 (Sta.ext O0.2 S_GREATER) (hb hby d1_42) (pc' := 45) rfl (fun T101 X101 e101 => ?_)
          exact W.retA X101 hx hlk Bd.returns rfl rfl rfl (hb hby d1_45) (by show Q1 Z xk ka0 ka1 ka2 ka3 ka4 h0 n0 _ T101.heap _; rw [e101]; exact ⟨_, rfl, N0, rfl, Or.inr (Or.inr (Or.inr (Or.inr (rfl))))⟩) (by decide) (by decide)
        · refine W.gets X0 hx hZ hown (host := "") (Or.inl (hw _ (List.mem_of_getElem? (i := 129) rfl))) Via.refl e0 (Sta.ext O0.2 S_GREATER_OR_EQUAL) (hb hby d1_38) (pc' := 41) rfl (fun T102 X102 e102 => ?_)
          exact W.retA X102 hx hlk Bd.returns rfl rfl rfl (hb hby d1_41) (by show Q1 Z xk ka0 ka1 ka2 ka3 ka4 h0 n0 _ T102.heap _; rw [e102]; exact ⟨_, rfl, N0, rfl, Or.inr (Or.inr (Or.inr (Or.inl rfl)))⟩) (by decide) (by decide)
      · refine W.gets X0 hx hZ hown (host := "") (Or.inl (hw _ (List.mem_of_getElem? (i := 124) rfl))) Via.refl e0 (Sta.ext O0.2 S_EQUAL) (hb hby d1_29) (pc' := 32) rfl (fun T103 X103 e103 => ?_)
        exact W.retA X103 hx hlk Bd.returns rfl rfl rfl (hb hby d1_32) (by show Q1 Z xk ka0 ka1 ka2 ka3 ka4 h0 n0 _ T103.heap _; rw [e103]; exact ⟨_, rfl, N0, rfl, Or.inr (Or.inr (Or.inl rfl))⟩) (by decide) (by decide)
    · refine W.gets X0 hx hZ hown (host := "") (Or.inl (hw _ (List.mem_of_getElem? (i := 120) rfl))) Via.refl e0 (Sta.ext O0.2 S_LESS_OR_EQUAL) (hb hby d1_20) (pc' := 23) rfl (fun T104 X104 e104 => ?_)
      exact W.retA X104 hx hlk Bd.returns rfl rfl rfl (hb hby d1_23) (by show Q1 Z xk ka0 ka1 ka2 ka3 ka4 h0 n0 _ T104.heap _; rw [e104]; exact ⟨_, rfl, N0, rfl, Or.inr (Or.inl rfl)⟩) (by decide) (by decide)
  · refine W.gets X0 hx hZ hown (host := "") (Or.inl (hw _ (List.mem_of_getElem? (i := 5) rfl))) Via.refl e0 (Sta.ext O0.2 S_LESS) (hb hby d1_11) (pc' := 14) rfl (fun T105 X105 e105 => ?_)
    exact W.retA X105 hx hlk Bd.returns rfl rfl rfl (hb hby d1_14) (by show Q1 Z xk ka0 ka1 ka2 ka3 ka4 h0 n0 _ T105.heap _; rw [e105]; exact ⟨_, rfl, N0, rfl, Or.inl rfl⟩) (by decide) (by decide)
theorem pn_5 : plainName "com/example/hybridge/hybridge/model/Relation" = true := by first | (simp [plainName, overriddenIn]; done) | decide +kernel
theorem ef_8_0 (m : MethodId) (x0 : Addr) : entryFrame m #[(.ref x0)] 1 = mkF m 0 #[.val (.ref x0)] [] := by first | (simp [entryFrame, mkF, argsToLocals, Value.category]; done) | rfl
theorem d8_0 : decode prog_76_method_4_code 0 = .ok (.aload_n 0, 1) := by decide +kernel
theorem d8_1 : decode prog_76_method_4_code 1 = .ok (.invokevirtual 42, 3) := by decide +kernel
theorem pd_4 : parseMethodDescriptor "()I" = some ⟨[], some .int⟩ := by decide +kernel
theorem d8_4 : decode prog_76_method_4_code 4 = .ok (.tableswitch 36 0 4 #[46, 52, 58, 64, 70], 36) := by decide +kernel
theorem d8_50 : decode prog_76_method_4_code 50 = .ok (.getstatic 16, 3) := by decide +kernel
theorem d8_53 : decode prog_76_method_4_code 53 = .ok (.goto 24, 3) := by decide +kernel
theorem d8_77 : decode prog_76_method_4_code 77 = .ok (.areturn, 1) := by decide +kernel
def Q8_0 (Z : State) (ar : Addr) (ax : Addr) (h0 : Heap) (n0 : Nat) (v : Option Value) (h : Heap) (L : List Loc) : Prop := v = some (.ref ax) ∧ Fr n0 L ∧ h = h0
set_option maxRecDepth 65536 in
set_option maxHeartbeats 40000000 in
theorem rm8_0 (l : Launch) (Z : State) (a0 : Array Value) (hw : ∀ d ∈ tables_1, d.before a0 Z = true) (ws : List Jvm.Cond) (ar : Addr) (ax : Addr) (h0 : Heap) (n0 : Nat) (Z0 : n0 ≤ h0.size) (O0 : Old Z n0 h0) (Er : Exa Z h0 ar "com/example/hybridge/hybridge/model/Relation") (Fo : Fld Z h0 ar "java/lang/Enum" "ordinal" "I" (.int 0)) (S_t : Sta Z Z.heap "com/example/hybridge/hybridge/model/Relation" "GREATER" "Lcom/example/hybridge/hybridge/model/Relation;" (.ref ax)) :
    MetFree l (⟨"com/example/hybridge/hybridge/model/Relation", "swapped", "()Lcom/example/hybridge/hybridge/model/Relation;"⟩ : MethodName) (head1 (Jvm.Cond.code (⟨"com/example/hybridge/hybridge/model/Relation", "swapped", "()Lcom/example/hybridge/hybridge/model/Relation;"⟩ : MethodName) prog_76_method_4_code 1 (some (.object "com/example/hybridge/hybridge/model/Relation")) :: ws) ({ frames := 1, cells := 0, slots := 0, locals := 12 } : Room)) (fun a U => a = #[(.ref ar)] ∧ Z.Warmed39 U.vm ∧ U.heap = h0) (fun _ _ _ _ _ => True) (fun _ U o U' => ∃ v L, o = .returned v ∧ Q8_0 Z ar ax h0 n0 v U'.heap L ∧ FrameEnd U o U' L ({ frames := 1, cells := 0, slots := 0, locals := 12 } : Room).cells ({ frames := 1, cells := 0, slots := 0, locals := 12 } : Room).slots) := by
  refine MetFree.of_bodySF (plainFor_of_name pn_5) hisR ?_
  intro p e s m args below meth c s₁ Bd hml0 hP hK
  obtain ⟨rfl, hZ, hh⟩ := hP
  have hx := Bd.exec
  have hby := Bd.bytes
  have hml : c.maxLocals = 1 := hml0
  have hown : s.vm.findClass "com/example/hybridge/hybridge/model/Relation" = some m.cls := findClass_of_methodNamed Bd.named
  have hnm := (name_of_methodNamed Bd.named Bd.method).1
  have hlk : meth.locks = false := BodyLoose.notSynchronized Bd
  have X0 : Stand p l e ({ frames := 1, cells := 0, slots := 0, locals := 12 } : Room) s m #[(.ref ar)] below meth c s₁ [] 0 0 := Stand.of_body Bd
  have e0 : s₁.heap = h0 := by rw [← hh, Bd.state]; rfl
  have N0 := Fr.nil n0
  show W.Gl p e below s (Q8_0 Z ar ax h0 n0) ({ frames := 1, cells := 0, slots := 0, locals := 12 } : Room).cells ({ frames := 1, cells := 0, slots := 0, locals := 12 } : Room).slots s₁ (entryFrame m #[(.ref ar)] 1)
  refine W.cast (ef_8_0 m ar) ?_
  refine W.s1 (mkF m 1 #[.val (.ref ar)] [(.ref ar)]) (fun _ kx_ => XS.aloadN X0.here hx rfl (hb hby d8_0) rfl rfl kx_) ?_
  obtain ⟨cq101, kq101, q101a, q101b, q101c⟩ := isOf hZ e0 Er
  obtain ⟨_, _, ⟨T101, L101, k101, n101⟩, -, X101, ⟨Lc101, hQ101, l101, y101, z101⟩, st101⟩ := X0.virtualBackUp hx (x := (⟨"com/example/hybridge/hybridge/model/Relation", "ordinal", "()I"⟩ : MethodName)) (y := (⟨"java/lang/Enum", "ordinal", "()I"⟩ : MethodName)) (owner := "java/lang/Enum") hown (mvT hZ (hw _ (List.mem_of_getElem? (i := 55) rfl))) (mvT hZ (hw _ (List.mem_of_getElem? (i := 56) rfl))) (mvT hZ (hw _ (List.mem_of_getElem? (i := 57) rfl))) (by decide) (mvT hZ (hw _ (List.mem_of_getElem? (i := 59) rfl))) (mvT hZ (hw _ (List.mem_of_getElem? (i := 58) rfl))) (backOf (W := 0) (rm9 l Z a0 hw [] ar (0 : Int32) h0 n0 Z0 Fo) hZ (hw _ (List.mem_of_getElem? (i := 61) rfl)) (hw _ (List.mem_of_getElem? (i := 60) rfl)) (by decide) (by decide)) q101a q101c (g := (mkF m 1 #[.val (.ref ar)] [(.ref ar)])) rfl (by rw [hml]; rfl) (Steps.refl _) (argsL := []) (rest := []) (lenOf pd_4 rfl) rfl (by show 2 * 0 + _ ≤ _; exact Nat.le_of_eq rfl) (hb hby d8_1) (fun _ _ => ⟨rfl, e0, (by decide : 0 + 0 ≤ _), (by decide : 0 + 0 ≤ _)⟩)
  dsimp only [Pt.U, Pt.locs, Pt.cells, Pt.slots] at X101 l101 y101 z101 st101 hQ101
  subst l101 y101 z101
  obtain ⟨rfl, Nq101, eq101⟩ := hQ101
  have N101 := Fr.app N0 Nq101
  refine W.s3 (mkF m 4 #[.val (.ref ar)] [(.int (0 : Int32))]) st101 ?_
  refine W.s1 (mkF m 50 #[.val (.ref ar)] []) (fun _ kx_ => XS.tswIn X101.here hx rfl (pc0 := 4) (pc' := 50) (o := 46) rfl (hb hby d8_4) rfl (by first | decide | decide +kernel) (by first | decide | decide +kernel) (by first | decide | decide +kernel) (by first | decide | decide +kernel) kx_) ?_
  refine W.gets X101 hx hZ hown (host := "") (Or.inl (hw _ (List.mem_of_getElem? (i := 64) rfl))) Via.refl eq101 (Sta.ext O0.2 S_t) (hb hby d8_50) (pc' := 53) rfl (fun T102 X102 e102 => ?_)
  refine W.s1 (mkF m 77 #[.val (.ref ar)] [(.ref ax)]) (fun _ kx_ => XS.goto X102.here hx rfl (pc0 := 53) (pc' := 77) rfl (hb hby d8_53) (by decide) (by decide) kx_) ?_
  exact W.retA X102 hx hlk Bd.returns rfl rfl rfl (hb hby d8_77) (by show Q8_0 Z ar ax h0 n0 _ T102.heap _; rw [e102]; exact ⟨rfl, N101, rfl⟩) (by decide) (by decide)
theorem ef_8_1 (m : MethodId) (x0 : Addr) : entryFrame m #[(.ref x0)] 1 = mkF m 0 #[.val (.ref x0)] [] := by first | (simp [entryFrame, mkF, argsToLocals, Value.category]; done) | rfl
theorem d8_56 : decode prog_76_method_4_code 56 = .ok (.getstatic 13, 3) := by decide +kernel
theorem d8_59 : decode prog_76_method_4_code 59 = .ok (.goto 18, 3) := by decide +kernel
def Q8_1 (Z : State) (ar : Addr) (ax : Addr) (h0 : Heap) (n0 : Nat) (v : Option Value) (h : Heap) (L : List Loc) : Prop := v = some (.ref ax) ∧ Fr n0 L ∧ h = h0
set_option maxRecDepth 65536 in
set_option maxHeartbeats 40000000 in
theorem rm8_1 (l : Launch) (Z : State) (a0 : Array Value) (hw : ∀ d ∈ tables_1, d.before a0 Z = true) (ws : List Jvm.Cond) (ar : Addr) (ax : Addr) (h0 : Heap) (n0 : Nat) (Z0 : n0 ≤ h0.size) (O0 : Old Z n0 h0) (Er : Exa Z h0 ar "com/example/hybridge/hybridge/model/Relation") (Fo : Fld Z h0 ar "java/lang/Enum" "ordinal" "I" (.int 1)) (S_t : Sta Z Z.heap "com/example/hybridge/hybridge/model/Relation" "GREATER_OR_EQUAL" "Lcom/example/hybridge/hybridge/model/Relation;" (.ref ax)) :
    MetFree l (⟨"com/example/hybridge/hybridge/model/Relation", "swapped", "()Lcom/example/hybridge/hybridge/model/Relation;"⟩ : MethodName) (head1 (Jvm.Cond.code (⟨"com/example/hybridge/hybridge/model/Relation", "swapped", "()Lcom/example/hybridge/hybridge/model/Relation;"⟩ : MethodName) prog_76_method_4_code 1 (some (.object "com/example/hybridge/hybridge/model/Relation")) :: ws) ({ frames := 1, cells := 0, slots := 0, locals := 12 } : Room)) (fun a U => a = #[(.ref ar)] ∧ Z.Warmed39 U.vm ∧ U.heap = h0) (fun _ _ _ _ _ => True) (fun _ U o U' => ∃ v L, o = .returned v ∧ Q8_1 Z ar ax h0 n0 v U'.heap L ∧ FrameEnd U o U' L ({ frames := 1, cells := 0, slots := 0, locals := 12 } : Room).cells ({ frames := 1, cells := 0, slots := 0, locals := 12 } : Room).slots) := by
  refine MetFree.of_bodySF (plainFor_of_name pn_5) hisR ?_
  intro p e s m args below meth c s₁ Bd hml0 hP hK
  obtain ⟨rfl, hZ, hh⟩ := hP
  have hx := Bd.exec
  have hby := Bd.bytes
  have hml : c.maxLocals = 1 := hml0
  have hown : s.vm.findClass "com/example/hybridge/hybridge/model/Relation" = some m.cls := findClass_of_methodNamed Bd.named
  have hnm := (name_of_methodNamed Bd.named Bd.method).1
  have hlk : meth.locks = false := BodyLoose.notSynchronized Bd
  have X0 : Stand p l e ({ frames := 1, cells := 0, slots := 0, locals := 12 } : Room) s m #[(.ref ar)] below meth c s₁ [] 0 0 := Stand.of_body Bd
  have e0 : s₁.heap = h0 := by rw [← hh, Bd.state]; rfl
  have N0 := Fr.nil n0
  show W.Gl p e below s (Q8_1 Z ar ax h0 n0) ({ frames := 1, cells := 0, slots := 0, locals := 12 } : Room).cells ({ frames := 1, cells := 0, slots := 0, locals := 12 } : Room).slots s₁ (entryFrame m #[(.ref ar)] 1)
  refine W.cast (ef_8_1 m ar) ?_
  refine W.s1 (mkF m 1 #[.val (.ref ar)] [(.ref ar)]) (fun _ kx_ => XS.aloadN X0.here hx rfl (hb hby d8_0) rfl rfl kx_) ?_
  obtain ⟨cq101, kq101, q101a, q101b, q101c⟩ := isOf hZ e0 Er
  obtain ⟨_, _, ⟨T101, L101, k101, n101⟩, -, X101, ⟨Lc101, hQ101, l101, y101, z101⟩, st101⟩ := X0.virtualBackUp hx (x := (⟨"com/example/hybridge/hybridge/model/Relation", "ordinal", "()I"⟩ : MethodName)) (y := (⟨"java/lang/Enum", "ordinal", "()I"⟩ : MethodName)) (owner := "java/lang/Enum") hown (mvT hZ (hw _ (List.mem_of_getElem? (i := 55) rfl))) (mvT hZ (hw _ (List.mem_of_getElem? (i := 56) rfl))) (mvT hZ (hw _ (List.mem_of_getElem? (i := 57) rfl))) (by decide) (mvT hZ (hw _ (List.mem_of_getElem? (i := 59) rfl))) (mvT hZ (hw _ (List.mem_of_getElem? (i := 58) rfl))) (backOf (W := 0) (rm9 l Z a0 hw [] ar (1 : Int32) h0 n0 Z0 Fo) hZ (hw _ (List.mem_of_getElem? (i := 61) rfl)) (hw _ (List.mem_of_getElem? (i := 60) rfl)) (by decide) (by decide)) q101a q101c (g := (mkF m 1 #[.val (.ref ar)] [(.ref ar)])) rfl (by rw [hml]; rfl) (Steps.refl _) (argsL := []) (rest := []) (lenOf pd_4 rfl) rfl (by show 2 * 0 + _ ≤ _; exact Nat.le_of_eq rfl) (hb hby d8_1) (fun _ _ => ⟨rfl, e0, (by decide : 0 + 0 ≤ _), (by decide : 0 + 0 ≤ _)⟩)
  dsimp only [Pt.U, Pt.locs, Pt.cells, Pt.slots] at X101 l101 y101 z101 st101 hQ101
  subst l101 y101 z101
  obtain ⟨rfl, Nq101, eq101⟩ := hQ101
  have N101 := Fr.app N0 Nq101
  refine W.s3 (mkF m 4 #[.val (.ref ar)] [(.int (1 : Int32))]) st101 ?_
  refine W.s1 (mkF m 56 #[.val (.ref ar)] []) (fun _ kx_ => XS.tswIn X101.here hx rfl (pc0 := 4) (pc' := 56) (o := 52) rfl (hb hby d8_4) rfl (by first | decide | decide +kernel) (by first | decide | decide +kernel) (by first | decide | decide +kernel) (by first | decide | decide +kernel) kx_) ?_
  refine W.gets X101 hx hZ hown (host := "") (Or.inl (hw _ (List.mem_of_getElem? (i := 122) rfl))) Via.refl eq101 (Sta.ext O0.2 S_t) (hb hby d8_56) (pc' := 59) rfl (fun T102 X102 e102 => ?_)
  refine W.s1 (mkF m 77 #[.val (.ref ar)] [(.ref ax)]) (fun _ kx_ => XS.goto X102.here hx rfl (pc0 := 59) (pc' := 77) rfl (hb hby d8_59) (by decide) (by decide) kx_) ?_
  exact W.retA X102 hx hlk Bd.returns rfl rfl rfl (hb hby d8_77) (by show Q8_1 Z ar ax h0 n0 _ T102.heap _; rw [e102]; exact ⟨rfl, N101, rfl⟩) (by decide) (by decide)
theorem ef_8_2 (m : MethodId) (x0 : Addr) : entryFrame m #[(.ref x0)] 1 = mkF m 0 #[.val (.ref x0)] [] := by first | (simp [entryFrame, mkF, argsToLocals, Value.category]; done) | rfl
theorem d8_62 : decode prog_76_method_4_code 62 = .ok (.getstatic 10, 3) := by decide +kernel
theorem d8_65 : decode prog_76_method_4_code 65 = .ok (.goto 12, 3) := by decide +kernel
def Q8_2 (Z : State) (ar : Addr) (ax : Addr) (h0 : Heap) (n0 : Nat) (v : Option Value) (h : Heap) (L : List Loc) : Prop := v = some (.ref ax) ∧ Fr n0 L ∧ h = h0
set_option maxRecDepth 65536 in
set_option maxHeartbeats 40000000 in
theorem rm8_2 (l : Launch) (Z : State) (a0 : Array Value) (hw : ∀ d ∈ tables_1, d.before a0 Z = true) (ws : List Jvm.Cond) (ar : Addr) (ax : Addr) (h0 : Heap) (n0 : Nat) (Z0 : n0 ≤ h0.size) (O0 : Old Z n0 h0) (Er : Exa Z h0 ar "com/example/hybridge/hybridge/model/Relation") (Fo : Fld Z h0 ar "java/lang/Enum" "ordinal" "I" (.int 2)) (S_t : Sta Z Z.heap "com/example/hybridge/hybridge/model/Relation" "EQUAL" "Lcom/example/hybridge/hybridge/model/Relation;" (.ref ax)) :
    MetFree l (⟨"com/example/hybridge/hybridge/model/Relation", "swapped", "()Lcom/example/hybridge/hybridge/model/Relation;"⟩ : MethodName) (head1 (Jvm.Cond.code (⟨"com/example/hybridge/hybridge/model/Relation", "swapped", "()Lcom/example/hybridge/hybridge/model/Relation;"⟩ : MethodName) prog_76_method_4_code 1 (some (.object "com/example/hybridge/hybridge/model/Relation")) :: ws) ({ frames := 1, cells := 0, slots := 0, locals := 12 } : Room)) (fun a U => a = #[(.ref ar)] ∧ Z.Warmed39 U.vm ∧ U.heap = h0) (fun _ _ _ _ _ => True) (fun _ U o U' => ∃ v L, o = .returned v ∧ Q8_2 Z ar ax h0 n0 v U'.heap L ∧ FrameEnd U o U' L ({ frames := 1, cells := 0, slots := 0, locals := 12 } : Room).cells ({ frames := 1, cells := 0, slots := 0, locals := 12 } : Room).slots) := by
  refine MetFree.of_bodySF (plainFor_of_name pn_5) hisR ?_
  intro p e s m args below meth c s₁ Bd hml0 hP hK
  obtain ⟨rfl, hZ, hh⟩ := hP
  have hx := Bd.exec
  have hby := Bd.bytes
  have hml : c.maxLocals = 1 := hml0
  have hown : s.vm.findClass "com/example/hybridge/hybridge/model/Relation" = some m.cls := findClass_of_methodNamed Bd.named
  have hnm := (name_of_methodNamed Bd.named Bd.method).1
  have hlk : meth.locks = false := BodyLoose.notSynchronized Bd
  have X0 : Stand p l e ({ frames := 1, cells := 0, slots := 0, locals := 12 } : Room) s m #[(.ref ar)] below meth c s₁ [] 0 0 := Stand.of_body Bd
  have e0 : s₁.heap = h0 := by rw [← hh, Bd.state]; rfl
  have N0 := Fr.nil n0
  show W.Gl p e below s (Q8_2 Z ar ax h0 n0) ({ frames := 1, cells := 0, slots := 0, locals := 12 } : Room).cells ({ frames := 1, cells := 0, slots := 0, locals := 12 } : Room).slots s₁ (entryFrame m #[(.ref ar)] 1)
  refine W.cast (ef_8_2 m ar) ?_
  refine W.s1 (mkF m 1 #[.val (.ref ar)] [(.ref ar)]) (fun _ kx_ => XS.aloadN X0.here hx rfl (hb hby d8_0) rfl rfl kx_) ?_
  obtain ⟨cq101, kq101, q101a, q101b, q101c⟩ := isOf hZ e0 Er
  obtain ⟨_, _, ⟨T101, L101, k101, n101⟩, -, X101, ⟨Lc101, hQ101, l101, y101, z101⟩, st101⟩ := X0.virtualBackUp hx (x := (⟨"com/example/hybridge/hybridge/model/Relation", "ordinal", "()I"⟩ : MethodName)) (y := (⟨"java/lang/Enum", "ordinal", "()I"⟩ : MethodName)) (owner := "java/lang/Enum") hown (mvT hZ (hw _ (List.mem_of_getElem? (i := 55) rfl))) (mvT hZ (hw _ (List.mem_of_getElem? (i := 56) rfl))) (mvT hZ (hw _ (List.mem_of_getElem? (i := 57) rfl))) (by decide) (mvT hZ (hw _ (List.mem_of_getElem? (i := 59) rfl))) (mvT hZ (hw _ (List.mem_of_getElem? (i := 58) rfl))) (backOf (W := 0) (rm9 l Z a0 hw [] ar (2 : Int32) h0 n0 Z0 Fo) hZ (hw _ (List.mem_of_getElem? (i := 61) rfl)) (hw _ (List.mem_of_getElem? (i := 60) rfl)) (by decide) (by decide)) q101a q101c (g := (mkF m 1 #[.val (.ref ar)] [(.ref ar)])) rfl (by rw [hml]; rfl) (Steps.refl _) (argsL := []) (rest := []) (lenOf pd_4 rfl) rfl (by show 2 * 0 + _ ≤ _; exact Nat.le_of_eq rfl) (hb hby d8_1) (fun _ _ => ⟨rfl, e0, (by decide : 0 + 0 ≤ _), (by decide : 0 + 0 ≤ _)⟩)
  dsimp only [Pt.U, Pt.locs, Pt.cells, Pt.slots] at X101 l101 y101 z101 st101 hQ101
  subst l101 y101 z101
  obtain ⟨rfl, Nq101, eq101⟩ := hQ101
  have N101 := Fr.app N0 Nq101
  refine W.s3 (mkF m 4 #[.val (.ref ar)] [(.int (2 : Int32))]) st101 ?_
  refine W.s1 (mkF m 62 #[.val (.ref ar)] []) (fun _ kx_ => XS.tswIn X101.here hx rfl (pc0 := 4) (pc' := 62) (o := 58) rfl (hb hby d8_4) rfl (by first | decide | decide +kernel) (by first | decide | decide +kernel) (by first | decide | decide +kernel) (by first | decide | decide +kernel) kx_) ?_
  refine W.gets X101 hx hZ hown (host := "") (Or.inl (hw _ (List.mem_of_getElem? (i := 127) rfl))) Via.refl eq101 (Sta.ext O0.2 S_t) (hb hby d8_62) (pc' := 65) rfl (fun T102 X102 e102 => ?_)
  refine W.s1 (mkF m 77 #[.val (.ref ar)] [(.ref ax)]) (fun _ kx_ => XS.goto X102.here hx rfl (pc0 := 65) (pc' := 77) rfl (hb hby d8_65) (by decide) (by decide) kx_) ?_
  exact W.retA X102 hx hlk Bd.returns rfl rfl rfl (hb hby d8_77) (by show Q8_2 Z ar ax h0 n0 _ T102.heap _; rw [e102]; exact ⟨rfl, N101, rfl⟩) (by decide) (by decide)
theorem ef_8_3 (m : MethodId) (x0 : Addr) : entryFrame m #[(.ref x0)] 1 = mkF m 0 #[.val (.ref x0)] [] := by first | (simp [entryFrame, mkF, argsToLocals, Value.category]; done) | rfl
theorem d8_68 : decode prog_76_method_4_code 68 = .ok (.getstatic 7, 3) := by decide +kernel
theorem d8_71 : decode prog_76_method_4_code 71 = .ok (.goto 6, 3) := by decide +kernel
def Q8_3 (Z : State) (ar : Addr) (ax : Addr) (h0 : Heap) (n0 : Nat) (v : Option Value) (h : Heap) (L : List Loc) : Prop := v = some (.ref ax) ∧ Fr n0 L ∧ h = h0
set_option maxRecDepth 65536 in
set_option maxHeartbeats 40000000 in
theorem rm8_3 (l : Launch) (Z : State) (a0 : Array Value) (hw : ∀ d ∈ tables_1, d.before a0 Z = true) (ws : List Jvm.Cond) (ar : Addr) (ax : Addr) (h0 : Heap) (n0 : Nat) (Z0 : n0 ≤ h0.size) (O0 : Old Z n0 h0) (Er : Exa Z h0 ar "com/example/hybridge/hybridge/model/Relation") (Fo : Fld Z h0 ar "java/lang/Enum" "ordinal" "I" (.int 3)) (S_t : Sta Z Z.heap "com/example/hybridge/hybridge/model/Relation" "LESS_OR_EQUAL" "Lcom/example/hybridge/hybridge/model/Relation;" (.ref ax)) :
    MetFree l (⟨"com/example/hybridge/hybridge/model/Relation", "swapped", "()Lcom/example/hybridge/hybridge/model/Relation;"⟩ : MethodName) (head1 (Jvm.Cond.code (⟨"com/example/hybridge/hybridge/model/Relation", "swapped", "()Lcom/example/hybridge/hybridge/model/Relation;"⟩ : MethodName) prog_76_method_4_code 1 (some (.object "com/example/hybridge/hybridge/model/Relation")) :: ws) ({ frames := 1, cells := 0, slots := 0, locals := 12 } : Room)) (fun a U => a = #[(.ref ar)] ∧ Z.Warmed39 U.vm ∧ U.heap = h0) (fun _ _ _ _ _ => True) (fun _ U o U' => ∃ v L, o = .returned v ∧ Q8_3 Z ar ax h0 n0 v U'.heap L ∧ FrameEnd U o U' L ({ frames := 1, cells := 0, slots := 0, locals := 12 } : Room).cells ({ frames := 1, cells := 0, slots := 0, locals := 12 } : Room).slots) := by
  refine MetFree.of_bodySF (plainFor_of_name pn_5) hisR ?_
  intro p e s m args below meth c s₁ Bd hml0 hP hK
  obtain ⟨rfl, hZ, hh⟩ := hP
  have hx := Bd.exec
  have hby := Bd.bytes
  have hml : c.maxLocals = 1 := hml0
  have hown : s.vm.findClass "com/example/hybridge/hybridge/model/Relation" = some m.cls := findClass_of_methodNamed Bd.named
  have hnm := (name_of_methodNamed Bd.named Bd.method).1
  have hlk : meth.locks = false := BodyLoose.notSynchronized Bd
  have X0 : Stand p l e ({ frames := 1, cells := 0, slots := 0, locals := 12 } : Room) s m #[(.ref ar)] below meth c s₁ [] 0 0 := Stand.of_body Bd
  have e0 : s₁.heap = h0 := by rw [← hh, Bd.state]; rfl
  have N0 := Fr.nil n0
  show W.Gl p e below s (Q8_3 Z ar ax h0 n0) ({ frames := 1, cells := 0, slots := 0, locals := 12 } : Room).cells ({ frames := 1, cells := 0, slots := 0, locals := 12 } : Room).slots s₁ (entryFrame m #[(.ref ar)] 1)
  refine W.cast (ef_8_3 m ar) ?_
  refine W.s1 (mkF m 1 #[.val (.ref ar)] [(.ref ar)]) (fun _ kx_ => XS.aloadN X0.here hx rfl (hb hby d8_0) rfl rfl kx_) ?_
  obtain ⟨cq101, kq101, q101a, q101b, q101c⟩ := isOf hZ e0 Er
  obtain ⟨_, _, ⟨T101, L101, k101, n101⟩, -, X101, ⟨Lc101, hQ101, l101, y101, z101⟩, st101⟩ := X0.virtualBackUp hx (x := (⟨"com/example/hybridge/hybridge/model/Relation", "ordinal", "()I"⟩ : MethodName)) (y := (⟨"java/lang/Enum", "ordinal", "()I"⟩ : MethodName)) (owner := "java/lang/Enum") hown (mvT hZ (hw _ (List.mem_of_getElem? (i := 55) rfl))) (mvT hZ (hw _ (List.mem_of_getElem? (i := 56) rfl))) (mvT hZ (hw _ (List.mem_of_getElem? (i := 57) rfl))) (by decide) (mvT hZ (hw _ (List.mem_of_getElem? (i := 59) rfl))) (mvT hZ (hw _ (List.mem_of_getElem? (i := 58) rfl))) (backOf (W := 0) (rm9 l Z a0 hw [] ar (3 : Int32) h0 n0 Z0 Fo) hZ (hw _ (List.mem_of_getElem? (i := 61) rfl)) (hw _ (List.mem_of_getElem? (i := 60) rfl)) (by decide) (by decide)) q101a q101c (g := (mkF m 1 #[.val (.ref ar)] [(.ref ar)])) rfl (by rw [hml]; rfl) (Steps.refl _) (argsL := []) (rest := []) (lenOf pd_4 rfl) rfl (by show 2 * 0 + _ ≤ _; exact Nat.le_of_eq rfl) (hb hby d8_1) (fun _ _ => ⟨rfl, e0, (by decide : 0 + 0 ≤ _), (by decide : 0 + 0 ≤ _)⟩)
  dsimp only [Pt.U, Pt.locs, Pt.cells, Pt.slots] at X101 l101 y101 z101 st101 hQ101
  subst l101 y101 z101
  obtain ⟨rfl, Nq101, eq101⟩ := hQ101
  have N101 := Fr.app N0 Nq101
  refine W.s3 (mkF m 4 #[.val (.ref ar)] [(.int (3 : Int32))]) st101 ?_
  refine W.s1 (mkF m 68 #[.val (.ref ar)] []) (fun _ kx_ => XS.tswIn X101.here hx rfl (pc0 := 4) (pc' := 68) (o := 64) rfl (hb hby d8_4) rfl (by first | decide | decide +kernel) (by first | decide | decide +kernel) (by first | decide | decide +kernel) (by first | decide | decide +kernel) kx_) ?_
  refine W.gets X101 hx hZ hown (host := "") (Or.inl (hw _ (List.mem_of_getElem? (i := 130) rfl))) Via.refl eq101 (Sta.ext O0.2 S_t) (hb hby d8_68) (pc' := 71) rfl (fun T102 X102 e102 => ?_)
  refine W.s1 (mkF m 77 #[.val (.ref ar)] [(.ref ax)]) (fun _ kx_ => XS.goto X102.here hx rfl (pc0 := 71) (pc' := 77) rfl (hb hby d8_71) (by decide) (by decide) kx_) ?_
  exact W.retA X102 hx hlk Bd.returns rfl rfl rfl (hb hby d8_77) (by show Q8_3 Z ar ax h0 n0 _ T102.heap _; rw [e102]; exact ⟨rfl, N101, rfl⟩) (by decide) (by decide)
theorem ef_8_4 (m : MethodId) (x0 : Addr) : entryFrame m #[(.ref x0)] 1 = mkF m 0 #[.val (.ref x0)] [] := by first | (simp [entryFrame, mkF, argsToLocals, Value.category]; done) | rfl
theorem d8_74 : decode prog_76_method_4_code 74 = .ok (.getstatic 3, 3) := by decide +kernel
def Q8_4 (Z : State) (ar : Addr) (ax : Addr) (h0 : Heap) (n0 : Nat) (v : Option Value) (h : Heap) (L : List Loc) : Prop := v = some (.ref ax) ∧ Fr n0 L ∧ h = h0
set_option maxRecDepth 65536 in
set_option maxHeartbeats 40000000 in
theorem rm8_4 (l : Launch) (Z : State) (a0 : Array Value) (hw : ∀ d ∈ tables_1, d.before a0 Z = true) (ws : List Jvm.Cond) (ar : Addr) (ax : Addr) (h0 : Heap) (n0 : Nat) (Z0 : n0 ≤ h0.size) (O0 : Old Z n0 h0) (Er : Exa Z h0 ar "com/example/hybridge/hybridge/model/Relation") (Fo : Fld Z h0 ar "java/lang/Enum" "ordinal" "I" (.int 4)) (S_t : Sta Z Z.heap "com/example/hybridge/hybridge/model/Relation" "LESS" "Lcom/example/hybridge/hybridge/model/Relation;" (.ref ax)) :
    MetFree l (⟨"com/example/hybridge/hybridge/model/Relation", "swapped", "()Lcom/example/hybridge/hybridge/model/Relation;"⟩ : MethodName) (head1 (Jvm.Cond.code (⟨"com/example/hybridge/hybridge/model/Relation", "swapped", "()Lcom/example/hybridge/hybridge/model/Relation;"⟩ : MethodName) prog_76_method_4_code 1 (some (.object "com/example/hybridge/hybridge/model/Relation")) :: ws) ({ frames := 1, cells := 0, slots := 0, locals := 12 } : Room)) (fun a U => a = #[(.ref ar)] ∧ Z.Warmed39 U.vm ∧ U.heap = h0) (fun _ _ _ _ _ => True) (fun _ U o U' => ∃ v L, o = .returned v ∧ Q8_4 Z ar ax h0 n0 v U'.heap L ∧ FrameEnd U o U' L ({ frames := 1, cells := 0, slots := 0, locals := 12 } : Room).cells ({ frames := 1, cells := 0, slots := 0, locals := 12 } : Room).slots) := by
  refine MetFree.of_bodySF (plainFor_of_name pn_5) hisR ?_
  intro p e s m args below meth c s₁ Bd hml0 hP hK
  obtain ⟨rfl, hZ, hh⟩ := hP
  have hx := Bd.exec
  have hby := Bd.bytes
  have hml : c.maxLocals = 1 := hml0
  have hown : s.vm.findClass "com/example/hybridge/hybridge/model/Relation" = some m.cls := findClass_of_methodNamed Bd.named
  have hnm := (name_of_methodNamed Bd.named Bd.method).1
  have hlk : meth.locks = false := BodyLoose.notSynchronized Bd
  have X0 : Stand p l e ({ frames := 1, cells := 0, slots := 0, locals := 12 } : Room) s m #[(.ref ar)] below meth c s₁ [] 0 0 := Stand.of_body Bd
  have e0 : s₁.heap = h0 := by rw [← hh, Bd.state]; rfl
  have N0 := Fr.nil n0
  show W.Gl p e below s (Q8_4 Z ar ax h0 n0) ({ frames := 1, cells := 0, slots := 0, locals := 12 } : Room).cells ({ frames := 1, cells := 0, slots := 0, locals := 12 } : Room).slots s₁ (entryFrame m #[(.ref ar)] 1)
  refine W.cast (ef_8_4 m ar) ?_
  refine W.s1 (mkF m 1 #[.val (.ref ar)] [(.ref ar)]) (fun _ kx_ => XS.aloadN X0.here hx rfl (hb hby d8_0) rfl rfl kx_) ?_
  obtain ⟨cq101, kq101, q101a, q101b, q101c⟩ := isOf hZ e0 Er
  obtain ⟨_, _, ⟨T101, L101, k101, n101⟩, -, X101, ⟨Lc101, hQ101, l101, y101, z101⟩, st101⟩ := X0.virtualBackUp hx (x := (⟨"com/example/hybridge/hybridge/model/Relation", "ordinal", "()I"⟩ : MethodName)) (y := (⟨"java/lang/Enum", "ordinal", "()I"⟩ : MethodName)) (owner := "java/lang/Enum") hown (mvT hZ (hw _ (List.mem_of_getElem? (i := 55) rfl))) (mvT hZ (hw _ (List.mem_of_getElem? (i := 56) rfl))) (mvT hZ (hw _ (List.mem_of_getElem? (i := 57) rfl))) (by decide) (mvT hZ (hw _ (List.mem_of_getElem? (i := 59) rfl))) (mvT hZ (hw _ (List.mem_of_getElem? (i := 58) rfl))) (backOf (W := 0) (rm9 l Z a0 hw [] ar (4 : Int32) h0 n0 Z0 Fo) hZ (hw _ (List.mem_of_getElem? (i := 61) rfl)) (hw _ (List.mem_of_getElem? (i := 60) rfl)) (by decide) (by decide)) q101a q101c (g := (mkF m 1 #[.val (.ref ar)] [(.ref ar)])) rfl (by rw [hml]; rfl) (Steps.refl _) (argsL := []) (rest := []) (lenOf pd_4 rfl) rfl (by show 2 * 0 + _ ≤ _; exact Nat.le_of_eq rfl) (hb hby d8_1) (fun _ _ => ⟨rfl, e0, (by decide : 0 + 0 ≤ _), (by decide : 0 + 0 ≤ _)⟩)
  dsimp only [Pt.U, Pt.locs, Pt.cells, Pt.slots] at X101 l101 y101 z101 st101 hQ101
  subst l101 y101 z101
  obtain ⟨rfl, Nq101, eq101⟩ := hQ101
  have N101 := Fr.app N0 Nq101
  refine W.s3 (mkF m 4 #[.val (.ref ar)] [(.int (4 : Int32))]) st101 ?_
  refine W.s1 (mkF m 74 #[.val (.ref ar)] []) (fun _ kx_ => XS.tswIn X101.here hx rfl (pc0 := 4) (pc' := 74) (o := 70) rfl (hb hby d8_4) rfl (by first | decide | decide +kernel) (by first | decide | decide +kernel) (by first | decide | decide +kernel) (by first | decide | decide +kernel) kx_) ?_
  refine W.gets X101 hx hZ hown (host := "") (Or.inl (hw _ (List.mem_of_getElem? (i := 133) rfl))) Via.refl eq101 (Sta.ext O0.2 S_t) (hb hby d8_74) (pc' := 77) rfl (fun T102 X102 e102 => ?_)
  exact W.retA X102 hx hlk Bd.returns rfl rfl rfl (hb hby d8_77) (by show Q8_4 Z ar ax h0 n0 _ T102.heap _; rw [e102]; exact ⟨rfl, N101, rfl⟩) (by decide) (by decide)
theorem pn_6 : plainName "java/lang/Integer" = true := by first | (simp [plainName, overriddenIn]; done) | decide +kernel
theorem ef_15 (m : MethodId) (x0 : Int32) : entryFrame m #[(.int x0)] 1 = mkF m 0 #[.val (.int x0)] [] := by first | (simp [entryFrame, mkF, argsToLocals, Value.category]; done) | rfl
theorem d15_0 : decode jdk_33_method_49_code 0 = .ok (.iload_n 0, 1) := by decide +kernel
theorem d15_1 : decode jdk_33_method_49_code 1 = .ok (.iload_n 0, 1) := by decide +kernel
theorem d15_2 : decode jdk_33_method_49_code 2 = .ok (.iconst 1, 1) := by decide +kernel
theorem d15_3 : decode jdk_33_method_49_code 3 = .ok (.iushr, 1) := by decide +kernel
theorem d15_4 : decode jdk_33_method_49_code 4 = .ok (.ldc_w 265, 3) := by decide +kernel
theorem d15_7 : decode jdk_33_method_49_code 7 = .ok (.iand, 1) := by decide +kernel
theorem d15_8 : decode jdk_33_method_49_code 8 = .ok (.isub, 1) := by decide +kernel
theorem d15_9 : decode jdk_33_method_49_code 9 = .ok (.istore_n 0, 1) := by decide +kernel
theorem d15_10 : decode jdk_33_method_49_code 10 = .ok (.iload_n 0, 1) := by decide +kernel
theorem d15_11 : decode jdk_33_method_49_code 11 = .ok (.ldc_w 266, 3) := by decide +kernel
theorem d15_14 : decode jdk_33_method_49_code 14 = .ok (.iand, 1) := by decide +kernel
theorem d15_15 : decode jdk_33_method_49_code 15 = .ok (.iload_n 0, 1) := by decide +kernel
theorem d15_16 : decode jdk_33_method_49_code 16 = .ok (.iconst 2, 1) := by decide +kernel
theorem d15_17 : decode jdk_33_method_49_code 17 = .ok (.iushr, 1) := by decide +kernel
theorem d15_18 : decode jdk_33_method_49_code 18 = .ok (.ldc_w 266, 3) := by decide +kernel
theorem d15_21 : decode jdk_33_method_49_code 21 = .ok (.iand, 1) := by decide +kernel
theorem d15_22 : decode jdk_33_method_49_code 22 = .ok (.iadd, 1) := by decide +kernel
theorem d15_23 : decode jdk_33_method_49_code 23 = .ok (.istore_n 0, 1) := by decide +kernel
theorem d15_24 : decode jdk_33_method_49_code 24 = .ok (.iload_n 0, 1) := by decide +kernel
theorem d15_25 : decode jdk_33_method_49_code 25 = .ok (.iload_n 0, 1) := by decide +kernel
theorem d15_26 : decode jdk_33_method_49_code 26 = .ok (.iconst 4, 1) := by decide +kernel
theorem d15_27 : decode jdk_33_method_49_code 27 = .ok (.iushr, 1) := by decide +kernel
theorem d15_28 : decode jdk_33_method_49_code 28 = .ok (.iadd, 1) := by decide +kernel
theorem d15_29 : decode jdk_33_method_49_code 29 = .ok (.ldc_w 267, 3) := by decide +kernel
theorem d15_32 : decode jdk_33_method_49_code 32 = .ok (.iand, 1) := by decide +kernel
theorem d15_33 : decode jdk_33_method_49_code 33 = .ok (.istore_n 0, 1) := by decide +kernel
theorem d15_34 : decode jdk_33_method_49_code 34 = .ok (.iload_n 0, 1) := by decide +kernel
theorem d15_35 : decode jdk_33_method_49_code 35 = .ok (.iload_n 0, 1) := by decide +kernel
theorem d15_36 : decode jdk_33_method_49_code 36 = .ok (.bipush 8, 2) := by decide +kernel
theorem d15_38 : decode jdk_33_method_49_code 38 = .ok (.iushr, 1) := by decide +kernel
theorem d15_39 : decode jdk_33_method_49_code 39 = .ok (.iadd, 1) := by decide +kernel
theorem d15_40 : decode jdk_33_method_49_code 40 = .ok (.istore_n 0, 1) := by decide +kernel
theorem d15_41 : decode jdk_33_method_49_code 41 = .ok (.iload_n 0, 1) := by decide +kernel
theorem d15_42 : decode jdk_33_method_49_code 42 = .ok (.iload_n 0, 1) := by decide +kernel
theorem d15_43 : decode jdk_33_method_49_code 43 = .ok (.bipush 16, 2) := by decide +kernel
theorem d15_45 : decode jdk_33_method_49_code 45 = .ok (.iushr, 1) := by decide +kernel
theorem d15_46 : decode jdk_33_method_49_code 46 = .ok (.iadd, 1) := by decide +kernel
theorem d15_47 : decode jdk_33_method_49_code 47 = .ok (.istore_n 0, 1) := by decide +kernel
theorem d15_48 : decode jdk_33_method_49_code 48 = .ok (.iload_n 0, 1) := by decide +kernel
theorem d15_49 : decode jdk_33_method_49_code 49 = .ok (.bipush 63, 2) := by decide +kernel
theorem d15_51 : decode jdk_33_method_49_code 51 = .ok (.iand, 1) := by decide +kernel
theorem d15_52 : decode jdk_33_method_49_code 52 = .ok (.ireturn, 1) := by decide +kernel
def Q15 (Z : State)  (h0 : Heap) (n0 : Nat) (v : Option Value) (h : Heap) (L : List Loc) : Prop := v = some (.int 1) ∧ Fr n0 L ∧ h = h0
set_option maxRecDepth 65536 in
set_option maxHeartbeats 40000000 in
theorem rm15 (l : Launch) (Z : State) (a0 : Array Value) (hw : ∀ d ∈ tables_1, d.before a0 Z = true) (ws : List Jvm.Cond)  (h0 : Heap) (n0 : Nat) (Z0 : n0 ≤ h0.size) :
    MetFree l (⟨"java/lang/Integer", "bitCount", "(I)I"⟩ : MethodName) (head1 (Jvm.Cond.code (⟨"java/lang/Integer", "bitCount", "(I)I"⟩ : MethodName) jdk_33_method_49_code 1 (some .int) :: ws) ({ frames := 0, cells := 0, slots := 0, locals := 0 } : Room)) (fun a U => a = #[(.int (1 : Int32))] ∧ Z.Warmed39 U.vm ∧ U.heap = h0) (fun _ _ _ _ _ => True) (fun _ U o U' => ∃ v L, o = .returned v ∧ Q15 Z  h0 n0 v U'.heap L ∧ FrameEnd U o U' L ({ frames := 0, cells := 0, slots := 0, locals := 0 } : Room).cells ({ frames := 0, cells := 0, slots := 0, locals := 0 } : Room).slots) := by
  refine MetFree.of_bodySF (plainFor_of_name pn_6) hisR ?_
  intro p e s m args below meth c s₁ Bd hml0 hP hK
  obtain ⟨rfl, hZ, hh⟩ := hP
  have hx := Bd.exec
  have hby := Bd.bytes
  have hml : c.maxLocals = 1 := hml0
  have hown : s.vm.findClass "java/lang/Integer" = some m.cls := findClass_of_methodNamed Bd.named
  have hnm := (name_of_methodNamed Bd.named Bd.method).1
  have hlk : meth.locks = false := BodyLoose.notSynchronized Bd
  have X0 : Stand p l e ({ frames := 0, cells := 0, slots := 0, locals := 0 } : Room) s m #[(.int (1 : Int32))] below meth c s₁ [] 0 0 := Stand.of_body Bd
  have e0 : s₁.heap = h0 := by rw [← hh, Bd.state]; rfl
  have N0 := Fr.nil n0
  show W.Gl p e below s (Q15 Z  h0 n0) ({ frames := 0, cells := 0, slots := 0, locals := 0 } : Room).cells ({ frames := 0, cells := 0, slots := 0, locals := 0 } : Room).slots s₁ (entryFrame m #[(.int (1 : Int32))] 1)
  refine W.cast (ef_15 m (1 : Int32)) ?_
  refine W.s1 (mkF m 1 #[.val (.int (1 : Int32))] [(.int (1 : Int32))]) (fun _ kx_ => XS.iloadN X0.here hx rfl (hb hby d15_0) rfl kx_) ?_
  refine W.s1 (mkF m 2 #[.val (.int (1 : Int32))] [(.int (1 : Int32)), (.int (1 : Int32))]) (fun _ kx_ => XS.iloadN X0.here hx rfl (hb hby d15_1) rfl kx_) ?_
  refine W.s1 (mkF m 3 #[.val (.int (1 : Int32))] [(.int (1 : Int32)), (.int (1 : Int32)), (.int (1 : Int32))]) (fun _ kx_ => XS.iconst X0.here hx rfl (hb hby d15_2) kx_) ?_
  refine W.s1 (mkF m 4 #[.val (.int (1 : Int32))] [(.int (0 : Int32)), (.int (1 : Int32))]) (fun _ kx_ => XS.iushr X0.here hx rfl (hb hby d15_3) rfl kx_) ?_
  refine W.s1 (mkF m 7 #[.val (.int (1 : Int32))] [(.int (1431655765 : Int32)), (.int (0 : Int32)), (.int (1 : Int32))]) (fun _ kx_ => X0.ldcWInt hx hown (mvT hZ (hw _ (List.mem_of_getElem? (i := 93) rfl))) (g := (mkF m 4 #[.val (.int (1 : Int32))] [(.int (0 : Int32)), (.int (1 : Int32))])) rfl (hb hby d15_4) _ kx_) ?_
  refine W.s1 (mkF m 8 #[.val (.int (1 : Int32))] [(.int (0 : Int32)), (.int (1 : Int32))]) (fun _ kx_ => XS.iand X0.here hx rfl (hb hby d15_7) rfl kx_) ?_
  refine W.s1 (mkF m 9 #[.val (.int (1 : Int32))] [(.int (1 : Int32))]) (fun _ kx_ => XS.isub X0.here hx rfl (hb hby d15_8) rfl kx_) ?_
  refine W.s1 (mkF m 10 #[.val (.int (1 : Int32))] []) (fun _ kx_ => XS.istoreN X0.here hx rfl (hb hby d15_9) rfl (l' := #[.val (.int (1 : Int32))]) rfl kx_) ?_
  refine W.s1 (mkF m 11 #[.val (.int (1 : Int32))] [(.int (1 : Int32))]) (fun _ kx_ => XS.iloadN X0.here hx rfl (hb hby d15_10) rfl kx_) ?_
  refine W.s1 (mkF m 14 #[.val (.int (1 : Int32))] [(.int (858993459 : Int32)), (.int (1 : Int32))]) (fun _ kx_ => X0.ldcWInt hx hown (mvT hZ (hw _ (List.mem_of_getElem? (i := 94) rfl))) (g := (mkF m 11 #[.val (.int (1 : Int32))] [(.int (1 : Int32))])) rfl (hb hby d15_11) _ kx_) ?_
  refine W.s1 (mkF m 15 #[.val (.int (1 : Int32))] [(.int (1 : Int32))]) (fun _ kx_ => XS.iand X0.here hx rfl (hb hby d15_14) rfl kx_) ?_
  refine W.s1 (mkF m 16 #[.val (.int (1 : Int32))] [(.int (1 : Int32)), (.int (1 : Int32))]) (fun _ kx_ => XS.iloadN X0.here hx rfl (hb hby d15_15) rfl kx_) ?_
  refine W.s1 (mkF m 17 #[.val (.int (1 : Int32))] [(.int (2 : Int32)), (.int (1 : Int32)), (.int (1 : Int32))]) (fun _ kx_ => XS.iconst X0.here hx rfl (hb hby d15_16) kx_) ?_
  refine W.s1 (mkF m 18 #[.val (.int (1 : Int32))] [(.int (0 : Int32)), (.int (1 : Int32))]) (fun _ kx_ => XS.iushr X0.here hx rfl (hb hby d15_17) rfl kx_) ?_
  refine W.s1 (mkF m 21 #[.val (.int (1 : Int32))] [(.int (858993459 : Int32)), (.int (0 : Int32)), (.int (1 : Int32))]) (fun _ kx_ => X0.ldcWInt hx hown (mvT hZ (hw _ (List.mem_of_getElem? (i := 94) rfl))) (g := (mkF m 18 #[.val (.int (1 : Int32))] [(.int (0 : Int32)), (.int (1 : Int32))])) rfl (hb hby d15_18) _ kx_) ?_
  refine W.s1 (mkF m 22 #[.val (.int (1 : Int32))] [(.int (0 : Int32)), (.int (1 : Int32))]) (fun _ kx_ => XS.iand X0.here hx rfl (hb hby d15_21) rfl kx_) ?_
  refine W.s1 (mkF m 23 #[.val (.int (1 : Int32))] [(.int (1 : Int32))]) (fun _ kx_ => XS.iadd X0.here hx rfl (hb hby d15_22) rfl kx_) ?_
  refine W.s1 (mkF m 24 #[.val (.int (1 : Int32))] []) (fun _ kx_ => XS.istoreN X0.here hx rfl (hb hby d15_23) rfl (l' := #[.val (.int (1 : Int32))]) rfl kx_) ?_
  refine W.s1 (mkF m 25 #[.val (.int (1 : Int32))] [(.int (1 : Int32))]) (fun _ kx_ => XS.iloadN X0.here hx rfl (hb hby d15_24) rfl kx_) ?_
  refine W.s1 (mkF m 26 #[.val (.int (1 : Int32))] [(.int (1 : Int32)), (.int (1 : Int32))]) (fun _ kx_ => XS.iloadN X0.here hx rfl (hb hby d15_25) rfl kx_) ?_
  refine W.s1 (mkF m 27 #[.val (.int (1 : Int32))] [(.int (4 : Int32)), (.int (1 : Int32)), (.int (1 : Int32))]) (fun _ kx_ => XS.iconst X0.here hx rfl (hb hby d15_26) kx_) ?_
  refine W.s1 (mkF m 28 #[.val (.int (1 : Int32))] [(.int (0 : Int32)), (.int (1 : Int32))]) (fun _ kx_ => XS.iushr X0.here hx rfl (hb hby d15_27) rfl kx_) ?_
  refine W.s1 (mkF m 29 #[.val (.int (1 : Int32))] [(.int (1 : Int32))]) (fun _ kx_ => XS.iadd X0.here hx rfl (hb hby d15_28) rfl kx_) ?_
  refine W.s1 (mkF m 32 #[.val (.int (1 : Int32))] [(.int (252645135 : Int32)), (.int (1 : Int32))]) (fun _ kx_ => X0.ldcWInt hx hown (mvT hZ (hw _ (List.mem_of_getElem? (i := 95) rfl))) (g := (mkF m 29 #[.val (.int (1 : Int32))] [(.int (1 : Int32))])) rfl (hb hby d15_29) _ kx_) ?_
  refine W.s1 (mkF m 33 #[.val (.int (1 : Int32))] [(.int (1 : Int32))]) (fun _ kx_ => XS.iand X0.here hx rfl (hb hby d15_32) rfl kx_) ?_
  refine W.s1 (mkF m 34 #[.val (.int (1 : Int32))] []) (fun _ kx_ => XS.istoreN X0.here hx rfl (hb hby d15_33) rfl (l' := #[.val (.int (1 : Int32))]) rfl kx_) ?_
  refine W.s1 (mkF m 35 #[.val (.int (1 : Int32))] [(.int (1 : Int32))]) (fun _ kx_ => XS.iloadN X0.here hx rfl (hb hby d15_34) rfl kx_) ?_
  refine W.s1 (mkF m 36 #[.val (.int (1 : Int32))] [(.int (1 : Int32)), (.int (1 : Int32))]) (fun _ kx_ => XS.iloadN X0.here hx rfl (hb hby d15_35) rfl kx_) ?_
  refine W.s1 (mkF m 38 #[.val (.int (1 : Int32))] [(.int (8 : Int32)), (.int (1 : Int32)), (.int (1 : Int32))]) (fun _ kx_ => XS.bipush X0.here hx rfl (hb hby d15_36) kx_) ?_
  refine W.s1 (mkF m 39 #[.val (.int (1 : Int32))] [(.int (0 : Int32)), (.int (1 : Int32))]) (fun _ kx_ => XS.iushr X0.here hx rfl (hb hby d15_38) rfl kx_) ?_
  refine W.s1 (mkF m 40 #[.val (.int (1 : Int32))] [(.int (1 : Int32))]) (fun _ kx_ => XS.iadd X0.here hx rfl (hb hby d15_39) rfl kx_) ?_
  refine W.s1 (mkF m 41 #[.val (.int (1 : Int32))] []) (fun _ kx_ => XS.istoreN X0.here hx rfl (hb hby d15_40) rfl (l' := #[.val (.int (1 : Int32))]) rfl kx_) ?_
  refine W.s1 (mkF m 42 #[.val (.int (1 : Int32))] [(.int (1 : Int32))]) (fun _ kx_ => XS.iloadN X0.here hx rfl (hb hby d15_41) rfl kx_) ?_
  refine W.s1 (mkF m 43 #[.val (.int (1 : Int32))] [(.int (1 : Int32)), (.int (1 : Int32))]) (fun _ kx_ => XS.iloadN X0.here hx rfl (hb hby d15_42) rfl kx_) ?_
  refine W.s1 (mkF m 45 #[.val (.int (1 : Int32))] [(.int (16 : Int32)), (.int (1 : Int32)), (.int (1 : Int32))]) (fun _ kx_ => XS.bipush X0.here hx rfl (hb hby d15_43) kx_) ?_
  refine W.s1 (mkF m 46 #[.val (.int (1 : Int32))] [(.int (0 : Int32)), (.int (1 : Int32))]) (fun _ kx_ => XS.iushr X0.here hx rfl (hb hby d15_45) rfl kx_) ?_
  refine W.s1 (mkF m 47 #[.val (.int (1 : Int32))] [(.int (1 : Int32))]) (fun _ kx_ => XS.iadd X0.here hx rfl (hb hby d15_46) rfl kx_) ?_
  refine W.s1 (mkF m 48 #[.val (.int (1 : Int32))] []) (fun _ kx_ => XS.istoreN X0.here hx rfl (hb hby d15_47) rfl (l' := #[.val (.int (1 : Int32))]) rfl kx_) ?_
  refine W.s1 (mkF m 49 #[.val (.int (1 : Int32))] [(.int (1 : Int32))]) (fun _ kx_ => XS.iloadN X0.here hx rfl (hb hby d15_48) rfl kx_) ?_
  refine W.s1 (mkF m 51 #[.val (.int (1 : Int32))] [(.int (63 : Int32)), (.int (1 : Int32))]) (fun _ kx_ => XS.bipush X0.here hx rfl (hb hby d15_49) kx_) ?_
  refine W.s1 (mkF m 52 #[.val (.int (1 : Int32))] [(.int (1 : Int32))]) (fun _ kx_ => XS.iand X0.here hx rfl (hb hby d15_51) rfl kx_) ?_
  exact W.retI X0 hx hlk Bd.returns (hb hby d15_52) (by show Q15 Z  h0 n0 _ s₁.heap _; rw [e0]; exact ⟨rfl, N0, rfl⟩) (by decide) (by decide)
theorem ef_16 (m : MethodId) (x0 : Int32) : entryFrame m #[(.int x0)] 2 = mkF m 0 #[.val (.int x0), .unset] [] := by first | (simp [entryFrame, mkF, argsToLocals, Value.category]; done) | rfl
theorem d16_0 : decode jdk_33_method_48_code 0 = .ok (.iload_n 0, 1) := by decide +kernel
theorem d16_1 : decode jdk_33_method_48_code 1 = .ok (.iconst (-1), 1) := by decide +kernel
theorem d16_2 : decode jdk_33_method_48_code 2 = .ok (.ixor, 1) := by decide +kernel
theorem d16_3 : decode jdk_33_method_48_code 3 = .ok (.iload_n 0, 1) := by decide +kernel
theorem d16_4 : decode jdk_33_method_48_code 4 = .ok (.iconst 1, 1) := by decide +kernel
theorem d16_5 : decode jdk_33_method_48_code 5 = .ok (.isub, 1) := by decide +kernel
theorem d16_6 : decode jdk_33_method_48_code 6 = .ok (.iand, 1) := by decide +kernel
theorem d16_7 : decode jdk_33_method_48_code 7 = .ok (.istore_n 0, 1) := by decide +kernel
theorem d16_8 : decode jdk_33_method_48_code 8 = .ok (.iload_n 0, 1) := by decide +kernel
theorem d16_9 : decode jdk_33_method_48_code 9 = .ok (.ifCond .gt 8, 3) := by decide +kernel
theorem d16_12 : decode jdk_33_method_48_code 12 = .ok (.iload_n 0, 1) := by decide +kernel
theorem d16_13 : decode jdk_33_method_48_code 13 = .ok (.bipush 32, 2) := by decide +kernel
theorem d16_15 : decode jdk_33_method_48_code 15 = .ok (.iand, 1) := by decide +kernel
theorem d16_16 : decode jdk_33_method_48_code 16 = .ok (.ireturn, 1) := by decide +kernel
def Q16 (Z : State)  (h0 : Heap) (n0 : Nat) (v : Option Value) (h : Heap) (L : List Loc) : Prop := v = some (.int 0) ∧ Fr n0 L ∧ h = h0
set_option maxRecDepth 65536 in
set_option maxHeartbeats 40000000 in
theorem rm16 (l : Launch) (Z : State) (a0 : Array Value) (hw : ∀ d ∈ tables_1, d.before a0 Z = true) (ws : List Jvm.Cond)  (h0 : Heap) (n0 : Nat) (Z0 : n0 ≤ h0.size) :
    MetFree l (⟨"java/lang/Integer", "numberOfTrailingZeros", "(I)I"⟩ : MethodName) (head1 (Jvm.Cond.code (⟨"java/lang/Integer", "numberOfTrailingZeros", "(I)I"⟩ : MethodName) jdk_33_method_48_code 2 (some .int) :: ws) ({ frames := 0, cells := 0, slots := 0, locals := 0 } : Room)) (fun a U => a = #[(.int (1 : Int32))] ∧ Z.Warmed39 U.vm ∧ U.heap = h0) (fun _ _ _ _ _ => True) (fun _ U o U' => ∃ v L, o = .returned v ∧ Q16 Z  h0 n0 v U'.heap L ∧ FrameEnd U o U' L ({ frames := 0, cells := 0, slots := 0, locals := 0 } : Room).cells ({ frames := 0, cells := 0, slots := 0, locals := 0 } : Room).slots) := by
  refine MetFree.of_bodySF (plainFor_of_name pn_6) hisR ?_
  intro p e s m args below meth c s₁ Bd hml0 hP hK
  obtain ⟨rfl, hZ, hh⟩ := hP
  have hx := Bd.exec
  have hby := Bd.bytes
  have hml : c.maxLocals = 2 := hml0
  have hown : s.vm.findClass "java/lang/Integer" = some m.cls := findClass_of_methodNamed Bd.named
  have hnm := (name_of_methodNamed Bd.named Bd.method).1
  have hlk : meth.locks = false := BodyLoose.notSynchronized Bd
  have X0 : Stand p l e ({ frames := 0, cells := 0, slots := 0, locals := 0 } : Room) s m #[(.int (1 : Int32))] below meth c s₁ [] 0 0 := Stand.of_body Bd
  have e0 : s₁.heap = h0 := by rw [← hh, Bd.state]; rfl
  have N0 := Fr.nil n0
  show W.Gl p e below s (Q16 Z  h0 n0) ({ frames := 0, cells := 0, slots := 0, locals := 0 } : Room).cells ({ frames := 0, cells := 0, slots := 0, locals := 0 } : Room).slots s₁ (entryFrame m #[(.int (1 : Int32))] 2)
  refine W.cast (ef_16 m (1 : Int32)) ?_
  refine W.s1 (mkF m 1 #[.val (.int (1 : Int32)), .unset] [(.int (1 : Int32))]) (fun _ kx_ => XS.iloadN X0.here hx rfl (hb hby d16_0) rfl kx_) ?_
  refine W.s1 (mkF m 2 #[.val (.int (1 : Int32)), .unset] [(.int (-1 : Int32)), (.int (1 : Int32))]) (fun _ kx_ => XS.iconst X0.here hx rfl (hb hby d16_1) kx_) ?_
  refine W.s1 (mkF m 3 #[.val (.int (1 : Int32)), .unset] [(.int ((1 : Int32) ^^^ (-1 : Int32)))]) (fun _ kx_ => XS.ixor X0.here hx rfl (hb hby d16_2) rfl kx_) ?_
  rw [show ((1 : Int32) ^^^ (-1 : Int32)) = (-2 : Int32) from by decide +kernel]
  refine W.s1 (mkF m 4 #[.val (.int (1 : Int32)), .unset] [(.int (1 : Int32)), (.int (-2 : Int32))]) (fun _ kx_ => XS.iloadN X0.here hx rfl (hb hby d16_3) rfl kx_) ?_
  refine W.s1 (mkF m 5 #[.val (.int (1 : Int32)), .unset] [(.int (1 : Int32)), (.int (1 : Int32)), (.int (-2 : Int32))]) (fun _ kx_ => XS.iconst X0.here hx rfl (hb hby d16_4) kx_) ?_
  refine W.s1 (mkF m 6 #[.val (.int (1 : Int32)), .unset] [(.int (0 : Int32)), (.int (-2 : Int32))]) (fun _ kx_ => XS.isub X0.here hx rfl (hb hby d16_5) rfl kx_) ?_
  refine W.s1 (mkF m 7 #[.val (.int (1 : Int32)), .unset] [(.int (0 : Int32))]) (fun _ kx_ => XS.iand X0.here hx rfl (hb hby d16_6) rfl kx_) ?_
  refine W.s1 (mkF m 8 #[.val (.int (0 : Int32)), .unset] []) (fun _ kx_ => XS.istoreN X0.here hx rfl (hb hby d16_7) rfl (l' := #[.val (.int (0 : Int32)), .unset]) rfl kx_) ?_
  refine W.s1 (mkF m 9 #[.val (.int (0 : Int32)), .unset] [(.int (0 : Int32))]) (fun _ kx_ => XS.iloadN X0.here hx rfl (hb hby d16_8) rfl kx_) ?_
  refine W.ifc X0 hx (hb hby d16_9) (pc' := 17) (pc'' := 12) (by decide) (by decide) rfl (fun (c9 : (0 : Int32) < (0 : Int32)) => ?_) (fun (c9 : ¬ (0 : Int32) < (0 : Int32)) => ?_)
  · exact absurd c9 (by decide)
  · refine W.s1 (mkF m 13 #[.val (.int (0 : Int32)), .unset] [(.int (0 : Int32))]) (fun _ kx_ => XS.iloadN X0.here hx rfl (hb hby d16_12) rfl kx_) ?_
    refine W.s1 (mkF m 15 #[.val (.int (0 : Int32)), .unset] [(.int (32 : Int32)), (.int (0 : Int32))]) (fun _ kx_ => XS.bipush X0.here hx rfl (hb hby d16_13) kx_) ?_
    refine W.s1 (mkF m 16 #[.val (.int (0 : Int32)), .unset] [(.int (0 : Int32))]) (fun _ kx_ => XS.iand X0.here hx rfl (hb hby d16_15) rfl kx_) ?_
    exact W.retI X0 hx hlk Bd.returns (hb hby d16_16) (by show Q16 Z  h0 n0 _ s₁.heap _; rw [e0]; exact ⟨rfl, N0, rfl⟩) (by decide) (by decide)
theorem ef_17 (m : MethodId) (x0 : Addr) (x1 : Int32) : entryFrame m #[(.ref x0), (.int x1)] 10 = mkF m 0 #[.val (.ref x0), .val (.int x1), .unset, .unset, .unset, .unset, .unset, .unset, .unset, .unset] [] := by first | (simp [entryFrame, mkF, argsToLocals, Value.category]; done) | rfl
theorem d17_0 : decode jdk_2097_method_102_code 0 = .ok (.iload_n 1, 1) := by decide +kernel
theorem d17_1 : decode jdk_2097_method_102_code 1 = .ok (.iconst 5, 1) := by decide +kernel
theorem d17_2 : decode jdk_2097_method_102_code 2 = .ok (.iushr, 1) := by decide +kernel
theorem d17_3 : decode jdk_2097_method_102_code 3 = .ok (.istore_n 2, 1) := by decide +kernel
theorem d17_4 : decode jdk_2097_method_102_code 4 = .ok (.iload_n 1, 1) := by decide +kernel
theorem d17_5 : decode jdk_2097_method_102_code 5 = .ok (.bipush 31, 2) := by decide +kernel
theorem d17_7 : decode jdk_2097_method_102_code 7 = .ok (.iand, 1) := by decide +kernel
theorem d17_8 : decode jdk_2097_method_102_code 8 = .ok (.istore_n 3, 1) := by decide +kernel
theorem d17_9 : decode jdk_2097_method_102_code 9 = .ok (.aload_n 0, 1) := by decide +kernel
theorem d17_10 : decode jdk_2097_method_102_code 10 = .ok (.arraylength, 1) := by decide +kernel
theorem d17_11 : decode jdk_2097_method_102_code 11 = .ok (.istore 4, 2) := by decide +kernel
theorem d17_13 : decode jdk_2097_method_102_code 13 = .ok (.aconst_null, 1) := by decide +kernel
theorem d17_14 : decode jdk_2097_method_102_code 14 = .ok (.astore 5, 2) := by decide +kernel
theorem d17_16 : decode jdk_2097_method_102_code 16 = .ok (.iload_n 3, 1) := by decide +kernel
theorem d17_17 : decode jdk_2097_method_102_code 17 = .ok (.ifCond .ne 24, 3) := by decide +kernel
theorem d17_20 : decode jdk_2097_method_102_code 20 = .ok (.iload 4, 2) := by decide +kernel
theorem d17_22 : decode jdk_2097_method_102_code 22 = .ok (.iload_n 2, 1) := by decide +kernel
theorem d17_23 : decode jdk_2097_method_102_code 23 = .ok (.iadd, 1) := by decide +kernel
theorem d17_24 : decode jdk_2097_method_102_code 24 = .ok (.newarray .int, 2) := by decide +kernel
theorem d17_26 : decode jdk_2097_method_102_code 26 = .ok (.astore 5, 2) := by decide +kernel
theorem d17_28 : decode jdk_2097_method_102_code 28 = .ok (.aload_n 0, 1) := by decide +kernel
theorem d17_29 : decode jdk_2097_method_102_code 29 = .ok (.iconst 0, 1) := by decide +kernel
theorem d17_30 : decode jdk_2097_method_102_code 30 = .ok (.aload 5, 2) := by decide +kernel
theorem d17_32 : decode jdk_2097_method_102_code 32 = .ok (.iconst 0, 1) := by decide +kernel
theorem d17_33 : decode jdk_2097_method_102_code 33 = .ok (.iload 4, 2) := by decide +kernel
theorem d17_35 : decode jdk_2097_method_102_code 35 = .ok (.invokestatic 388, 3) := by decide +kernel
theorem d17_38 : decode jdk_2097_method_102_code 38 = .ok (.goto 114, 3) := by decide +kernel
theorem d17_152 : decode jdk_2097_method_102_code 152 = .ok (.aload 5, 2) := by decide +kernel
theorem d17_154 : decode jdk_2097_method_102_code 154 = .ok (.areturn, 1) := by decide +kernel
def Q17 (Z : State) (zm : Addr) (n : Nat) (f : Nat → Int32) (h0 : Heap) (n0 : Nat) (v : Option Value) (h : Heap) (L : List Loc) : Prop := ∃ b : Addr, v = some (.ref b) ∧ Fr n0 L ∧ Keep h0 h [] ∧ h0.size ≤ b ∧ W.AI Z h b .int n f
set_option maxRecDepth 65536 in
set_option maxHeartbeats 40000000 in
theorem rm17 (l : Launch) (Z : State) (a0 : Array Value) (hw : ∀ d ∈ tables_1, d.before a0 Z = true) (ws : List Jvm.Cond) (zm : Addr) (n : Nat) (f : Nat → Int32) (h0 : Heap) (n0 : Nat) (Z0 : n0 ≤ h0.size) (Am : W.AI Z h0 zm .int n f) (hn : n ≤ 2) :
    MetFree l (⟨"java/math/BigInteger", "shiftLeft", "([II)[I"⟩ : MethodName) (head1 (Jvm.Cond.code (⟨"java/math/BigInteger", "shiftLeft", "([II)[I"⟩ : MethodName) jdk_2097_method_102_code 10 (some (.array .int)) :: ws) ({ frames := 1, cells := 1, slots := 2, locals := 18 } : Room)) (fun a U => a = #[(.ref zm), (.int (0 : Int32))] ∧ Z.Warmed39 U.vm ∧ U.heap = h0) (fun _ _ _ _ _ => True) (fun _ U o U' => ∃ v L, o = .returned v ∧ Q17 Z zm n f h0 n0 v U'.heap L ∧ FrameEnd U o U' L ({ frames := 1, cells := 1, slots := 2, locals := 18 } : Room).cells ({ frames := 1, cells := 1, slots := 2, locals := 18 } : Room).slots) := by
  refine MetFree.of_bodySF (plainFor_of_name pn_1) hisR ?_
  intro p e s m args below meth c s₁ Bd hml0 hP hK
  obtain ⟨rfl, hZ, hh⟩ := hP
  have hx := Bd.exec
  have hby := Bd.bytes
  have hml : c.maxLocals = 10 := hml0
  have hown : s.vm.findClass "java/math/BigInteger" = some m.cls := findClass_of_methodNamed Bd.named
  have hnm := (name_of_methodNamed Bd.named Bd.method).1
  have hlk : meth.locks = false := BodyLoose.notSynchronized Bd
  have X0 : Stand p l e ({ frames := 1, cells := 1, slots := 2, locals := 18 } : Room) s m #[(.ref zm), (.int (0 : Int32))] below meth c s₁ [] 0 0 := Stand.of_body Bd
  have e0 : s₁.heap = h0 := by rw [← hh, Bd.state]; rfl
  have N0 := Fr.nil n0
  show W.Gl p e below s (Q17 Z zm n f h0 n0) ({ frames := 1, cells := 1, slots := 2, locals := 18 } : Room).cells ({ frames := 1, cells := 1, slots := 2, locals := 18 } : Room).slots s₁ (entryFrame m #[(.ref zm), (.int (0 : Int32))] 10)
  refine W.cast (ef_17 m zm (0 : Int32)) ?_
  have K0 : Keep h0 h0 [] := Keep.refl h0 []
  have hz := own_nz hn
  refine W.s1 (mkF m 1 #[.val (.ref zm), .val (.int (0 : Int32)), .unset, .unset, .unset, .unset, .unset, .unset, .unset, .unset] [(.int (0 : Int32))]) (fun _ kx_ => XS.iloadN X0.here hx rfl (hb hby d17_0) rfl kx_) ?_
  refine W.s1 (mkF m 2 #[.val (.ref zm), .val (.int (0 : Int32)), .unset, .unset, .unset, .unset, .unset, .unset, .unset, .unset] [(.int (5 : Int32)), (.int (0 : Int32))]) (fun _ kx_ => XS.iconst X0.here hx rfl (hb hby d17_1) kx_) ?_
  refine W.s1 (mkF m 3 #[.val (.ref zm), .val (.int (0 : Int32)), .unset, .unset, .unset, .unset, .unset, .unset, .unset, .unset] [(.int (0 : Int32))]) (fun _ kx_ => XS.iushr X0.here hx rfl (hb hby d17_2) rfl kx_) ?_
  refine W.s1 (mkF m 4 #[.val (.ref zm), .val (.int (0 : Int32)), .val (.int (0 : Int32)), .unset, .unset, .unset, .unset, .unset, .unset, .unset] []) (fun _ kx_ => XS.istoreN X0.here hx rfl (hb hby d17_3) rfl (l' := #[.val (.ref zm), .val (.int (0 : Int32)), .val (.int (0 : Int32)), .unset, .unset, .unset, .unset, .unset, .unset, .unset]) rfl kx_) ?_
  refine W.s1 (mkF m 5 #[.val (.ref zm), .val (.int (0 : Int32)), .val (.int (0 : Int32)), .unset, .unset, .unset, .unset, .unset, .unset, .unset] [(.int (0 : Int32))]) (fun _ kx_ => XS.iloadN X0.here hx rfl (hb hby d17_4) rfl kx_) ?_
  refine W.s1 (mkF m 7 #[.val (.ref zm), .val (.int (0 : Int32)), .val (.int (0 : Int32)), .unset, .unset, .unset, .unset, .unset, .unset, .unset] [(.int (31 : Int32)), (.int (0 : Int32))]) (fun _ kx_ => XS.bipush X0.here hx rfl (hb hby d17_5) kx_) ?_
  refine W.s1 (mkF m 8 #[.val (.ref zm), .val (.int (0 : Int32)), .val (.int (0 : Int32)), .unset, .unset, .unset, .unset, .unset, .unset, .unset] [(.int (0 : Int32))]) (fun _ kx_ => XS.iand X0.here hx rfl (hb hby d17_7) rfl kx_) ?_
  refine W.s1 (mkF m 9 #[.val (.ref zm), .val (.int (0 : Int32)), .val (.int (0 : Int32)), .val (.int (0 : Int32)), .unset, .unset, .unset, .unset, .unset, .unset] []) (fun _ kx_ => XS.istoreN X0.here hx rfl (hb hby d17_8) rfl (l' := #[.val (.ref zm), .val (.int (0 : Int32)), .val (.int (0 : Int32)), .val (.int (0 : Int32)), .unset, .unset, .unset, .unset, .unset, .unset]) rfl kx_) ?_
  refine W.s1 (mkF m 10 #[.val (.ref zm), .val (.int (0 : Int32)), .val (.int (0 : Int32)), .val (.int (0 : Int32)), .unset, .unset, .unset, .unset, .unset, .unset] [(.ref zm)]) (fun _ kx_ => XS.aloadN X0.here hx rfl (hb hby d17_9) rfl rfl kx_) ?_
  refine W.alen X0 hx hZ e0 Am (z := (Int32.ofNat n)) hz (hb hby d17_10) (pc' := 11) rfl ?_
  refine W.s1 (mkF m 13 #[.val (.ref zm), .val (.int (0 : Int32)), .val (.int (0 : Int32)), .val (.int (0 : Int32)), .val (.int (Int32.ofNat n)), .unset, .unset, .unset, .unset, .unset] []) (fun _ kx_ => XS.istore X0.here hx rfl (hb hby d17_11) rfl (l' := #[.val (.ref zm), .val (.int (0 : Int32)), .val (.int (0 : Int32)), .val (.int (0 : Int32)), .val (.int (Int32.ofNat n)), .unset, .unset, .unset, .unset, .unset]) rfl kx_) ?_
  refine W.s1 (mkF m 14 #[.val (.ref zm), .val (.int (0 : Int32)), .val (.int (0 : Int32)), .val (.int (0 : Int32)), .val (.int (Int32.ofNat n)), .unset, .unset, .unset, .unset, .unset] [.null]) (fun _ kx_ => XS.aconstNull X0.here hx rfl (hb hby d17_13) kx_) ?_
  refine W.s1 (mkF m 16 #[.val (.ref zm), .val (.int (0 : Int32)), .val (.int (0 : Int32)), .val (.int (0 : Int32)), .val (.int (Int32.ofNat n)), .val .null, .unset, .unset, .unset, .unset] []) (fun _ kx_ => XS.astore X0.here hx rfl (hb hby d17_14) rfl rfl (l' := #[.val (.ref zm), .val (.int (0 : Int32)), .val (.int (0 : Int32)), .val (.int (0 : Int32)), .val (.int (Int32.ofNat n)), .val .null, .unset, .unset, .unset, .unset]) rfl kx_) ?_
  refine W.s1 (mkF m 17 #[.val (.ref zm), .val (.int (0 : Int32)), .val (.int (0 : Int32)), .val (.int (0 : Int32)), .val (.int (Int32.ofNat n)), .val .null, .unset, .unset, .unset, .unset] [(.int (0 : Int32))]) (fun _ kx_ => XS.iloadN X0.here hx rfl (hb hby d17_16) rfl kx_) ?_
  refine W.ifc X0 hx (hb hby d17_17) (pc' := 41) (pc'' := 20) (by decide) (by decide) rfl (fun (c17 : ¬ (0 : Int32) = (0 : Int32)) => ?_) (fun (c17 : (0 : Int32) = (0 : Int32)) => ?_)
  · exact absurd c17 (by decide)
  · refine W.s1 (mkF m 22 #[.val (.ref zm), .val (.int (0 : Int32)), .val (.int (0 : Int32)), .val (.int (0 : Int32)), .val (.int (Int32.ofNat n)), .val .null, .unset, .unset, .unset, .unset] [(.int (Int32.ofNat n))]) (fun _ kx_ => XS.iload X0.here hx rfl (hb hby d17_20) rfl kx_) ?_
    refine W.s1 (mkF m 23 #[.val (.ref zm), .val (.int (0 : Int32)), .val (.int (0 : Int32)), .val (.int (0 : Int32)), .val (.int (Int32.ofNat n)), .val .null, .unset, .unset, .unset, .unset] [(.int (0 : Int32)), (.int (Int32.ofNat n))]) (fun _ kx_ => XS.iloadN X0.here hx rfl (hb hby d17_22) rfl kx_) ?_
    refine W.s1 (mkF m 24 #[.val (.ref zm), .val (.int (0 : Int32)), .val (.int (0 : Int32)), .val (.int (0 : Int32)), .val (.int (Int32.ofNat n)), .val .null, .unset, .unset, .unset, .unset] [(.int ((Int32.ofNat n) + (0 : Int32)))]) (fun _ kx_ => XS.iadd X0.here hx rfl (hb hby d17_23) rfl kx_) ?_
    refine W.newi X0 hx hZ (ty := .int) (aty := .int) (hw _ (List.mem_of_getElem? (i := 47) rfl)) rfl rfl e0 (hb hby d17_24) (n := n) (by rw [Int32.add_zero]; exact hz) (cap := 2) hn (by decide) (by decide) (by decide) (pc' := 26) rfl (fun T101 h101 ab X101 e101 E101 g101 A101 => ?_)
    have ne102 : zm ≠ ab := Nat.ne_of_lt (Nat.lt_of_lt_of_le Am.lt (Nat.le_of_eq g101.symm))
    have ge101 : n0 ≤ ab := Nat.le_trans Z0 (Nat.le_of_eq g101.symm)
    have sz101 : h0.size ≤ ab := Nat.le_trans K0.1 (Nat.le_of_eq g101.symm)
    have Z101 : n0 ≤ h101.size := Nat.le_trans Z0 E101.1
    have K101 : Keep h0 h101 [] := K0.ext E101
    have f103 := Am.ext E101
    refine W.s1 (mkF m 28 #[.val (.ref zm), .val (.int (0 : Int32)), .val (.int (0 : Int32)), .val (.int (0 : Int32)), .val (.int (Int32.ofNat n)), .val (.ref ab), .unset, .unset, .unset, .unset] []) (fun _ kx_ => XS.astore X101.here hx rfl (hb hby d17_26) rfl rfl (l' := #[.val (.ref zm), .val (.int (0 : Int32)), .val (.int (0 : Int32)), .val (.int (0 : Int32)), .val (.int (Int32.ofNat n)), .val (.ref ab), .unset, .unset, .unset, .unset]) rfl kx_) ?_
    refine W.s1 (mkF m 29 #[.val (.ref zm), .val (.int (0 : Int32)), .val (.int (0 : Int32)), .val (.int (0 : Int32)), .val (.int (Int32.ofNat n)), .val (.ref ab), .unset, .unset, .unset, .unset] [(.ref zm)]) (fun _ kx_ => XS.aloadN X101.here hx rfl (hb hby d17_28) rfl rfl kx_) ?_
    refine W.s1 (mkF m 30 #[.val (.ref zm), .val (.int (0 : Int32)), .val (.int (0 : Int32)), .val (.int (0 : Int32)), .val (.int (Int32.ofNat n)), .val (.ref ab), .unset, .unset, .unset, .unset] [(.int (0 : Int32)), (.ref zm)]) (fun _ kx_ => XS.iconst X101.here hx rfl (hb hby d17_29) kx_) ?_
    refine W.s1 (mkF m 32 #[.val (.ref zm), .val (.int (0 : Int32)), .val (.int (0 : Int32)), .val (.int (0 : Int32)), .val (.int (Int32.ofNat n)), .val (.ref ab), .unset, .unset, .unset, .unset] [(.ref ab), (.int (0 : Int32)), (.ref zm)]) (fun _ kx_ => XS.aload X101.here hx rfl (hb hby d17_30) rfl rfl kx_) ?_
    refine W.s1 (mkF m 33 #[.val (.ref zm), .val (.int (0 : Int32)), .val (.int (0 : Int32)), .val (.int (0 : Int32)), .val (.int (Int32.ofNat n)), .val (.ref ab), .unset, .unset, .unset, .unset] [(.int (0 : Int32)), (.ref ab), (.int (0 : Int32)), (.ref zm)]) (fun _ kx_ => XS.iconst X101.here hx rfl (hb hby d17_32) kx_) ?_
    refine W.s1 (mkF m 35 #[.val (.ref zm), .val (.int (0 : Int32)), .val (.int (0 : Int32)), .val (.int (0 : Int32)), .val (.int (Int32.ofNat n)), .val (.ref ab), .unset, .unset, .unset, .unset] [(.int (Int32.ofNat n)), (.int (0 : Int32)), (.ref ab), (.int (0 : Int32)), (.ref zm)]) (fun _ kx_ => XS.iload X101.here hx rfl (hb hby d17_33) rfl kx_) ?_
    refine W.cpi X101 hx hZ hown (hw _ (List.mem_of_getElem? (i := 102) rfl)) (hw _ (List.mem_of_getElem? (i := 105) rfl)) (hw _ (List.mem_of_getElem? (i := 103) rfl)) (hw _ (List.mem_of_getElem? (i := 104) rfl)) e101 (k := n) (z := (Int32.ofNat n)) (z' := ((Int32.ofNat n) + (0 : Int32))) f103 hz A101 (by rw [Int32.add_zero]; exact hz) hz (Nat.le_refl _) (Nat.le_refl _) N0 ge101 (by rw [hml]; rfl) (hb hby d17_35) (by decide) (Wd := 0) (by decide) (by decide) (pc' := 38) rfl (fun T104 h104 L104 X104 e104 N104 Kq104 A104 => ?_)
    have Z104 : n0 ≤ h104.size := Nat.le_trans Z101 Kq104.1
    have K104 : Keep h0 h104 [] := K101.trans Kq104 (allS (Or.inr sz101) all0)
    have f105 := f103.keep Kq104 (ninS ne102 nin0)
    refine W.s1 (mkF m 152 #[.val (.ref zm), .val (.int (0 : Int32)), .val (.int (0 : Int32)), .val (.int (0 : Int32)), .val (.int (Int32.ofNat n)), .val (.ref ab), .unset, .unset, .unset, .unset] []) (fun _ kx_ => XS.goto X104.here hx rfl (pc0 := 38) (pc' := 152) rfl (hb hby d17_38) (by decide) (by decide) kx_) ?_
    refine W.s1 (mkF m 154 #[.val (.ref zm), .val (.int (0 : Int32)), .val (.int (0 : Int32)), .val (.int (0 : Int32)), .val (.int (Int32.ofNat n)), .val (.ref ab), .unset, .unset, .unset, .unset] [(.ref ab)]) (fun _ kx_ => XS.aload X104.here hx rfl (hb hby d17_152) rfl rfl kx_) ?_
    exact W.retA X104 hx hlk Bd.returns rfl rfl rfl (hb hby d17_154) (by show Q17 Z zm n f h0 n0 _ T104.heap _; rw [e104]; exact ⟨_, rfl, N104, K104, sz101, A104.congr fun i hi => (if_pos hi).symm⟩) (by decide) (by decide)
theorem ef_14 (m : MethodId) (x0 : Addr) (x1 : Int32) (x2 : Int32) : entryFrame m #[(.ref x0), (.int x1), (.int x2)] 13 = mkF m 0 #[.val (.ref x0), .val (.int x1), .val (.int x2), .unset, .unset, .unset, .unset, .unset, .unset, .unset, .unset, .unset, .unset] [] := by first | (simp [entryFrame, mkF, argsToLocals, Value.category]; done) | rfl
theorem d14_0 : decode jdk_2097_method_43_code 0 = .ok (.iload_n 1, 1) := by decide +kernel
theorem d14_1 : decode jdk_2097_method_43_code 1 = .ok (.invokestatic 423, 3) := by decide +kernel
theorem pd_5 : parseMethodDescriptor "(I)I" = some ⟨[.int], some .int⟩ := by decide +kernel
theorem d14_4 : decode jdk_2097_method_43_code 4 = .ok (.iconst 1, 1) := by decide +kernel
theorem d14_5 : decode jdk_2097_method_43_code 5 = .ok (.if_icmp .ne 20, 3) := by decide +kernel
theorem d14_8 : decode jdk_2097_method_43_code 8 = .ok (.new 23, 3) := by decide +kernel
theorem d14_11 : decode jdk_2097_method_43_code 11 = .ok (.dup, 1) := by decide +kernel
theorem d14_12 : decode jdk_2097_method_43_code 12 = .ok (.aload_n 0, 1) := by decide +kernel
theorem d14_13 : decode jdk_2097_method_43_code 13 = .ok (.iload_n 1, 1) := by decide +kernel
theorem d14_14 : decode jdk_2097_method_43_code 14 = .ok (.invokestatic 426, 3) := by decide +kernel
theorem d14_17 : decode jdk_2097_method_43_code 17 = .ok (.invokestatic 429, 3) := by decide +kernel
theorem pd_6 : parseMethodDescriptor "([II)[I" = some ⟨[(.array .int), .int], some (.array .int)⟩ := by decide +kernel
theorem d14_20 : decode jdk_2097_method_43_code 20 = .ok (.iload_n 2, 1) := by decide +kernel
theorem d14_21 : decode jdk_2097_method_43_code 21 = .ok (.invokespecial 175, 3) := by decide +kernel
theorem pd_7 : parseMethodDescriptor "([II)V" = some ⟨[(.array .int), .int], none⟩ := by decide +kernel
theorem d14_24 : decode jdk_2097_method_43_code 24 = .ok (.areturn, 1) := by decide +kernel
def Q14 (Z : State) (zm : Addr) (xs : Int32) (n : Nat) (f : Nat → Int32) (h0 : Heap) (n0 : Nat) (v : Option Value) (h : Heap) (L : List Loc) : Prop := ∃ a : Addr, v = some (.ref a) ∧ Fr n0 L ∧ Keep h0 h [] ∧ own_BI Z h a xs n f
set_option maxRecDepth 65536 in
set_option maxHeartbeats 40000000 in
theorem rm14 (l : Launch) (Z : State) (a0 : Array Value) (hw : ∀ d ∈ tables_1, d.before a0 Z = true) (ws : List Jvm.Cond) (zm : Addr) (xs : Int32) (n : Nat) (f : Nat → Int32) (h0 : Heap) (n0 : Nat) (Z0 : n0 ≤ h0.size) (Am : W.AI Z h0 zm .int n f) (hn : n ≤ 2) (hn1 : 1 ≤ n) (hs : xs = 1 ∨ xs = -1) :
    MetFree l (⟨"java/math/BigInteger", "multiplyByInt", "([III)Ljava/math/BigInteger;"⟩ : MethodName) (head1 (Jvm.Cond.code (⟨"java/math/BigInteger", "multiplyByInt", "([III)Ljava/math/BigInteger;"⟩ : MethodName) jdk_2097_method_43_code 13 (some (.object "java/math/BigInteger")) :: ws) ({ frames := 3, cells := 2, slots := 8, locals := 41 } : Room)) (fun a U => a = #[(.ref zm), (.int (1 : Int32)), (.int xs)] ∧ Z.Warmed39 U.vm ∧ U.heap = h0) (fun _ _ _ _ _ => True) (fun _ U o U' => ∃ v L, o = .returned v ∧ Q14 Z zm xs n f h0 n0 v U'.heap L ∧ FrameEnd U o U' L ({ frames := 3, cells := 2, slots := 8, locals := 41 } : Room).cells ({ frames := 3, cells := 2, slots := 8, locals := 41 } : Room).slots) := by
  refine MetFree.of_bodySF (plainFor_of_name pn_1) hisR ?_
  intro p e s m args below meth c s₁ Bd hml0 hP hK
  obtain ⟨rfl, hZ, hh⟩ := hP
  have hx := Bd.exec
  have hby := Bd.bytes
  have hml : c.maxLocals = 13 := hml0
  have hown : s.vm.findClass "java/math/BigInteger" = some m.cls := findClass_of_methodNamed Bd.named
  have hnm := (name_of_methodNamed Bd.named Bd.method).1
  have hlk : meth.locks = false := BodyLoose.notSynchronized Bd
  have X0 : Stand p l e ({ frames := 3, cells := 2, slots := 8, locals := 41 } : Room) s m #[(.ref zm), (.int (1 : Int32)), (.int xs)] below meth c s₁ [] 0 0 := Stand.of_body Bd
  have e0 : s₁.heap = h0 := by rw [← hh, Bd.state]; rfl
  have N0 := Fr.nil n0
  show W.Gl p e below s (Q14 Z zm xs n f h0 n0) ({ frames := 3, cells := 2, slots := 8, locals := 41 } : Room).cells ({ frames := 3, cells := 2, slots := 8, locals := 41 } : Room).slots s₁ (entryFrame m #[(.ref zm), (.int (1 : Int32)), (.int xs)] 13)
  refine W.cast (ef_14 m zm (1 : Int32) xs) ?_
  have K0 : Keep h0 h0 [] := Keep.refl h0 []
  refine W.s1 (mkF m 1 #[.val (.ref zm), .val (.int (1 : Int32)), .val (.int xs), .unset, .unset, .unset, .unset, .unset, .unset, .unset, .unset, .unset, .unset] [(.int (1 : Int32))]) (fun _ kx_ => XS.iloadN X0.here hx rfl (hb hby d14_0) rfl kx_) ?_
  obtain ⟨_, _, ⟨T101, L101, k101, n101⟩, -, X101, ⟨Lc101, hQ101, l101, y101, z101⟩, st101⟩ := Jvm.LawKit.callS X0 hx (y := (⟨"java/lang/Integer", "bitCount", "(I)I"⟩ : MethodName)) hown (mvT hZ (hw _ (List.mem_of_getElem? (i := 89) rfl))) (mvT hZ (hw _ (List.mem_of_getElem? (i := 90) rfl))) (mvT hZ (hw _ (List.mem_of_getElem? (i := 91) rfl))) (mvT hZ (hw _ (List.mem_of_getElem? (i := 92) rfl))) (by decide) (backOf (W := 0) (rm15 l Z a0 hw []  h0 n0 Z0 ) hZ (hw _ (List.mem_of_getElem? (i := 92) rfl)) (hw _ (List.mem_of_getElem? (i := 91) rfl)) (by decide) (by decide)) (g := (mkF m 1 #[.val (.ref zm), .val (.int (1 : Int32)), .val (.int xs), .unset, .unset, .unset, .unset, .unset, .unset, .unset, .unset, .unset, .unset] [(.int (1 : Int32))])) rfl (by rw [hml]; rfl) (argsL := [(.int (1 : Int32))]) (rest := []) (lenOf pd_5 rfl) rfl (by show 2 * 0 + _ ≤ _; exact Nat.le_of_eq rfl) (hb hby d14_1) (fun _ _ => ⟨rfl, e0, (by decide : 0 + 0 ≤ _), (by decide : 0 + 0 ≤ _)⟩)
  dsimp only [Pt.U, Pt.locs, Pt.cells, Pt.slots] at X101 l101 y101 z101 st101 hQ101
  subst l101 y101 z101
  obtain ⟨rfl, Nq101, eq101⟩ := hQ101
  have N101 := Fr.app N0 Nq101
  refine W.s2 (mkF m 4 #[.val (.ref zm), .val (.int (1 : Int32)), .val (.int xs), .unset, .unset, .unset, .unset, .unset, .unset, .unset, .unset, .unset, .unset] [(.int (1 : Int32))]) st101 ?_
  refine W.s1 (mkF m 5 #[.val (.ref zm), .val (.int (1 : Int32)), .val (.int xs), .unset, .unset, .unset, .unset, .unset, .unset, .unset, .unset, .unset, .unset] [(.int (1 : Int32)), (.int (1 : Int32))]) (fun _ kx_ => XS.iconst X101.here hx rfl (hb hby d14_4) kx_) ?_
  refine W.icmp X101 hx (hb hby d14_5) (pc' := 25) (pc'' := 8) (by decide) (by decide) rfl (fun (c5 : ¬ (1 : Int32) = (1 : Int32)) => ?_) (fun (c5 : (1 : Int32) = (1 : Int32)) => ?_)
  · exact absurd c5 (by decide)
  · refine W.newo X101 hx hZ hown (hw _ (List.mem_of_getElem? (i := 32) rfl)) (hw _ (List.mem_of_getElem? (i := 33) rfl)) (hw _ (List.mem_of_getElem? (i := 16) rfl)) eq101 (hb hby d14_8) (by decide) (by decide) (pc' := 11) rfl (fun T102 h102 b102 X102 e102 E102 g102 A102 D102 => ?_)
    have ne103 : zm ≠ b102 := Nat.ne_of_lt (Nat.lt_of_lt_of_le Am.lt (Nat.le_of_eq g102.symm))
    have ge102 : n0 ≤ b102 := Nat.le_trans Z0 (Nat.le_of_eq g102.symm)
    have sz102 : h0.size ≤ b102 := Nat.le_trans K0.1 (Nat.le_of_eq g102.symm)
    have Z102 : n0 ≤ h102.size := Nat.le_trans Z0 E102.1
    have K102 : Keep h0 h102 [] := K0.ext E102
    have f104 := Am.ext E102
    have f105 : Fld Z h102 b102 "java/math/BigInteger" "signum" "I" (.int (0 : Int32)) := D102 (Or.inr (hw _ (List.mem_of_getElem? (i := 46) rfl))) (ty := .int) (by decide)
    have f106 : Fld Z h102 b102 "java/math/BigInteger" "mag" "[I" .null := D102 (Or.inr (hw _ (List.mem_of_getElem? (i := 49) rfl))) (ty := (.array .int)) (by decide)
    refine W.s1 (mkF m 12 #[.val (.ref zm), .val (.int (1 : Int32)), .val (.int xs), .unset, .unset, .unset, .unset, .unset, .unset, .unset, .unset, .unset, .unset] [(.ref b102), (.ref b102)]) (fun _ kx_ => XS.dup X102.here hx rfl (hb hby d14_11) rfl rfl kx_) ?_
    refine W.s1 (mkF m 13 #[.val (.ref zm), .val (.int (1 : Int32)), .val (.int xs), .unset, .unset, .unset, .unset, .unset, .unset, .unset, .unset, .unset, .unset] [(.ref zm), (.ref b102), (.ref b102)]) (fun _ kx_ => XS.aloadN X102.here hx rfl (hb hby d14_12) rfl rfl kx_) ?_
    refine W.s1 (mkF m 14 #[.val (.ref zm), .val (.int (1 : Int32)), .val (.int xs), .unset, .unset, .unset, .unset, .unset, .unset, .unset, .unset, .unset, .unset] [(.int (1 : Int32)), (.ref zm), (.ref b102), (.ref b102)]) (fun _ kx_ => XS.iloadN X102.here hx rfl (hb hby d14_13) rfl kx_) ?_
    obtain ⟨_, _, ⟨T107, L107, k107, n107⟩, -, X107, ⟨Lc107, hQ107, l107, y107, z107⟩, st107⟩ := Jvm.LawKit.callS X102 hx (y := (⟨"java/lang/Integer", "numberOfTrailingZeros", "(I)I"⟩ : MethodName)) hown (mvT hZ (hw _ (List.mem_of_getElem? (i := 96) rfl))) (mvT hZ (hw _ (List.mem_of_getElem? (i := 97) rfl))) (mvT hZ (hw _ (List.mem_of_getElem? (i := 91) rfl))) (mvT hZ (hw _ (List.mem_of_getElem? (i := 98) rfl))) (by decide) (backOf (W := 3) (rm16 l Z a0 hw []  h102 n0 Z102 ) hZ (hw _ (List.mem_of_getElem? (i := 98) rfl)) (hw _ (List.mem_of_getElem? (i := 91) rfl)) (by decide) (by decide)) (g := (mkF m 14 #[.val (.ref zm), .val (.int (1 : Int32)), .val (.int xs), .unset, .unset, .unset, .unset, .unset, .unset, .unset, .unset, .unset, .unset] [(.int (1 : Int32)), (.ref zm), (.ref b102), (.ref b102)])) rfl (by rw [hml]; rfl) (argsL := [(.int (1 : Int32))]) (rest := [(.ref zm), (.ref b102), (.ref b102)]) (lenOf pd_5 rfl) rfl (by show 2 * 0 + _ ≤ _; exact Nat.le_of_eq rfl) (hb hby d14_14) (fun _ _ => ⟨rfl, e102, (by decide : 1 + 0 ≤ _), (by decide : 6 + 0 ≤ _)⟩)
    dsimp only [Pt.U, Pt.locs, Pt.cells, Pt.slots] at X107 l107 y107 z107 st107 hQ107
    subst l107 y107 z107
    obtain ⟨rfl, Nq107, eq107⟩ := hQ107
    have N107 := Fr.app N101 Nq107
    refine W.s2 (mkF m 17 #[.val (.ref zm), .val (.int (1 : Int32)), .val (.int xs), .unset, .unset, .unset, .unset, .unset, .unset, .unset, .unset, .unset, .unset] [(.int (0 : Int32)), (.ref zm), (.ref b102), (.ref b102)]) st107 ?_
    have Zo := Z102
    obtain ⟨_, _, ⟨T108, L108, k108, n108⟩, -, X108, ⟨Lc108, hQ108, l108, y108, z108⟩, st108⟩ := Jvm.LawKit.callS X107 hx (y := (⟨"java/math/BigInteger", "shiftLeft", "([II)[I"⟩ : MethodName)) hown (mvT hZ (hw _ (List.mem_of_getElem? (i := 99) rfl))) (mvT hZ (hw _ (List.mem_of_getElem? (i := 100) rfl))) (mvT hZ (hw _ (List.mem_of_getElem? (i := 16) rfl))) (mvT hZ (hw _ (List.mem_of_getElem? (i := 101) rfl))) (by decide) (backOf (W := 2) (rm17 l Z a0 hw [] zm n f h102 n0 Z102 f104 hn) hZ (hw _ (List.mem_of_getElem? (i := 101) rfl)) (hw _ (List.mem_of_getElem? (i := 16) rfl)) (by decide) (by decide)) (g := (mkF m 17 #[.val (.ref zm), .val (.int (1 : Int32)), .val (.int xs), .unset, .unset, .unset, .unset, .unset, .unset, .unset, .unset, .unset, .unset] [(.int (0 : Int32)), (.ref zm), (.ref b102), (.ref b102)])) rfl (by rw [hml]; rfl) (argsL := [(.ref zm), (.int (0 : Int32))]) (rest := [(.ref b102), (.ref b102)]) (lenOf pd_6 rfl) rfl (by show 2 * 0 + _ ≤ _; exact Nat.le_of_eq rfl) (hb hby d14_17) (fun _ _ => ⟨rfl, eq107, (by decide : 1 + 1 ≤ _), (by decide : 6 + 2 ≤ _)⟩)
    dsimp only [Pt.U, Pt.locs, Pt.cells, Pt.slots] at X108 l108 y108 z108 st108 hQ108
    subst l108 y108 z108
    obtain ⟨h108, e108⟩ : ∃ z, T108.heap = z := ⟨_, rfl⟩
    rw [e108] at hQ108
    obtain ⟨ab, rfl, Nq108, Kq108, hgb, Ab108⟩ := hQ108
    have N108 := Fr.app N107 Nq108
    have Z108 : n0 ≤ h108.size := Nat.le_trans Z102 Kq108.1
    have K108 : Keep h0 h108 [] := K102.trans Kq108 all0
    have f109 := f104.keep Kq108 nin0
    have f110 := A102.keep Kq108
    have f111 := f105.keep Kq108 nin0
    have f112 := f106.keep Kq108 nin0
    have ne113 : zm ≠ ab := Nat.ne_of_lt (Nat.lt_of_lt_of_le f104.lt hgb)
    have ne114 : b102 ≠ ab := Nat.ne_of_lt (Nat.lt_of_lt_of_le A102.lt hgb)
    have ge115 : n0 ≤ ab := Nat.le_trans Zo hgb
    refine W.s2 (mkF m 20 #[.val (.ref zm), .val (.int (1 : Int32)), .val (.int xs), .unset, .unset, .unset, .unset, .unset, .unset, .unset, .unset, .unset, .unset] [(.ref ab), (.ref b102), (.ref b102)]) st108 ?_
    refine W.s1 (mkF m 21 #[.val (.ref zm), .val (.int (1 : Int32)), .val (.int xs), .unset, .unset, .unset, .unset, .unset, .unset, .unset, .unset, .unset, .unset] [(.int xs), (.ref ab), (.ref b102), (.ref b102)]) (fun _ kx_ => XS.iloadN X108.here hx rfl (hb hby d14_20) rfl kx_) ?_
    obtain ⟨_, _, ⟨T116, L116, k116, n116⟩, -, X116, ⟨Lc116, hQ116, l116, y116, z116⟩, st116⟩ := X108.specialBack hx (y := (⟨"java/math/BigInteger", "<init>", "([II)V"⟩ : MethodName)) rfl hown (mvT hZ (hw _ (List.mem_of_getElem? (i := 106) rfl))) (mvT hZ (hw _ (List.mem_of_getElem? (i := 107) rfl))) (mvT hZ (hw _ (List.mem_of_getElem? (i := 108) rfl))) (by decide) (backOf (W := 1) (rm18 l Z a0 hw [] b102 ab xs (.int (0 : Int32)) .null n f h108 n0 Z108 f110 f111 f112 ge102 Ab108 hn hn1 hs ne114) hZ (hw _ (List.mem_of_getElem? (i := 108) rfl)) (hw _ (List.mem_of_getElem? (i := 16) rfl)) (by decide) (by decide)) (g := (mkF m 21 #[.val (.ref zm), .val (.int (1 : Int32)), .val (.int xs), .unset, .unset, .unset, .unset, .unset, .unset, .unset, .unset, .unset, .unset] [(.int xs), (.ref ab), (.ref b102), (.ref b102)])) rfl (by rw [hml]; rfl) (Steps.refl _) (a := b102) (argsL := [(.ref ab), (.int xs)]) (rest := [(.ref b102)]) (lenOf pd_7 rfl) rfl (by show 2 * 0 + _ ≤ _; exact Nat.le_of_eq rfl) (hb hby d14_21) (fun _ _ => ⟨rfl, e108, (by decide : 2 + 0 ≤ _), (by decide : 8 + 0 ≤ _)⟩)
    dsimp only [Pt.U, Pt.locs, Pt.cells, Pt.slots] at X116 l116 y116 z116 st116 hQ116
    subst l116 y116 z116
    obtain ⟨h116, e116⟩ : ∃ z, T116.heap = z := ⟨_, rfl⟩
    rw [e116] at hQ116
    obtain ⟨rfl, Nq116, Kq116, Hr⟩ := hQ116
    have N116 := Fr.app N108 Nq116
    have Z116 : n0 ≤ h116.size := Nat.le_trans Z108 Kq116.1
    have K116 : Keep h0 h116 [] := K108.trans Kq116 (allS (Or.inr sz102) all0)
    have f117 := f109.keep Kq116 (ninS ne103 nin0)
    have f118 := f110.keep Kq116
    have f121 := Ab108.keep Kq116 (ninS (Ne.symm ne114) nin0)
    refine W.s3 (mkF m 24 #[.val (.ref zm), .val (.int (1 : Int32)), .val (.int xs), .unset, .unset, .unset, .unset, .unset, .unset, .unset, .unset, .unset, .unset] [(.ref b102)]) st116 ?_
    exact W.retA X116 hx hlk Bd.returns rfl rfl rfl (hb hby d14_24) (by show Q14 Z zm xs n f h0 n0 _ T116.heap _; rw [e116]; exact ⟨_, rfl, N116, K116, Hr⟩) (by decide) (by decide)
theorem ef_13 (m : MethodId) (x0 : Addr) (x1 : Addr) (x2 : Int32) (x3 : Int32) (x4 : Int32) : entryFrame m #[(.ref x0), (.ref x1), (.int x2), (.int x3), (.int x4)] 9 = mkF m 0 #[.val (.ref x0), .val (.ref x1), .val (.int x2), .val (.int x3), .val (.int x4), .unset, .unset, .unset, .unset] [] := by first | (simp [entryFrame, mkF, argsToLocals, Value.category]; done) | rfl
theorem d13_0 : decode jdk_2097_method_42_code 0 = .ok (.aload_n 1, 1) := by decide +kernel
theorem d13_1 : decode jdk_2097_method_42_code 1 = .ok (.getfield 32, 3) := by decide +kernel
theorem d13_4 : decode jdk_2097_method_42_code 4 = .ok (.ifCond .eq 10, 3) := by decide +kernel
theorem d13_7 : decode jdk_2097_method_42_code 7 = .ok (.aload_n 0, 1) := by decide +kernel
theorem d13_8 : decode jdk_2097_method_42_code 8 = .ok (.getfield 32, 3) := by decide +kernel
theorem d13_11 : decode jdk_2097_method_42_code 11 = .ok (.ifCond .ne 7, 3) := by decide +kernel
theorem d13_18 : decode jdk_2097_method_42_code 18 = .ok (.aload_n 0, 1) := by decide +kernel
theorem d13_19 : decode jdk_2097_method_42_code 19 = .ok (.getfield 28, 3) := by decide +kernel
theorem d13_22 : decode jdk_2097_method_42_code 22 = .ok (.arraylength, 1) := by decide +kernel
theorem d13_23 : decode jdk_2097_method_42_code 23 = .ok (.istore 5, 2) := by decide +kernel
theorem d13_25 : decode jdk_2097_method_42_code 25 = .ok (.aload_n 1, 1) := by decide +kernel
theorem d13_26 : decode jdk_2097_method_42_code 26 = .ok (.aload_n 0, 1) := by decide +kernel
theorem d13_27 : decode jdk_2097_method_42_code 27 = .ok (.if_acmp .ne 19, 3) := by decide +kernel
theorem d13_30 : decode jdk_2097_method_42_code 30 = .ok (.iload 5, 2) := by decide +kernel
theorem d13_32 : decode jdk_2097_method_42_code 32 = .ok (.bipush 20, 2) := by decide +kernel
theorem d13_34 : decode jdk_2097_method_42_code 34 = .ok (.if_icmp .le 12, 3) := by decide +kernel
theorem d13_46 : decode jdk_2097_method_42_code 46 = .ok (.aload_n 1, 1) := by decide +kernel
theorem d13_47 : decode jdk_2097_method_42_code 47 = .ok (.getfield 28, 3) := by decide +kernel
theorem d13_50 : decode jdk_2097_method_42_code 50 = .ok (.arraylength, 1) := by decide +kernel
theorem d13_51 : decode jdk_2097_method_42_code 51 = .ok (.istore 6, 2) := by decide +kernel
theorem d13_53 : decode jdk_2097_method_42_code 53 = .ok (.iload 5, 2) := by decide +kernel
theorem d13_55 : decode jdk_2097_method_42_code 55 = .ok (.bipush 80, 2) := by decide +kernel
theorem d13_57 : decode jdk_2097_method_42_code 57 = .ok (.if_icmp .lt 10, 3) := by decide +kernel
theorem d13_67 : decode jdk_2097_method_42_code 67 = .ok (.aload_n 0, 1) := by decide +kernel
theorem d13_68 : decode jdk_2097_method_42_code 68 = .ok (.getfield 32, 3) := by decide +kernel
theorem d13_71 : decode jdk_2097_method_42_code 71 = .ok (.aload_n 1, 1) := by decide +kernel
theorem d13_72 : decode jdk_2097_method_42_code 72 = .ok (.getfield 32, 3) := by decide +kernel
theorem d13_75 : decode jdk_2097_method_42_code 75 = .ok (.if_icmp .ne 7, 3) := by decide +kernel
theorem d13_82 : decode jdk_2097_method_42_code 82 = .ok (.iconst (-1), 1) := by decide +kernel
theorem d13_83 : decode jdk_2097_method_42_code 83 = .ok (.istore 7, 2) := by decide +kernel
theorem d13_85 : decode jdk_2097_method_42_code 85 = .ok (.aload_n 1, 1) := by decide +kernel
theorem d13_86 : decode jdk_2097_method_42_code 86 = .ok (.getfield 28, 3) := by decide +kernel
theorem d13_89 : decode jdk_2097_method_42_code 89 = .ok (.arraylength, 1) := by decide +kernel
theorem d13_90 : decode jdk_2097_method_42_code 90 = .ok (.iconst 1, 1) := by decide +kernel
theorem d13_91 : decode jdk_2097_method_42_code 91 = .ok (.if_icmp .ne 19, 3) := by decide +kernel
theorem d13_94 : decode jdk_2097_method_42_code 94 = .ok (.aload_n 0, 1) := by decide +kernel
theorem d13_95 : decode jdk_2097_method_42_code 95 = .ok (.getfield 28, 3) := by decide +kernel
theorem d13_98 : decode jdk_2097_method_42_code 98 = .ok (.aload_n 1, 1) := by decide +kernel
theorem d13_99 : decode jdk_2097_method_42_code 99 = .ok (.getfield 28, 3) := by decide +kernel
theorem d13_102 : decode jdk_2097_method_42_code 102 = .ok (.iconst 0, 1) := by decide +kernel
theorem d13_103 : decode jdk_2097_method_42_code 103 = .ok (.iaload, 1) := by decide +kernel
theorem d13_104 : decode jdk_2097_method_42_code 104 = .ok (.iload 7, 2) := by decide +kernel
theorem d13_106 : decode jdk_2097_method_42_code 106 = .ok (.invokestatic 403, 3) := by decide +kernel
theorem pd_8 : parseMethodDescriptor "([III)Ljava/math/BigInteger;" = some ⟨[(.array .int), .int, .int], some (.object "java/math/BigInteger")⟩ := by decide +kernel
theorem d13_109 : decode jdk_2097_method_42_code 109 = .ok (.areturn, 1) := by decide +kernel
theorem d13_78 : decode jdk_2097_method_42_code 78 = .ok (.iconst 1, 1) := by decide +kernel
theorem d13_79 : decode jdk_2097_method_42_code 79 = .ok (.goto 4, 3) := by decide +kernel
theorem d13_14 : decode jdk_2097_method_42_code 14 = .ok (.getstatic 22, 3) := by decide +kernel
theorem d13_17 : decode jdk_2097_method_42_code 17 = .ok (.areturn, 1) := by decide +kernel
def Q13 (Z : State) (ao : Addr) (av : Addr) (aZ : Addr) (nZ : Nat) (fZ : Nat → Int32) (zo : Addr) (fo : Nat → Int32) (sg : Int32) (n : Nat) (f : Nat → Int32) (h0 : Heap) (n0 : Nat) (v : Option Value) (h : Heap) (L : List Loc) : Prop := ∃ (a : Addr) (s2 : Int32) (n2 : Nat) (f2 : Nat → Int32), v = some (.ref a) ∧ Fr n0 L ∧ Keep h0 h [] ∧ own_BI Z h a s2 n2 f2 ∧ own_rel sg n f s2 n2 f2
set_option maxRecDepth 65536 in
set_option maxHeartbeats 40000000 in
theorem rm13 (l : Launch) (Z : State) (a0 : Array Value) (hw : ∀ d ∈ tables_1, d.before a0 Z = true) (ws : List Jvm.Cond) (ao : Addr) (av : Addr) (aZ : Addr) (nZ : Nat) (fZ : Nat → Int32) (zo : Addr) (fo : Nat → Int32) (sg : Int32) (n : Nat) (f : Nat → Int32) (h0 : Heap) (n0 : Nat) (Z0 : n0 ≤ h0.size) (O0 : Old Z n0 h0) (S_ZERO : Sta Z Z.heap "java/math/BigInteger" "ZERO" "Ljava/math/BigInteger;" (.ref aZ)) (HZ : own_BI Z Z.heap aZ 0 nZ fZ) (HA : own_BI Z h0 ao sg n f) (EO : Exa Z h0 av "java/math/BigInteger") (FO1 : Fld Z h0 av "java/math/BigInteger" "signum" "I" (.int 1)) (FO2 : Fld Z h0 av "java/math/BigInteger" "mag" "[I" (.ref zo)) (AO : W.AI Z h0 zo .int 1 fo) (hfo : fo 0 = 1) :
    MetFree l (⟨"java/math/BigInteger", "multiply", "(Ljava/math/BigInteger;ZZI)Ljava/math/BigInteger;"⟩ : MethodName) (head1 (Jvm.Cond.code (⟨"java/math/BigInteger", "multiply", "(Ljava/math/BigInteger;ZZI)Ljava/math/BigInteger;"⟩ : MethodName) jdk_2097_method_42_code 9 (some (.object "java/math/BigInteger")) :: ws) ({ frames := 4, cells := 2, slots := 8, locals := 65 } : Room)) (fun a U => a = #[(.ref ao), (.ref av), (.int (0 : Int32)), (.int (0 : Int32)), (.int (0 : Int32))] ∧ Z.Warmed39 U.vm ∧ U.heap = h0) (fun _ _ _ _ _ => True) (fun _ U o U' => ∃ v L, o = .returned v ∧ Q13 Z ao av aZ nZ fZ zo fo sg n f h0 n0 v U'.heap L ∧ FrameEnd U o U' L ({ frames := 4, cells := 2, slots := 8, locals := 65 } : Room).cells ({ frames := 4, cells := 2, slots := 8, locals := 65 } : Room).slots) := by
  refine MetFree.of_bodySF (plainFor_of_name pn_1) hisR ?_
  intro p e s m args below meth c s₁ Bd hml0 hP hK
  obtain ⟨rfl, hZ, hh⟩ := hP
  have hx := Bd.exec
  have hby := Bd.bytes
  have hml : c.maxLocals = 9 := hml0
  have hown : s.vm.findClass "java/math/BigInteger" = some m.cls := findClass_of_methodNamed Bd.named
  have hnm := (name_of_methodNamed Bd.named Bd.method).1
  have hlk : meth.locks = false := BodyLoose.notSynchronized Bd
  have X0 : Stand p l e ({ frames := 4, cells := 2, slots := 8, locals := 65 } : Room) s m #[(.ref ao), (.ref av), (.int (0 : Int32)), (.int (0 : Int32)), (.int (0 : Int32))] below meth c s₁ [] 0 0 := Stand.of_body Bd
  have e0 : s₁.heap = h0 := by rw [← hh, Bd.state]; rfl
  have N0 := Fr.nil n0
  show W.Gl p e below s (Q13 Z ao av aZ nZ fZ zo fo sg n f h0 n0) ({ frames := 4, cells := 2, slots := 8, locals := 65 } : Room).cells ({ frames := 4, cells := 2, slots := 8, locals := 65 } : Room).slots s₁ (entryFrame m #[(.ref ao), (.ref av), (.int (0 : Int32)), (.int (0 : Int32)), (.int (0 : Int32))] 9)
  refine W.cast (ef_13 m ao av (0 : Int32) (0 : Int32) (0 : Int32)) ?_
  have K0 : Keep h0 h0 [] := Keep.refl h0 []
  obtain ⟨bzm, be, bs, bm, ba, bn2, bsg, bn1⟩ := HA
  have bhz := own_nz bn2
  refine W.s1 (mkF m 1 #[.val (.ref ao), .val (.ref av), .val (.int (0 : Int32)), .val (.int (0 : Int32)), .val (.int (0 : Int32)), .unset, .unset, .unset, .unset] [(.ref av)]) (fun _ kx_ => XS.aloadN X0.here hx rfl (hb hby d13_0) rfl rfl kx_) ?_
  refine W.getf X0 hx hZ hown (host := "") (Or.inl (hw _ (List.mem_of_getElem? (i := 45) rfl))) Via.refl e0 FO1 (hb hby d13_1) (pc' := 4) rfl (fun T101 X101 e101 => ?_)
  refine W.ifc X101 hx (hb hby d13_4) (pc' := 14) (pc'' := 7) (by decide) (by decide) rfl (fun (c4 : (1 : Int32) = (0 : Int32)) => ?_) (fun (c4 : ¬ (1 : Int32) = (0 : Int32)) => ?_)
  · exact absurd c4 (by decide)
  · refine W.s1 (mkF m 8 #[.val (.ref ao), .val (.ref av), .val (.int (0 : Int32)), .val (.int (0 : Int32)), .val (.int (0 : Int32)), .unset, .unset, .unset, .unset] [(.ref ao)]) (fun _ kx_ => XS.aloadN X101.here hx rfl (hb hby d13_7) rfl rfl kx_) ?_
    refine W.getf X101 hx hZ hown (host := "") (Or.inl (hw _ (List.mem_of_getElem? (i := 45) rfl))) Via.refl e101 bs (hb hby d13_8) (pc' := 11) rfl (fun T102 X102 e102 => ?_)
    refine W.ifc X102 hx (hb hby d13_11) (pc' := 18) (pc'' := 14) (by decide) (by decide) rfl (fun (c11 : ¬ sg = (0 : Int32)) => ?_) (fun (c11 : sg = (0 : Int32)) => ?_)
    · refine W.s1 (mkF m 19 #[.val (.ref ao), .val (.ref av), .val (.int (0 : Int32)), .val (.int (0 : Int32)), .val (.int (0 : Int32)), .unset, .unset, .unset, .unset] [(.ref ao)]) (fun _ kx_ => XS.aloadN X102.here hx rfl (hb hby d13_18) rfl rfl kx_) ?_
      refine W.getf X102 hx hZ hown (host := "") (Or.inl (hw _ (List.mem_of_getElem? (i := 48) rfl))) Via.refl e102 bm (hb hby d13_19) (pc' := 22) rfl (fun T103 X103 e103 => ?_)
      refine W.alen X103 hx hZ e103 ba (z := (Int32.ofNat n)) bhz (hb hby d13_22) (pc' := 23) rfl ?_
      refine W.s1 (mkF m 25 #[.val (.ref ao), .val (.ref av), .val (.int (0 : Int32)), .val (.int (0 : Int32)), .val (.int (0 : Int32)), .val (.int (Int32.ofNat n)), .unset, .unset, .unset] []) (fun _ kx_ => XS.istore X103.here hx rfl (hb hby d13_23) rfl (l' := #[.val (.ref ao), .val (.ref av), .val (.int (0 : Int32)), .val (.int (0 : Int32)), .val (.int (0 : Int32)), .val (.int (Int32.ofNat n)), .unset, .unset, .unset]) rfl kx_) ?_
      refine W.s1 (mkF m 26 #[.val (.ref ao), .val (.ref av), .val (.int (0 : Int32)), .val (.int (0 : Int32)), .val (.int (0 : Int32)), .val (.int (Int32.ofNat n)), .unset, .unset, .unset] [(.ref av)]) (fun _ kx_ => XS.aloadN X103.here hx rfl (hb hby d13_25) rfl rfl kx_) ?_
      refine W.s1 (mkF m 27 #[.val (.ref ao), .val (.ref av), .val (.int (0 : Int32)), .val (.int (0 : Int32)), .val (.int (0 : Int32)), .val (.int (Int32.ofNat n)), .unset, .unset, .unset] [(.ref ao), (.ref av)]) (fun _ kx_ => XS.aloadN X103.here hx rfl (hb hby d13_26) rfl rfl kx_) ?_
      by_cases ca27 : av = ao
      · refine W.s1 (mkF m 30 #[.val (.ref ao), .val (.ref av), .val (.int (0 : Int32)), .val (.int (0 : Int32)), .val (.int (0 : Int32)), .val (.int (Int32.ofNat n)), .unset, .unset, .unset] []) (fun _ kx_ => Jvm.RoadKit.acmp (g := (mkF m 27 #[.val (.ref ao), .val (.ref av), .val (.int (0 : Int32)), .val (.int (0 : Int32)), .val (.int (0 : Int32)), .val (.int (Int32.ofNat n)), .unset, .unset, .unset] [(.ref ao), (.ref av)])) X103 hx rfl rfl rfl (pc0 := 27) (pc' := 30) (same := true) rfl (hb hby d13_27) rfl (decide_eq_true (congrArg Value.ref ca27)) (by decide) (by decide) kx_) ?_
        refine W.s1 (mkF m 32 #[.val (.ref ao), .val (.ref av), .val (.int (0 : Int32)), .val (.int (0 : Int32)), .val (.int (0 : Int32)), .val (.int (Int32.ofNat n)), .unset, .unset, .unset] [(.int (Int32.ofNat n))]) (fun _ kx_ => XS.iload X103.here hx rfl (hb hby d13_30) rfl kx_) ?_
        refine W.s1 (mkF m 34 #[.val (.ref ao), .val (.ref av), .val (.int (0 : Int32)), .val (.int (0 : Int32)), .val (.int (0 : Int32)), .val (.int (Int32.ofNat n)), .unset, .unset, .unset] [(.int (20 : Int32)), (.int (Int32.ofNat n))]) (fun _ kx_ => XS.bipush X103.here hx rfl (hb hby d13_32) kx_) ?_
        refine W.icmp X103 hx (hb hby d13_34) (pc' := 46) (pc'' := 37) (by decide) (by decide) rfl (fun (c34 : ¬ (20 : Int32) < (Int32.ofNat n)) => ?_) (fun (c34 : (20 : Int32) < (Int32.ofNat n)) => ?_)
        · refine W.s1 (mkF m 47 #[.val (.ref ao), .val (.ref av), .val (.int (0 : Int32)), .val (.int (0 : Int32)), .val (.int (0 : Int32)), .val (.int (Int32.ofNat n)), .unset, .unset, .unset] [(.ref av)]) (fun _ kx_ => XS.aloadN X103.here hx rfl (hb hby d13_46) rfl rfl kx_) ?_
          refine W.getf X103 hx hZ hown (host := "") (Or.inl (hw _ (List.mem_of_getElem? (i := 48) rfl))) Via.refl e103 FO2 (hb hby d13_47) (pc' := 50) rfl (fun T104 X104 e104 => ?_)
          refine W.alen X104 hx hZ e104 AO (z := (1 : Int32)) rfl (hb hby d13_50) (pc' := 51) rfl ?_
          refine W.s1 (mkF m 53 #[.val (.ref ao), .val (.ref av), .val (.int (0 : Int32)), .val (.int (0 : Int32)), .val (.int (0 : Int32)), .val (.int (Int32.ofNat n)), .val (.int (1 : Int32)), .unset, .unset] []) (fun _ kx_ => XS.istore X104.here hx rfl (hb hby d13_51) rfl (l' := #[.val (.ref ao), .val (.ref av), .val (.int (0 : Int32)), .val (.int (0 : Int32)), .val (.int (0 : Int32)), .val (.int (Int32.ofNat n)), .val (.int (1 : Int32)), .unset, .unset]) rfl kx_) ?_
          refine W.s1 (mkF m 55 #[.val (.ref ao), .val (.ref av), .val (.int (0 : Int32)), .val (.int (0 : Int32)), .val (.int (0 : Int32)), .val (.int (Int32.ofNat n)), .val (.int (1 : Int32)), .unset, .unset] [(.int (Int32.ofNat n))]) (fun _ kx_ => XS.iload X104.here hx rfl (hb hby d13_53) rfl kx_) ?_
          refine W.s1 (mkF m 57 #[.val (.ref ao), .val (.ref av), .val (.int (0 : Int32)), .val (.int (0 : Int32)), .val (.int (0 : Int32)), .val (.int (Int32.ofNat n)), .val (.int (1 : Int32)), .unset, .unset] [(.int (80 : Int32)), (.int (Int32.ofNat n))]) (fun _ kx_ => XS.bipush X104.here hx rfl (hb hby d13_55) kx_) ?_
          refine W.icmp X104 hx (hb hby d13_57) (pc' := 67) (pc'' := 60) (by decide) (by decide) rfl (fun (c57 : (Int32.ofNat n) < (80 : Int32)) => ?_) (fun (c57 : ¬ (Int32.ofNat n) < (80 : Int32)) => ?_)
          · refine W.s1 (mkF m 68 #[.val (.ref ao), .val (.ref av), .val (.int (0 : Int32)), .val (.int (0 : Int32)), .val (.int (0 : Int32)), .val (.int (Int32.ofNat n)), .val (.int (1 : Int32)), .unset, .unset] [(.ref ao)]) (fun _ kx_ => XS.aloadN X104.here hx rfl (hb hby d13_67) rfl rfl kx_) ?_
            refine W.getf X104 hx hZ hown (host := "") (Or.inl (hw _ (List.mem_of_getElem? (i := 45) rfl))) Via.refl e104 bs (hb hby d13_68) (pc' := 71) rfl (fun T105 X105 e105 => ?_)
            refine W.s1 (mkF m 72 #[.val (.ref ao), .val (.ref av), .val (.int (0 : Int32)), .val (.int (0 : Int32)), .val (.int (0 : Int32)), .val (.int (Int32.ofNat n)), .val (.int (1 : Int32)), .unset, .unset] [(.ref av), (.int sg)]) (fun _ kx_ => XS.aloadN X105.here hx rfl (hb hby d13_71) rfl rfl kx_) ?_
            refine W.getf X105 hx hZ hown (host := "") (Or.inl (hw _ (List.mem_of_getElem? (i := 45) rfl))) Via.refl e105 FO1 (hb hby d13_72) (pc' := 75) rfl (fun T106 X106 e106 => ?_)
            refine W.icmp X106 hx (hb hby d13_75) (pc' := 82) (pc'' := 78) (by decide) (by decide) rfl (fun (c75 : ¬ sg = (1 : Int32)) => ?_) (fun (c75 : sg = (1 : Int32)) => ?_)
            · refine W.s1 (mkF m 83 #[.val (.ref ao), .val (.ref av), .val (.int (0 : Int32)), .val (.int (0 : Int32)), .val (.int (0 : Int32)), .val (.int (Int32.ofNat n)), .val (.int (1 : Int32)), .unset, .unset] [(.int (-1 : Int32))]) (fun _ kx_ => XS.iconst X106.here hx rfl (hb hby d13_82) kx_) ?_
              refine W.s1 (mkF m 85 #[.val (.ref ao), .val (.ref av), .val (.int (0 : Int32)), .val (.int (0 : Int32)), .val (.int (0 : Int32)), .val (.int (Int32.ofNat n)), .val (.int (1 : Int32)), .val (.int (-1 : Int32)), .unset] []) (fun _ kx_ => XS.istore X106.here hx rfl (hb hby d13_83) rfl (l' := #[.val (.ref ao), .val (.ref av), .val (.int (0 : Int32)), .val (.int (0 : Int32)), .val (.int (0 : Int32)), .val (.int (Int32.ofNat n)), .val (.int (1 : Int32)), .val (.int (-1 : Int32)), .unset]) rfl kx_) ?_
              refine W.s1 (mkF m 86 #[.val (.ref ao), .val (.ref av), .val (.int (0 : Int32)), .val (.int (0 : Int32)), .val (.int (0 : Int32)), .val (.int (Int32.ofNat n)), .val (.int (1 : Int32)), .val (.int (-1 : Int32)), .unset] [(.ref av)]) (fun _ kx_ => XS.aloadN X106.here hx rfl (hb hby d13_85) rfl rfl kx_) ?_
              refine W.getf X106 hx hZ hown (host := "") (Or.inl (hw _ (List.mem_of_getElem? (i := 48) rfl))) Via.refl e106 FO2 (hb hby d13_86) (pc' := 89) rfl (fun T107 X107 e107 => ?_)
              refine W.alen X107 hx hZ e107 AO (z := (1 : Int32)) rfl (hb hby d13_89) (pc' := 90) rfl ?_
              refine W.s1 (mkF m 91 #[.val (.ref ao), .val (.ref av), .val (.int (0 : Int32)), .val (.int (0 : Int32)), .val (.int (0 : Int32)), .val (.int (Int32.ofNat n)), .val (.int (1 : Int32)), .val (.int (-1 : Int32)), .unset] [(.int (1 : Int32)), (.int (1 : Int32))]) (fun _ kx_ => XS.iconst X107.here hx rfl (hb hby d13_90) kx_) ?_
              refine W.icmp X107 hx (hb hby d13_91) (pc' := 110) (pc'' := 94) (by decide) (by decide) rfl (fun (c91 : ¬ (1 : Int32) = (1 : Int32)) => ?_) (fun (c91 : (1 : Int32) = (1 : Int32)) => ?_)
              · exact absurd c91 (by decide)
              · refine W.s1 (mkF m 95 #[.val (.ref ao), .val (.ref av), .val (.int (0 : Int32)), .val (.int (0 : Int32)), .val (.int (0 : Int32)), .val (.int (Int32.ofNat n)), .val (.int (1 : Int32)), .val (.int (-1 : Int32)), .unset] [(.ref ao)]) (fun _ kx_ => XS.aloadN X107.here hx rfl (hb hby d13_94) rfl rfl kx_) ?_
                refine W.getf X107 hx hZ hown (host := "") (Or.inl (hw _ (List.mem_of_getElem? (i := 48) rfl))) Via.refl e107 bm (hb hby d13_95) (pc' := 98) rfl (fun T108 X108 e108 => ?_)
                refine W.s1 (mkF m 99 #[.val (.ref ao), .val (.ref av), .val (.int (0 : Int32)), .val (.int (0 : Int32)), .val (.int (0 : Int32)), .val (.int (Int32.ofNat n)), .val (.int (1 : Int32)), .val (.int (-1 : Int32)), .unset] [(.ref av), (.ref bzm)]) (fun _ kx_ => XS.aloadN X108.here hx rfl (hb hby d13_98) rfl rfl kx_) ?_
                refine W.getf X108 hx hZ hown (host := "") (Or.inl (hw _ (List.mem_of_getElem? (i := 48) rfl))) Via.refl e108 FO2 (hb hby d13_99) (pc' := 102) rfl (fun T109 X109 e109 => ?_)
                refine W.s1 (mkF m 103 #[.val (.ref ao), .val (.ref av), .val (.int (0 : Int32)), .val (.int (0 : Int32)), .val (.int (0 : Int32)), .val (.int (Int32.ofNat n)), .val (.int (1 : Int32)), .val (.int (-1 : Int32)), .unset] [(.int (0 : Int32)), (.ref zo), (.ref bzm)]) (fun _ kx_ => XS.iconst X109.here hx rfl (hb hby d13_102) kx_) ?_
                refine W.ldi X109 hx hZ e109 AO 0 rfl (by first | decide | simp) (hb hby d13_103) (pc' := 104) rfl ?_
                rw [hfo]
                refine W.s1 (mkF m 106 #[.val (.ref ao), .val (.ref av), .val (.int (0 : Int32)), .val (.int (0 : Int32)), .val (.int (0 : Int32)), .val (.int (Int32.ofNat n)), .val (.int (1 : Int32)), .val (.int (-1 : Int32)), .unset] [(.int (-1 : Int32)), (.int (1 : Int32)), (.ref bzm)]) (fun _ kx_ => XS.iload X109.here hx rfl (hb hby d13_104) rfl kx_) ?_
                have hsg : sg = -1 := (bsg.resolve_left c11).resolve_left c75
                obtain ⟨_, _, ⟨T110, L110, k110, n110⟩, -, X110, ⟨Lc110, hQ110, l110, y110, z110⟩, st110⟩ := Jvm.LawKit.callS X109 hx (y := (⟨"java/math/BigInteger", "multiplyByInt", "([III)Ljava/math/BigInteger;"⟩ : MethodName)) hown (mvT hZ (hw _ (List.mem_of_getElem? (i := 86) rfl))) (mvT hZ (hw _ (List.mem_of_getElem? (i := 87) rfl))) (mvT hZ (hw _ (List.mem_of_getElem? (i := 16) rfl))) (mvT hZ (hw _ (List.mem_of_getElem? (i := 88) rfl))) (by decide) (backOf (W := 0) (rm14 l Z a0 hw [] bzm (-1 : Int32) n f h0 n0 Z0 ba bn2 (bn1 c11) (by decide)) hZ (hw _ (List.mem_of_getElem? (i := 88) rfl)) (hw _ (List.mem_of_getElem? (i := 16) rfl)) (by decide) (by decide)) (g := (mkF m 106 #[.val (.ref ao), .val (.ref av), .val (.int (0 : Int32)), .val (.int (0 : Int32)), .val (.int (0 : Int32)), .val (.int (Int32.ofNat n)), .val (.int (1 : Int32)), .val (.int (-1 : Int32)), .unset] [(.int (-1 : Int32)), (.int (1 : Int32)), (.ref bzm)])) rfl (by rw [hml]; rfl) (argsL := [(.ref bzm), (.int (1 : Int32)), (.int (-1 : Int32))]) (rest := []) (lenOf pd_8 rfl) rfl (by show 2 * 0 + _ ≤ _; exact Nat.le_of_eq rfl) (hb hby d13_106) (fun _ _ => ⟨rfl, e109, (by decide : 0 + 2 ≤ _), (by decide : 0 + 8 ≤ _)⟩)
                dsimp only [Pt.U, Pt.locs, Pt.cells, Pt.slots] at X110 l110 y110 z110 st110 hQ110
                subst l110 y110 z110
                obtain ⟨h110, e110⟩ : ∃ z, T110.heap = z := ⟨_, rfl⟩
                rw [e110] at hQ110
                obtain ⟨ar, rfl, Nq110, Kq110, Hr⟩ := hQ110
                have N110 := Fr.app N0 Nq110
                have Z110 : n0 ≤ h110.size := Nat.le_trans Z0 Kq110.1
                have K110 : Keep h0 h110 [] := K0.trans Kq110 all0
                have f111 := O0.keep Kq110 all0
                have f112 := be.keep Kq110
                have f113 := bs.keep Kq110 nin0
                have f114 := bm.keep Kq110 nin0
                have f115 := ba.keep Kq110 nin0
                have f116 := EO.keep Kq110
                have f117 := FO1.keep Kq110 nin0
                have f118 := FO2.keep Kq110 nin0
                have f119 := AO.keep Kq110 nin0
                refine W.s2 (mkF m 109 #[.val (.ref ao), .val (.ref av), .val (.int (0 : Int32)), .val (.int (0 : Int32)), .val (.int (0 : Int32)), .val (.int (Int32.ofNat n)), .val (.int (1 : Int32)), .val (.int (-1 : Int32)), .unset] [(.ref ar)]) st110 ?_
                exact W.retA X110 hx hlk Bd.returns rfl rfl rfl (hb hby d13_109) (by show Q13 Z ao av aZ nZ fZ zo fo sg n f h0 n0 _ T110.heap _; rw [e110]; exact ⟨_, _, _, _, rfl, N110, K110, Hr, Or.inr ⟨c11, hsg.symm, rfl, rfl⟩⟩) (by decide) (by decide)
            · refine W.s1 (mkF m 79 #[.val (.ref ao), .val (.ref av), .val (.int (0 : Int32)), .val (.int (0 : Int32)), .val (.int (0 : Int32)), .val (.int (Int32.ofNat n)), .val (.int (1 : Int32)), .unset, .unset] [(.int (1 : Int32))]) (fun _ kx_ => XS.iconst X106.here hx rfl (hb hby d13_78) kx_) ?_
              refine W.s1 (mkF m 83 #[.val (.ref ao), .val (.ref av), .val (.int (0 : Int32)), .val (.int (0 : Int32)), .val (.int (0 : Int32)), .val (.int (Int32.ofNat n)), .val (.int (1 : Int32)), .unset, .unset] [(.int (1 : Int32))]) (fun _ kx_ => XS.goto X106.here hx rfl (pc0 := 79) (pc' := 83) rfl (hb hby d13_79) (by decide) (by decide) kx_) ?_
              refine W.s1 (mkF m 85 #[.val (.ref ao), .val (.ref av), .val (.int (0 : Int32)), .val (.int (0 : Int32)), .val (.int (0 : Int32)), .val (.int (Int32.ofNat n)), .val (.int (1 : Int32)), .val (.int (1 : Int32)), .unset] []) (fun _ kx_ => XS.istore X106.here hx rfl (hb hby d13_83) rfl (l' := #[.val (.ref ao), .val (.ref av), .val (.int (0 : Int32)), .val (.int (0 : Int32)), .val (.int (0 : Int32)), .val (.int (Int32.ofNat n)), .val (.int (1 : Int32)), .val (.int (1 : Int32)), .unset]) rfl kx_) ?_
              refine W.s1 (mkF m 86 #[.val (.ref ao), .val (.ref av), .val (.int (0 : Int32)), .val (.int (0 : Int32)), .val (.int (0 : Int32)), .val (.int (Int32.ofNat n)), .val (.int (1 : Int32)), .val (.int (1 : Int32)), .unset] [(.ref av)]) (fun _ kx_ => XS.aloadN X106.here hx rfl (hb hby d13_85) rfl rfl kx_) ?_
              refine W.getf X106 hx hZ hown (host := "") (Or.inl (hw _ (List.mem_of_getElem? (i := 48) rfl))) Via.refl e106 FO2 (hb hby d13_86) (pc' := 89) rfl (fun T120 X120 e120 => ?_)
              refine W.alen X120 hx hZ e120 AO (z := (1 : Int32)) rfl (hb hby d13_89) (pc' := 90) rfl ?_
              refine W.s1 (mkF m 91 #[.val (.ref ao), .val (.ref av), .val (.int (0 : Int32)), .val (.int (0 : Int32)), .val (.int (0 : Int32)), .val (.int (Int32.ofNat n)), .val (.int (1 : Int32)), .val (.int (1 : Int32)), .unset] [(.int (1 : Int32)), (.int (1 : Int32))]) (fun _ kx_ => XS.iconst X120.here hx rfl (hb hby d13_90) kx_) ?_
              refine W.icmp X120 hx (hb hby d13_91) (pc' := 110) (pc'' := 94) (by decide) (by decide) rfl (fun (c91 : ¬ (1 : Int32) = (1 : Int32)) => ?_) (fun (c91 : (1 : Int32) = (1 : Int32)) => ?_)
              · exact absurd c91 (by decide)
              · refine W.s1 (mkF m 95 #[.val (.ref ao), .val (.ref av), .val (.int (0 : Int32)), .val (.int (0 : Int32)), .val (.int (0 : Int32)), .val (.int (Int32.ofNat n)), .val (.int (1 : Int32)), .val (.int (1 : Int32)), .unset] [(.ref ao)]) (fun _ kx_ => XS.aloadN X120.here hx rfl (hb hby d13_94) rfl rfl kx_) ?_
                refine W.getf X120 hx hZ hown (host := "") (Or.inl (hw _ (List.mem_of_getElem? (i := 48) rfl))) Via.refl e120 bm (hb hby d13_95) (pc' := 98) rfl (fun T121 X121 e121 => ?_)
                refine W.s1 (mkF m 99 #[.val (.ref ao), .val (.ref av), .val (.int (0 : Int32)), .val (.int (0 : Int32)), .val (.int (0 : Int32)), .val (.int (Int32.ofNat n)), .val (.int (1 : Int32)), .val (.int (1 : Int32)), .unset] [(.ref av), (.ref bzm)]) (fun _ kx_ => XS.aloadN X121.here hx rfl (hb hby d13_98) rfl rfl kx_) ?_
                refine W.getf X121 hx hZ hown (host := "") (Or.inl (hw _ (List.mem_of_getElem? (i := 48) rfl))) Via.refl e121 FO2 (hb hby d13_99) (pc' := 102) rfl (fun T122 X122 e122 => ?_)
                refine W.s1 (mkF m 103 #[.val (.ref ao), .val (.ref av), .val (.int (0 : Int32)), .val (.int (0 : Int32)), .val (.int (0 : Int32)), .val (.int (Int32.ofNat n)), .val (.int (1 : Int32)), .val (.int (1 : Int32)), .unset] [(.int (0 : Int32)), (.ref zo), (.ref bzm)]) (fun _ kx_ => XS.iconst X122.here hx rfl (hb hby d13_102) kx_) ?_
                refine W.ldi X122 hx hZ e122 AO 0 rfl (by first | decide | simp) (hb hby d13_103) (pc' := 104) rfl ?_
                rw [hfo]
                refine W.s1 (mkF m 106 #[.val (.ref ao), .val (.ref av), .val (.int (0 : Int32)), .val (.int (0 : Int32)), .val (.int (0 : Int32)), .val (.int (Int32.ofNat n)), .val (.int (1 : Int32)), .val (.int (1 : Int32)), .unset] [(.int (1 : Int32)), (.int (1 : Int32)), (.ref bzm)]) (fun _ kx_ => XS.iload X122.here hx rfl (hb hby d13_104) rfl kx_) ?_
                have hsg : sg = 1 := c75
                obtain ⟨_, _, ⟨T123, L123, k123, n123⟩, -, X123, ⟨Lc123, hQ123, l123, y123, z123⟩, st123⟩ := Jvm.LawKit.callS X122 hx (y := (⟨"java/math/BigInteger", "multiplyByInt", "([III)Ljava/math/BigInteger;"⟩ : MethodName)) hown (mvT hZ (hw _ (List.mem_of_getElem? (i := 86) rfl))) (mvT hZ (hw _ (List.mem_of_getElem? (i := 87) rfl))) (mvT hZ (hw _ (List.mem_of_getElem? (i := 16) rfl))) (mvT hZ (hw _ (List.mem_of_getElem? (i := 88) rfl))) (by decide) (backOf (W := 0) (rm14 l Z a0 hw [] bzm (1 : Int32) n f h0 n0 Z0 ba bn2 (bn1 c11) (by decide)) hZ (hw _ (List.mem_of_getElem? (i := 88) rfl)) (hw _ (List.mem_of_getElem? (i := 16) rfl)) (by decide) (by decide)) (g := (mkF m 106 #[.val (.ref ao), .val (.ref av), .val (.int (0 : Int32)), .val (.int (0 : Int32)), .val (.int (0 : Int32)), .val (.int (Int32.ofNat n)), .val (.int (1 : Int32)), .val (.int (1 : Int32)), .unset] [(.int (1 : Int32)), (.int (1 : Int32)), (.ref bzm)])) rfl (by rw [hml]; rfl) (argsL := [(.ref bzm), (.int (1 : Int32)), (.int (1 : Int32))]) (rest := []) (lenOf pd_8 rfl) rfl (by show 2 * 0 + _ ≤ _; exact Nat.le_of_eq rfl) (hb hby d13_106) (fun _ _ => ⟨rfl, e122, (by decide : 0 + 2 ≤ _), (by decide : 0 + 8 ≤ _)⟩)
                dsimp only [Pt.U, Pt.locs, Pt.cells, Pt.slots] at X123 l123 y123 z123 st123 hQ123
                subst l123 y123 z123
                obtain ⟨h123, e123⟩ : ∃ z, T123.heap = z := ⟨_, rfl⟩
                rw [e123] at hQ123
                obtain ⟨ar, rfl, Nq123, Kq123, Hr⟩ := hQ123
                have N123 := Fr.app N0 Nq123
                have Z123 : n0 ≤ h123.size := Nat.le_trans Z0 Kq123.1
                have K123 : Keep h0 h123 [] := K0.trans Kq123 all0
                have f124 := O0.keep Kq123 all0
                have f125 := be.keep Kq123
                have f126 := bs.keep Kq123 nin0
                have f127 := bm.keep Kq123 nin0
                have f128 := ba.keep Kq123 nin0
                have f129 := EO.keep Kq123
                have f130 := FO1.keep Kq123 nin0
                have f131 := FO2.keep Kq123 nin0
                have f132 := AO.keep Kq123 nin0
                refine W.s2 (mkF m 109 #[.val (.ref ao), .val (.ref av), .val (.int (0 : Int32)), .val (.int (0 : Int32)), .val (.int (0 : Int32)), .val (.int (Int32.ofNat n)), .val (.int (1 : Int32)), .val (.int (1 : Int32)), .unset] [(.ref ar)]) st123 ?_
                exact W.retA X123 hx hlk Bd.returns rfl rfl rfl (hb hby d13_109) (by show Q13 Z ao av aZ nZ fZ zo fo sg n f h0 n0 _ T123.heap _; rw [e123]; exact ⟨_, _, _, _, rfl, N123, K123, Hr, Or.inr ⟨c11, hsg.symm, rfl, rfl⟩⟩) (by decide) (by decide)
          · exact absurd (show Int32.ofNat n < 80 by rw [Int32.lt_iff_toInt_lt, bhz, show (80 : Int32).toInt = 80 from rfl]; omega) c57
        · exact absurd c34 (by rw [Int32.lt_iff_toInt_lt, bhz, show (20 : Int32).toInt = 20 from rfl]; omega)
      · refine W.s1 (mkF m 46 #[.val (.ref ao), .val (.ref av), .val (.int (0 : Int32)), .val (.int (0 : Int32)), .val (.int (0 : Int32)), .val (.int (Int32.ofNat n)), .unset, .unset, .unset] []) (fun _ kx_ => Jvm.RoadKit.acmp (g := (mkF m 27 #[.val (.ref ao), .val (.ref av), .val (.int (0 : Int32)), .val (.int (0 : Int32)), .val (.int (0 : Int32)), .val (.int (Int32.ofNat n)), .unset, .unset, .unset] [(.ref ao), (.ref av)])) X103 hx rfl rfl rfl (pc0 := 27) (pc' := 46) (same := false) rfl (hb hby d13_27) rfl (decide_eq_false fun q => ca27 (Value.ref.inj q)) (by decide) (by decide) kx_) ?_
        refine W.s1 (mkF m 47 #[.val (.ref ao), .val (.ref av), .val (.int (0 : Int32)), .val (.int (0 : Int32)), .val (.int (0 : Int32)), .val (.int (Int32.ofNat n)), .unset, .unset, .unset] [(.ref av)]) (fun _ kx_ => XS.aloadN X103.here hx rfl (hb hby d13_46) rfl rfl kx_) ?_
        refine W.getf X103 hx hZ hown (host := "") (Or.inl (hw _ (List.mem_of_getElem? (i := 48) rfl))) Via.refl e103 FO2 (hb hby d13_47) (pc' := 50) rfl (fun T133 X133 e133 => ?_)
        refine W.alen X133 hx hZ e133 AO (z := (1 : Int32)) rfl (hb hby d13_50) (pc' := 51) rfl ?_
        refine W.s1 (mkF m 53 #[.val (.ref ao), .val (.ref av), .val (.int (0 : Int32)), .val (.int (0 : Int32)), .val (.int (0 : Int32)), .val (.int (Int32.ofNat n)), .val (.int (1 : Int32)), .unset, .unset] []) (fun _ kx_ => XS.istore X133.here hx rfl (hb hby d13_51) rfl (l' := #[.val (.ref ao), .val (.ref av), .val (.int (0 : Int32)), .val (.int (0 : Int32)), .val (.int (0 : Int32)), .val (.int (Int32.ofNat n)), .val (.int (1 : Int32)), .unset, .unset]) rfl kx_) ?_
        refine W.s1 (mkF m 55 #[.val (.ref ao), .val (.ref av), .val (.int (0 : Int32)), .val (.int (0 : Int32)), .val (.int (0 : Int32)), .val (.int (Int32.ofNat n)), .val (.int (1 : Int32)), .unset, .unset] [(.int (Int32.ofNat n))]) (fun _ kx_ => XS.iload X133.here hx rfl (hb hby d13_53) rfl kx_) ?_
        refine W.s1 (mkF m 57 #[.val (.ref ao), .val (.ref av), .val (.int (0 : Int32)), .val (.int (0 : Int32)), .val (.int (0 : Int32)), .val (.int (Int32.ofNat n)), .val (.int (1 : Int32)), .unset, .unset] [(.int (80 : Int32)), (.int (Int32.ofNat n))]) (fun _ kx_ => XS.bipush X133.here hx rfl (hb hby d13_55) kx_) ?_
        refine W.icmp X133 hx (hb hby d13_57) (pc' := 67) (pc'' := 60) (by decide) (by decide) rfl (fun (c57 : (Int32.ofNat n) < (80 : Int32)) => ?_) (fun (c57 : ¬ (Int32.ofNat n) < (80 : Int32)) => ?_)
        · refine W.s1 (mkF m 68 #[.val (.ref ao), .val (.ref av), .val (.int (0 : Int32)), .val (.int (0 : Int32)), .val (.int (0 : Int32)), .val (.int (Int32.ofNat n)), .val (.int (1 : Int32)), .unset, .unset] [(.ref ao)]) (fun _ kx_ => XS.aloadN X133.here hx rfl (hb hby d13_67) rfl rfl kx_) ?_
          refine W.getf X133 hx hZ hown (host := "") (Or.inl (hw _ (List.mem_of_getElem? (i := 45) rfl))) Via.refl e133 bs (hb hby d13_68) (pc' := 71) rfl (fun T134 X134 e134 => ?_)
          refine W.s1 (mkF m 72 #[.val (.ref ao), .val (.ref av), .val (.int (0 : Int32)), .val (.int (0 : Int32)), .val (.int (0 : Int32)), .val (.int (Int32.ofNat n)), .val (.int (1 : Int32)), .unset, .unset] [(.ref av), (.int sg)]) (fun _ kx_ => XS.aloadN X134.here hx rfl (hb hby d13_71) rfl rfl kx_) ?_
          refine W.getf X134 hx hZ hown (host := "") (Or.inl (hw _ (List.mem_of_getElem? (i := 45) rfl))) Via.refl e134 FO1 (hb hby d13_72) (pc' := 75) rfl (fun T135 X135 e135 => ?_)
          refine W.icmp X135 hx (hb hby d13_75) (pc' := 82) (pc'' := 78) (by decide) (by decide) rfl (fun (c75 : ¬ sg = (1 : Int32)) => ?_) (fun (c75 : sg = (1 : Int32)) => ?_)
          · refine W.s1 (mkF m 83 #[.val (.ref ao), .val (.ref av), .val (.int (0 : Int32)), .val (.int (0 : Int32)), .val (.int (0 : Int32)), .val (.int (Int32.ofNat n)), .val (.int (1 : Int32)), .unset, .unset] [(.int (-1 : Int32))]) (fun _ kx_ => XS.iconst X135.here hx rfl (hb hby d13_82) kx_) ?_
            refine W.s1 (mkF m 85 #[.val (.ref ao), .val (.ref av), .val (.int (0 : Int32)), .val (.int (0 : Int32)), .val (.int (0 : Int32)), .val (.int (Int32.ofNat n)), .val (.int (1 : Int32)), .val (.int (-1 : Int32)), .unset] []) (fun _ kx_ => XS.istore X135.here hx rfl (hb hby d13_83) rfl (l' := #[.val (.ref ao), .val (.ref av), .val (.int (0 : Int32)), .val (.int (0 : Int32)), .val (.int (0 : Int32)), .val (.int (Int32.ofNat n)), .val (.int (1 : Int32)), .val (.int (-1 : Int32)), .unset]) rfl kx_) ?_
            refine W.s1 (mkF m 86 #[.val (.ref ao), .val (.ref av), .val (.int (0 : Int32)), .val (.int (0 : Int32)), .val (.int (0 : Int32)), .val (.int (Int32.ofNat n)), .val (.int (1 : Int32)), .val (.int (-1 : Int32)), .unset] [(.ref av)]) (fun _ kx_ => XS.aloadN X135.here hx rfl (hb hby d13_85) rfl rfl kx_) ?_
            refine W.getf X135 hx hZ hown (host := "") (Or.inl (hw _ (List.mem_of_getElem? (i := 48) rfl))) Via.refl e135 FO2 (hb hby d13_86) (pc' := 89) rfl (fun T136 X136 e136 => ?_)
            refine W.alen X136 hx hZ e136 AO (z := (1 : Int32)) rfl (hb hby d13_89) (pc' := 90) rfl ?_
            refine W.s1 (mkF m 91 #[.val (.ref ao), .val (.ref av), .val (.int (0 : Int32)), .val (.int (0 : Int32)), .val (.int (0 : Int32)), .val (.int (Int32.ofNat n)), .val (.int (1 : Int32)), .val (.int (-1 : Int32)), .unset] [(.int (1 : Int32)), (.int (1 : Int32))]) (fun _ kx_ => XS.iconst X136.here hx rfl (hb hby d13_90) kx_) ?_
            refine W.icmp X136 hx (hb hby d13_91) (pc' := 110) (pc'' := 94) (by decide) (by decide) rfl (fun (c91 : ¬ (1 : Int32) = (1 : Int32)) => ?_) (fun (c91 : (1 : Int32) = (1 : Int32)) => ?_)
            · exact absurd c91 (by decide)
            · refine W.s1 (mkF m 95 #[.val (.ref ao), .val (.ref av), .val (.int (0 : Int32)), .val (.int (0 : Int32)), .val (.int (0 : Int32)), .val (.int (Int32.ofNat n)), .val (.int (1 : Int32)), .val (.int (-1 : Int32)), .unset] [(.ref ao)]) (fun _ kx_ => XS.aloadN X136.here hx rfl (hb hby d13_94) rfl rfl kx_) ?_
              refine W.getf X136 hx hZ hown (host := "") (Or.inl (hw _ (List.mem_of_getElem? (i := 48) rfl))) Via.refl e136 bm (hb hby d13_95) (pc' := 98) rfl (fun T137 X137 e137 => ?_)
              refine W.s1 (mkF m 99 #[.val (.ref ao), .val (.ref av), .val (.int (0 : Int32)), .val (.int (0 : Int32)), .val (.int (0 : Int32)), .val (.int (Int32.ofNat n)), .val (.int (1 : Int32)), .val (.int (-1 : Int32)), .unset] [(.ref av), (.ref bzm)]) (fun _ kx_ => XS.aloadN X137.here hx rfl (hb hby d13_98) rfl rfl kx_) ?_
              refine W.getf X137 hx hZ hown (host := "") (Or.inl (hw _ (List.mem_of_getElem? (i := 48) rfl))) Via.refl e137 FO2 (hb hby d13_99) (pc' := 102) rfl (fun T138 X138 e138 => ?_)
              refine W.s1 (mkF m 103 #[.val (.ref ao), .val (.ref av), .val (.int (0 : Int32)), .val (.int (0 : Int32)), .val (.int (0 : Int32)), .val (.int (Int32.ofNat n)), .val (.int (1 : Int32)), .val (.int (-1 : Int32)), .unset] [(.int (0 : Int32)), (.ref zo), (.ref bzm)]) (fun _ kx_ => XS.iconst X138.here hx rfl (hb hby d13_102) kx_) ?_
              refine W.ldi X138 hx hZ e138 AO 0 rfl (by first | decide | simp) (hb hby d13_103) (pc' := 104) rfl ?_
              rw [hfo]
              refine W.s1 (mkF m 106 #[.val (.ref ao), .val (.ref av), .val (.int (0 : Int32)), .val (.int (0 : Int32)), .val (.int (0 : Int32)), .val (.int (Int32.ofNat n)), .val (.int (1 : Int32)), .val (.int (-1 : Int32)), .unset] [(.int (-1 : Int32)), (.int (1 : Int32)), (.ref bzm)]) (fun _ kx_ => XS.iload X138.here hx rfl (hb hby d13_104) rfl kx_) ?_
              have hsg : sg = -1 := (bsg.resolve_left c11).resolve_left c75
              obtain ⟨_, _, ⟨T139, L139, k139, n139⟩, -, X139, ⟨Lc139, hQ139, l139, y139, z139⟩, st139⟩ := Jvm.LawKit.callS X138 hx (y := (⟨"java/math/BigInteger", "multiplyByInt", "([III)Ljava/math/BigInteger;"⟩ : MethodName)) hown (mvT hZ (hw _ (List.mem_of_getElem? (i := 86) rfl))) (mvT hZ (hw _ (List.mem_of_getElem? (i := 87) rfl))) (mvT hZ (hw _ (List.mem_of_getElem? (i := 16) rfl))) (mvT hZ (hw _ (List.mem_of_getElem? (i := 88) rfl))) (by decide) (backOf (W := 0) (rm14 l Z a0 hw [] bzm (-1 : Int32) n f h0 n0 Z0 ba bn2 (bn1 c11) (by decide)) hZ (hw _ (List.mem_of_getElem? (i := 88) rfl)) (hw _ (List.mem_of_getElem? (i := 16) rfl)) (by decide) (by decide)) (g := (mkF m 106 #[.val (.ref ao), .val (.ref av), .val (.int (0 : Int32)), .val (.int (0 : Int32)), .val (.int (0 : Int32)), .val (.int (Int32.ofNat n)), .val (.int (1 : Int32)), .val (.int (-1 : Int32)), .unset] [(.int (-1 : Int32)), (.int (1 : Int32)), (.ref bzm)])) rfl (by rw [hml]; rfl) (argsL := [(.ref bzm), (.int (1 : Int32)), (.int (-1 : Int32))]) (rest := []) (lenOf pd_8 rfl) rfl (by show 2 * 0 + _ ≤ _; exact Nat.le_of_eq rfl) (hb hby d13_106) (fun _ _ => ⟨rfl, e138, (by decide : 0 + 2 ≤ _), (by decide : 0 + 8 ≤ _)⟩)
              dsimp only [Pt.U, Pt.locs, Pt.cells, Pt.slots] at X139 l139 y139 z139 st139 hQ139
              subst l139 y139 z139
              obtain ⟨h139, e139⟩ : ∃ z, T139.heap = z := ⟨_, rfl⟩
              rw [e139] at hQ139
              obtain ⟨ar, rfl, Nq139, Kq139, Hr⟩ := hQ139
              have N139 := Fr.app N0 Nq139
              have Z139 : n0 ≤ h139.size := Nat.le_trans Z0 Kq139.1
              have K139 : Keep h0 h139 [] := K0.trans Kq139 all0
              have f140 := O0.keep Kq139 all0
              have f141 := be.keep Kq139
              have f142 := bs.keep Kq139 nin0
              have f143 := bm.keep Kq139 nin0
              have f144 := ba.keep Kq139 nin0
              have f145 := EO.keep Kq139
              have f146 := FO1.keep Kq139 nin0
              have f147 := FO2.keep Kq139 nin0
              have f148 := AO.keep Kq139 nin0
              refine W.s2 (mkF m 109 #[.val (.ref ao), .val (.ref av), .val (.int (0 : Int32)), .val (.int (0 : Int32)), .val (.int (0 : Int32)), .val (.int (Int32.ofNat n)), .val (.int (1 : Int32)), .val (.int (-1 : Int32)), .unset] [(.ref ar)]) st139 ?_
              exact W.retA X139 hx hlk Bd.returns rfl rfl rfl (hb hby d13_109) (by show Q13 Z ao av aZ nZ fZ zo fo sg n f h0 n0 _ T139.heap _; rw [e139]; exact ⟨_, _, _, _, rfl, N139, K139, Hr, Or.inr ⟨c11, hsg.symm, rfl, rfl⟩⟩) (by decide) (by decide)
          · refine W.s1 (mkF m 79 #[.val (.ref ao), .val (.ref av), .val (.int (0 : Int32)), .val (.int (0 : Int32)), .val (.int (0 : Int32)), .val (.int (Int32.ofNat n)), .val (.int (1 : Int32)), .unset, .unset] [(.int (1 : Int32))]) (fun _ kx_ => XS.iconst X135.here hx rfl (hb hby d13_78) kx_) ?_
            refine W.s1 (mkF m 83 #[.val (.ref ao), .val (.ref av), .val (.int (0 : Int32)), .val (.int (0 : Int32)), .val (.int (0 : Int32)), .val (.int (Int32.ofNat n)), .val (.int (1 : Int32)), .unset, .unset] [(.int (1 : Int32))]) (fun _ kx_ => XS.goto X135.here hx rfl (pc0 := 79) (pc' := 83) rfl (hb hby d13_79) (by decide) (by decide) kx_) ?_
            refine W.s1 (mkF m 85 #[.val (.ref ao), .val (.ref av), .val (.int (0 : Int32)), .val (.int (0 : Int32)), .val (.int (0 : Int32)), .val (.int (Int32.ofNat n)), .val (.int (1 : Int32)), .val (.int (1 : Int32)), .unset] []) (fun _ kx_ => XS.istore X135.here hx rfl (hb hby d13_83) rfl (l' := #[.val (.ref ao), .val (.ref av), .val (.int (0 : Int32)), .val (.int (0 : Int32)), .val (.int (0 : Int32)), .val (.int (Int32.ofNat n)), .val (.int (1 : Int32)), .val (.int (1 : Int32)), .unset]) rfl kx_) ?_
            refine W.s1 (mkF m 86 #[.val (.ref ao), .val (.ref av), .val (.int (0 : Int32)), .val (.int (0 : Int32)), .val (.int (0 : Int32)), .val (.int (Int32.ofNat n)), .val (.int (1 : Int32)), .val (.int (1 : Int32)), .unset] [(.ref av)]) (fun _ kx_ => XS.aloadN X135.here hx rfl (hb hby d13_85) rfl rfl kx_) ?_
            refine W.getf X135 hx hZ hown (host := "") (Or.inl (hw _ (List.mem_of_getElem? (i := 48) rfl))) Via.refl e135 FO2 (hb hby d13_86) (pc' := 89) rfl (fun T149 X149 e149 => ?_)
            refine W.alen X149 hx hZ e149 AO (z := (1 : Int32)) rfl (hb hby d13_89) (pc' := 90) rfl ?_
            refine W.s1 (mkF m 91 #[.val (.ref ao), .val (.ref av), .val (.int (0 : Int32)), .val (.int (0 : Int32)), .val (.int (0 : Int32)), .val (.int (Int32.ofNat n)), .val (.int (1 : Int32)), .val (.int (1 : Int32)), .unset] [(.int (1 : Int32)), (.int (1 : Int32))]) (fun _ kx_ => XS.iconst X149.here hx rfl (hb hby d13_90) kx_) ?_
            refine W.icmp X149 hx (hb hby d13_91) (pc' := 110) (pc'' := 94) (by decide) (by decide) rfl (fun (c91 : ¬ (1 : Int32) = (1 : Int32)) => ?_) (fun (c91 : (1 : Int32) = (1 : Int32)) => ?_)
            · exact absurd c91 (by decide)
            · refine W.s1 (mkF m 95 #[.val (.ref ao), .val (.ref av), .val (.int (0 : Int32)), .val (.int (0 : Int32)), .val (.int (0 : Int32)), .val (.int (Int32.ofNat n)), .val (.int (1 : Int32)), .val (.int (1 : Int32)), .unset] [(.ref ao)]) (fun _ kx_ => XS.aloadN X149.here hx rfl (hb hby d13_94) rfl rfl kx_) ?_
              refine W.getf X149 hx hZ hown (host := "") (Or.inl (hw _ (List.mem_of_getElem? (i := 48) rfl))) Via.refl e149 bm (hb hby d13_95) (pc' := 98) rfl (fun T150 X150 e150 => ?_)
              refine W.s1 (mkF m 99 #[.val (.ref ao), .val (.ref av), .val (.int (0 : Int32)), .val (.int (0 : Int32)), .val (.int (0 : Int32)), .val (.int (Int32.ofNat n)), .val (.int (1 : Int32)), .val (.int (1 : Int32)), .unset] [(.ref av), (.ref bzm)]) (fun _ kx_ => XS.aloadN X150.here hx rfl (hb hby d13_98) rfl rfl kx_) ?_
              refine W.getf X150 hx hZ hown (host := "") (Or.inl (hw _ (List.mem_of_getElem? (i := 48) rfl))) Via.refl e150 FO2 (hb hby d13_99) (pc' := 102) rfl (fun T151 X151 e151 => ?_)
              refine W.s1 (mkF m 103 #[.val (.ref ao), .val (.ref av), .val (.int (0 : Int32)), .val (.int (0 : Int32)), .val (.int (0 : Int32)), .val (.int (Int32.ofNat n)), .val (.int (1 : Int32)), .val (.int (1 : Int32)), .unset] [(.int (0 : Int32)), (.ref zo), (.ref bzm)]) (fun _ kx_ => XS.iconst X151.here hx rfl (hb hby d13_102) kx_) ?_
              refine W.ldi X151 hx hZ e151 AO 0 rfl (by first | decide | simp) (hb hby d13_103) (pc' := 104) rfl ?_
              rw [hfo]
              refine W.s1 (mkF m 106 #[.val (.ref ao), .val (.ref av), .val (.int (0 : Int32)), .val (.int (0 : Int32)), .val (.int (0 : Int32)), .val (.int (Int32.ofNat n)), .val (.int (1 : Int32)), .val (.int (1 : Int32)), .unset] [(.int (1 : Int32)), (.int (1 : Int32)), (.ref bzm)]) (fun _ kx_ => XS.iload X151.here hx rfl (hb hby d13_104) rfl kx_) ?_
              have hsg : sg = 1 := c75
              obtain ⟨_, _, ⟨T152, L152, k152, n152⟩, -, X152, ⟨Lc152, hQ152, l152, y152, z152⟩, st152⟩ := Jvm.LawKit.callS X151 hx (y := (⟨"java/math/BigInteger", "multiplyByInt", "([III)Ljava/math/BigInteger;"⟩ : MethodName)) hown (mvT hZ (hw _ (List.mem_of_getElem? (i := 86) rfl))) (mvT hZ (hw _ (List.mem_of_getElem? (i := 87) rfl))) (mvT hZ (hw _ (List.mem_of_getElem? (i := 16) rfl))) (mvT hZ (hw _ (List.mem_of_getElem? (i := 88) rfl))) (by decide) (backOf (W := 0) (rm14 l Z a0 hw [] bzm (1 : Int32) n f h0 n0 Z0 ba bn2 (bn1 c11) (by decide)) hZ (hw _ (List.mem_of_getElem? (i := 88) rfl)) (hw _ (List.mem_of_getElem? (i := 16) rfl)) (by decide) (by decide)) (g := (mkF m 106 #[.val (.ref ao), .val (.ref av), .val (.int (0 : Int32)), .val (.int (0 : Int32)), .val (.int (0 : Int32)), .val (.int (Int32.ofNat n)), .val (.int (1 : Int32)), .val (.int (1 : Int32)), .unset] [(.int (1 : Int32)), (.int (1 : Int32)), (.ref bzm)])) rfl (by rw [hml]; rfl) (argsL := [(.ref bzm), (.int (1 : Int32)), (.int (1 : Int32))]) (rest := []) (lenOf pd_8 rfl) rfl (by show 2 * 0 + _ ≤ _; exact Nat.le_of_eq rfl) (hb hby d13_106) (fun _ _ => ⟨rfl, e151, (by decide : 0 + 2 ≤ _), (by decide : 0 + 8 ≤ _)⟩)
              dsimp only [Pt.U, Pt.locs, Pt.cells, Pt.slots] at X152 l152 y152 z152 st152 hQ152
              subst l152 y152 z152
              obtain ⟨h152, e152⟩ : ∃ z, T152.heap = z := ⟨_, rfl⟩
              rw [e152] at hQ152
              obtain ⟨ar, rfl, Nq152, Kq152, Hr⟩ := hQ152
              have N152 := Fr.app N0 Nq152
              have Z152 : n0 ≤ h152.size := Nat.le_trans Z0 Kq152.1
              have K152 : Keep h0 h152 [] := K0.trans Kq152 all0
              have f153 := O0.keep Kq152 all0
              have f154 := be.keep Kq152
              have f155 := bs.keep Kq152 nin0
              have f156 := bm.keep Kq152 nin0
              have f157 := ba.keep Kq152 nin0
              have f158 := EO.keep Kq152
              have f159 := FO1.keep Kq152 nin0
              have f160 := FO2.keep Kq152 nin0
              have f161 := AO.keep Kq152 nin0
              refine W.s2 (mkF m 109 #[.val (.ref ao), .val (.ref av), .val (.int (0 : Int32)), .val (.int (0 : Int32)), .val (.int (0 : Int32)), .val (.int (Int32.ofNat n)), .val (.int (1 : Int32)), .val (.int (1 : Int32)), .unset] [(.ref ar)]) st152 ?_
              exact W.retA X152 hx hlk Bd.returns rfl rfl rfl (hb hby d13_109) (by show Q13 Z ao av aZ nZ fZ zo fo sg n f h0 n0 _ T152.heap _; rw [e152]; exact ⟨_, _, _, _, rfl, N152, K152, Hr, Or.inr ⟨c11, hsg.symm, rfl, rfl⟩⟩) (by decide) (by decide)
        · exact absurd (show Int32.ofNat n < 80 by rw [Int32.lt_iff_toInt_lt, bhz, show (80 : Int32).toInt = 80 from rfl]; omega) c57
    · refine W.gets X102 hx hZ hown (host := "") (Or.inl (hw _ (List.mem_of_getElem? (i := 131) rfl))) Via.refl e102 (Sta.ext O0.2 S_ZERO) (hb hby d13_14) (pc' := 17) rfl (fun T162 X162 e162 => ?_)
      exact W.retA X162 hx hlk Bd.returns rfl rfl rfl (hb hby d13_17) (by show Q13 Z ao av aZ nZ fZ zo fo sg n f h0 n0 _ T162.heap _; rw [e162]; exact ⟨_, _, _, _, rfl, N0, K0, HZ.ext O0.2, Or.inl ⟨c11, rfl⟩⟩) (by decide) (by decide)
theorem ef_12 (m : MethodId) (x0 : Addr) (x1 : Addr) : entryFrame m #[(.ref x0), (.ref x1)] 2 = mkF m 0 #[.val (.ref x0), .val (.ref x1)] [] := by first | (simp [entryFrame, mkF, argsToLocals, Value.category]; done) | rfl
theorem d12_0 : decode jdk_2097_method_40_code 0 = .ok (.aload_n 0, 1) := by decide +kernel
theorem d12_1 : decode jdk_2097_method_40_code 1 = .ok (.aload_n 1, 1) := by decide +kernel
theorem d12_2 : decode jdk_2097_method_40_code 2 = .ok (.iconst 0, 1) := by decide +kernel
theorem d12_3 : decode jdk_2097_method_40_code 3 = .ok (.iconst 0, 1) := by decide +kernel
theorem d12_4 : decode jdk_2097_method_40_code 4 = .ok (.iconst 0, 1) := by decide +kernel
theorem d12_5 : decode jdk_2097_method_40_code 5 = .ok (.invokevirtual 397, 3) := by decide +kernel
theorem pd_9 : parseMethodDescriptor "(Ljava/math/BigInteger;ZZI)Ljava/math/BigInteger;" = some ⟨[(.object "java/math/BigInteger"), .boolean, .boolean, .int], some (.object "java/math/BigInteger")⟩ := by decide +kernel
theorem d12_8 : decode jdk_2097_method_40_code 8 = .ok (.areturn, 1) := by decide +kernel
def Q12 (Z : State) (ao : Addr) (av : Addr) (aZ : Addr) (nZ : Nat) (fZ : Nat → Int32) (zo : Addr) (fo : Nat → Int32) (sg : Int32) (n : Nat) (f : Nat → Int32) (h0 : Heap) (n0 : Nat) (v : Option Value) (h : Heap) (L : List Loc) : Prop := ∃ (a : Addr) (s2 : Int32) (n2 : Nat) (f2 : Nat → Int32), v = some (.ref a) ∧ Fr n0 L ∧ Keep h0 h [] ∧ own_BI Z h a s2 n2 f2 ∧ own_rel sg n f s2 n2 f2
set_option maxRecDepth 65536 in
set_option maxHeartbeats 40000000 in
theorem rm12 (l : Launch) (Z : State) (a0 : Array Value) (hw : ∀ d ∈ tables_1, d.before a0 Z = true) (ws : List Jvm.Cond) (ao : Addr) (av : Addr) (aZ : Addr) (nZ : Nat) (fZ : Nat → Int32) (zo : Addr) (fo : Nat → Int32) (sg : Int32) (n : Nat) (f : Nat → Int32) (h0 : Heap) (n0 : Nat) (Z0 : n0 ≤ h0.size) (O0 : Old Z n0 h0) (S_ZERO : Sta Z Z.heap "java/math/BigInteger" "ZERO" "Ljava/math/BigInteger;" (.ref aZ)) (HZ : own_BI Z Z.heap aZ 0 nZ fZ) (HA : own_BI Z h0 ao sg n f) (EO : Exa Z h0 av "java/math/BigInteger") (FO1 : Fld Z h0 av "java/math/BigInteger" "signum" "I" (.int 1)) (FO2 : Fld Z h0 av "java/math/BigInteger" "mag" "[I" (.ref zo)) (AO : W.AI Z h0 zo .int 1 fo) (hfo : fo 0 = 1) :
    MetFree l (⟨"java/math/BigInteger", "multiply", "(Ljava/math/BigInteger;)Ljava/math/BigInteger;"⟩ : MethodName) (head1 (Jvm.Cond.code (⟨"java/math/BigInteger", "multiply", "(Ljava/math/BigInteger;)Ljava/math/BigInteger;"⟩ : MethodName) jdk_2097_method_40_code 2 (some (.object "java/math/BigInteger")) :: ws) ({ frames := 5, cells := 2, slots := 8, locals := 85 } : Room)) (fun a U => a = #[(.ref ao), (.ref av)] ∧ Z.Warmed39 U.vm ∧ U.heap = h0) (fun _ _ _ _ _ => True) (fun _ U o U' => ∃ v L, o = .returned v ∧ Q12 Z ao av aZ nZ fZ zo fo sg n f h0 n0 v U'.heap L ∧ FrameEnd U o U' L ({ frames := 5, cells := 2, slots := 8, locals := 85 } : Room).cells ({ frames := 5, cells := 2, slots := 8, locals := 85 } : Room).slots) := by
  refine MetFree.of_bodySF (plainFor_of_name pn_1) hisR ?_
  intro p e s m args below meth c s₁ Bd hml0 hP hK
  obtain ⟨rfl, hZ, hh⟩ := hP
  have hx := Bd.exec
  have hby := Bd.bytes
  have hml : c.maxLocals = 2 := hml0
  have hown : s.vm.findClass "java/math/BigInteger" = some m.cls := findClass_of_methodNamed Bd.named
  have hnm := (name_of_methodNamed Bd.named Bd.method).1
  have hlk : meth.locks = false := BodyLoose.notSynchronized Bd
  have X0 : Stand p l e ({ frames := 5, cells := 2, slots := 8, locals := 85 } : Room) s m #[(.ref ao), (.ref av)] below meth c s₁ [] 0 0 := Stand.of_body Bd
  have e0 : s₁.heap = h0 := by rw [← hh, Bd.state]; rfl
  have N0 := Fr.nil n0
  show W.Gl p e below s (Q12 Z ao av aZ nZ fZ zo fo sg n f h0 n0) ({ frames := 5, cells := 2, slots := 8, locals := 85 } : Room).cells ({ frames := 5, cells := 2, slots := 8, locals := 85 } : Room).slots s₁ (entryFrame m #[(.ref ao), (.ref av)] 2)
  refine W.cast (ef_12 m ao av) ?_
  have K0 : Keep h0 h0 [] := Keep.refl h0 []
  have Ea : Exa Z h0 ao "java/math/BigInteger" := by obtain ⟨_, d, _⟩ := HA; exact d
  refine W.s1 (mkF m 1 #[.val (.ref ao), .val (.ref av)] [(.ref ao)]) (fun _ kx_ => XS.aloadN X0.here hx rfl (hb hby d12_0) rfl rfl kx_) ?_
  refine W.s1 (mkF m 2 #[.val (.ref ao), .val (.ref av)] [(.ref av), (.ref ao)]) (fun _ kx_ => XS.aloadN X0.here hx rfl (hb hby d12_1) rfl rfl kx_) ?_
  refine W.s1 (mkF m 3 #[.val (.ref ao), .val (.ref av)] [(.int (0 : Int32)), (.ref av), (.ref ao)]) (fun _ kx_ => XS.iconst X0.here hx rfl (hb hby d12_2) kx_) ?_
  refine W.s1 (mkF m 4 #[.val (.ref ao), .val (.ref av)] [(.int (0 : Int32)), (.int (0 : Int32)), (.ref av), (.ref ao)]) (fun _ kx_ => XS.iconst X0.here hx rfl (hb hby d12_3) kx_) ?_
  refine W.s1 (mkF m 5 #[.val (.ref ao), .val (.ref av)] [(.int (0 : Int32)), (.int (0 : Int32)), (.int (0 : Int32)), (.ref av), (.ref ao)]) (fun _ kx_ => XS.iconst X0.here hx rfl (hb hby d12_4) kx_) ?_
  obtain ⟨cq101, q101, q101'⟩ := Ea.cell
  obtain ⟨_, _, ⟨T101, L101, k101, n101⟩, -, X101, ⟨Lc101, hQ101, l101, y101, z101⟩, st101⟩ := X0.privateBack hx (y := (⟨"java/math/BigInteger", "multiply", "(Ljava/math/BigInteger;ZZI)Ljava/math/BigInteger;"⟩ : MethodName)) hown (mvT hZ (hw _ (List.mem_of_getElem? (i := 81) rfl))) (mvT hZ (hw _ (List.mem_of_getElem? (i := 82) rfl))) (W.privSel hZ (hw _ (List.mem_of_getElem? (i := 33) rfl)) (hw _ (List.mem_of_getElem? (i := 83) rfl)) (hw _ (List.mem_of_getElem? (i := 82) rfl)) rfl (by decide)) (Cond.privateMethod_at (mvP hZ (hw _ (List.mem_of_getElem? (i := 83) rfl)) (args := #[]))) (mvT hZ (hw _ (List.mem_of_getElem? (i := 85) rfl))) (by decide) (backOf (W := 0) (rm13 l Z a0 hw [] ao av aZ nZ fZ zo fo sg n f h0 n0 Z0 O0 S_ZERO HZ HA EO FO1 FO2 AO hfo) hZ (hw _ (List.mem_of_getElem? (i := 85) rfl)) (hw _ (List.mem_of_getElem? (i := 16) rfl)) (by decide) (by decide)) (g := (mkF m 5 #[.val (.ref ao), .val (.ref av)] [(.int (0 : Int32)), (.int (0 : Int32)), (.int (0 : Int32)), (.ref av), (.ref ao)])) rfl (by rw [hml]; rfl) (Steps.refl _) (a := ao) (by rw [e0]; exact q101) q101' (argsL := [(.ref av), (.int (0 : Int32)), (.int (0 : Int32)), (.int (0 : Int32))]) (rest := []) (lenOf pd_9 rfl) rfl (by show 2 * 0 + _ ≤ _; exact Nat.le_of_eq rfl) (hb hby d12_5) (fun _ _ => ⟨rfl, e0, (by decide : 0 + 2 ≤ _), (by decide : 0 + 8 ≤ _)⟩)
  dsimp only [Pt.U, Pt.locs, Pt.cells, Pt.slots] at X101 l101 y101 z101 st101 hQ101
  subst l101 y101 z101
  obtain ⟨h101, e101⟩ : ∃ z, T101.heap = z := ⟨_, rfl⟩
  rw [e101] at hQ101
  obtain ⟨ar, s2, n2, f2, rfl, Nq101, Kq101, Hr, hrel⟩ := hQ101
  have N101 := Fr.app N0 Nq101
  have Z101 : n0 ≤ h101.size := Nat.le_trans Z0 Kq101.1
  have K101 : Keep h0 h101 [] := K0.trans Kq101 all0
  have f102 := Ea.keep Kq101
  refine W.s3 (mkF m 8 #[.val (.ref ao), .val (.ref av)] [(.ref ar)]) st101 ?_
  exact W.retA X101 hx hlk Bd.returns rfl rfl rfl (hb hby d12_8) (by show Q12 Z ao av aZ nZ fZ zo fo sg n f h0 n0 _ T101.heap _; rw [e101]; exact ⟨_, _, _, _, rfl, N101, K101, Hr, hrel⟩) (by decide) (by decide)
theorem ef_20 (m : MethodId) (x0 : Addr) (x1 : Addr) : entryFrame m #[(.ref x0), (.ref x1)] 9 = mkF m 0 #[.val (.ref x0), .val (.ref x1), .unset, .unset, .unset, .unset, .unset, .unset, .unset] [] := by first | (simp [entryFrame, mkF, argsToLocals, Value.category]; done) | rfl
theorem d20_0 : decode jdk_2097_method_122_code 0 = .ok (.aload_n 0, 1) := by decide +kernel
theorem d20_1 : decode jdk_2097_method_122_code 1 = .ok (.getfield 28, 3) := by decide +kernel
theorem d20_4 : decode jdk_2097_method_122_code 4 = .ok (.astore_n 2, 1) := by decide +kernel
theorem d20_5 : decode jdk_2097_method_122_code 5 = .ok (.aload_n 2, 1) := by decide +kernel
theorem d20_6 : decode jdk_2097_method_122_code 6 = .ok (.arraylength, 1) := by decide +kernel
theorem d20_7 : decode jdk_2097_method_122_code 7 = .ok (.istore_n 3, 1) := by decide +kernel
theorem d20_8 : decode jdk_2097_method_122_code 8 = .ok (.aload_n 1, 1) := by decide +kernel
theorem d20_9 : decode jdk_2097_method_122_code 9 = .ok (.getfield 28, 3) := by decide +kernel
theorem d20_12 : decode jdk_2097_method_122_code 12 = .ok (.astore 4, 2) := by decide +kernel
theorem d20_14 : decode jdk_2097_method_122_code 14 = .ok (.aload 4, 2) := by decide +kernel
theorem d20_16 : decode jdk_2097_method_122_code 16 = .ok (.arraylength, 1) := by decide +kernel
theorem d20_17 : decode jdk_2097_method_122_code 17 = .ok (.istore 5, 2) := by decide +kernel
theorem d20_19 : decode jdk_2097_method_122_code 19 = .ok (.iload_n 3, 1) := by decide +kernel
theorem d20_20 : decode jdk_2097_method_122_code 20 = .ok (.iload 5, 2) := by decide +kernel
theorem d20_22 : decode jdk_2097_method_122_code 22 = .ok (.if_icmp .ge 5, 3) := by decide +kernel
theorem d20_27 : decode jdk_2097_method_122_code 27 = .ok (.iload_n 3, 1) := by decide +kernel
theorem d20_28 : decode jdk_2097_method_122_code 28 = .ok (.iload 5, 2) := by decide +kernel
theorem d20_30 : decode jdk_2097_method_122_code 30 = .ok (.if_icmp .le 5, 3) := by decide +kernel
theorem d20_35 : decode jdk_2097_method_122_code 35 = .ok (.iconst 0, 1) := by decide +kernel
theorem d20_36 : decode jdk_2097_method_122_code 36 = .ok (.istore 6, 2) := by decide +kernel
theorem d20_38 : decode jdk_2097_method_122_code 38 = .ok (.iload 6, 2) := by decide +kernel
theorem d20_40 : decode jdk_2097_method_122_code 40 = .ok (.iload_n 3, 1) := by decide +kernel
theorem d20_41 : decode jdk_2097_method_122_code 41 = .ok (.if_icmp .ge 53, 3) := by decide +kernel
theorem d20_94 : decode jdk_2097_method_122_code 94 = .ok (.iconst 0, 1) := by decide +kernel
theorem d20_95 : decode jdk_2097_method_122_code 95 = .ok (.ireturn, 1) := by decide +kernel
theorem d20_44 : decode jdk_2097_method_122_code 44 = .ok (.aload_n 2, 1) := by decide +kernel
theorem d20_45 : decode jdk_2097_method_122_code 45 = .ok (.iload 6, 2) := by decide +kernel
theorem d20_47 : decode jdk_2097_method_122_code 47 = .ok (.iaload, 1) := by decide +kernel
theorem d20_48 : decode jdk_2097_method_122_code 48 = .ok (.istore 7, 2) := by decide +kernel
theorem d20_50 : decode jdk_2097_method_122_code 50 = .ok (.aload 4, 2) := by decide +kernel
theorem d20_52 : decode jdk_2097_method_122_code 52 = .ok (.iload 6, 2) := by decide +kernel
theorem d20_54 : decode jdk_2097_method_122_code 54 = .ok (.iaload, 1) := by decide +kernel
theorem d20_55 : decode jdk_2097_method_122_code 55 = .ok (.istore 8, 2) := by decide +kernel
theorem d20_57 : decode jdk_2097_method_122_code 57 = .ok (.iload 7, 2) := by decide +kernel
theorem d20_59 : decode jdk_2097_method_122_code 59 = .ok (.iload 8, 2) := by decide +kernel
theorem d20_61 : decode jdk_2097_method_122_code 61 = .ok (.if_icmp .eq 27, 3) := by decide +kernel
theorem d20_88 : decode jdk_2097_method_122_code 88 = .ok (.iinc 6 1, 3) := by decide +kernel
theorem d20_91 : decode jdk_2097_method_122_code 91 = .ok (.goto (-53), 3) := by decide +kernel
theorem d20_64 : decode jdk_2097_method_122_code 64 = .ok (.iload 7, 2) := by decide +kernel
theorem d20_66 : decode jdk_2097_method_122_code 66 = .ok (.i2l, 1) := by decide +kernel
theorem d20_67 : decode jdk_2097_method_122_code 67 = .ok (.ldc2_w 130, 3) := by decide +kernel
theorem d20_70 : decode jdk_2097_method_122_code 70 = .ok (.land, 1) := by decide +kernel
theorem d20_71 : decode jdk_2097_method_122_code 71 = .ok (.iload 8, 2) := by decide +kernel
theorem d20_73 : decode jdk_2097_method_122_code 73 = .ok (.i2l, 1) := by decide +kernel
theorem d20_74 : decode jdk_2097_method_122_code 74 = .ok (.ldc2_w 130, 3) := by decide +kernel
theorem d20_77 : decode jdk_2097_method_122_code 77 = .ok (.land, 1) := by decide +kernel
theorem d20_78 : decode jdk_2097_method_122_code 78 = .ok (.lcmp, 1) := by decide +kernel
theorem d20_79 : decode jdk_2097_method_122_code 79 = .ok (.ifCond .ge 7, 3) := by decide +kernel
theorem d20_86 : decode jdk_2097_method_122_code 86 = .ok (.iconst 1, 1) := by decide +kernel
theorem d20_87 : decode jdk_2097_method_122_code 87 = .ok (.ireturn, 1) := by decide +kernel
theorem d20_82 : decode jdk_2097_method_122_code 82 = .ok (.iconst (-1), 1) := by decide +kernel
theorem d20_83 : decode jdk_2097_method_122_code 83 = .ok (.goto 4, 3) := by decide +kernel
theorem d20_33 : decode jdk_2097_method_122_code 33 = .ok (.iconst 1, 1) := by decide +kernel
theorem d20_34 : decode jdk_2097_method_122_code 34 = .ok (.ireturn, 1) := by decide +kernel
theorem d20_25 : decode jdk_2097_method_122_code 25 = .ok (.iconst (-1), 1) := by decide +kernel
theorem d20_26 : decode jdk_2097_method_122_code 26 = .ok (.ireturn, 1) := by decide +kernel
def Q20 (Z : State) (ao : Addr) (av : Addr) (s1 : Int32) (n1 : Nat) (f1 : Nat → Int32) (s2 : Int32) (n2 : Nat) (f2 : Nat → Int32) (h0 : Heap) (n0 : Nat) (v : Option Value) (h : Heap) (L : List Loc) : Prop := v = some (.int (own_cm n1 f1 n2 f2)) ∧ Fr n0 L ∧ h = h0
set_option maxRecDepth 65536 in
set_option maxHeartbeats 40000000 in
theorem rm20 (l : Launch) (Z : State) (a0 : Array Value) (hw : ∀ d ∈ tables_1, d.before a0 Z = true) (ws : List Jvm.Cond) (ao : Addr) (av : Addr) (s1 : Int32) (n1 : Nat) (f1 : Nat → Int32) (s2 : Int32) (n2 : Nat) (f2 : Nat → Int32) (h0 : Heap) (n0 : Nat) (Z0 : n0 ≤ h0.size) (H1 : own_BI Z h0 ao s1 n1 f1) (H2 : own_BI Z h0 av s2 n2 f2) :
    MetFree l (⟨"java/math/BigInteger", "compareMagnitude", "(Ljava/math/BigInteger;)I"⟩ : MethodName) (head1 (Jvm.Cond.code (⟨"java/math/BigInteger", "compareMagnitude", "(Ljava/math/BigInteger;)I"⟩ : MethodName) jdk_2097_method_122_code 9 (some .int) :: ws) ({ frames := 0, cells := 0, slots := 0, locals := 0 } : Room)) (fun a U => a = #[(.ref ao), (.ref av)] ∧ Z.Warmed39 U.vm ∧ U.heap = h0) (fun _ _ _ _ _ => True) (fun _ U o U' => ∃ v L, o = .returned v ∧ Q20 Z ao av s1 n1 f1 s2 n2 f2 h0 n0 v U'.heap L ∧ FrameEnd U o U' L ({ frames := 0, cells := 0, slots := 0, locals := 0 } : Room).cells ({ frames := 0, cells := 0, slots := 0, locals := 0 } : Room).slots) := by
  refine MetFree.of_bodySF (plainFor_of_name pn_1) hisR ?_
  intro p e s m args below meth c s₁ Bd hml0 hP hK
  obtain ⟨rfl, hZ, hh⟩ := hP
  have hx := Bd.exec
  have hby := Bd.bytes
  have hml : c.maxLocals = 9 := hml0
  have hown : s.vm.findClass "java/math/BigInteger" = some m.cls := findClass_of_methodNamed Bd.named
  have hnm := (name_of_methodNamed Bd.named Bd.method).1
  have hlk : meth.locks = false := BodyLoose.notSynchronized Bd
  have X0 : Stand p l e ({ frames := 0, cells := 0, slots := 0, locals := 0 } : Room) s m #[(.ref ao), (.ref av)] below meth c s₁ [] 0 0 := Stand.of_body Bd
  have e0 : s₁.heap = h0 := by rw [← hh, Bd.state]; rfl
  have N0 := Fr.nil n0
  show W.Gl p e below s (Q20 Z ao av s1 n1 f1 s2 n2 f2 h0 n0) ({ frames := 0, cells := 0, slots := 0, locals := 0 } : Room).cells ({ frames := 0, cells := 0, slots := 0, locals := 0 } : Room).slots s₁ (entryFrame m #[(.ref ao), (.ref av)] 9)
  refine W.cast (ef_20 m ao av) ?_
  obtain ⟨bzm, be, bs, bm, ba, bn2, bsg, bn1⟩ := H1
  have bhz := own_nz bn2
  obtain ⟨dzm, de, ds, dm, da, dn2, dsg, dn1⟩ := H2
  have dhz := own_nz dn2
  refine W.s1 (mkF m 1 #[.val (.ref ao), .val (.ref av), .unset, .unset, .unset, .unset, .unset, .unset, .unset] [(.ref ao)]) (fun _ kx_ => XS.aloadN X0.here hx rfl (hb hby d20_0) rfl rfl kx_) ?_
  refine W.getf X0 hx hZ hown (host := "") (Or.inl (hw _ (List.mem_of_getElem? (i := 48) rfl))) Via.refl e0 bm (hb hby d20_1) (pc' := 4) rfl (fun T101 X101 e101 => ?_)
  refine W.s1 (mkF m 5 #[.val (.ref ao), .val (.ref av), .val (.ref bzm), .unset, .unset, .unset, .unset, .unset, .unset] []) (fun _ kx_ => XS.astoreN X101.here hx rfl (hb hby d20_4) rfl rfl (l' := #[.val (.ref ao), .val (.ref av), .val (.ref bzm), .unset, .unset, .unset, .unset, .unset, .unset]) rfl kx_) ?_
  refine W.s1 (mkF m 6 #[.val (.ref ao), .val (.ref av), .val (.ref bzm), .unset, .unset, .unset, .unset, .unset, .unset] [(.ref bzm)]) (fun _ kx_ => XS.aloadN X101.here hx rfl (hb hby d20_5) rfl rfl kx_) ?_
  refine W.alen X101 hx hZ e101 ba (z := (Int32.ofNat n1)) bhz (hb hby d20_6) (pc' := 7) rfl ?_
  refine W.s1 (mkF m 8 #[.val (.ref ao), .val (.ref av), .val (.ref bzm), .val (.int (Int32.ofNat n1)), .unset, .unset, .unset, .unset, .unset] []) (fun _ kx_ => XS.istoreN X101.here hx rfl (hb hby d20_7) rfl (l' := #[.val (.ref ao), .val (.ref av), .val (.ref bzm), .val (.int (Int32.ofNat n1)), .unset, .unset, .unset, .unset, .unset]) rfl kx_) ?_
  refine W.s1 (mkF m 9 #[.val (.ref ao), .val (.ref av), .val (.ref bzm), .val (.int (Int32.ofNat n1)), .unset, .unset, .unset, .unset, .unset] [(.ref av)]) (fun _ kx_ => XS.aloadN X101.here hx rfl (hb hby d20_8) rfl rfl kx_) ?_
  refine W.getf X101 hx hZ hown (host := "") (Or.inl (hw _ (List.mem_of_getElem? (i := 48) rfl))) Via.refl e101 dm (hb hby d20_9) (pc' := 12) rfl (fun T102 X102 e102 => ?_)
  refine W.s1 (mkF m 14 #[.val (.ref ao), .val (.ref av), .val (.ref bzm), .val (.int (Int32.ofNat n1)), .val (.ref dzm), .unset, .unset, .unset, .unset] []) (fun _ kx_ => XS.astore X102.here hx rfl (hb hby d20_12) rfl rfl (l' := #[.val (.ref ao), .val (.ref av), .val (.ref bzm), .val (.int (Int32.ofNat n1)), .val (.ref dzm), .unset, .unset, .unset, .unset]) rfl kx_) ?_
  refine W.s1 (mkF m 16 #[.val (.ref ao), .val (.ref av), .val (.ref bzm), .val (.int (Int32.ofNat n1)), .val (.ref dzm), .unset, .unset, .unset, .unset] [(.ref dzm)]) (fun _ kx_ => XS.aload X102.here hx rfl (hb hby d20_14) rfl rfl kx_) ?_
  refine W.alen X102 hx hZ e102 da (z := (Int32.ofNat n2)) dhz (hb hby d20_16) (pc' := 17) rfl ?_
  refine W.s1 (mkF m 19 #[.val (.ref ao), .val (.ref av), .val (.ref bzm), .val (.int (Int32.ofNat n1)), .val (.ref dzm), .val (.int (Int32.ofNat n2)), .unset, .unset, .unset] []) (fun _ kx_ => XS.istore X102.here hx rfl (hb hby d20_17) rfl (l' := #[.val (.ref ao), .val (.ref av), .val (.ref bzm), .val (.int (Int32.ofNat n1)), .val (.ref dzm), .val (.int (Int32.ofNat n2)), .unset, .unset, .unset]) rfl kx_) ?_
  refine W.s1 (mkF m 20 #[.val (.ref ao), .val (.ref av), .val (.ref bzm), .val (.int (Int32.ofNat n1)), .val (.ref dzm), .val (.int (Int32.ofNat n2)), .unset, .unset, .unset] [(.int (Int32.ofNat n1))]) (fun _ kx_ => XS.iloadN X102.here hx rfl (hb hby d20_19) rfl kx_) ?_
  refine W.s1 (mkF m 22 #[.val (.ref ao), .val (.ref av), .val (.ref bzm), .val (.int (Int32.ofNat n1)), .val (.ref dzm), .val (.int (Int32.ofNat n2)), .unset, .unset, .unset] [(.int (Int32.ofNat n2)), (.int (Int32.ofNat n1))]) (fun _ kx_ => XS.iload X102.here hx rfl (hb hby d20_20) rfl kx_) ?_
  refine W.icmp X102 hx (hb hby d20_22) (pc' := 27) (pc'' := 25) (by decide) (by decide) rfl (fun (c22 : ¬ (Int32.ofNat n1) < (Int32.ofNat n2)) => ?_) (fun (c22 : (Int32.ofNat n1) < (Int32.ofNat n2)) => ?_)
  · refine W.s1 (mkF m 28 #[.val (.ref ao), .val (.ref av), .val (.ref bzm), .val (.int (Int32.ofNat n1)), .val (.ref dzm), .val (.int (Int32.ofNat n2)), .unset, .unset, .unset] [(.int (Int32.ofNat n1))]) (fun _ kx_ => XS.iloadN X102.here hx rfl (hb hby d20_27) rfl kx_) ?_
    refine W.s1 (mkF m 30 #[.val (.ref ao), .val (.ref av), .val (.ref bzm), .val (.int (Int32.ofNat n1)), .val (.ref dzm), .val (.int (Int32.ofNat n2)), .unset, .unset, .unset] [(.int (Int32.ofNat n2)), (.int (Int32.ofNat n1))]) (fun _ kx_ => XS.iload X102.here hx rfl (hb hby d20_28) rfl kx_) ?_
    refine W.icmp X102 hx (hb hby d20_30) (pc' := 35) (pc'' := 33) (by decide) (by decide) rfl (fun (c30 : ¬ (Int32.ofNat n2) < (Int32.ofNat n1)) => ?_) (fun (c30 : (Int32.ofNat n2) < (Int32.ofNat n1)) => ?_)
    · refine W.s1 (mkF m 36 #[.val (.ref ao), .val (.ref av), .val (.ref bzm), .val (.int (Int32.ofNat n1)), .val (.ref dzm), .val (.int (Int32.ofNat n2)), .unset, .unset, .unset] [(.int (0 : Int32))]) (fun _ kx_ => XS.iconst X102.here hx rfl (hb hby d20_35) kx_) ?_
      refine W.s1 (mkF m 38 #[.val (.ref ao), .val (.ref av), .val (.ref bzm), .val (.int (Int32.ofNat n1)), .val (.ref dzm), .val (.int (Int32.ofNat n2)), .val (.int (0 : Int32)), .unset, .unset] []) (fun _ kx_ => XS.istore X102.here hx rfl (hb hby d20_36) rfl (l' := #[.val (.ref ao), .val (.ref av), .val (.ref bzm), .val (.int (Int32.ofNat n1)), .val (.ref dzm), .val (.int (Int32.ofNat n2)), .val (.int (0 : Int32)), .unset, .unset]) rfl kx_) ?_
      have hle : n1 = n2 := by have q1 := c22; have q2 := c30; rw [Int32.lt_iff_toInt_lt, bhz, dhz] at q1; rw [Int32.lt_iff_toInt_lt, bhz, dhz] at q2; omega
      have loop : ∀ (q j : Nat) (i : Int32) (s7 s8 : Slot), (s7 = .unset ∨ ∃ z : Int32, s7 = .val (.int z)) → (s8 = .unset ∨ ∃ z : Int32, s8 = .val (.int z)) → q + j = n1 → i.toInt = j → own_cl f1 f2 0 n1 = own_cl f1 f2 j q → W.Gl p e below s (Q20 Z ao av s1 n1 f1 s2 n2 f2 h0 n0) ({ frames := 0, cells := 0, slots := 0, locals := 0 } : Room).cells ({ frames := 0, cells := 0, slots := 0, locals := 0 } : Room).slots T102 (mkF m 38 #[.val (.ref ao), .val (.ref av), .val (.ref bzm), .val (.int (Int32.ofNat n1)), .val (.ref dzm), .val (.int (Int32.ofNat n2)), .val (.int i), s7, s8] []) := by
        intro q
        induction q with
        | zero =>
          intro j i s7 s8 hs7 hs8 hq hi hv
          refine W.s1 (mkF m 40 #[.val (.ref ao), .val (.ref av), .val (.ref bzm), .val (.int (Int32.ofNat n1)), .val (.ref dzm), .val (.int (Int32.ofNat n2)), .val (.int i), s7, s8] [(.int i)]) (fun _ kx_ => XS.iload X102.here hx rfl (hb hby d20_38) rfl kx_) ?_
          refine W.s1 (mkF m 41 #[.val (.ref ao), .val (.ref av), .val (.ref bzm), .val (.int (Int32.ofNat n1)), .val (.ref dzm), .val (.int (Int32.ofNat n2)), .val (.int i), s7, s8] [(.int (Int32.ofNat n1)), (.int i)]) (fun _ kx_ => XS.iloadN X102.here hx rfl (hb hby d20_40) rfl kx_) ?_
          refine W.icmp X102 hx (hb hby d20_41) (pc' := 94) (pc'' := 44) (by decide) (by decide) rfl (fun (c41 : ¬ i < (Int32.ofNat n1)) => ?_) (fun (c41 : i < (Int32.ofNat n1)) => ?_)
          · refine W.s1 (mkF m 95 #[.val (.ref ao), .val (.ref av), .val (.ref bzm), .val (.int (Int32.ofNat n1)), .val (.ref dzm), .val (.int (Int32.ofNat n2)), .val (.int i), s7, s8] [(.int (0 : Int32))]) (fun _ kx_ => XS.iconst X102.here hx rfl (hb hby d20_94) kx_) ?_
            exact W.retI X102 hx hlk Bd.returns (hb hby d20_95) (by show Q20 Z ao av s1 n1 f1 s2 n2 f2 h0 n0 _ T102.heap _; rw [e102]; exact ⟨by rw [own_cm, if_neg (show ¬ n1 < n2 by omega), if_neg (show ¬ n2 < n1 by omega), hv, show own_cl f1 f2 j 0 = (0 : Int32) from rfl], N0, rfl⟩) (by decide) (by decide)
          · exact absurd c41 (by rw [Int32.lt_iff_toInt_lt]; omega)
        | succ q ih =>
          intro j i s7 s8 hs7 hs8 hq hi hv
          refine W.s1 (mkF m 40 #[.val (.ref ao), .val (.ref av), .val (.ref bzm), .val (.int (Int32.ofNat n1)), .val (.ref dzm), .val (.int (Int32.ofNat n2)), .val (.int i), s7, s8] [(.int i)]) (fun _ kx_ => XS.iload X102.here hx rfl (hb hby d20_38) rfl kx_) ?_
          refine W.s1 (mkF m 41 #[.val (.ref ao), .val (.ref av), .val (.ref bzm), .val (.int (Int32.ofNat n1)), .val (.ref dzm), .val (.int (Int32.ofNat n2)), .val (.int i), s7, s8] [(.int (Int32.ofNat n1)), (.int i)]) (fun _ kx_ => XS.iloadN X102.here hx rfl (hb hby d20_40) rfl kx_) ?_
          refine W.icmp X102 hx (hb hby d20_41) (pc' := 94) (pc'' := 44) (by decide) (by decide) rfl (fun (c41 : ¬ i < (Int32.ofNat n1)) => ?_) (fun (c41 : i < (Int32.ofNat n1)) => ?_)
          · exact absurd c41 (by rw [Int32.lt_iff_toInt_lt]; omega)
          · refine W.s1 (mkF m 45 #[.val (.ref ao), .val (.ref av), .val (.ref bzm), .val (.int (Int32.ofNat n1)), .val (.ref dzm), .val (.int (Int32.ofNat n2)), .val (.int i), s7, s8] [(.ref bzm)]) (fun _ kx_ => XS.aloadN X102.here hx rfl (hb hby d20_44) rfl rfl kx_) ?_
            refine W.s1 (mkF m 47 #[.val (.ref ao), .val (.ref av), .val (.ref bzm), .val (.int (Int32.ofNat n1)), .val (.ref dzm), .val (.int (Int32.ofNat n2)), .val (.int i), s7, s8] [(.int i), (.ref bzm)]) (fun _ kx_ => XS.iload X102.here hx rfl (hb hby d20_45) rfl kx_) ?_
            refine W.ldi X102 hx hZ e102 ba j hi (by omega) (hb hby d20_47) (pc' := 48) rfl ?_
            refine W.s1 (mkF m 50 #[.val (.ref ao), .val (.ref av), .val (.ref bzm), .val (.int (Int32.ofNat n1)), .val (.ref dzm), .val (.int (Int32.ofNat n2)), .val (.int i), .val (.int (f1 j)), s8] []) (fun _ kx_ => XS.istore X102.here hx rfl (hb hby d20_48) rfl (l' := #[.val (.ref ao), .val (.ref av), .val (.ref bzm), .val (.int (Int32.ofNat n1)), .val (.ref dzm), .val (.int (Int32.ofNat n2)), .val (.int i), .val (.int (f1 j)), s8]) (by rcases hs7 with rfl | ⟨z, rfl⟩ <;> rfl) kx_) ?_
            refine W.s1 (mkF m 52 #[.val (.ref ao), .val (.ref av), .val (.ref bzm), .val (.int (Int32.ofNat n1)), .val (.ref dzm), .val (.int (Int32.ofNat n2)), .val (.int i), .val (.int (f1 j)), s8] [(.ref dzm)]) (fun _ kx_ => XS.aload X102.here hx rfl (hb hby d20_50) rfl rfl kx_) ?_
            refine W.s1 (mkF m 54 #[.val (.ref ao), .val (.ref av), .val (.ref bzm), .val (.int (Int32.ofNat n1)), .val (.ref dzm), .val (.int (Int32.ofNat n2)), .val (.int i), .val (.int (f1 j)), s8] [(.int i), (.ref dzm)]) (fun _ kx_ => XS.iload X102.here hx rfl (hb hby d20_52) rfl kx_) ?_
            refine W.ldi X102 hx hZ e102 da j hi (by omega) (hb hby d20_54) (pc' := 55) rfl ?_
            refine W.s1 (mkF m 57 #[.val (.ref ao), .val (.ref av), .val (.ref bzm), .val (.int (Int32.ofNat n1)), .val (.ref dzm), .val (.int (Int32.ofNat n2)), .val (.int i), .val (.int (f1 j)), .val (.int (f2 j))] []) (fun _ kx_ => XS.istore X102.here hx rfl (hb hby d20_55) rfl (l' := #[.val (.ref ao), .val (.ref av), .val (.ref bzm), .val (.int (Int32.ofNat n1)), .val (.ref dzm), .val (.int (Int32.ofNat n2)), .val (.int i), .val (.int (f1 j)), .val (.int (f2 j))]) (by rcases hs8 with rfl | ⟨z, rfl⟩ <;> rfl) kx_) ?_
            refine W.s1 (mkF m 59 #[.val (.ref ao), .val (.ref av), .val (.ref bzm), .val (.int (Int32.ofNat n1)), .val (.ref dzm), .val (.int (Int32.ofNat n2)), .val (.int i), .val (.int (f1 j)), .val (.int (f2 j))] [(.int (f1 j))]) (fun _ kx_ => XS.iload X102.here hx rfl (hb hby d20_57) rfl kx_) ?_
            refine W.s1 (mkF m 61 #[.val (.ref ao), .val (.ref av), .val (.ref bzm), .val (.int (Int32.ofNat n1)), .val (.ref dzm), .val (.int (Int32.ofNat n2)), .val (.int i), .val (.int (f1 j)), .val (.int (f2 j))] [(.int (f2 j)), (.int (f1 j))]) (fun _ kx_ => XS.iload X102.here hx rfl (hb hby d20_59) rfl kx_) ?_
            refine W.icmp X102 hx (hb hby d20_61) (pc' := 88) (pc'' := 64) (by decide) (by decide) rfl (fun (c61 : (f1 j) = (f2 j)) => ?_) (fun (c61 : ¬ (f1 j) = (f2 j)) => ?_)
            · refine W.s1 (mkF m 91 #[.val (.ref ao), .val (.ref av), .val (.ref bzm), .val (.int (Int32.ofNat n1)), .val (.ref dzm), .val (.int (Int32.ofNat n2)), .val (.int (i + (1 : Int32))), .val (.int (f1 j)), .val (.int (f2 j))] []) (fun _ kx_ => XS.iinc X102.here hx rfl (hb hby d20_88) rfl (l' := #[.val (.ref ao), .val (.ref av), .val (.ref bzm), .val (.int (Int32.ofNat n1)), .val (.ref dzm), .val (.int (Int32.ofNat n2)), .val (.int (i + (1 : Int32))), .val (.int (f1 j)), .val (.int (f2 j))]) rfl kx_) ?_
              refine W.s1 (mkF m 38 #[.val (.ref ao), .val (.ref av), .val (.ref bzm), .val (.int (Int32.ofNat n1)), .val (.ref dzm), .val (.int (Int32.ofNat n2)), .val (.int (i + (1 : Int32))), .val (.int (f1 j)), .val (.int (f2 j))] []) (fun _ kx_ => XS.goto X102.here hx rfl (pc0 := 91) (pc' := 38) rfl (hb hby d20_91) (by decide) (by decide) kx_) ?_
              have hi' : (i + (1 : Int32)).toInt = ((j + 1 : Nat) : Int) := by have := c_iadd i 1; have := rng32 (i + (1 : Int32)); have e1 : (1 : Int32).toInt = 1 := rfl; omega
              exact ih (j + 1) _ _ _ (Or.inr ⟨_, rfl⟩) (Or.inr ⟨_, rfl⟩) (by omega) hi' (hv.trans (own_cl1 (f := f1) (g := f2) (j := j) (q := q) c61))
            · refine W.s1 (mkF m 66 #[.val (.ref ao), .val (.ref av), .val (.ref bzm), .val (.int (Int32.ofNat n1)), .val (.ref dzm), .val (.int (Int32.ofNat n2)), .val (.int i), .val (.int (f1 j)), .val (.int (f2 j))] [(.int (f1 j))]) (fun _ kx_ => XS.iload X102.here hx rfl (hb hby d20_64) rfl kx_) ?_
              refine W.s1 (mkF m 67 #[.val (.ref ao), .val (.ref av), .val (.ref bzm), .val (.int (Int32.ofNat n1)), .val (.ref dzm), .val (.int (Int32.ofNat n2)), .val (.int i), .val (.int (f1 j)), .val (.int (f2 j))] [(.long ((f1 j).toInt64))]) (fun _ kx_ => XS.i2l X102.here hx rfl (hb hby d20_66) rfl kx_) ?_
              refine W.s1 (mkF m 70 #[.val (.ref ao), .val (.ref av), .val (.ref bzm), .val (.int (Int32.ofNat n1)), .val (.ref dzm), .val (.int (Int32.ofNat n2)), .val (.int i), .val (.int (f1 j)), .val (.int (f2 j))] [(.long (4294967295 : Int64)), (.long ((f1 j).toInt64))]) (fun _ kx_ => X102.ldc2Long hx hown (mvT hZ (hw _ (List.mem_of_getElem? (i := 128) rfl))) (g := (mkF m 67 #[.val (.ref ao), .val (.ref av), .val (.ref bzm), .val (.int (Int32.ofNat n1)), .val (.ref dzm), .val (.int (Int32.ofNat n2)), .val (.int i), .val (.int (f1 j)), .val (.int (f2 j))] [(.long ((f1 j).toInt64))])) rfl (hb hby d20_67) _ kx_) ?_
              refine W.s1 (mkF m 71 #[.val (.ref ao), .val (.ref av), .val (.ref bzm), .val (.int (Int32.ofNat n1)), .val (.ref dzm), .val (.int (Int32.ofNat n2)), .val (.int i), .val (.int (f1 j)), .val (.int (f2 j))] [(.long (((f1 j).toInt64) &&& (4294967295 : Int64)))]) (fun _ kx_ => XS.land X102.here hx rfl (hb hby d20_70) rfl kx_) ?_
              refine W.s1 (mkF m 73 #[.val (.ref ao), .val (.ref av), .val (.ref bzm), .val (.int (Int32.ofNat n1)), .val (.ref dzm), .val (.int (Int32.ofNat n2)), .val (.int i), .val (.int (f1 j)), .val (.int (f2 j))] [(.int (f2 j)), (.long (((f1 j).toInt64) &&& (4294967295 : Int64)))]) (fun _ kx_ => XS.iload X102.here hx rfl (hb hby d20_71) rfl kx_) ?_
              refine W.s1 (mkF m 74 #[.val (.ref ao), .val (.ref av), .val (.ref bzm), .val (.int (Int32.ofNat n1)), .val (.ref dzm), .val (.int (Int32.ofNat n2)), .val (.int i), .val (.int (f1 j)), .val (.int (f2 j))] [(.long ((f2 j).toInt64)), (.long (((f1 j).toInt64) &&& (4294967295 : Int64)))]) (fun _ kx_ => XS.i2l X102.here hx rfl (hb hby d20_73) rfl kx_) ?_
              refine W.s1 (mkF m 77 #[.val (.ref ao), .val (.ref av), .val (.ref bzm), .val (.int (Int32.ofNat n1)), .val (.ref dzm), .val (.int (Int32.ofNat n2)), .val (.int i), .val (.int (f1 j)), .val (.int (f2 j))] [(.long (4294967295 : Int64)), (.long ((f2 j).toInt64)), (.long (((f1 j).toInt64) &&& (4294967295 : Int64)))]) (fun _ kx_ => X102.ldc2Long hx hown (mvT hZ (hw _ (List.mem_of_getElem? (i := 128) rfl))) (g := (mkF m 74 #[.val (.ref ao), .val (.ref av), .val (.ref bzm), .val (.int (Int32.ofNat n1)), .val (.ref dzm), .val (.int (Int32.ofNat n2)), .val (.int i), .val (.int (f1 j)), .val (.int (f2 j))] [(.long ((f2 j).toInt64)), (.long (((f1 j).toInt64) &&& (4294967295 : Int64)))])) rfl (hb hby d20_74) _ kx_) ?_
              refine W.s1 (mkF m 78 #[.val (.ref ao), .val (.ref av), .val (.ref bzm), .val (.int (Int32.ofNat n1)), .val (.ref dzm), .val (.int (Int32.ofNat n2)), .val (.int i), .val (.int (f1 j)), .val (.int (f2 j))] [(.long (((f2 j).toInt64) &&& (4294967295 : Int64))), (.long (((f1 j).toInt64) &&& (4294967295 : Int64)))]) (fun _ kx_ => XS.land X102.here hx rfl (hb hby d20_77) rfl kx_) ?_
              refine W.lif X102 hx (hb hby d20_78) (pc1 := 79) rfl (hb hby d20_79) (pc' := 86) (pc'' := 82) (by decide) (by decide) rfl (fun (c79 : ¬ (((f1 j).toInt64) &&& (4294967295 : Int64)) < (((f2 j).toInt64) &&& (4294967295 : Int64))) => ?_) (fun (c79 : (((f1 j).toInt64) &&& (4294967295 : Int64)) < (((f2 j).toInt64) &&& (4294967295 : Int64))) => ?_)
              · refine W.s1 (mkF m 87 #[.val (.ref ao), .val (.ref av), .val (.ref bzm), .val (.int (Int32.ofNat n1)), .val (.ref dzm), .val (.int (Int32.ofNat n2)), .val (.int i), .val (.int (f1 j)), .val (.int (f2 j))] [(.int (1 : Int32))]) (fun _ kx_ => XS.iconst X102.here hx rfl (hb hby d20_86) kx_) ?_
                exact W.retI X102 hx hlk Bd.returns (hb hby d20_87) (by show Q20 Z ao av s1 n1 f1 s2 n2 f2 h0 n0 _ T102.heap _; rw [e102]; exact ⟨by rw [own_cm, if_neg (show ¬ n1 < n2 by omega), if_neg (show ¬ n2 < n1 by omega), hv, own_cl3 (f := f1) (g := f2) (j := j) (q := q) c61 c79], N0, rfl⟩) (by decide) (by decide)
              · refine W.s1 (mkF m 83 #[.val (.ref ao), .val (.ref av), .val (.ref bzm), .val (.int (Int32.ofNat n1)), .val (.ref dzm), .val (.int (Int32.ofNat n2)), .val (.int i), .val (.int (f1 j)), .val (.int (f2 j))] [(.int (-1 : Int32))]) (fun _ kx_ => XS.iconst X102.here hx rfl (hb hby d20_82) kx_) ?_
                refine W.s1 (mkF m 87 #[.val (.ref ao), .val (.ref av), .val (.ref bzm), .val (.int (Int32.ofNat n1)), .val (.ref dzm), .val (.int (Int32.ofNat n2)), .val (.int i), .val (.int (f1 j)), .val (.int (f2 j))] [(.int (-1 : Int32))]) (fun _ kx_ => XS.goto X102.here hx rfl (pc0 := 83) (pc' := 87) rfl (hb hby d20_83) (by decide) (by decide) kx_) ?_
                exact W.retI X102 hx hlk Bd.returns (hb hby d20_87) (by show Q20 Z ao av s1 n1 f1 s2 n2 f2 h0 n0 _ T102.heap _; rw [e102]; exact ⟨by rw [own_cm, if_neg (show ¬ n1 < n2 by omega), if_neg (show ¬ n2 < n1 by omega), hv, own_cl2 (f := f1) (g := f2) (j := j) (q := q) c61 c79], N0, rfl⟩) (by decide) (by decide)
      exact loop n1 0 _ _ _ (Or.inl rfl) (Or.inl rfl) (by omega) rfl rfl
    · refine W.s1 (mkF m 34 #[.val (.ref ao), .val (.ref av), .val (.ref bzm), .val (.int (Int32.ofNat n1)), .val (.ref dzm), .val (.int (Int32.ofNat n2)), .unset, .unset, .unset] [(.int (1 : Int32))]) (fun _ kx_ => XS.iconst X102.here hx rfl (hb hby d20_33) kx_) ?_
      exact W.retI X102 hx hlk Bd.returns (hb hby d20_34) (by show Q20 Z ao av s1 n1 f1 s2 n2 f2 h0 n0 _ T102.heap _; rw [e102]; exact ⟨by rw [own_cm, if_neg (by have q1 := c22; rw [Int32.lt_iff_toInt_lt, bhz, dhz] at q1; omega), if_pos (by have q2 := c30; rw [Int32.lt_iff_toInt_lt, bhz, dhz] at q2; omega)], N0, rfl⟩) (by decide) (by decide)
  · refine W.s1 (mkF m 26 #[.val (.ref ao), .val (.ref av), .val (.ref bzm), .val (.int (Int32.ofNat n1)), .val (.ref dzm), .val (.int (Int32.ofNat n2)), .unset, .unset, .unset] [(.int (-1 : Int32))]) (fun _ kx_ => XS.iconst X102.here hx rfl (hb hby d20_25) kx_) ?_
    exact W.retI X102 hx hlk Bd.returns (hb hby d20_26) (by show Q20 Z ao av s1 n1 f1 s2 n2 f2 h0 n0 _ T102.heap _; rw [e102]; exact ⟨by rw [own_cm, if_pos (by have q1 := c22; rw [Int32.lt_iff_toInt_lt, bhz, dhz] at q1; omega)], N0, rfl⟩) (by decide) (by decide)
theorem ef_19 (m : MethodId) (x0 : Addr) (x1 : Addr) : entryFrame m #[(.ref x0), (.ref x1)] 2 = mkF m 0 #[.val (.ref x0), .val (.ref x1)] [] := by first | (simp [entryFrame, mkF, argsToLocals, Value.category]; done) | rfl
theorem d19_0 : decode jdk_2097_method_121_code 0 = .ok (.aload_n 0, 1) := by decide +kernel
theorem d19_1 : decode jdk_2097_method_121_code 1 = .ok (.getfield 32, 3) := by decide +kernel
theorem d19_4 : decode jdk_2097_method_121_code 4 = .ok (.aload_n 1, 1) := by decide +kernel
theorem d19_5 : decode jdk_2097_method_121_code 5 = .ok (.getfield 32, 3) := by decide +kernel
theorem d19_8 : decode jdk_2097_method_121_code 8 = .ok (.if_icmp .ne 50, 3) := by decide +kernel
theorem d19_58 : decode jdk_2097_method_121_code 58 = .ok (.aload_n 0, 1) := by decide +kernel
theorem d19_59 : decode jdk_2097_method_121_code 59 = .ok (.getfield 32, 3) := by decide +kernel
theorem d19_62 : decode jdk_2097_method_121_code 62 = .ok (.aload_n 1, 1) := by decide +kernel
theorem d19_63 : decode jdk_2097_method_121_code 63 = .ok (.getfield 32, 3) := by decide +kernel
theorem d19_66 : decode jdk_2097_method_121_code 66 = .ok (.if_icmp .le 7, 3) := by decide +kernel
theorem d19_73 : decode jdk_2097_method_121_code 73 = .ok (.iconst (-1), 1) := by decide +kernel
theorem d19_74 : decode jdk_2097_method_121_code 74 = .ok (.ireturn, 1) := by decide +kernel
theorem d19_69 : decode jdk_2097_method_121_code 69 = .ok (.iconst 1, 1) := by decide +kernel
theorem d19_70 : decode jdk_2097_method_121_code 70 = .ok (.goto 4, 3) := by decide +kernel
theorem d19_11 : decode jdk_2097_method_121_code 11 = .ok (.aload_n 0, 1) := by decide +kernel
theorem d19_12 : decode jdk_2097_method_121_code 12 = .ok (.getfield 32, 3) := by decide +kernel
theorem d19_15 : decode jdk_2097_method_121_code 15 = .ok (.lookupswitch 41 #[(-1, 33), (1, 25)], 25) := by decide +kernel
theorem d19_56 : decode jdk_2097_method_121_code 56 = .ok (.iconst 0, 1) := by decide +kernel
theorem d19_57 : decode jdk_2097_method_121_code 57 = .ok (.ireturn, 1) := by decide +kernel
theorem d19_40 : decode jdk_2097_method_121_code 40 = .ok (.aload_n 0, 1) := by decide +kernel
theorem d19_41 : decode jdk_2097_method_121_code 41 = .ok (.aload_n 1, 1) := by decide +kernel
theorem d19_42 : decode jdk_2097_method_121_code 42 = .ok (.invokevirtual 365, 3) := by decide +kernel
theorem pd_10 : parseMethodDescriptor "(Ljava/math/BigInteger;)I" = some ⟨[(.object "java/math/BigInteger")], some .int⟩ := by decide +kernel
theorem d19_45 : decode jdk_2097_method_121_code 45 = .ok (.goto 12, 3) := by decide +kernel
theorem d19_48 : decode jdk_2097_method_121_code 48 = .ok (.aload_n 1, 1) := by decide +kernel
theorem d19_49 : decode jdk_2097_method_121_code 49 = .ok (.aload_n 0, 1) := by decide +kernel
theorem d19_50 : decode jdk_2097_method_121_code 50 = .ok (.invokevirtual 365, 3) := by decide +kernel
theorem d19_53 : decode jdk_2097_method_121_code 53 = .ok (.goto 4, 3) := by decide +kernel
def Q19 (Z : State) (ao : Addr) (av : Addr) (s1 : Int32) (n1 : Nat) (f1 : Nat → Int32) (s2 : Int32) (n2 : Nat) (f2 : Nat → Int32) (h0 : Heap) (n0 : Nat) (v : Option Value) (h : Heap) (L : List Loc) : Prop := v = some (.int (own_cmp s1 n1 f1 s2 n2 f2)) ∧ Fr n0 L ∧ h = h0
set_option maxRecDepth 65536 in
set_option maxHeartbeats 40000000 in
theorem rm19 (l : Launch) (Z : State) (a0 : Array Value) (hw : ∀ d ∈ tables_1, d.before a0 Z = true) (ws : List Jvm.Cond) (ao : Addr) (av : Addr) (s1 : Int32) (n1 : Nat) (f1 : Nat → Int32) (s2 : Int32) (n2 : Nat) (f2 : Nat → Int32) (h0 : Heap) (n0 : Nat) (Z0 : n0 ≤ h0.size) (H1 : own_BI Z h0 ao s1 n1 f1) (H2 : own_BI Z h0 av s2 n2 f2) :
    MetFree l (⟨"java/math/BigInteger", "compareTo", "(Ljava/math/BigInteger;)I"⟩ : MethodName) (head1 (Jvm.Cond.code (⟨"java/math/BigInteger", "compareTo", "(Ljava/math/BigInteger;)I"⟩ : MethodName) jdk_2097_method_121_code 2 (some .int) :: ws) ({ frames := 1, cells := 0, slots := 0, locals := 20 } : Room)) (fun a U => a = #[(.ref ao), (.ref av)] ∧ Z.Warmed39 U.vm ∧ U.heap = h0) (fun _ _ _ _ _ => True) (fun _ U o U' => ∃ v L, o = .returned v ∧ Q19 Z ao av s1 n1 f1 s2 n2 f2 h0 n0 v U'.heap L ∧ FrameEnd U o U' L ({ frames := 1, cells := 0, slots := 0, locals := 20 } : Room).cells ({ frames := 1, cells := 0, slots := 0, locals := 20 } : Room).slots) := by
  refine MetFree.of_bodySF (plainFor_of_name pn_1) hisR ?_
  intro p e s m args below meth c s₁ Bd hml0 hP hK
  obtain ⟨rfl, hZ, hh⟩ := hP
  have hx := Bd.exec
  have hby := Bd.bytes
  have hml : c.maxLocals = 2 := hml0
  have hown : s.vm.findClass "java/math/BigInteger" = some m.cls := findClass_of_methodNamed Bd.named
  have hnm := (name_of_methodNamed Bd.named Bd.method).1
  have hlk : meth.locks = false := BodyLoose.notSynchronized Bd
  have X0 : Stand p l e ({ frames := 1, cells := 0, slots := 0, locals := 20 } : Room) s m #[(.ref ao), (.ref av)] below meth c s₁ [] 0 0 := Stand.of_body Bd
  have e0 : s₁.heap = h0 := by rw [← hh, Bd.state]; rfl
  have N0 := Fr.nil n0
  show W.Gl p e below s (Q19 Z ao av s1 n1 f1 s2 n2 f2 h0 n0) ({ frames := 1, cells := 0, slots := 0, locals := 20 } : Room).cells ({ frames := 1, cells := 0, slots := 0, locals := 20 } : Room).slots s₁ (entryFrame m #[(.ref ao), (.ref av)] 2)
  refine W.cast (ef_19 m ao av) ?_
  have H1' := H1
  have H2' := H2
  obtain ⟨bzm, be, bs, bm, ba, bn2, bsg, bn1⟩ := H1
  have bhz := own_nz bn2
  obtain ⟨dzm, de, ds, dm, da, dn2, dsg, dn1⟩ := H2
  have dhz := own_nz dn2
  refine W.s1 (mkF m 1 #[.val (.ref ao), .val (.ref av)] [(.ref ao)]) (fun _ kx_ => XS.aloadN X0.here hx rfl (hb hby d19_0) rfl rfl kx_) ?_
  refine W.getf X0 hx hZ hown (host := "") (Or.inl (hw _ (List.mem_of_getElem? (i := 45) rfl))) Via.refl e0 bs (hb hby d19_1) (pc' := 4) rfl (fun T101 X101 e101 => ?_)
  refine W.s1 (mkF m 5 #[.val (.ref ao), .val (.ref av)] [(.ref av), (.int s1)]) (fun _ kx_ => XS.aloadN X101.here hx rfl (hb hby d19_4) rfl rfl kx_) ?_
  refine W.getf X101 hx hZ hown (host := "") (Or.inl (hw _ (List.mem_of_getElem? (i := 45) rfl))) Via.refl e101 ds (hb hby d19_5) (pc' := 8) rfl (fun T102 X102 e102 => ?_)
  refine W.icmp X102 hx (hb hby d19_8) (pc' := 58) (pc'' := 11) (by decide) (by decide) rfl (fun (c8 : ¬ s1 = s2) => ?_) (fun (c8 : s1 = s2) => ?_)
  · refine W.s1 (mkF m 59 #[.val (.ref ao), .val (.ref av)] [(.ref ao)]) (fun _ kx_ => XS.aloadN X102.here hx rfl (hb hby d19_58) rfl rfl kx_) ?_
    refine W.getf X102 hx hZ hown (host := "") (Or.inl (hw _ (List.mem_of_getElem? (i := 45) rfl))) Via.refl e102 bs (hb hby d19_59) (pc' := 62) rfl (fun T103 X103 e103 => ?_)
    refine W.s1 (mkF m 63 #[.val (.ref ao), .val (.ref av)] [(.ref av), (.int s1)]) (fun _ kx_ => XS.aloadN X103.here hx rfl (hb hby d19_62) rfl rfl kx_) ?_
    refine W.getf X103 hx hZ hown (host := "") (Or.inl (hw _ (List.mem_of_getElem? (i := 45) rfl))) Via.refl e103 ds (hb hby d19_63) (pc' := 66) rfl (fun T104 X104 e104 => ?_)
    refine W.icmp X104 hx (hb hby d19_66) (pc' := 73) (pc'' := 69) (by decide) (by decide) rfl (fun (c66 : ¬ s2 < s1) => ?_) (fun (c66 : s2 < s1) => ?_)
    · refine W.s1 (mkF m 74 #[.val (.ref ao), .val (.ref av)] [(.int (-1 : Int32))]) (fun _ kx_ => XS.iconst X104.here hx rfl (hb hby d19_73) kx_) ?_
      exact W.retI X104 hx hlk Bd.returns (hb hby d19_74) (by show Q19 Z ao av s1 n1 f1 s2 n2 f2 h0 n0 _ T104.heap _; rw [e104]; exact ⟨by rw [own_cmp, if_neg c8, if_neg c66], N0, rfl⟩) (by decide) (by decide)
    · refine W.s1 (mkF m 70 #[.val (.ref ao), .val (.ref av)] [(.int (1 : Int32))]) (fun _ kx_ => XS.iconst X104.here hx rfl (hb hby d19_69) kx_) ?_
      refine W.s1 (mkF m 74 #[.val (.ref ao), .val (.ref av)] [(.int (1 : Int32))]) (fun _ kx_ => XS.goto X104.here hx rfl (pc0 := 70) (pc' := 74) rfl (hb hby d19_70) (by decide) (by decide) kx_) ?_
      exact W.retI X104 hx hlk Bd.returns (hb hby d19_74) (by show Q19 Z ao av s1 n1 f1 s2 n2 f2 h0 n0 _ T104.heap _; rw [e104]; exact ⟨by rw [own_cmp, if_neg c8, if_pos c66], N0, rfl⟩) (by decide) (by decide)
  · refine W.s1 (mkF m 12 #[.val (.ref ao), .val (.ref av)] [(.ref ao)]) (fun _ kx_ => XS.aloadN X102.here hx rfl (hb hby d19_11) rfl rfl kx_) ?_
    refine W.getf X102 hx hZ hown (host := "") (Or.inl (hw _ (List.mem_of_getElem? (i := 45) rfl))) Via.refl e102 bs (hb hby d19_12) (pc' := 15) rfl (fun T105 X105 e105 => ?_)
    rcases bsg with hsg | hsg | hsg
    · refine W.s1 (mkF m 56 #[.val (.ref ao), .val (.ref av)] []) (fun _ kx_ => X105.lookupswitchMiss hx (g := (mkF m 15 #[.val (.ref ao), .val (.ref av)] [(.int s1)])) rfl rfl (hb hby d19_15) (by first | decide | decide +kernel | rfl) (by rw [hsg] <;> first | decide | rfl | decide +kernel) (by show (0 : Int) ≤ ((15 : Nat) : Int) + (41 : Int); decide) _ kx_) ?_
      refine W.s1 (mkF m 57 #[.val (.ref ao), .val (.ref av)] [(.int (0 : Int32))]) (fun _ kx_ => XS.iconst X105.here hx rfl (hb hby d19_56) kx_) ?_
      exact W.retI X105 hx hlk Bd.returns (hb hby d19_57) (by show Q19 Z ao av s1 n1 f1 s2 n2 f2 h0 n0 _ T105.heap _; rw [e105]; exact ⟨by rw [own_cmp, if_pos c8, if_neg (by rw [hsg]; decide), if_neg (by rw [hsg]; decide)], N0, rfl⟩) (by decide) (by decide)
    · refine W.s1 (mkF m 40 #[.val (.ref ao), .val (.ref av)] []) (fun _ kx_ => X105.lookupswitchHit hx (g := (mkF m 15 #[.val (.ref ao), .val (.ref av)] [(.int s1)])) rfl rfl (hb hby d19_15) (by first | decide | decide +kernel | rfl) (a := 1) (off := 25) (by rw [hsg] <;> first | decide | rfl | decide +kernel) (by show (0 : Int) ≤ ((15 : Nat) : Int) + (25 : Int); decide) _ kx_) ?_
      refine W.s1 (mkF m 41 #[.val (.ref ao), .val (.ref av)] [(.ref ao)]) (fun _ kx_ => XS.aloadN X105.here hx rfl (hb hby d19_40) rfl rfl kx_) ?_
      refine W.s1 (mkF m 42 #[.val (.ref ao), .val (.ref av)] [(.ref av), (.ref ao)]) (fun _ kx_ => XS.aloadN X105.here hx rfl (hb hby d19_41) rfl rfl kx_) ?_
      obtain ⟨cq106, kq106, q106a, q106b, q106c⟩ := isOf hZ e105 be
      obtain ⟨_, _, ⟨T106, L106, k106, n106⟩, -, X106, ⟨Lc106, hQ106, l106, y106, z106⟩, st106⟩ := X105.virtualBack hx (y := (⟨"java/math/BigInteger", "compareMagnitude", "(Ljava/math/BigInteger;)I"⟩ : MethodName)) (z := (⟨"java/math/BigInteger", "compareMagnitude", "(Ljava/math/BigInteger;)I"⟩ : MethodName)) hown (mvT hZ (hw _ (List.mem_of_getElem? (i := 115) rfl))) (mvT hZ (hw _ (List.mem_of_getElem? (i := 116) rfl))) (notFace_of_selects (args := #[]) (mvT hZ (hw _ (List.mem_of_getElem? (i := 118) rfl)))) (mvT hZ (hw _ (List.mem_of_getElem? (i := 118) rfl))) (mvT hZ (hw _ (List.mem_of_getElem? (i := 117) rfl))) (by decide) (backOf (W := 0) (rm20 l Z a0 hw [] ao av s1 n1 f1 s2 n2 f2 h0 n0 Z0 H1' H2') hZ (hw _ (List.mem_of_getElem? (i := 119) rfl)) (hw _ (List.mem_of_getElem? (i := 16) rfl)) (by decide) (by decide)) q106a q106c (g := (mkF m 42 #[.val (.ref ao), .val (.ref av)] [(.ref av), (.ref ao)])) rfl (by rw [hml]; rfl) (Steps.refl _) (argsL := [(.ref av)]) (rest := []) (lenOf pd_10 rfl) rfl (by show 2 * 0 + _ ≤ _; exact Nat.le_of_eq rfl) (hb hby d19_42) (fun _ _ => ⟨rfl, e105, (by decide : 0 + 0 ≤ _), (by decide : 0 + 0 ≤ _)⟩)
      dsimp only [Pt.U, Pt.locs, Pt.cells, Pt.slots] at X106 l106 y106 z106 st106 hQ106
      subst l106 y106 z106
      obtain ⟨rfl, Nq106, eq106⟩ := hQ106
      have N106 := Fr.app N0 Nq106
      refine W.s3 (mkF m 45 #[.val (.ref ao), .val (.ref av)] [(.int (own_cm n1 f1 n2 f2))]) st106 ?_
      refine W.s1 (mkF m 57 #[.val (.ref ao), .val (.ref av)] [(.int (own_cm n1 f1 n2 f2))]) (fun _ kx_ => XS.goto X106.here hx rfl (pc0 := 45) (pc' := 57) rfl (hb hby d19_45) (by decide) (by decide) kx_) ?_
      exact W.retI X106 hx hlk Bd.returns (hb hby d19_57) (by show Q19 Z ao av s1 n1 f1 s2 n2 f2 h0 n0 _ T106.heap _; rw [eq106]; exact ⟨by rw [own_cmp, if_pos c8, if_pos hsg], N106, rfl⟩) (by decide) (by decide)
    · refine W.s1 (mkF m 48 #[.val (.ref ao), .val (.ref av)] []) (fun _ kx_ => X105.lookupswitchHit hx (g := (mkF m 15 #[.val (.ref ao), .val (.ref av)] [(.int s1)])) rfl rfl (hb hby d19_15) (by first | decide | decide +kernel | rfl) (a := (-1)) (off := 33) (by rw [hsg] <;> first | decide | rfl | decide +kernel) (by show (0 : Int) ≤ ((15 : Nat) : Int) + (33 : Int); decide) _ kx_) ?_
      refine W.s1 (mkF m 49 #[.val (.ref ao), .val (.ref av)] [(.ref av)]) (fun _ kx_ => XS.aloadN X105.here hx rfl (hb hby d19_48) rfl rfl kx_) ?_
      refine W.s1 (mkF m 50 #[.val (.ref ao), .val (.ref av)] [(.ref ao), (.ref av)]) (fun _ kx_ => XS.aloadN X105.here hx rfl (hb hby d19_49) rfl rfl kx_) ?_
      obtain ⟨cq107, kq107, q107a, q107b, q107c⟩ := isOf hZ e105 de
      obtain ⟨_, _, ⟨T107, L107, k107, n107⟩, -, X107, ⟨Lc107, hQ107, l107, y107, z107⟩, st107⟩ := X105.virtualBack hx (y := (⟨"java/math/BigInteger", "compareMagnitude", "(Ljava/math/BigInteger;)I"⟩ : MethodName)) (z := (⟨"java/math/BigInteger", "compareMagnitude", "(Ljava/math/BigInteger;)I"⟩ : MethodName)) hown (mvT hZ (hw _ (List.mem_of_getElem? (i := 115) rfl))) (mvT hZ (hw _ (List.mem_of_getElem? (i := 116) rfl))) (notFace_of_selects (args := #[]) (mvT hZ (hw _ (List.mem_of_getElem? (i := 118) rfl)))) (mvT hZ (hw _ (List.mem_of_getElem? (i := 118) rfl))) (mvT hZ (hw _ (List.mem_of_getElem? (i := 117) rfl))) (by decide) (backOf (W := 0) (rm20 l Z a0 hw [] av ao s2 n2 f2 s1 n1 f1 h0 n0 Z0 H2' H1') hZ (hw _ (List.mem_of_getElem? (i := 119) rfl)) (hw _ (List.mem_of_getElem? (i := 16) rfl)) (by decide) (by decide)) q107a q107c (g := (mkF m 50 #[.val (.ref ao), .val (.ref av)] [(.ref ao), (.ref av)])) rfl (by rw [hml]; rfl) (Steps.refl _) (argsL := [(.ref ao)]) (rest := []) (lenOf pd_10 rfl) rfl (by show 2 * 0 + _ ≤ _; exact Nat.le_of_eq rfl) (hb hby d19_50) (fun _ _ => ⟨rfl, e105, (by decide : 0 + 0 ≤ _), (by decide : 0 + 0 ≤ _)⟩)
      dsimp only [Pt.U, Pt.locs, Pt.cells, Pt.slots] at X107 l107 y107 z107 st107 hQ107
      subst l107 y107 z107
      obtain ⟨rfl, Nq107, eq107⟩ := hQ107
      have N107 := Fr.app N0 Nq107
      refine W.s3 (mkF m 53 #[.val (.ref ao), .val (.ref av)] [(.int (own_cm n2 f2 n1 f1))]) st107 ?_
      refine W.s1 (mkF m 57 #[.val (.ref ao), .val (.ref av)] [(.int (own_cm n2 f2 n1 f1))]) (fun _ kx_ => XS.goto X107.here hx rfl (pc0 := 53) (pc' := 57) rfl (hb hby d19_53) (by decide) (by decide) kx_) ?_
      exact W.retI X107 hx hlk Bd.returns (hb hby d19_57) (by show Q19 Z ao av s1 n1 f1 s2 n2 f2 h0 n0 _ T107.heap _; rw [eq107]; exact ⟨by rw [own_cmp, if_pos c8, if_neg (by rw [hsg]; decide), if_pos hsg], N107, rfl⟩) (by decide) (by decide)
theorem ef_11 (m : MethodId) (x0 : Addr) (x1 : Addr) : entryFrame m #[(.ref x0), (.ref x1)] 2 = mkF m 0 #[.val (.ref x0), .val (.ref x1)] [] := by first | (simp [entryFrame, mkF, argsToLocals, Value.category]; done) | rfl
theorem d11_0 : decode prog_75_method_19_code 0 = .ok (.aload_n 0, 1) := by decide +kernel
theorem d11_1 : decode prog_75_method_19_code 1 = .ok (.getfield 7, 3) := by decide +kernel
theorem d11_4 : decode prog_75_method_19_code 4 = .ok (.aload_n 1, 1) := by decide +kernel
theorem d11_5 : decode prog_75_method_19_code 5 = .ok (.getfield 13, 3) := by decide +kernel
theorem d11_8 : decode prog_75_method_19_code 8 = .ok (.invokevirtual 102, 3) := by decide +kernel
theorem pd_11 : parseMethodDescriptor "(Ljava/math/BigInteger;)Ljava/math/BigInteger;" = some ⟨[(.object "java/math/BigInteger")], some (.object "java/math/BigInteger")⟩ := by decide +kernel
theorem d11_11 : decode prog_75_method_19_code 11 = .ok (.aload_n 1, 1) := by decide +kernel
theorem d11_12 : decode prog_75_method_19_code 12 = .ok (.getfield 7, 3) := by decide +kernel
theorem d11_15 : decode prog_75_method_19_code 15 = .ok (.aload_n 0, 1) := by decide +kernel
theorem d11_16 : decode prog_75_method_19_code 16 = .ok (.getfield 13, 3) := by decide +kernel
theorem d11_19 : decode prog_75_method_19_code 19 = .ok (.invokevirtual 102, 3) := by decide +kernel
theorem d11_22 : decode prog_75_method_19_code 22 = .ok (.invokevirtual 149, 3) := by decide +kernel
theorem d11_25 : decode prog_75_method_19_code 25 = .ok (.ireturn, 1) := by decide +kernel
def Q11 (Z : State) (ao : Addr) (av : Addr) (aZ : Addr) (nZ : Nat) (fZ : Nat → Int32) (aO : Addr) (zo : Addr) (fo : Nat → Int32) (s1 : Int32) (n1 : Nat) (f1 : Nat → Int32) (s2 : Int32) (n2 : Nat) (f2 : Nat → Int32) (h0 : Heap) (n0 : Nat) (v : Option Value) (h : Heap) (L : List Loc) : Prop := v = some (.int (own_cmp s1 n1 f1 s2 n2 f2)) ∧ Fr n0 L ∧ Keep h0 h []
set_option maxRecDepth 65536 in
set_option maxHeartbeats 40000000 in
theorem rm11 (l : Launch) (Z : State) (a0 : Array Value) (hw : ∀ d ∈ tables_1, d.before a0 Z = true) (ws : List Jvm.Cond) (ao : Addr) (av : Addr) (aZ : Addr) (nZ : Nat) (fZ : Nat → Int32) (aO : Addr) (zo : Addr) (fo : Nat → Int32) (s1 : Int32) (n1 : Nat) (f1 : Nat → Int32) (s2 : Int32) (n2 : Nat) (f2 : Nat → Int32) (h0 : Heap) (n0 : Nat) (Z0 : n0 ≤ h0.size) (O0 : Old Z n0 h0) (S_ZERO : Sta Z Z.heap "java/math/BigInteger" "ZERO" "Ljava/math/BigInteger;" (.ref aZ)) (HZ : own_BI Z Z.heap aZ 0 nZ fZ) (EO : Exa Z Z.heap aO "java/math/BigInteger") (FO1 : Fld Z Z.heap aO "java/math/BigInteger" "signum" "I" (.int 1)) (FO2 : Fld Z Z.heap aO "java/math/BigInteger" "mag" "[I" (.ref zo)) (AO : W.AI Z Z.heap zo .int 1 fo) (hfo : fo 0 = 1) (R1 : own_RA Z h0 ao aO s1 n1 f1) (R2 : own_RA Z h0 av aO s2 n2 f2) :
    MetFree l (⟨"com/example/hybridge/hybridge/model/Rational", "compareTo", "(Lcom/example/hybridge/hybridge/model/Rational;)I"⟩ : MethodName) (head1 (Jvm.Cond.code (⟨"com/example/hybridge/hybridge/model/Rational", "compareTo", "(Lcom/example/hybridge/hybridge/model/Rational;)I"⟩ : MethodName) prog_75_method_19_code 2 (some .int) :: ws) ({ frames := 6, cells := 4, slots := 16, locals := 99 } : Room)) (fun a U => a = #[(.ref ao), (.ref av)] ∧ Z.Warmed39 U.vm ∧ U.heap = h0) (fun _ _ _ _ _ => True) (fun _ U o U' => ∃ v L, o = .returned v ∧ Q11 Z ao av aZ nZ fZ aO zo fo s1 n1 f1 s2 n2 f2 h0 n0 v U'.heap L ∧ FrameEnd U o U' L ({ frames := 6, cells := 4, slots := 16, locals := 99 } : Room).cells ({ frames := 6, cells := 4, slots := 16, locals := 99 } : Room).slots) := by
  refine MetFree.of_bodySF (plainFor_of_name pn_2) hisR ?_
  intro p e s m args below meth c s₁ Bd hml0 hP hK
  obtain ⟨rfl, hZ, hh⟩ := hP
  have hx := Bd.exec
  have hby := Bd.bytes
  have hml : c.maxLocals = 2 := hml0
  have hown : s.vm.findClass "com/example/hybridge/hybridge/model/Rational" = some m.cls := findClass_of_methodNamed Bd.named
  have hnm := (name_of_methodNamed Bd.named Bd.method).1
  have hlk : meth.locks = false := BodyLoose.notSynchronized Bd
  have X0 : Stand p l e ({ frames := 6, cells := 4, slots := 16, locals := 99 } : Room) s m #[(.ref ao), (.ref av)] below meth c s₁ [] 0 0 := Stand.of_body Bd
  have e0 : s₁.heap = h0 := by rw [← hh, Bd.state]; rfl
  have N0 := Fr.nil n0
  show W.Gl p e below s (Q11 Z ao av aZ nZ fZ aO zo fo s1 n1 f1 s2 n2 f2 h0 n0) ({ frames := 6, cells := 4, slots := 16, locals := 99 } : Room).cells ({ frames := 6, cells := 4, slots := 16, locals := 99 } : Room).slots s₁ (entryFrame m #[(.ref ao), (.ref av)] 2)
  refine W.cast (ef_11 m ao av) ?_
  have K0 : Keep h0 h0 [] := Keep.refl h0 []
  obtain ⟨ban, be, bf, bg, bH⟩ := R1
  obtain ⟨dan, de, df, dg, dH⟩ := R2
  have E_ban : Exa Z h0 ban "java/math/BigInteger" := by obtain ⟨_, q, _⟩ := bH; exact q
  have E_dan : Exa Z h0 dan "java/math/BigInteger" := by obtain ⟨_, q, _⟩ := dH; exact q
  refine W.s1 (mkF m 1 #[.val (.ref ao), .val (.ref av)] [(.ref ao)]) (fun _ kx_ => XS.aloadN X0.here hx rfl (hb hby d11_0) rfl rfl kx_) ?_
  refine W.getf X0 hx hZ hown (host := "") (Or.inl (hw _ (List.mem_of_getElem? (i := 27) rfl))) Via.refl e0 bf (hb hby d11_1) (pc' := 4) rfl (fun T101 X101 e101 => ?_)
  refine W.s1 (mkF m 5 #[.val (.ref ao), .val (.ref av)] [(.ref av), (.ref ban)]) (fun _ kx_ => XS.aloadN X101.here hx rfl (hb hby d11_4) rfl rfl kx_) ?_
  refine W.getf X101 hx hZ hown (host := "") (Or.inl (hw _ (List.mem_of_getElem? (i := 29) rfl))) Via.refl e101 dg (hb hby d11_5) (pc' := 8) rfl (fun T102 X102 e102 => ?_)
  obtain ⟨cq103, kq103, q103a, q103b, q103c⟩ := isOf hZ e102 E_ban
  obtain ⟨_, _, ⟨T103, L103, k103, n103⟩, -, X103, ⟨Lc103, hQ103, l103, y103, z103⟩, st103⟩ := X102.virtualBack hx (y := (⟨"java/math/BigInteger", "multiply", "(Ljava/math/BigInteger;)Ljava/math/BigInteger;"⟩ : MethodName)) (z := (⟨"java/math/BigInteger", "multiply", "(Ljava/math/BigInteger;)Ljava/math/BigInteger;"⟩ : MethodName)) hown (mvT hZ (hw _ (List.mem_of_getElem? (i := 76) rfl))) (mvT hZ (hw _ (List.mem_of_getElem? (i := 77) rfl))) (notFace_of_selects (args := #[]) (mvT hZ (hw _ (List.mem_of_getElem? (i := 79) rfl)))) (mvT hZ (hw _ (List.mem_of_getElem? (i := 79) rfl))) (mvT hZ (hw _ (List.mem_of_getElem? (i := 78) rfl))) (by decide) (backOf (W := 0) (rm12 l Z a0 hw [] ban aO aZ nZ fZ zo fo s1 n1 f1 h0 n0 Z0 O0 S_ZERO HZ bH (EO.ext O0.2) (FO1.ext O0.2) (FO2.ext O0.2) (AO.ext O0.2) hfo) hZ (hw _ (List.mem_of_getElem? (i := 80) rfl)) (hw _ (List.mem_of_getElem? (i := 16) rfl)) (by decide) (by decide)) q103a q103c (g := (mkF m 8 #[.val (.ref ao), .val (.ref av)] [(.ref aO), (.ref ban)])) rfl (by rw [hml]; rfl) (Steps.refl _) (argsL := [(.ref aO)]) (rest := []) (lenOf pd_11 rfl) rfl (by show 2 * 0 + _ ≤ _; exact Nat.le_of_eq rfl) (hb hby d11_8) (fun _ _ => ⟨rfl, e102, (by decide : 0 + 2 ≤ _), (by decide : 0 + 8 ≤ _)⟩)
  dsimp only [Pt.U, Pt.locs, Pt.cells, Pt.slots] at X103 l103 y103 z103 st103 hQ103
  subst l103 y103 z103
  obtain ⟨h103, e103⟩ : ∃ z, T103.heap = z := ⟨_, rfl⟩
  rw [e103] at hQ103
  obtain ⟨xr, xs, xn, xf, rfl, Nq103, Kq103, Hx, hrx⟩ := hQ103
  have N103 := Fr.app N0 Nq103
  have Z103 : n0 ≤ h103.size := Nat.le_trans Z0 Kq103.1
  have K103 : Keep h0 h103 [] := K0.trans Kq103 all0
  have f104 := O0.keep Kq103 all0
  have f105 := be.keep Kq103
  have f106 := bf.keep Kq103 nin0
  have f107 := bg.keep Kq103 nin0
  have f108 := de.keep Kq103
  have f109 := df.keep Kq103 nin0
  have f110 := dg.keep Kq103 nin0
  have f111 := E_ban.keep Kq103
  have f112 := E_dan.keep Kq103
  have K8 := Kq103
  have E_xr : Exa Z h103 xr "java/math/BigInteger" := by obtain ⟨_, q, _⟩ := Hx; exact q
  refine W.s3 (mkF m 11 #[.val (.ref ao), .val (.ref av)] [(.ref xr)]) st103 ?_
  refine W.s1 (mkF m 12 #[.val (.ref ao), .val (.ref av)] [(.ref av), (.ref xr)]) (fun _ kx_ => XS.aloadN X103.here hx rfl (hb hby d11_11) rfl rfl kx_) ?_
  refine W.getf X103 hx hZ hown (host := "") (Or.inl (hw _ (List.mem_of_getElem? (i := 27) rfl))) Via.refl e103 f109 (hb hby d11_12) (pc' := 15) rfl (fun T113 X113 e113 => ?_)
  refine W.s1 (mkF m 16 #[.val (.ref ao), .val (.ref av)] [(.ref ao), (.ref dan), (.ref xr)]) (fun _ kx_ => XS.aloadN X113.here hx rfl (hb hby d11_15) rfl rfl kx_) ?_
  refine W.getf X113 hx hZ hown (host := "") (Or.inl (hw _ (List.mem_of_getElem? (i := 29) rfl))) Via.refl e113 f107 (hb hby d11_16) (pc' := 19) rfl (fun T114 X114 e114 => ?_)
  obtain ⟨cq115, kq115, q115a, q115b, q115c⟩ := isOf hZ e114 f112
  obtain ⟨_, _, ⟨T115, L115, k115, n115⟩, -, X115, ⟨Lc115, hQ115, l115, y115, z115⟩, st115⟩ := X114.virtualBack hx (y := (⟨"java/math/BigInteger", "multiply", "(Ljava/math/BigInteger;)Ljava/math/BigInteger;"⟩ : MethodName)) (z := (⟨"java/math/BigInteger", "multiply", "(Ljava/math/BigInteger;)Ljava/math/BigInteger;"⟩ : MethodName)) hown (mvT hZ (hw _ (List.mem_of_getElem? (i := 76) rfl))) (mvT hZ (hw _ (List.mem_of_getElem? (i := 77) rfl))) (notFace_of_selects (args := #[]) (mvT hZ (hw _ (List.mem_of_getElem? (i := 79) rfl)))) (mvT hZ (hw _ (List.mem_of_getElem? (i := 79) rfl))) (mvT hZ (hw _ (List.mem_of_getElem? (i := 78) rfl))) (by decide) (backOf (W := 1) (rm12 l Z a0 hw [] dan aO aZ nZ fZ zo fo s2 n2 f2 h103 n0 Z103 f104 S_ZERO HZ (dH.keep K8) (EO.ext f104.2) (FO1.ext f104.2) (FO2.ext f104.2) (AO.ext f104.2) hfo) hZ (hw _ (List.mem_of_getElem? (i := 80) rfl)) (hw _ (List.mem_of_getElem? (i := 16) rfl)) (by decide) (by decide)) q115a q115c (g := (mkF m 19 #[.val (.ref ao), .val (.ref av)] [(.ref aO), (.ref dan), (.ref xr)])) rfl (by rw [hml]; rfl) (Steps.refl _) (argsL := [(.ref aO)]) (rest := [(.ref xr)]) (lenOf pd_11 rfl) rfl (by show 2 * 0 + _ ≤ _; exact Nat.le_of_eq rfl) (hb hby d11_19) (fun _ _ => ⟨rfl, e114, (by decide : 2 + 2 ≤ _), (by decide : 8 + 8 ≤ _)⟩)
  dsimp only [Pt.U, Pt.locs, Pt.cells, Pt.slots] at X115 l115 y115 z115 st115 hQ115
  subst l115 y115 z115
  obtain ⟨h115, e115⟩ : ∃ z, T115.heap = z := ⟨_, rfl⟩
  rw [e115] at hQ115
  obtain ⟨yr, ys, yn, yf, rfl, Nq115, Kq115, Hy, hry⟩ := hQ115
  have N115 := Fr.app N103 Nq115
  have Z115 : n0 ≤ h115.size := Nat.le_trans Z103 Kq115.1
  have K115 : Keep h0 h115 [] := K103.trans Kq115 all0
  have f116 := f104.keep Kq115 all0
  have f117 := f105.keep Kq115
  have f118 := f106.keep Kq115 nin0
  have f119 := f107.keep Kq115 nin0
  have f120 := f108.keep Kq115
  have f121 := f109.keep Kq115 nin0
  have f122 := f110.keep Kq115 nin0
  have f123 := f111.keep Kq115
  have f124 := f112.keep Kq115
  have f125 := E_xr.keep Kq115
  have Hx' := Hx.keep Kq115
  have E_yr : Exa Z h115 yr "java/math/BigInteger" := by obtain ⟨_, q, _⟩ := Hy; exact q
  refine W.s3 (mkF m 22 #[.val (.ref ao), .val (.ref av)] [(.ref yr), (.ref xr)]) st115 ?_
  obtain ⟨cq126, kq126, q126a, q126b, q126c⟩ := isOf hZ e115 f125
  obtain ⟨_, _, ⟨T126, L126, k126, n126⟩, -, X126, ⟨Lc126, hQ126, l126, y126, z126⟩, st126⟩ := X115.virtualBack hx (y := (⟨"java/math/BigInteger", "compareTo", "(Ljava/math/BigInteger;)I"⟩ : MethodName)) (z := (⟨"java/math/BigInteger", "compareTo", "(Ljava/math/BigInteger;)I"⟩ : MethodName)) hown (mvT hZ (hw _ (List.mem_of_getElem? (i := 110) rfl))) (mvT hZ (hw _ (List.mem_of_getElem? (i := 111) rfl))) (notFace_of_selects (args := #[]) (mvT hZ (hw _ (List.mem_of_getElem? (i := 113) rfl)))) (mvT hZ (hw _ (List.mem_of_getElem? (i := 113) rfl))) (mvT hZ (hw _ (List.mem_of_getElem? (i := 112) rfl))) (by decide) (backOf (W := 0) (rm19 l Z a0 hw [] xr yr xs xn xf ys yn yf h115 n0 Z115 Hx' Hy) hZ (hw _ (List.mem_of_getElem? (i := 114) rfl)) (hw _ (List.mem_of_getElem? (i := 16) rfl)) (by decide) (by decide)) q126a q126c (g := (mkF m 22 #[.val (.ref ao), .val (.ref av)] [(.ref yr), (.ref xr)])) rfl (by rw [hml]; rfl) (Steps.refl _) (argsL := [(.ref yr)]) (rest := []) (lenOf pd_10 rfl) rfl (by show 2 * 0 + _ ≤ _; exact Nat.le_of_eq rfl) (hb hby d11_22) (fun _ _ => ⟨rfl, e115, (by decide : 4 + 0 ≤ _), (by decide : 16 + 0 ≤ _)⟩)
  dsimp only [Pt.U, Pt.locs, Pt.cells, Pt.slots] at X126 l126 y126 z126 st126 hQ126
  subst l126 y126 z126
  obtain ⟨rfl, Nq126, eq126⟩ := hQ126
  have N126 := Fr.app N115 Nq126
  refine W.s3 (mkF m 25 #[.val (.ref ao), .val (.ref av)] [(.int (own_cmp xs xn xf ys yn yf))]) st126 ?_
  exact W.retI X126 hx hlk Bd.returns (hb hby d11_25) (by show Q11 Z ao av aZ nZ fZ aO zo fo s1 n1 f1 s2 n2 f2 h0 n0 _ T126.heap _; rw [eq126]; exact ⟨by rw [own_cmpm hrx hry], N126, K115⟩) (by decide) (by decide)
theorem ef_10_0 (m : MethodId) (x0 : Addr) (x1 : Addr) (x2 : Addr) : entryFrame m #[(.ref x0), (.ref x1), (.ref x2)] 4 = mkF m 0 #[.val (.ref x0), .val (.ref x1), .val (.ref x2), .unset] [] := by first | (simp [entryFrame, mkF, argsToLocals, Value.category]; done) | rfl
theorem d10_0 : decode prog_76_method_5_code 0 = .ok (.aload_n 1, 1) := by decide +kernel
theorem d10_1 : decode prog_76_method_5_code 1 = .ok (.aload_n 2, 1) := by decide +kernel
theorem d10_2 : decode prog_76_method_5_code 2 = .ok (.invokevirtual 51, 3) := by decide +kernel
theorem pd_12 : parseMethodDescriptor "(Lcom/example/hybridge/hybridge/model/Rational;)I" = some ⟨[(.object "com/example/hybridge/hybridge/model/Rational")], some .int⟩ := by decide +kernel
theorem d10_5 : decode prog_76_method_5_code 5 = .ok (.istore_n 3, 1) := by decide +kernel
theorem d10_6 : decode prog_76_method_5_code 6 = .ok (.aload_n 0, 1) := by decide +kernel
theorem d10_7 : decode prog_76_method_5_code 7 = .ok (.invokevirtual 42, 3) := by decide +kernel
theorem d10_10 : decode prog_76_method_5_code 10 = .ok (.tableswitch 34 0 4 #[44, 56, 68, 80, 92], 34) := by decide +kernel
theorem d10_54 : decode prog_76_method_5_code 54 = .ok (.iload_n 3, 1) := by decide +kernel
theorem d10_55 : decode prog_76_method_5_code 55 = .ok (.ifCond .ge 7, 3) := by decide +kernel
theorem d10_62 : decode prog_76_method_5_code 62 = .ok (.iconst 0, 1) := by decide +kernel
theorem d10_63 : decode prog_76_method_5_code 63 = .ok (.goto 48, 3) := by decide +kernel
theorem d10_111 : decode prog_76_method_5_code 111 = .ok (.ireturn, 1) := by decide +kernel
theorem d10_58 : decode prog_76_method_5_code 58 = .ok (.iconst 1, 1) := by decide +kernel
theorem d10_59 : decode prog_76_method_5_code 59 = .ok (.goto 52, 3) := by decide +kernel
def Q10_0 (Z : State) (ar : Addr) (ao : Addr) (av : Addr) (aZ : Addr) (nZ : Nat) (fZ : Nat → Int32) (aO : Addr) (zo : Addr) (fo : Nat → Int32) (s1 : Int32) (n1 : Nat) (f1 : Nat → Int32) (s2 : Int32) (n2 : Nat) (f2 : Nat → Int32) (h0 : Heap) (n0 : Nat) (v : Option Value) (h : Heap) (L : List Loc) : Prop := ∃ r : Int32, v = some (.int r) ∧ Fr n0 L ∧ Keep h0 h [] ∧ ((r = 1 ∧ own_h 0 (own_cmp s1 n1 f1 s2 n2 f2)) ∨ (r = 0 ∧ ¬ own_h 0 (own_cmp s1 n1 f1 s2 n2 f2)))
set_option maxRecDepth 65536 in
set_option maxHeartbeats 40000000 in
theorem rm10_0 (l : Launch) (Z : State) (a0 : Array Value) (hw : ∀ d ∈ tables_1, d.before a0 Z = true) (ws : List Jvm.Cond) (ar : Addr) (ao : Addr) (av : Addr) (aZ : Addr) (nZ : Nat) (fZ : Nat → Int32) (aO : Addr) (zo : Addr) (fo : Nat → Int32) (s1 : Int32) (n1 : Nat) (f1 : Nat → Int32) (s2 : Int32) (n2 : Nat) (f2 : Nat → Int32) (h0 : Heap) (n0 : Nat) (Z0 : n0 ≤ h0.size) (O0 : Old Z n0 h0) (S_ZERO : Sta Z Z.heap "java/math/BigInteger" "ZERO" "Ljava/math/BigInteger;" (.ref aZ)) (HZ : own_BI Z Z.heap aZ 0 nZ fZ) (EO : Exa Z Z.heap aO "java/math/BigInteger") (FO1 : Fld Z Z.heap aO "java/math/BigInteger" "signum" "I" (.int 1)) (FO2 : Fld Z Z.heap aO "java/math/BigInteger" "mag" "[I" (.ref zo)) (AO : W.AI Z Z.heap zo .int 1 fo) (hfo : fo 0 = 1) (R1 : own_RA Z h0 ao aO s1 n1 f1) (R2 : own_RA Z h0 av aO s2 n2 f2) (Er : Exa Z h0 ar "com/example/hybridge/hybridge/model/Relation") (Fo : Fld Z h0 ar "java/lang/Enum" "ordinal" "I" (.int 0)) :
    MetFree l (⟨"com/example/hybridge/hybridge/model/Relation", "holds", "(Lcom/example/hybridge/hybridge/model/Rational;Lcom/example/hybridge/hybridge/model/Rational;)Z"⟩ : MethodName) (head1 (Jvm.Cond.code (⟨"com/example/hybridge/hybridge/model/Relation", "holds", "(Lcom/example/hybridge/hybridge/model/Rational;Lcom/example/hybridge/hybridge/model/Rational;)Z"⟩ : MethodName) prog_76_method_5_code 4 (some .boolean) :: ws) ({ frames := 7, cells := 4, slots := 16, locals := 112 } : Room)) (fun a U => a = #[(.ref ar), (.ref ao), (.ref av)] ∧ Z.Warmed39 U.vm ∧ U.heap = h0) (fun _ _ _ _ _ => True) (fun _ U o U' => ∃ v L, o = .returned v ∧ Q10_0 Z ar ao av aZ nZ fZ aO zo fo s1 n1 f1 s2 n2 f2 h0 n0 v U'.heap L ∧ FrameEnd U o U' L ({ frames := 7, cells := 4, slots := 16, locals := 112 } : Room).cells ({ frames := 7, cells := 4, slots := 16, locals := 112 } : Room).slots) := by
  refine MetFree.of_bodySF (plainFor_of_name pn_5) hisR ?_
  intro p e s m args below meth c s₁ Bd hml0 hP hK
  obtain ⟨rfl, hZ, hh⟩ := hP
  have hx := Bd.exec
  have hby := Bd.bytes
  have hml : c.maxLocals = 4 := hml0
  have hown : s.vm.findClass "com/example/hybridge/hybridge/model/Relation" = some m.cls := findClass_of_methodNamed Bd.named
  have hnm := (name_of_methodNamed Bd.named Bd.method).1
  have hlk : meth.locks = false := BodyLoose.notSynchronized Bd
  have X0 : Stand p l e ({ frames := 7, cells := 4, slots := 16, locals := 112 } : Room) s m #[(.ref ar), (.ref ao), (.ref av)] below meth c s₁ [] 0 0 := Stand.of_body Bd
  have e0 : s₁.heap = h0 := by rw [← hh, Bd.state]; rfl
  have N0 := Fr.nil n0
  show W.Gl p e below s (Q10_0 Z ar ao av aZ nZ fZ aO zo fo s1 n1 f1 s2 n2 f2 h0 n0) ({ frames := 7, cells := 4, slots := 16, locals := 112 } : Room).cells ({ frames := 7, cells := 4, slots := 16, locals := 112 } : Room).slots s₁ (entryFrame m #[(.ref ar), (.ref ao), (.ref av)] 4)
  refine W.cast (ef_10_0 m ar ao av) ?_
  have K0 : Keep h0 h0 [] := Keep.refl h0 []
  have Ea : Exa Z h0 ao "com/example/hybridge/hybridge/model/Rational" := by obtain ⟨_, q, _⟩ := R1; exact q
  refine W.s1 (mkF m 1 #[.val (.ref ar), .val (.ref ao), .val (.ref av), .unset] [(.ref ao)]) (fun _ kx_ => XS.aloadN X0.here hx rfl (hb hby d10_0) rfl rfl kx_) ?_
  refine W.s1 (mkF m 2 #[.val (.ref ar), .val (.ref ao), .val (.ref av), .unset] [(.ref av), (.ref ao)]) (fun _ kx_ => XS.aloadN X0.here hx rfl (hb hby d10_1) rfl rfl kx_) ?_
  obtain ⟨cq101, kq101, q101a, q101b, q101c⟩ := isOf hZ e0 Ea
  obtain ⟨_, _, ⟨T101, L101, k101, n101⟩, -, X101, ⟨Lc101, hQ101, l101, y101, z101⟩, st101⟩ := X0.virtualBack hx (y := (⟨"com/example/hybridge/hybridge/model/Rational", "compareTo", "(Lcom/example/hybridge/hybridge/model/Rational;)I"⟩ : MethodName)) (z := (⟨"com/example/hybridge/hybridge/model/Rational", "compareTo", "(Lcom/example/hybridge/hybridge/model/Rational;)I"⟩ : MethodName)) hown (mvT hZ (hw _ (List.mem_of_getElem? (i := 71) rfl))) (mvT hZ (hw _ (List.mem_of_getElem? (i := 72) rfl))) (notFace_of_selects (args := #[]) (mvT hZ (hw _ (List.mem_of_getElem? (i := 74) rfl)))) (mvT hZ (hw _ (List.mem_of_getElem? (i := 74) rfl))) (mvT hZ (hw _ (List.mem_of_getElem? (i := 73) rfl))) (by decide) (backOf (W := 0) (rm11 l Z a0 hw [] ao av aZ nZ fZ aO zo fo s1 n1 f1 s2 n2 f2 h0 n0 Z0 O0 S_ZERO HZ EO FO1 FO2 AO hfo R1 R2) hZ (hw _ (List.mem_of_getElem? (i := 75) rfl)) (hw _ (List.mem_of_getElem? (i := 10) rfl)) (by decide) (by decide)) q101a q101c (g := (mkF m 2 #[.val (.ref ar), .val (.ref ao), .val (.ref av), .unset] [(.ref av), (.ref ao)])) rfl (by rw [hml]; rfl) (Steps.refl _) (argsL := [(.ref av)]) (rest := []) (lenOf pd_12 rfl) rfl (by show 2 * 0 + _ ≤ _; exact Nat.le_of_eq rfl) (hb hby d10_2) (fun _ _ => ⟨rfl, e0, (by decide : 0 + 4 ≤ _), (by decide : 0 + 16 ≤ _)⟩)
  dsimp only [Pt.U, Pt.locs, Pt.cells, Pt.slots] at X101 l101 y101 z101 st101 hQ101
  subst l101 y101 z101
  obtain ⟨h101, e101⟩ : ∃ z, T101.heap = z := ⟨_, rfl⟩
  rw [e101] at hQ101
  obtain ⟨rfl, Nq101, Kq101⟩ := hQ101
  have N101 := Fr.app N0 Nq101
  have Z101 : n0 ≤ h101.size := Nat.le_trans Z0 Kq101.1
  have K101 : Keep h0 h101 [] := K0.trans Kq101 all0
  have f102 := Er.keep Kq101
  have f103 := Fo.keep Kq101 nin0
  have f104 := Ea.keep Kq101
  refine W.s3 (mkF m 5 #[.val (.ref ar), .val (.ref ao), .val (.ref av), .unset] [(.int (own_cmp s1 n1 f1 s2 n2 f2))]) st101 ?_
  generalize hg_xcc : (own_cmp s1 n1 f1 s2 n2 f2) = xcc
  refine W.s1 (mkF m 6 #[.val (.ref ar), .val (.ref ao), .val (.ref av), .val (.int xcc)] []) (fun _ kx_ => XS.istoreN X101.here hx rfl (hb hby d10_5) rfl (l' := #[.val (.ref ar), .val (.ref ao), .val (.ref av), .val (.int xcc)]) rfl kx_) ?_
  refine W.s1 (mkF m 7 #[.val (.ref ar), .val (.ref ao), .val (.ref av), .val (.int xcc)] [(.ref ar)]) (fun _ kx_ => XS.aloadN X101.here hx rfl (hb hby d10_6) rfl rfl kx_) ?_
  obtain ⟨cq105, kq105, q105a, q105b, q105c⟩ := isOf hZ e101 f102
  obtain ⟨_, _, ⟨T105, L105, k105, n105⟩, -, X105, ⟨Lc105, hQ105, l105, y105, z105⟩, st105⟩ := X101.virtualBackUp hx (x := (⟨"com/example/hybridge/hybridge/model/Relation", "ordinal", "()I"⟩ : MethodName)) (y := (⟨"java/lang/Enum", "ordinal", "()I"⟩ : MethodName)) (owner := "java/lang/Enum") hown (mvT hZ (hw _ (List.mem_of_getElem? (i := 55) rfl))) (mvT hZ (hw _ (List.mem_of_getElem? (i := 56) rfl))) (mvT hZ (hw _ (List.mem_of_getElem? (i := 57) rfl))) (by decide) (mvT hZ (hw _ (List.mem_of_getElem? (i := 59) rfl))) (mvT hZ (hw _ (List.mem_of_getElem? (i := 58) rfl))) (backOf (W := 0) (rm9 l Z a0 hw [] ar (0 : Int32) h101 n0 Z101 f103) hZ (hw _ (List.mem_of_getElem? (i := 61) rfl)) (hw _ (List.mem_of_getElem? (i := 60) rfl)) (by decide) (by decide)) q105a q105c (g := (mkF m 7 #[.val (.ref ar), .val (.ref ao), .val (.ref av), .val (.int xcc)] [(.ref ar)])) rfl (by rw [hml]; rfl) (Steps.refl _) (argsL := []) (rest := []) (lenOf pd_4 rfl) rfl (by show 2 * 0 + _ ≤ _; exact Nat.le_of_eq rfl) (hb hby d10_7) (fun _ _ => ⟨rfl, e101, (by decide : 4 + 0 ≤ _), (by decide : 16 + 0 ≤ _)⟩)
  dsimp only [Pt.U, Pt.locs, Pt.cells, Pt.slots] at X105 l105 y105 z105 st105 hQ105
  subst l105 y105 z105
  obtain ⟨rfl, Nq105, eq105⟩ := hQ105
  have N105 := Fr.app N101 Nq105
  refine W.s3 (mkF m 10 #[.val (.ref ar), .val (.ref ao), .val (.ref av), .val (.int xcc)] [(.int (0 : Int32))]) st105 ?_
  refine W.s1 (mkF m 54 #[.val (.ref ar), .val (.ref ao), .val (.ref av), .val (.int xcc)] []) (fun _ kx_ => XS.tswIn X105.here hx rfl (pc0 := 10) (pc' := 54) (o := 44) rfl (hb hby d10_10) rfl (by first | decide | decide +kernel) (by first | decide | decide +kernel) (by first | decide | decide +kernel) (by first | decide | decide +kernel) kx_) ?_
  refine W.s1 (mkF m 55 #[.val (.ref ar), .val (.ref ao), .val (.ref av), .val (.int xcc)] [(.int xcc)]) (fun _ kx_ => XS.iloadN X105.here hx rfl (hb hby d10_54) rfl kx_) ?_
  refine W.ifc X105 hx (hb hby d10_55) (pc' := 62) (pc'' := 58) (by decide) (by decide) rfl (fun (c55 : ¬ xcc < (0 : Int32)) => ?_) (fun (c55 : xcc < (0 : Int32)) => ?_)
  · refine W.s1 (mkF m 63 #[.val (.ref ar), .val (.ref ao), .val (.ref av), .val (.int xcc)] [(.int (0 : Int32))]) (fun _ kx_ => XS.iconst X105.here hx rfl (hb hby d10_62) kx_) ?_
    refine W.s1 (mkF m 111 #[.val (.ref ar), .val (.ref ao), .val (.ref av), .val (.int xcc)] [(.int (0 : Int32))]) (fun _ kx_ => XS.goto X105.here hx rfl (pc0 := 63) (pc' := 111) rfl (hb hby d10_63) (by decide) (by decide) kx_) ?_
    exact W.retZ X105 hx hlk (t := .boolean) (z' := (0 : Int32)) Bd.returns (by simp) (hb hby d10_111) rfl (by show Q10_0 Z ar ao av aZ nZ fZ aO zo fo s1 n1 f1 s2 n2 f2 h0 n0 _ T105.heap _; rw [eq105]; exact ⟨_, rfl, N105, K101, by rw [hg_xcc]; exact Or.inr ⟨rfl, c55⟩⟩) (by decide) (by decide)
  · refine W.s1 (mkF m 59 #[.val (.ref ar), .val (.ref ao), .val (.ref av), .val (.int xcc)] [(.int (1 : Int32))]) (fun _ kx_ => XS.iconst X105.here hx rfl (hb hby d10_58) kx_) ?_
    refine W.s1 (mkF m 111 #[.val (.ref ar), .val (.ref ao), .val (.ref av), .val (.int xcc)] [(.int (1 : Int32))]) (fun _ kx_ => XS.goto X105.here hx rfl (pc0 := 59) (pc' := 111) rfl (hb hby d10_59) (by decide) (by decide) kx_) ?_
    exact W.retZ X105 hx hlk (t := .boolean) (z' := (1 : Int32)) Bd.returns (by simp) (hb hby d10_111) rfl (by show Q10_0 Z ar ao av aZ nZ fZ aO zo fo s1 n1 f1 s2 n2 f2 h0 n0 _ T105.heap _; rw [eq105]; exact ⟨_, rfl, N105, K101, by rw [hg_xcc]; exact Or.inl ⟨rfl, c55⟩⟩) (by decide) (by decide)
theorem ef_10_1 (m : MethodId) (x0 : Addr) (x1 : Addr) (x2 : Addr) : entryFrame m #[(.ref x0), (.ref x1), (.ref x2)] 4 = mkF m 0 #[.val (.ref x0), .val (.ref x1), .val (.ref x2), .unset] [] := by first | (simp [entryFrame, mkF, argsToLocals, Value.category]; done) | rfl
theorem d10_66 : decode prog_76_method_5_code 66 = .ok (.iload_n 3, 1) := by decide +kernel
theorem d10_67 : decode prog_76_method_5_code 67 = .ok (.ifCond .gt 7, 3) := by decide +kernel
theorem d10_74 : decode prog_76_method_5_code 74 = .ok (.iconst 0, 1) := by decide +kernel
theorem d10_75 : decode prog_76_method_5_code 75 = .ok (.goto 36, 3) := by decide +kernel
theorem d10_70 : decode prog_76_method_5_code 70 = .ok (.iconst 1, 1) := by decide +kernel
theorem d10_71 : decode prog_76_method_5_code 71 = .ok (.goto 40, 3) := by decide +kernel
def Q10_1 (Z : State) (ar : Addr) (ao : Addr) (av : Addr) (aZ : Addr) (nZ : Nat) (fZ : Nat → Int32) (aO : Addr) (zo : Addr) (fo : Nat → Int32) (s1 : Int32) (n1 : Nat) (f1 : Nat → Int32) (s2 : Int32) (n2 : Nat) (f2 : Nat → Int32) (h0 : Heap) (n0 : Nat) (v : Option Value) (h : Heap) (L : List Loc) : Prop := ∃ r : Int32, v = some (.int r) ∧ Fr n0 L ∧ Keep h0 h [] ∧ ((r = 1 ∧ own_h 1 (own_cmp s1 n1 f1 s2 n2 f2)) ∨ (r = 0 ∧ ¬ own_h 1 (own_cmp s1 n1 f1 s2 n2 f2)))
set_option maxRecDepth 65536 in
set_option maxHeartbeats 40000000 in
theorem rm10_1 (l : Launch) (Z : State) (a0 : Array Value) (hw : ∀ d ∈ tables_1, d.before a0 Z = true) (ws : List Jvm.Cond) (ar : Addr) (ao : Addr) (av : Addr) (aZ : Addr) (nZ : Nat) (fZ : Nat → Int32) (aO : Addr) (zo : Addr) (fo : Nat → Int32) (s1 : Int32) (n1 : Nat) (f1 : Nat → Int32) (s2 : Int32) (n2 : Nat) (f2 : Nat → Int32) (h0 : Heap) (n0 : Nat) (Z0 : n0 ≤ h0.size) (O0 : Old Z n0 h0) (S_ZERO : Sta Z Z.heap "java/math/BigInteger" "ZERO" "Ljava/math/BigInteger;" (.ref aZ)) (HZ : own_BI Z Z.heap aZ 0 nZ fZ) (EO : Exa Z Z.heap aO "java/math/BigInteger") (FO1 : Fld Z Z.heap aO "java/math/BigInteger" "signum" "I" (.int 1)) (FO2 : Fld Z Z.heap aO "java/math/BigInteger" "mag" "[I" (.ref zo)) (AO : W.AI Z Z.heap zo .int 1 fo) (hfo : fo 0 = 1) (R1 : own_RA Z h0 ao aO s1 n1 f1) (R2 : own_RA Z h0 av aO s2 n2 f2) (Er : Exa Z h0 ar "com/example/hybridge/hybridge/model/Relation") (Fo : Fld Z h0 ar "java/lang/Enum" "ordinal" "I" (.int 1)) :
    MetFree l (⟨"com/example/hybridge/hybridge/model/Relation", "holds", "(Lcom/example/hybridge/hybridge/model/Rational;Lcom/example/hybridge/hybridge/model/Rational;)Z"⟩ : MethodName) (head1 (Jvm.Cond.code (⟨"com/example/hybridge/hybridge/model/Relation", "holds", "(Lcom/example/hybridge/hybridge/model/Rational;Lcom/example/hybridge/hybridge/model/Rational;)Z"⟩ : MethodName) prog_76_method_5_code 4 (some .boolean) :: ws) ({ frames := 7, cells := 4, slots := 16, locals := 112 } : Room)) (fun a U => a = #[(.ref ar), (.ref ao), (.ref av)] ∧ Z.Warmed39 U.vm ∧ U.heap = h0) (fun _ _ _ _ _ => True) (fun _ U o U' => ∃ v L, o = .returned v ∧ Q10_1 Z ar ao av aZ nZ fZ aO zo fo s1 n1 f1 s2 n2 f2 h0 n0 v U'.heap L ∧ FrameEnd U o U' L ({ frames := 7, cells := 4, slots := 16, locals := 112 } : Room).cells ({ frames := 7, cells := 4, slots := 16, locals := 112 } : Room).slots) := by
  refine MetFree.of_bodySF (plainFor_of_name pn_5) hisR ?_
  intro p e s m args below meth c s₁ Bd hml0 hP hK
  obtain ⟨rfl, hZ, hh⟩ := hP
  have hx := Bd.exec
  have hby := Bd.bytes
  have hml : c.maxLocals = 4 := hml0
  have hown : s.vm.findClass "com/example/hybridge/hybridge/model/Relation" = some m.cls := findClass_of_methodNamed Bd.named
  have hnm := (name_of_methodNamed Bd.named Bd.method).1
  have hlk : meth.locks = false := BodyLoose.notSynchronized Bd
  have X0 : Stand p l e ({ frames := 7, cells := 4, slots := 16, locals := 112 } : Room) s m #[(.ref ar), (.ref ao), (.ref av)] below meth c s₁ [] 0 0 := Stand.of_body Bd
  have e0 : s₁.heap = h0 := by rw [← hh, Bd.state]; rfl
  have N0 := Fr.nil n0
  show W.Gl p e below s (Q10_1 Z ar ao av aZ nZ fZ aO zo fo s1 n1 f1 s2 n2 f2 h0 n0) ({ frames := 7, cells := 4, slots := 16, locals := 112 } : Room).cells ({ frames := 7, cells := 4, slots := 16, locals := 112 } : Room).slots s₁ (entryFrame m #[(.ref ar), (.ref ao), (.ref av)] 4)
  refine W.cast (ef_10_1 m ar ao av) ?_
  have K0 : Keep h0 h0 [] := Keep.refl h0 []
  have Ea : Exa Z h0 ao "com/example/hybridge/hybridge/model/Rational" := by obtain ⟨_, q, _⟩ := R1; exact q
  refine W.s1 (mkF m 1 #[.val (.ref ar), .val (.ref ao), .val (.ref av), .unset] [(.ref ao)]) (fun _ kx_ => XS.aloadN X0.here hx rfl (hb hby d10_0) rfl rfl kx_) ?_
  refine W.s1 (mkF m 2 #[.val (.ref ar), .val (.ref ao), .val (.ref av), .unset] [(.ref av), (.ref ao)]) (fun _ kx_ => XS.aloadN X0.here hx rfl (hb hby d10_1) rfl rfl kx_) ?_
  obtain ⟨cq101, kq101, q101a, q101b, q101c⟩ := isOf hZ e0 Ea
  obtain ⟨_, _, ⟨T101, L101, k101, n101⟩, -, X101, ⟨Lc101, hQ101, l101, y101, z101⟩, st101⟩ := X0.virtualBack hx (y := (⟨"com/example/hybridge/hybridge/model/Rational", "compareTo", "(Lcom/example/hybridge/hybridge/model/Rational;)I"⟩ : MethodName)) (z := (⟨"com/example/hybridge/hybridge/model/Rational", "compareTo", "(Lcom/example/hybridge/hybridge/model/Rational;)I"⟩ : MethodName)) hown (mvT hZ (hw _ (List.mem_of_getElem? (i := 71) rfl))) (mvT hZ (hw _ (List.mem_of_getElem? (i := 72) rfl))) (notFace_of_selects (args := #[]) (mvT hZ (hw _ (List.mem_of_getElem? (i := 74) rfl)))) (mvT hZ (hw _ (List.mem_of_getElem? (i := 74) rfl))) (mvT hZ (hw _ (List.mem_of_getElem? (i := 73) rfl))) (by decide) (backOf (W := 0) (rm11 l Z a0 hw [] ao av aZ nZ fZ aO zo fo s1 n1 f1 s2 n2 f2 h0 n0 Z0 O0 S_ZERO HZ EO FO1 FO2 AO hfo R1 R2) hZ (hw _ (List.mem_of_getElem? (i := 75) rfl)) (hw _ (List.mem_of_getElem? (i := 10) rfl)) (by decide) (by decide)) q101a q101c (g := (mkF m 2 #[.val (.ref ar), .val (.ref ao), .val (.ref av), .unset] [(.ref av), (.ref ao)])) rfl (by rw [hml]; rfl) (Steps.refl _) (argsL := [(.ref av)]) (rest := []) (lenOf pd_12 rfl) rfl (by show 2 * 0 + _ ≤ _; exact Nat.le_of_eq rfl) (hb hby d10_2) (fun _ _ => ⟨rfl, e0, (by decide : 0 + 4 ≤ _), (by decide : 0 + 16 ≤ _)⟩)
  dsimp only [Pt.U, Pt.locs, Pt.cells, Pt.slots] at X101 l101 y101 z101 st101 hQ101
  subst l101 y101 z101
  obtain ⟨h101, e101⟩ : ∃ z, T101.heap = z := ⟨_, rfl⟩
  rw [e101] at hQ101
  obtain ⟨rfl, Nq101, Kq101⟩ := hQ101
  have N101 := Fr.app N0 Nq101
  have Z101 : n0 ≤ h101.size := Nat.le_trans Z0 Kq101.1
  have K101 : Keep h0 h101 [] := K0.trans Kq101 all0
  have f102 := Er.keep Kq101
  have f103 := Fo.keep Kq101 nin0
  have f104 := Ea.keep Kq101
  refine W.s3 (mkF m 5 #[.val (.ref ar), .val (.ref ao), .val (.ref av), .unset] [(.int (own_cmp s1 n1 f1 s2 n2 f2))]) st101 ?_
  generalize hg_xcc : (own_cmp s1 n1 f1 s2 n2 f2) = xcc
  refine W.s1 (mkF m 6 #[.val (.ref ar), .val (.ref ao), .val (.ref av), .val (.int xcc)] []) (fun _ kx_ => XS.istoreN X101.here hx rfl (hb hby d10_5) rfl (l' := #[.val (.ref ar), .val (.ref ao), .val (.ref av), .val (.int xcc)]) rfl kx_) ?_
  refine W.s1 (mkF m 7 #[.val (.ref ar), .val (.ref ao), .val (.ref av), .val (.int xcc)] [(.ref ar)]) (fun _ kx_ => XS.aloadN X101.here hx rfl (hb hby d10_6) rfl rfl kx_) ?_
  obtain ⟨cq105, kq105, q105a, q105b, q105c⟩ := isOf hZ e101 f102
  obtain ⟨_, _, ⟨T105, L105, k105, n105⟩, -, X105, ⟨Lc105, hQ105, l105, y105, z105⟩, st105⟩ := X101.virtualBackUp hx (x := (⟨"com/example/hybridge/hybridge/model/Relation", "ordinal", "()I"⟩ : MethodName)) (y := (⟨"java/lang/Enum", "ordinal", "()I"⟩ : MethodName)) (owner := "java/lang/Enum") hown (mvT hZ (hw _ (List.mem_of_getElem? (i := 55) rfl))) (mvT hZ (hw _ (List.mem_of_getElem? (i := 56) rfl))) (mvT hZ (hw _ (List.mem_of_getElem? (i := 57) rfl))) (by decide) (mvT hZ (hw _ (List.mem_of_getElem? (i := 59) rfl))) (mvT hZ (hw _ (List.mem_of_getElem? (i := 58) rfl))) (backOf (W := 0) (rm9 l Z a0 hw [] ar (1 : Int32) h101 n0 Z101 f103) hZ (hw _ (List.mem_of_getElem? (i := 61) rfl)) (hw _ (List.mem_of_getElem? (i := 60) rfl)) (by decide) (by decide)) q105a q105c (g := (mkF m 7 #[.val (.ref ar), .val (.ref ao), .val (.ref av), .val (.int xcc)] [(.ref ar)])) rfl (by rw [hml]; rfl) (Steps.refl _) (argsL := []) (rest := []) (lenOf pd_4 rfl) rfl (by show 2 * 0 + _ ≤ _; exact Nat.le_of_eq rfl) (hb hby d10_7) (fun _ _ => ⟨rfl, e101, (by decide : 4 + 0 ≤ _), (by decide : 16 + 0 ≤ _)⟩)
  dsimp only [Pt.U, Pt.locs, Pt.cells, Pt.slots] at X105 l105 y105 z105 st105 hQ105
  subst l105 y105 z105
  obtain ⟨rfl, Nq105, eq105⟩ := hQ105
  have N105 := Fr.app N101 Nq105
  refine W.s3 (mkF m 10 #[.val (.ref ar), .val (.ref ao), .val (.ref av), .val (.int xcc)] [(.int (1 : Int32))]) st105 ?_
  refine W.s1 (mkF m 66 #[.val (.ref ar), .val (.ref ao), .val (.ref av), .val (.int xcc)] []) (fun _ kx_ => XS.tswIn X105.here hx rfl (pc0 := 10) (pc' := 66) (o := 56) rfl (hb hby d10_10) rfl (by first | decide | decide +kernel) (by first | decide | decide +kernel) (by first | decide | decide +kernel) (by first | decide | decide +kernel) kx_) ?_
  refine W.s1 (mkF m 67 #[.val (.ref ar), .val (.ref ao), .val (.ref av), .val (.int xcc)] [(.int xcc)]) (fun _ kx_ => XS.iloadN X105.here hx rfl (hb hby d10_66) rfl kx_) ?_
  refine W.ifc X105 hx (hb hby d10_67) (pc' := 74) (pc'' := 70) (by decide) (by decide) rfl (fun (c67 : (0 : Int32) < xcc) => ?_) (fun (c67 : ¬ (0 : Int32) < xcc) => ?_)
  · refine W.s1 (mkF m 75 #[.val (.ref ar), .val (.ref ao), .val (.ref av), .val (.int xcc)] [(.int (0 : Int32))]) (fun _ kx_ => XS.iconst X105.here hx rfl (hb hby d10_74) kx_) ?_
    refine W.s1 (mkF m 111 #[.val (.ref ar), .val (.ref ao), .val (.ref av), .val (.int xcc)] [(.int (0 : Int32))]) (fun _ kx_ => XS.goto X105.here hx rfl (pc0 := 75) (pc' := 111) rfl (hb hby d10_75) (by decide) (by decide) kx_) ?_
    exact W.retZ X105 hx hlk (t := .boolean) (z' := (0 : Int32)) Bd.returns (by simp) (hb hby d10_111) rfl (by show Q10_1 Z ar ao av aZ nZ fZ aO zo fo s1 n1 f1 s2 n2 f2 h0 n0 _ T105.heap _; rw [eq105]; exact ⟨_, rfl, N105, K101, by rw [hg_xcc]; exact Or.inr ⟨rfl, (fun q => q c67)⟩⟩) (by decide) (by decide)
  · refine W.s1 (mkF m 71 #[.val (.ref ar), .val (.ref ao), .val (.ref av), .val (.int xcc)] [(.int (1 : Int32))]) (fun _ kx_ => XS.iconst X105.here hx rfl (hb hby d10_70) kx_) ?_
    refine W.s1 (mkF m 111 #[.val (.ref ar), .val (.ref ao), .val (.ref av), .val (.int xcc)] [(.int (1 : Int32))]) (fun _ kx_ => XS.goto X105.here hx rfl (pc0 := 71) (pc' := 111) rfl (hb hby d10_71) (by decide) (by decide) kx_) ?_
    exact W.retZ X105 hx hlk (t := .boolean) (z' := (1 : Int32)) Bd.returns (by simp) (hb hby d10_111) rfl (by show Q10_1 Z ar ao av aZ nZ fZ aO zo fo s1 n1 f1 s2 n2 f2 h0 n0 _ T105.heap _; rw [eq105]; exact ⟨_, rfl, N105, K101, by rw [hg_xcc]; exact Or.inl ⟨rfl, c67⟩⟩) (by decide) (by decide)
theorem ef_10_2 (m : MethodId) (x0 : Addr) (x1 : Addr) (x2 : Addr) : entryFrame m #[(.ref x0), (.ref x1), (.ref x2)] 4 = mkF m 0 #[.val (.ref x0), .val (.ref x1), .val (.ref x2), .unset] [] := by first | (simp [entryFrame, mkF, argsToLocals, Value.category]; done) | rfl
theorem d10_78 : decode prog_76_method_5_code 78 = .ok (.iload_n 3, 1) := by decide +kernel
theorem d10_79 : decode prog_76_method_5_code 79 = .ok (.ifCond .ne 7, 3) := by decide +kernel
theorem d10_86 : decode prog_76_method_5_code 86 = .ok (.iconst 0, 1) := by decide +kernel
theorem d10_87 : decode prog_76_method_5_code 87 = .ok (.goto 24, 3) := by decide +kernel
theorem d10_82 : decode prog_76_method_5_code 82 = .ok (.iconst 1, 1) := by decide +kernel
theorem d10_83 : decode prog_76_method_5_code 83 = .ok (.goto 28, 3) := by decide +kernel
def Q10_2 (Z : State) (ar : Addr) (ao : Addr) (av : Addr) (aZ : Addr) (nZ : Nat) (fZ : Nat → Int32) (aO : Addr) (zo : Addr) (fo : Nat → Int32) (s1 : Int32) (n1 : Nat) (f1 : Nat → Int32) (s2 : Int32) (n2 : Nat) (f2 : Nat → Int32) (h0 : Heap) (n0 : Nat) (v : Option Value) (h : Heap) (L : List Loc) : Prop := ∃ r : Int32, v = some (.int r) ∧ Fr n0 L ∧ Keep h0 h [] ∧ ((r = 1 ∧ own_h 2 (own_cmp s1 n1 f1 s2 n2 f2)) ∨ (r = 0 ∧ ¬ own_h 2 (own_cmp s1 n1 f1 s2 n2 f2)))
set_option maxRecDepth 65536 in
set_option maxHeartbeats 40000000 in
theorem rm10_2 (l : Launch) (Z : State) (a0 : Array Value) (hw : ∀ d ∈ tables_1, d.before a0 Z = true) (ws : List Jvm.Cond) (ar : Addr) (ao : Addr) (av : Addr) (aZ : Addr) (nZ : Nat) (fZ : Nat → Int32) (aO : Addr) (zo : Addr) (fo : Nat → Int32) (s1 : Int32) (n1 : Nat) (f1 : Nat → Int32) (s2 : Int32) (n2 : Nat) (f2 : Nat → Int32) (h0 : Heap) (n0 : Nat) (Z0 : n0 ≤ h0.size) (O0 : Old Z n0 h0) (S_ZERO : Sta Z Z.heap "java/math/BigInteger" "ZERO" "Ljava/math/BigInteger;" (.ref aZ)) (HZ : own_BI Z Z.heap aZ 0 nZ fZ) (EO : Exa Z Z.heap aO "java/math/BigInteger") (FO1 : Fld Z Z.heap aO "java/math/BigInteger" "signum" "I" (.int 1)) (FO2 : Fld Z Z.heap aO "java/math/BigInteger" "mag" "[I" (.ref zo)) (AO : W.AI Z Z.heap zo .int 1 fo) (hfo : fo 0 = 1) (R1 : own_RA Z h0 ao aO s1 n1 f1) (R2 : own_RA Z h0 av aO s2 n2 f2) (Er : Exa Z h0 ar "com/example/hybridge/hybridge/model/Relation") (Fo : Fld Z h0 ar "java/lang/Enum" "ordinal" "I" (.int 2)) :
    MetFree l (⟨"com/example/hybridge/hybridge/model/Relation", "holds", "(Lcom/example/hybridge/hybridge/model/Rational;Lcom/example/hybridge/hybridge/model/Rational;)Z"⟩ : MethodName) (head1 (Jvm.Cond.code (⟨"com/example/hybridge/hybridge/model/Relation", "holds", "(Lcom/example/hybridge/hybridge/model/Rational;Lcom/example/hybridge/hybridge/model/Rational;)Z"⟩ : MethodName) prog_76_method_5_code 4 (some .boolean) :: ws) ({ frames := 7, cells := 4, slots := 16, locals := 112 } : Room)) (fun a U => a = #[(.ref ar), (.ref ao), (.ref av)] ∧ Z.Warmed39 U.vm ∧ U.heap = h0) (fun _ _ _ _ _ => True) (fun _ U o U' => ∃ v L, o = .returned v ∧ Q10_2 Z ar ao av aZ nZ fZ aO zo fo s1 n1 f1 s2 n2 f2 h0 n0 v U'.heap L ∧ FrameEnd U o U' L ({ frames := 7, cells := 4, slots := 16, locals := 112 } : Room).cells ({ frames := 7, cells := 4, slots := 16, locals := 112 } : Room).slots) := by
  refine MetFree.of_bodySF (plainFor_of_name pn_5) hisR ?_
  intro p e s m args below meth c s₁ Bd hml0 hP hK
  obtain ⟨rfl, hZ, hh⟩ := hP
  have hx := Bd.exec
  have hby := Bd.bytes
  have hml : c.maxLocals = 4 := hml0
  have hown : s.vm.findClass "com/example/hybridge/hybridge/model/Relation" = some m.cls := findClass_of_methodNamed Bd.named
  have hnm := (name_of_methodNamed Bd.named Bd.method).1
  have hlk : meth.locks = false := BodyLoose.notSynchronized Bd
  have X0 : Stand p l e ({ frames := 7, cells := 4, slots := 16, locals := 112 } : Room) s m #[(.ref ar), (.ref ao), (.ref av)] below meth c s₁ [] 0 0 := Stand.of_body Bd
  have e0 : s₁.heap = h0 := by rw [← hh, Bd.state]; rfl
  have N0 := Fr.nil n0
  show W.Gl p e below s (Q10_2 Z ar ao av aZ nZ fZ aO zo fo s1 n1 f1 s2 n2 f2 h0 n0) ({ frames := 7, cells := 4, slots := 16, locals := 112 } : Room).cells ({ frames := 7, cells := 4, slots := 16, locals := 112 } : Room).slots s₁ (entryFrame m #[(.ref ar), (.ref ao), (.ref av)] 4)
  refine W.cast (ef_10_2 m ar ao av) ?_
  have K0 : Keep h0 h0 [] := Keep.refl h0 []
  have Ea : Exa Z h0 ao "com/example/hybridge/hybridge/model/Rational" := by obtain ⟨_, q, _⟩ := R1; exact q
  refine W.s1 (mkF m 1 #[.val (.ref ar), .val (.ref ao), .val (.ref av), .unset] [(.ref ao)]) (fun _ kx_ => XS.aloadN X0.here hx rfl (hb hby d10_0) rfl rfl kx_) ?_
  refine W.s1 (mkF m 2 #[.val (.ref ar), .val (.ref ao), .val (.ref av), .unset] [(.ref av), (.ref ao)]) (fun _ kx_ => XS.aloadN X0.here hx rfl (hb hby d10_1) rfl rfl kx_) ?_
  obtain ⟨cq101, kq101, q101a, q101b, q101c⟩ := isOf hZ e0 Ea
  obtain ⟨_, _, ⟨T101, L101, k101, n101⟩, -, X101, ⟨Lc101, hQ101, l101, y101, z101⟩, st101⟩ := X0.virtualBack hx (y := (⟨"com/example/hybridge/hybridge/model/Rational", "compareTo", "(Lcom/example/hybridge/hybridge/model/Rational;)I"⟩ : MethodName)) (z := (⟨"com/example/hybridge/hybridge/model/Rational", "compareTo", "(Lcom/example/hybridge/hybridge/model/Rational;)I"⟩ : MethodName)) hown (mvT hZ (hw _ (List.mem_of_getElem? (i := 71) rfl))) (mvT hZ (hw _ (List.mem_of_getElem? (i := 72) rfl))) (notFace_of_selects (args := #[]) (mvT hZ (hw _ (List.mem_of_getElem? (i := 74) rfl)))) (mvT hZ (hw _ (List.mem_of_getElem? (i := 74) rfl))) (mvT hZ (hw _ (List.mem_of_getElem? (i := 73) rfl))) (by decide) (backOf (W := 0) (rm11 l Z a0 hw [] ao av aZ nZ fZ aO zo fo s1 n1 f1 s2 n2 f2 h0 n0 Z0 O0 S_ZERO HZ EO FO1 FO2 AO hfo R1 R2) hZ (hw _ (List.mem_of_getElem? (i := 75) rfl)) (hw _ (List.mem_of_getElem? (i := 10) rfl)) (by decide) (by decide)) q101a q101c (g := (mkF m 2 #[.val (.ref ar), .val (.ref ao), .val (.ref av), .unset] [(.ref av), (.ref ao)])) rfl (by rw [hml]; rfl) (Steps.refl _) (argsL := [(.ref av)]) (rest := []) (lenOf pd_12 rfl) rfl (by show 2 * 0 + _ ≤ _; exact Nat.le_of_eq rfl) (hb hby d10_2) (fun _ _ => ⟨rfl, e0, (by decide : 0 + 4 ≤ _), (by decide : 0 + 16 ≤ _)⟩)
  dsimp only [Pt.U, Pt.locs, Pt.cells, Pt.slots] at X101 l101 y101 z101 st101 hQ101
  subst l101 y101 z101
  obtain ⟨h101, e101⟩ : ∃ z, T101.heap = z := ⟨_, rfl⟩
  rw [e101] at hQ101
  obtain ⟨rfl, Nq101, Kq101⟩ := hQ101
  have N101 := Fr.app N0 Nq101
  have Z101 : n0 ≤ h101.size := Nat.le_trans Z0 Kq101.1
  have K101 : Keep h0 h101 [] := K0.trans Kq101 all0
  have f102 := Er.keep Kq101
  have f103 := Fo.keep Kq101 nin0
  have f104 := Ea.keep Kq101
  refine W.s3 (mkF m 5 #[.val (.ref ar), .val (.ref ao), .val (.ref av), .unset] [(.int (own_cmp s1 n1 f1 s2 n2 f2))]) st101 ?_
  generalize hg_xcc : (own_cmp s1 n1 f1 s2 n2 f2) = xcc
  refine W.s1 (mkF m 6 #[.val (.ref ar), .val (.ref ao), .val (.ref av), .val (.int xcc)] []) (fun _ kx_ => XS.istoreN X101.here hx rfl (hb hby d10_5) rfl (l' := #[.val (.ref ar), .val (.ref ao), .val (.ref av), .val (.int xcc)]) rfl kx_) ?_
  refine W.s1 (mkF m 7 #[.val (.ref ar), .val (.ref ao), .val (.ref av), .val (.int xcc)] [(.ref ar)]) (fun _ kx_ => XS.aloadN X101.here hx rfl (hb hby d10_6) rfl rfl kx_) ?_
  obtain ⟨cq105, kq105, q105a, q105b, q105c⟩ := isOf hZ e101 f102
  obtain ⟨_, _, ⟨T105, L105, k105, n105⟩, -, X105, ⟨Lc105, hQ105, l105, y105, z105⟩, st105⟩ := X101.virtualBackUp hx (x := (⟨"com/example/hybridge/hybridge/model/Relation", "ordinal", "()I"⟩ : MethodName)) (y := (⟨"java/lang/Enum", "ordinal", "()I"⟩ : MethodName)) (owner := "java/lang/Enum") hown (mvT hZ (hw _ (List.mem_of_getElem? (i := 55) rfl))) (mvT hZ (hw _ (List.mem_of_getElem? (i := 56) rfl))) (mvT hZ (hw _ (List.mem_of_getElem? (i := 57) rfl))) (by decide) (mvT hZ (hw _ (List.mem_of_getElem? (i := 59) rfl))) (mvT hZ (hw _ (List.mem_of_getElem? (i := 58) rfl))) (backOf (W := 0) (rm9 l Z a0 hw [] ar (2 : Int32) h101 n0 Z101 f103) hZ (hw _ (List.mem_of_getElem? (i := 61) rfl)) (hw _ (List.mem_of_getElem? (i := 60) rfl)) (by decide) (by decide)) q105a q105c (g := (mkF m 7 #[.val (.ref ar), .val (.ref ao), .val (.ref av), .val (.int xcc)] [(.ref ar)])) rfl (by rw [hml]; rfl) (Steps.refl _) (argsL := []) (rest := []) (lenOf pd_4 rfl) rfl (by show 2 * 0 + _ ≤ _; exact Nat.le_of_eq rfl) (hb hby d10_7) (fun _ _ => ⟨rfl, e101, (by decide : 4 + 0 ≤ _), (by decide : 16 + 0 ≤ _)⟩)
  dsimp only [Pt.U, Pt.locs, Pt.cells, Pt.slots] at X105 l105 y105 z105 st105 hQ105
  subst l105 y105 z105
  obtain ⟨rfl, Nq105, eq105⟩ := hQ105
  have N105 := Fr.app N101 Nq105
  refine W.s3 (mkF m 10 #[.val (.ref ar), .val (.ref ao), .val (.ref av), .val (.int xcc)] [(.int (2 : Int32))]) st105 ?_
  refine W.s1 (mkF m 78 #[.val (.ref ar), .val (.ref ao), .val (.ref av), .val (.int xcc)] []) (fun _ kx_ => XS.tswIn X105.here hx rfl (pc0 := 10) (pc' := 78) (o := 68) rfl (hb hby d10_10) rfl (by first | decide | decide +kernel) (by first | decide | decide +kernel) (by first | decide | decide +kernel) (by first | decide | decide +kernel) kx_) ?_
  refine W.s1 (mkF m 79 #[.val (.ref ar), .val (.ref ao), .val (.ref av), .val (.int xcc)] [(.int xcc)]) (fun _ kx_ => XS.iloadN X105.here hx rfl (hb hby d10_78) rfl kx_) ?_
  refine W.ifc X105 hx (hb hby d10_79) (pc' := 86) (pc'' := 82) (by decide) (by decide) rfl (fun (c79 : ¬ xcc = (0 : Int32)) => ?_) (fun (c79 : xcc = (0 : Int32)) => ?_)
  · refine W.s1 (mkF m 87 #[.val (.ref ar), .val (.ref ao), .val (.ref av), .val (.int xcc)] [(.int (0 : Int32))]) (fun _ kx_ => XS.iconst X105.here hx rfl (hb hby d10_86) kx_) ?_
    refine W.s1 (mkF m 111 #[.val (.ref ar), .val (.ref ao), .val (.ref av), .val (.int xcc)] [(.int (0 : Int32))]) (fun _ kx_ => XS.goto X105.here hx rfl (pc0 := 87) (pc' := 111) rfl (hb hby d10_87) (by decide) (by decide) kx_) ?_
    exact W.retZ X105 hx hlk (t := .boolean) (z' := (0 : Int32)) Bd.returns (by simp) (hb hby d10_111) rfl (by show Q10_2 Z ar ao av aZ nZ fZ aO zo fo s1 n1 f1 s2 n2 f2 h0 n0 _ T105.heap _; rw [eq105]; exact ⟨_, rfl, N105, K101, by rw [hg_xcc]; exact Or.inr ⟨rfl, c79⟩⟩) (by decide) (by decide)
  · refine W.s1 (mkF m 83 #[.val (.ref ar), .val (.ref ao), .val (.ref av), .val (.int xcc)] [(.int (1 : Int32))]) (fun _ kx_ => XS.iconst X105.here hx rfl (hb hby d10_82) kx_) ?_
    refine W.s1 (mkF m 111 #[.val (.ref ar), .val (.ref ao), .val (.ref av), .val (.int xcc)] [(.int (1 : Int32))]) (fun _ kx_ => XS.goto X105.here hx rfl (pc0 := 83) (pc' := 111) rfl (hb hby d10_83) (by decide) (by decide) kx_) ?_
    exact W.retZ X105 hx hlk (t := .boolean) (z' := (1 : Int32)) Bd.returns (by simp) (hb hby d10_111) rfl (by show Q10_2 Z ar ao av aZ nZ fZ aO zo fo s1 n1 f1 s2 n2 f2 h0 n0 _ T105.heap _; rw [eq105]; exact ⟨_, rfl, N105, K101, by rw [hg_xcc]; exact Or.inl ⟨rfl, c79⟩⟩) (by decide) (by decide)
theorem ef_10_3 (m : MethodId) (x0 : Addr) (x1 : Addr) (x2 : Addr) : entryFrame m #[(.ref x0), (.ref x1), (.ref x2)] 4 = mkF m 0 #[.val (.ref x0), .val (.ref x1), .val (.ref x2), .unset] [] := by first | (simp [entryFrame, mkF, argsToLocals, Value.category]; done) | rfl
theorem d10_90 : decode prog_76_method_5_code 90 = .ok (.iload_n 3, 1) := by decide +kernel
theorem d10_91 : decode prog_76_method_5_code 91 = .ok (.ifCond .lt 7, 3) := by decide +kernel
theorem d10_98 : decode prog_76_method_5_code 98 = .ok (.iconst 0, 1) := by decide +kernel
theorem d10_99 : decode prog_76_method_5_code 99 = .ok (.goto 12, 3) := by decide +kernel
theorem d10_94 : decode prog_76_method_5_code 94 = .ok (.iconst 1, 1) := by decide +kernel
theorem d10_95 : decode prog_76_method_5_code 95 = .ok (.goto 16, 3) := by decide +kernel
def Q10_3 (Z : State) (ar : Addr) (ao : Addr) (av : Addr) (aZ : Addr) (nZ : Nat) (fZ : Nat → Int32) (aO : Addr) (zo : Addr) (fo : Nat → Int32) (s1 : Int32) (n1 : Nat) (f1 : Nat → Int32) (s2 : Int32) (n2 : Nat) (f2 : Nat → Int32) (h0 : Heap) (n0 : Nat) (v : Option Value) (h : Heap) (L : List Loc) : Prop := ∃ r : Int32, v = some (.int r) ∧ Fr n0 L ∧ Keep h0 h [] ∧ ((r = 1 ∧ own_h 3 (own_cmp s1 n1 f1 s2 n2 f2)) ∨ (r = 0 ∧ ¬ own_h 3 (own_cmp s1 n1 f1 s2 n2 f2)))
set_option maxRecDepth 65536 in
set_option maxHeartbeats 40000000 in
theorem rm10_3 (l : Launch) (Z : State) (a0 : Array Value) (hw : ∀ d ∈ tables_1, d.before a0 Z = true) (ws : List Jvm.Cond) (ar : Addr) (ao : Addr) (av : Addr) (aZ : Addr) (nZ : Nat) (fZ : Nat → Int32) (aO : Addr) (zo : Addr) (fo : Nat → Int32) (s1 : Int32) (n1 : Nat) (f1 : Nat → Int32) (s2 : Int32) (n2 : Nat) (f2 : Nat → Int32) (h0 : Heap) (n0 : Nat) (Z0 : n0 ≤ h0.size) (O0 : Old Z n0 h0) (S_ZERO : Sta Z Z.heap "java/math/BigInteger" "ZERO" "Ljava/math/BigInteger;" (.ref aZ)) (HZ : own_BI Z Z.heap aZ 0 nZ fZ) (EO : Exa Z Z.heap aO "java/math/BigInteger") (FO1 : Fld Z Z.heap aO "java/math/BigInteger" "signum" "I" (.int 1)) (FO2 : Fld Z Z.heap aO "java/math/BigInteger" "mag" "[I" (.ref zo)) (AO : W.AI Z Z.heap zo .int 1 fo) (hfo : fo 0 = 1) (R1 : own_RA Z h0 ao aO s1 n1 f1) (R2 : own_RA Z h0 av aO s2 n2 f2) (Er : Exa Z h0 ar "com/example/hybridge/hybridge/model/Relation") (Fo : Fld Z h0 ar "java/lang/Enum" "ordinal" "I" (.int 3)) :
    MetFree l (⟨"com/example/hybridge/hybridge/model/Relation", "holds", "(Lcom/example/hybridge/hybridge/model/Rational;Lcom/example/hybridge/hybridge/model/Rational;)Z"⟩ : MethodName) (head1 (Jvm.Cond.code (⟨"com/example/hybridge/hybridge/model/Relation", "holds", "(Lcom/example/hybridge/hybridge/model/Rational;Lcom/example/hybridge/hybridge/model/Rational;)Z"⟩ : MethodName) prog_76_method_5_code 4 (some .boolean) :: ws) ({ frames := 7, cells := 4, slots := 16, locals := 112 } : Room)) (fun a U => a = #[(.ref ar), (.ref ao), (.ref av)] ∧ Z.Warmed39 U.vm ∧ U.heap = h0) (fun _ _ _ _ _ => True) (fun _ U o U' => ∃ v L, o = .returned v ∧ Q10_3 Z ar ao av aZ nZ fZ aO zo fo s1 n1 f1 s2 n2 f2 h0 n0 v U'.heap L ∧ FrameEnd U o U' L ({ frames := 7, cells := 4, slots := 16, locals := 112 } : Room).cells ({ frames := 7, cells := 4, slots := 16, locals := 112 } : Room).slots) := by
  refine MetFree.of_bodySF (plainFor_of_name pn_5) hisR ?_
  intro p e s m args below meth c s₁ Bd hml0 hP hK
  obtain ⟨rfl, hZ, hh⟩ := hP
  have hx := Bd.exec
  have hby := Bd.bytes
  have hml : c.maxLocals = 4 := hml0
  have hown : s.vm.findClass "com/example/hybridge/hybridge/model/Relation" = some m.cls := findClass_of_methodNamed Bd.named
  have hnm := (name_of_methodNamed Bd.named Bd.method).1
  have hlk : meth.locks = false := BodyLoose.notSynchronized Bd
  have X0 : Stand p l e ({ frames := 7, cells := 4, slots := 16, locals := 112 } : Room) s m #[(.ref ar), (.ref ao), (.ref av)] below meth c s₁ [] 0 0 := Stand.of_body Bd
  have e0 : s₁.heap = h0 := by rw [← hh, Bd.state]; rfl
  have N0 := Fr.nil n0
  show W.Gl p e below s (Q10_3 Z ar ao av aZ nZ fZ aO zo fo s1 n1 f1 s2 n2 f2 h0 n0) ({ frames := 7, cells := 4, slots := 16, locals := 112 } : Room).cells ({ frames := 7, cells := 4, slots := 16, locals := 112 } : Room).slots s₁ (entryFrame m #[(.ref ar), (.ref ao), (.ref av)] 4)
  refine W.cast (ef_10_3 m ar ao av) ?_
  have K0 : Keep h0 h0 [] := Keep.refl h0 []
  have Ea : Exa Z h0 ao "com/example/hybridge/hybridge/model/Rational" := by obtain ⟨_, q, _⟩ := R1; exact q
  refine W.s1 (mkF m 1 #[.val (.ref ar), .val (.ref ao), .val (.ref av), .unset] [(.ref ao)]) (fun _ kx_ => XS.aloadN X0.here hx rfl (hb hby d10_0) rfl rfl kx_) ?_
  refine W.s1 (mkF m 2 #[.val (.ref ar), .val (.ref ao), .val (.ref av), .unset] [(.ref av), (.ref ao)]) (fun _ kx_ => XS.aloadN X0.here hx rfl (hb hby d10_1) rfl rfl kx_) ?_
  obtain ⟨cq101, kq101, q101a, q101b, q101c⟩ := isOf hZ e0 Ea
  obtain ⟨_, _, ⟨T101, L101, k101, n101⟩, -, X101, ⟨Lc101, hQ101, l101, y101, z101⟩, st101⟩ := X0.virtualBack hx (y := (⟨"com/example/hybridge/hybridge/model/Rational", "compareTo", "(Lcom/example/hybridge/hybridge/model/Rational;)I"⟩ : MethodName)) (z := (⟨"com/example/hybridge/hybridge/model/Rational", "compareTo", "(Lcom/example/hybridge/hybridge/model/Rational;)I"⟩ : MethodName)) hown (mvT hZ (hw _ (List.mem_of_getElem? (i := 71) rfl))) (mvT hZ (hw _ (List.mem_of_getElem? (i := 72) rfl))) (notFace_of_selects (args := #[]) (mvT hZ (hw _ (List.mem_of_getElem? (i := 74) rfl)))) (mvT hZ (hw _ (List.mem_of_getElem? (i := 74) rfl))) (mvT hZ (hw _ (List.mem_of_getElem? (i := 73) rfl))) (by decide) (backOf (W := 0) (rm11 l Z a0 hw [] ao av aZ nZ fZ aO zo fo s1 n1 f1 s2 n2 f2 h0 n0 Z0 O0 S_ZERO HZ EO FO1 FO2 AO hfo R1 R2) hZ (hw _ (List.mem_of_getElem? (i := 75) rfl)) (hw _ (List.mem_of_getElem? (i := 10) rfl)) (by decide) (by decide)) q101a q101c (g := (mkF m 2 #[.val (.ref ar), .val (.ref ao), .val (.ref av), .unset] [(.ref av), (.ref ao)])) rfl (by rw [hml]; rfl) (Steps.refl _) (argsL := [(.ref av)]) (rest := []) (lenOf pd_12 rfl) rfl (by show 2 * 0 + _ ≤ _; exact Nat.le_of_eq rfl) (hb hby d10_2) (fun _ _ => ⟨rfl, e0, (by decide : 0 + 4 ≤ _), (by decide : 0 + 16 ≤ _)⟩)
  dsimp only [Pt.U, Pt.locs, Pt.cells, Pt.slots] at X101 l101 y101 z101 st101 hQ101
  subst l101 y101 z101
  obtain ⟨h101, e101⟩ : ∃ z, T101.heap = z := ⟨_, rfl⟩
  rw [e101] at hQ101
  obtain ⟨rfl, Nq101, Kq101⟩ := hQ101
  have N101 := Fr.app N0 Nq101
  have Z101 : n0 ≤ h101.size := Nat.le_trans Z0 Kq101.1
  have K101 : Keep h0 h101 [] := K0.trans Kq101 all0
  have f102 := Er.keep Kq101
  have f103 := Fo.keep Kq101 nin0
  have f104 := Ea.keep Kq101
  refine W.s3 (mkF m 5 #[.val (.ref ar), .val (.ref ao), .val (.ref av), .unset] [(.int (own_cmp s1 n1 f1 s2 n2 f2))]) st101 ?_
  generalize hg_xcc : (own_cmp s1 n1 f1 s2 n2 f2) = xcc
  refine W.s1 (mkF m 6 #[.val (.ref ar), .val (.ref ao), .val (.ref av), .val (.int xcc)] []) (fun _ kx_ => XS.istoreN X101.here hx rfl (hb hby d10_5) rfl (l' := #[.val (.ref ar), .val (.ref ao), .val (.ref av), .val (.int xcc)]) rfl kx_) ?_
  refine W.s1 (mkF m 7 #[.val (.ref ar), .val (.ref ao), .val (.ref av), .val (.int xcc)] [(.ref ar)]) (fun _ kx_ => XS.aloadN X101.here hx rfl (hb hby d10_6) rfl rfl kx_) ?_
  obtain ⟨cq105, kq105, q105a, q105b, q105c⟩ := isOf hZ e101 f102
  obtain ⟨_, _, ⟨T105, L105, k105, n105⟩, -, X105, ⟨Lc105, hQ105, l105, y105, z105⟩, st105⟩ := X101.virtualBackUp hx (x := (⟨"com/example/hybridge/hybridge/model/Relation", "ordinal", "()I"⟩ : MethodName)) (y := (⟨"java/lang/Enum", "ordinal", "()I"⟩ : MethodName)) (owner := "java/lang/Enum") hown (mvT hZ (hw _ (List.mem_of_getElem? (i := 55) rfl))) (mvT hZ (hw _ (List.mem_of_getElem? (i := 56) rfl))) (mvT hZ (hw _ (List.mem_of_getElem? (i := 57) rfl))) (by decide) (mvT hZ (hw _ (List.mem_of_getElem? (i := 59) rfl))) (mvT hZ (hw _ (List.mem_of_getElem? (i := 58) rfl))) (backOf (W := 0) (rm9 l Z a0 hw [] ar (3 : Int32) h101 n0 Z101 f103) hZ (hw _ (List.mem_of_getElem? (i := 61) rfl)) (hw _ (List.mem_of_getElem? (i := 60) rfl)) (by decide) (by decide)) q105a q105c (g := (mkF m 7 #[.val (.ref ar), .val (.ref ao), .val (.ref av), .val (.int xcc)] [(.ref ar)])) rfl (by rw [hml]; rfl) (Steps.refl _) (argsL := []) (rest := []) (lenOf pd_4 rfl) rfl (by show 2 * 0 + _ ≤ _; exact Nat.le_of_eq rfl) (hb hby d10_7) (fun _ _ => ⟨rfl, e101, (by decide : 4 + 0 ≤ _), (by decide : 16 + 0 ≤ _)⟩)
  dsimp only [Pt.U, Pt.locs, Pt.cells, Pt.slots] at X105 l105 y105 z105 st105 hQ105
  subst l105 y105 z105
  obtain ⟨rfl, Nq105, eq105⟩ := hQ105
  have N105 := Fr.app N101 Nq105
  refine W.s3 (mkF m 10 #[.val (.ref ar), .val (.ref ao), .val (.ref av), .val (.int xcc)] [(.int (3 : Int32))]) st105 ?_
  refine W.s1 (mkF m 90 #[.val (.ref ar), .val (.ref ao), .val (.ref av), .val (.int xcc)] []) (fun _ kx_ => XS.tswIn X105.here hx rfl (pc0 := 10) (pc' := 90) (o := 80) rfl (hb hby d10_10) rfl (by first | decide | decide +kernel) (by first | decide | decide +kernel) (by first | decide | decide +kernel) (by first | decide | decide +kernel) kx_) ?_
  refine W.s1 (mkF m 91 #[.val (.ref ar), .val (.ref ao), .val (.ref av), .val (.int xcc)] [(.int xcc)]) (fun _ kx_ => XS.iloadN X105.here hx rfl (hb hby d10_90) rfl kx_) ?_
  refine W.ifc X105 hx (hb hby d10_91) (pc' := 98) (pc'' := 94) (by decide) (by decide) rfl (fun (c91 : xcc < (0 : Int32)) => ?_) (fun (c91 : ¬ xcc < (0 : Int32)) => ?_)
  · refine W.s1 (mkF m 99 #[.val (.ref ar), .val (.ref ao), .val (.ref av), .val (.int xcc)] [(.int (0 : Int32))]) (fun _ kx_ => XS.iconst X105.here hx rfl (hb hby d10_98) kx_) ?_
    refine W.s1 (mkF m 111 #[.val (.ref ar), .val (.ref ao), .val (.ref av), .val (.int xcc)] [(.int (0 : Int32))]) (fun _ kx_ => XS.goto X105.here hx rfl (pc0 := 99) (pc' := 111) rfl (hb hby d10_99) (by decide) (by decide) kx_) ?_
    exact W.retZ X105 hx hlk (t := .boolean) (z' := (0 : Int32)) Bd.returns (by simp) (hb hby d10_111) rfl (by show Q10_3 Z ar ao av aZ nZ fZ aO zo fo s1 n1 f1 s2 n2 f2 h0 n0 _ T105.heap _; rw [eq105]; exact ⟨_, rfl, N105, K101, by rw [hg_xcc]; exact Or.inr ⟨rfl, (fun q => q c91)⟩⟩) (by decide) (by decide)
  · refine W.s1 (mkF m 95 #[.val (.ref ar), .val (.ref ao), .val (.ref av), .val (.int xcc)] [(.int (1 : Int32))]) (fun _ kx_ => XS.iconst X105.here hx rfl (hb hby d10_94) kx_) ?_
    refine W.s1 (mkF m 111 #[.val (.ref ar), .val (.ref ao), .val (.ref av), .val (.int xcc)] [(.int (1 : Int32))]) (fun _ kx_ => XS.goto X105.here hx rfl (pc0 := 95) (pc' := 111) rfl (hb hby d10_95) (by decide) (by decide) kx_) ?_
    exact W.retZ X105 hx hlk (t := .boolean) (z' := (1 : Int32)) Bd.returns (by simp) (hb hby d10_111) rfl (by show Q10_3 Z ar ao av aZ nZ fZ aO zo fo s1 n1 f1 s2 n2 f2 h0 n0 _ T105.heap _; rw [eq105]; exact ⟨_, rfl, N105, K101, by rw [hg_xcc]; exact Or.inl ⟨rfl, c91⟩⟩) (by decide) (by decide)
theorem ef_10_4 (m : MethodId) (x0 : Addr) (x1 : Addr) (x2 : Addr) : entryFrame m #[(.ref x0), (.ref x1), (.ref x2)] 4 = mkF m 0 #[.val (.ref x0), .val (.ref x1), .val (.ref x2), .unset] [] := by first | (simp [entryFrame, mkF, argsToLocals, Value.category]; done) | rfl
theorem d10_102 : decode prog_76_method_5_code 102 = .ok (.iload_n 3, 1) := by decide +kernel
theorem d10_103 : decode prog_76_method_5_code 103 = .ok (.ifCond .le 7, 3) := by decide +kernel
theorem d10_110 : decode prog_76_method_5_code 110 = .ok (.iconst 0, 1) := by decide +kernel
theorem d10_106 : decode prog_76_method_5_code 106 = .ok (.iconst 1, 1) := by decide +kernel
theorem d10_107 : decode prog_76_method_5_code 107 = .ok (.goto 4, 3) := by decide +kernel
def Q10_4 (Z : State) (ar : Addr) (ao : Addr) (av : Addr) (aZ : Addr) (nZ : Nat) (fZ : Nat → Int32) (aO : Addr) (zo : Addr) (fo : Nat → Int32) (s1 : Int32) (n1 : Nat) (f1 : Nat → Int32) (s2 : Int32) (n2 : Nat) (f2 : Nat → Int32) (h0 : Heap) (n0 : Nat) (v : Option Value) (h : Heap) (L : List Loc) : Prop := ∃ r : Int32, v = some (.int r) ∧ Fr n0 L ∧ Keep h0 h [] ∧ ((r = 1 ∧ own_h 4 (own_cmp s1 n1 f1 s2 n2 f2)) ∨ (r = 0 ∧ ¬ own_h 4 (own_cmp s1 n1 f1 s2 n2 f2)))
set_option maxRecDepth 65536 in
set_option maxHeartbeats 40000000 in
theorem rm10_4 (l : Launch) (Z : State) (a0 : Array Value) (hw : ∀ d ∈ tables_1, d.before a0 Z = true) (ws : List Jvm.Cond) (ar : Addr) (ao : Addr) (av : Addr) (aZ : Addr) (nZ : Nat) (fZ : Nat → Int32) (aO : Addr) (zo : Addr) (fo : Nat → Int32) (s1 : Int32) (n1 : Nat) (f1 : Nat → Int32) (s2 : Int32) (n2 : Nat) (f2 : Nat → Int32) (h0 : Heap) (n0 : Nat) (Z0 : n0 ≤ h0.size) (O0 : Old Z n0 h0) (S_ZERO : Sta Z Z.heap "java/math/BigInteger" "ZERO" "Ljava/math/BigInteger;" (.ref aZ)) (HZ : own_BI Z Z.heap aZ 0 nZ fZ) (EO : Exa Z Z.heap aO "java/math/BigInteger") (FO1 : Fld Z Z.heap aO "java/math/BigInteger" "signum" "I" (.int 1)) (FO2 : Fld Z Z.heap aO "java/math/BigInteger" "mag" "[I" (.ref zo)) (AO : W.AI Z Z.heap zo .int 1 fo) (hfo : fo 0 = 1) (R1 : own_RA Z h0 ao aO s1 n1 f1) (R2 : own_RA Z h0 av aO s2 n2 f2) (Er : Exa Z h0 ar "com/example/hybridge/hybridge/model/Relation") (Fo : Fld Z h0 ar "java/lang/Enum" "ordinal" "I" (.int 4)) :
    MetFree l (⟨"com/example/hybridge/hybridge/model/Relation", "holds", "(Lcom/example/hybridge/hybridge/model/Rational;Lcom/example/hybridge/hybridge/model/Rational;)Z"⟩ : MethodName) (head1 (Jvm.Cond.code (⟨"com/example/hybridge/hybridge/model/Relation", "holds", "(Lcom/example/hybridge/hybridge/model/Rational;Lcom/example/hybridge/hybridge/model/Rational;)Z"⟩ : MethodName) prog_76_method_5_code 4 (some .boolean) :: ws) ({ frames := 7, cells := 4, slots := 16, locals := 112 } : Room)) (fun a U => a = #[(.ref ar), (.ref ao), (.ref av)] ∧ Z.Warmed39 U.vm ∧ U.heap = h0) (fun _ _ _ _ _ => True) (fun _ U o U' => ∃ v L, o = .returned v ∧ Q10_4 Z ar ao av aZ nZ fZ aO zo fo s1 n1 f1 s2 n2 f2 h0 n0 v U'.heap L ∧ FrameEnd U o U' L ({ frames := 7, cells := 4, slots := 16, locals := 112 } : Room).cells ({ frames := 7, cells := 4, slots := 16, locals := 112 } : Room).slots) := by
  refine MetFree.of_bodySF (plainFor_of_name pn_5) hisR ?_
  intro p e s m args below meth c s₁ Bd hml0 hP hK
  obtain ⟨rfl, hZ, hh⟩ := hP
  have hx := Bd.exec
  have hby := Bd.bytes
  have hml : c.maxLocals = 4 := hml0
  have hown : s.vm.findClass "com/example/hybridge/hybridge/model/Relation" = some m.cls := findClass_of_methodNamed Bd.named
  have hnm := (name_of_methodNamed Bd.named Bd.method).1
  have hlk : meth.locks = false := BodyLoose.notSynchronized Bd
  have X0 : Stand p l e ({ frames := 7, cells := 4, slots := 16, locals := 112 } : Room) s m #[(.ref ar), (.ref ao), (.ref av)] below meth c s₁ [] 0 0 := Stand.of_body Bd
  have e0 : s₁.heap = h0 := by rw [← hh, Bd.state]; rfl
  have N0 := Fr.nil n0
  show W.Gl p e below s (Q10_4 Z ar ao av aZ nZ fZ aO zo fo s1 n1 f1 s2 n2 f2 h0 n0) ({ frames := 7, cells := 4, slots := 16, locals := 112 } : Room).cells ({ frames := 7, cells := 4, slots := 16, locals := 112 } : Room).slots s₁ (entryFrame m #[(.ref ar), (.ref ao), (.ref av)] 4)
  refine W.cast (ef_10_4 m ar ao av) ?_
  have K0 : Keep h0 h0 [] := Keep.refl h0 []
  have Ea : Exa Z h0 ao "com/example/hybridge/hybridge/model/Rational" := by obtain ⟨_, q, _⟩ := R1; exact q
  refine W.s1 (mkF m 1 #[.val (.ref ar), .val (.ref ao), .val (.ref av), .unset] [(.ref ao)]) (fun _ kx_ => XS.aloadN X0.here hx rfl (hb hby d10_0) rfl rfl kx_) ?_
  refine W.s1 (mkF m 2 #[.val (.ref ar), .val (.ref ao), .val (.ref av), .unset] [(.ref av), (.ref ao)]) (fun _ kx_ => XS.aloadN X0.here hx rfl (hb hby d10_1) rfl rfl kx_) ?_
  obtain ⟨cq101, kq101, q101a, q101b, q101c⟩ := isOf hZ e0 Ea
  obtain ⟨_, _, ⟨T101, L101, k101, n101⟩, -, X101, ⟨Lc101, hQ101, l101, y101, z101⟩, st101⟩ := X0.virtualBack hx (y := (⟨"com/example/hybridge/hybridge/model/Rational", "compareTo", "(Lcom/example/hybridge/hybridge/model/Rational;)I"⟩ : MethodName)) (z := (⟨"com/example/hybridge/hybridge/model/Rational", "compareTo", "(Lcom/example/hybridge/hybridge/model/Rational;)I"⟩ : MethodName)) hown (mvT hZ (hw _ (List.mem_of_getElem? (i := 71) rfl))) (mvT hZ (hw _ (List.mem_of_getElem? (i := 72) rfl))) (notFace_of_selects (args := #[]) (mvT hZ (hw _ (List.mem_of_getElem? (i := 74) rfl)))) (mvT hZ (hw _ (List.mem_of_getElem? (i := 74) rfl))) (mvT hZ (hw _ (List.mem_of_getElem? (i := 73) rfl))) (by decide) (backOf (W := 0) (rm11 l Z a0 hw [] ao av aZ nZ fZ aO zo fo s1 n1 f1 s2 n2 f2 h0 n0 Z0 O0 S_ZERO HZ EO FO1 FO2 AO hfo R1 R2) hZ (hw _ (List.mem_of_getElem? (i := 75) rfl)) (hw _ (List.mem_of_getElem? (i := 10) rfl)) (by decide) (by decide)) q101a q101c (g := (mkF m 2 #[.val (.ref ar), .val (.ref ao), .val (.ref av), .unset] [(.ref av), (.ref ao)])) rfl (by rw [hml]; rfl) (Steps.refl _) (argsL := [(.ref av)]) (rest := []) (lenOf pd_12 rfl) rfl (by show 2 * 0 + _ ≤ _; exact Nat.le_of_eq rfl) (hb hby d10_2) (fun _ _ => ⟨rfl, e0, (by decide : 0 + 4 ≤ _), (by decide : 0 + 16 ≤ _)⟩)
  dsimp only [Pt.U, Pt.locs, Pt.cells, Pt.slots] at X101 l101 y101 z101 st101 hQ101
  subst l101 y101 z101
  obtain ⟨h101, e101⟩ : ∃ z, T101.heap = z := ⟨_, rfl⟩
  rw [e101] at hQ101
  obtain ⟨rfl, Nq101, Kq101⟩ := hQ101
  have N101 := Fr.app N0 Nq101
  have Z101 : n0 ≤ h101.size := Nat.le_trans Z0 Kq101.1
  have K101 : Keep h0 h101 [] := K0.trans Kq101 all0
  have f102 := Er.keep Kq101
  have f103 := Fo.keep Kq101 nin0
  have f104 := Ea.keep Kq101
  refine W.s3 (mkF m 5 #[.val (.ref ar), .val (.ref ao), .val (.ref av), .unset] [(.int (own_cmp s1 n1 f1 s2 n2 f2))]) st101 ?_
  generalize hg_xcc : (own_cmp s1 n1 f1 s2 n2 f2) = xcc
  refine W.s1 (mkF m 6 #[.val (.ref ar), .val (.ref ao), .val (.ref av), .val (.int xcc)] []) (fun _ kx_ => XS.istoreN X101.here hx rfl (hb hby d10_5) rfl (l' := #[.val (.ref ar), .val (.ref ao), .val (.ref av), .val (.int xcc)]) rfl kx_) ?_
  refine W.s1 (mkF m 7 #[.val (.ref ar), .val (.ref ao), .val (.ref av), .val (.int xcc)] [(.ref ar)]) (fun _ kx_ => XS.aloadN X101.here hx rfl (hb hby d10_6) rfl rfl kx_) ?_
  obtain ⟨cq105, kq105, q105a, q105b, q105c⟩ := isOf hZ e101 f102
  obtain ⟨_, _, ⟨T105, L105, k105, n105⟩, -, X105, ⟨Lc105, hQ105, l105, y105, z105⟩, st105⟩ := X101.virtualBackUp hx (x := (⟨"com/example/hybridge/hybridge/model/Relation", "ordinal", "()I"⟩ : MethodName)) (y := (⟨"java/lang/Enum", "ordinal", "()I"⟩ : MethodName)) (owner := "java/lang/Enum") hown (mvT hZ (hw _ (List.mem_of_getElem? (i := 55) rfl))) (mvT hZ (hw _ (List.mem_of_getElem? (i := 56) rfl))) (mvT hZ (hw _ (List.mem_of_getElem? (i := 57) rfl))) (by decide) (mvT hZ (hw _ (List.mem_of_getElem? (i := 59) rfl))) (mvT hZ (hw _ (List.mem_of_getElem? (i := 58) rfl))) (backOf (W := 0) (rm9 l Z a0 hw [] ar (4 : Int32) h101 n0 Z101 f103) hZ (hw _ (List.mem_of_getElem? (i := 61) rfl)) (hw _ (List.mem_of_getElem? (i := 60) rfl)) (by decide) (by decide)) q105a q105c (g := (mkF m 7 #[.val (.ref ar), .val (.ref ao), .val (.ref av), .val (.int xcc)] [(.ref ar)])) rfl (by rw [hml]; rfl) (Steps.refl _) (argsL := []) (rest := []) (lenOf pd_4 rfl) rfl (by show 2 * 0 + _ ≤ _; exact Nat.le_of_eq rfl) (hb hby d10_7) (fun _ _ => ⟨rfl, e101, (by decide : 4 + 0 ≤ _), (by decide : 16 + 0 ≤ _)⟩)
  dsimp only [Pt.U, Pt.locs, Pt.cells, Pt.slots] at X105 l105 y105 z105 st105 hQ105
  subst l105 y105 z105
  obtain ⟨rfl, Nq105, eq105⟩ := hQ105
  have N105 := Fr.app N101 Nq105
  refine W.s3 (mkF m 10 #[.val (.ref ar), .val (.ref ao), .val (.ref av), .val (.int xcc)] [(.int (4 : Int32))]) st105 ?_
  refine W.s1 (mkF m 102 #[.val (.ref ar), .val (.ref ao), .val (.ref av), .val (.int xcc)] []) (fun _ kx_ => XS.tswIn X105.here hx rfl (pc0 := 10) (pc' := 102) (o := 92) rfl (hb hby d10_10) rfl (by first | decide | decide +kernel) (by first | decide | decide +kernel) (by first | decide | decide +kernel) (by first | decide | decide +kernel) kx_) ?_
  refine W.s1 (mkF m 103 #[.val (.ref ar), .val (.ref ao), .val (.ref av), .val (.int xcc)] [(.int xcc)]) (fun _ kx_ => XS.iloadN X105.here hx rfl (hb hby d10_102) rfl kx_) ?_
  refine W.ifc X105 hx (hb hby d10_103) (pc' := 110) (pc'' := 106) (by decide) (by decide) rfl (fun (c103 : ¬ (0 : Int32) < xcc) => ?_) (fun (c103 : (0 : Int32) < xcc) => ?_)
  · refine W.s1 (mkF m 111 #[.val (.ref ar), .val (.ref ao), .val (.ref av), .val (.int xcc)] [(.int (0 : Int32))]) (fun _ kx_ => XS.iconst X105.here hx rfl (hb hby d10_110) kx_) ?_
    exact W.retZ X105 hx hlk (t := .boolean) (z' := (0 : Int32)) Bd.returns (by simp) (hb hby d10_111) rfl (by show Q10_4 Z ar ao av aZ nZ fZ aO zo fo s1 n1 f1 s2 n2 f2 h0 n0 _ T105.heap _; rw [eq105]; exact ⟨_, rfl, N105, K101, by rw [hg_xcc]; exact Or.inr ⟨rfl, c103⟩⟩) (by decide) (by decide)
  · refine W.s1 (mkF m 107 #[.val (.ref ar), .val (.ref ao), .val (.ref av), .val (.int xcc)] [(.int (1 : Int32))]) (fun _ kx_ => XS.iconst X105.here hx rfl (hb hby d10_106) kx_) ?_
    refine W.s1 (mkF m 111 #[.val (.ref ar), .val (.ref ao), .val (.ref av), .val (.int xcc)] [(.int (1 : Int32))]) (fun _ kx_ => XS.goto X105.here hx rfl (pc0 := 107) (pc' := 111) rfl (hb hby d10_107) (by decide) (by decide) kx_) ?_
    exact W.retZ X105 hx hlk (t := .boolean) (z' := (1 : Int32)) Bd.returns (by simp) (hb hby d10_111) rfl (by show Q10_4 Z ar ao av aZ nZ fZ aO zo fo s1 n1 f1 s2 n2 f2 h0 n0 _ T105.heap _; rw [eq105]; exact ⟨_, rfl, N105, K101, by rw [hg_xcc]; exact Or.inl ⟨rfl, c103⟩⟩) (by decide) (by decide)
theorem ef_0 (m : MethodId) (x0 : Int32) (x1 : Int64) (x2 : Int64) (x3 : Int32) : entryFrame m #[(.int x0), (.long x1), (.long x2), (.int x3)] maxLocals = mkF m 0 #[.val (.int x0), .val (.long x1), .second, .val (.long x2), .second, .val (.int x3), .unset, .unset, .unset, .unset, .unset] [] := by first | (simp [entryFrame, mkF, argsToLocals, Value.category, maxLocals]; done) | rfl
theorem pd_13 : parseMethodDescriptor "(I)Lcom/example/hybridge/hybridge/model/Relation;" = some ⟨[.int], some (.object "com/example/hybridge/hybridge/model/Relation")⟩ := by decide +kernel
theorem pd_14 : parseMethodDescriptor "(J)Lcom/example/hybridge/hybridge/model/Rational;" = some ⟨[.long], some (.object "com/example/hybridge/hybridge/model/Rational")⟩ := by decide +kernel
theorem pd_15 : parseMethodDescriptor "()Lcom/example/hybridge/hybridge/model/Relation;" = some ⟨[], some (.object "com/example/hybridge/hybridge/model/Relation")⟩ := by decide +kernel
theorem pd_16 : parseMethodDescriptor "(Lcom/example/hybridge/hybridge/model/Rational;Lcom/example/hybridge/hybridge/model/Rational;)Z" = some ⟨[(.object "com/example/hybridge/hybridge/model/Rational"), (.object "com/example/hybridge/hybridge/model/Rational")], some .boolean⟩ := by decide +kernel
def Q0 (Z : State) (xk : Int32) (ya : Int64) (yb : Int64) (xf : Int32) (aZ : Addr) (zp : Addr) (zq : Addr) (nZ : Nat) (fZ : Nat → Int32) (fp : Nat → Value) (fq : Nat → Value) (aO : Addr) (zo : Addr) (fo : Nat → Int32) (ka0 : Addr) (ka1 : Addr) (ka2 : Addr) (ka3 : Addr) (ka4 : Addr) (h0 : Heap) (n0 : Nat) (v : Option Value) (h : Heap) (L : List Loc) : Prop := v = some (.int 1) ∧ Fr n0 L
set_option maxRecDepth 65536 in
set_option maxHeartbeats 40000000 in
theorem rm0 (l : Launch) (Z : State) (a0 : Array Value) (hw : ∀ d ∈ tables_1, d.before a0 Z = true) (ws : List Jvm.Cond) (xk : Int32) (ya : Int64) (yb : Int64) (xf : Int32) (aZ : Addr) (zp : Addr) (zq : Addr) (nZ : Nat) (fZ : Nat → Int32) (fp : Nat → Value) (fq : Nat → Value) (aO : Addr) (zo : Addr) (fo : Nat → Int32) (ka0 : Addr) (ka1 : Addr) (ka2 : Addr) (ka3 : Addr) (ka4 : Addr) (h0 : Heap) (n0 : Nat) (Z0 : n0 ≤ h0.size) (O0 : Old Z n0 h0) (S_ZERO : Sta Z Z.heap "java/math/BigInteger" "ZERO" "Ljava/math/BigInteger;" (.ref aZ)) (S_posConst : Sta Z Z.heap "java/math/BigInteger" "posConst" "[Ljava/math/BigInteger;" (.ref zp)) (S_negConst : Sta Z Z.heap "java/math/BigInteger" "negConst" "[Ljava/math/BigInteger;" (.ref zq)) (HZ : own_BI Z Z.heap aZ 0 nZ fZ) (A_zp : W.AR Z Z.heap zp (.object "java/math/BigInteger") (fun _ => True) 17 fp) (A_zq : W.AR Z Z.heap zq (.object "java/math/BigInteger") (fun _ => True) 17 fq) (h_zp : ∀ k, 1 ≤ k → k ≤ 16 → ∃ (a : Addr) (sg : Int32) (n : Nat) (f : Nat → Int32), fp k = .ref a ∧ own_BI Z Z.heap a sg n f) (h_zq : ∀ k, 1 ≤ k → k ≤ 16 → ∃ (a : Addr) (sg : Int32) (n : Nat) (f : Nat → Int32), fq k = .ref a ∧ own_BI Z Z.heap a sg n f) (S_ONE : Sta Z Z.heap "java/math/BigInteger" "ONE" "Ljava/math/BigInteger;" (.ref aO)) (EO : Exa Z Z.heap aO "java/math/BigInteger") (FO1 : Fld Z Z.heap aO "java/math/BigInteger" "signum" "I" (.int 1)) (FO2 : Fld Z Z.heap aO "java/math/BigInteger" "mag" "[I" (.ref zo)) (AO : W.AI Z Z.heap zo .int 1 fo) (hfo : fo 0 = 1) (S_LESS : Sta Z Z.heap "com/example/hybridge/hybridge/model/Relation" "LESS" "Lcom/example/hybridge/hybridge/model/Relation;" (.ref ka0)) (S_LESS_OR_EQUAL : Sta Z Z.heap "com/example/hybridge/hybridge/model/Relation" "LESS_OR_EQUAL" "Lcom/example/hybridge/hybridge/model/Relation;" (.ref ka1)) (S_EQUAL : Sta Z Z.heap "com/example/hybridge/hybridge/model/Relation" "EQUAL" "Lcom/example/hybridge/hybridge/model/Relation;" (.ref ka2)) (S_GREATER_OR_EQUAL : Sta Z Z.heap "com/example/hybridge/hybridge/model/Relation" "GREATER_OR_EQUAL" "Lcom/example/hybridge/hybridge/model/Relation;" (.ref ka3)) (S_GREATER : Sta Z Z.heap "com/example/hybridge/hybridge/model/Relation" "GREATER" "Lcom/example/hybridge/hybridge/model/Relation;" (.ref ka4)) (E_r0 : Exa Z Z.heap ka0 "com/example/hybridge/hybridge/model/Relation") (E_r1 : Exa Z Z.heap ka1 "com/example/hybridge/hybridge/model/Relation") (E_r2 : Exa Z Z.heap ka2 "com/example/hybridge/hybridge/model/Relation") (E_r3 : Exa Z Z.heap ka3 "com/example/hybridge/hybridge/model/Relation") (E_r4 : Exa Z Z.heap ka4 "com/example/hybridge/hybridge/model/Relation") (F_r0 : Fld Z Z.heap ka0 "java/lang/Enum" "ordinal" "I" (.int 0)) (F_r1 : Fld Z Z.heap ka1 "java/lang/Enum" "ordinal" "I" (.int 1)) (F_r2 : Fld Z Z.heap ka2 "java/lang/Enum" "ordinal" "I" (.int 2)) (F_r3 : Fld Z Z.heap ka3 "java/lang/Enum" "ordinal" "I" (.int 3)) (F_r4 : Fld Z Z.heap ka4 "java/lang/Enum" "ordinal" "I" (.int 4)) :
    MetFree l x (head1 (Jvm.Cond.code x code maxLocals ret :: ws) room_1) (fun a U => a = #[(.int xk), (.long ya), (.long yb), (.int xf)] ∧ Z.Warmed39 U.vm ∧ U.heap = h0) (fun _ _ _ _ _ => True) (fun _ U o U' => ∃ v L, o = .returned v ∧ Q0 Z xk ya yb xf aZ zp zq nZ fZ fp fq aO zo fo ka0 ka1 ka2 ka3 ka4 h0 n0 v U'.heap L ∧ FrameEnd U o U' L 40 192) := by
  refine MetFree.of_bodySF (plainFor_of_name pn_4) hisR ?_
  intro p e s m args below meth c s₁ Bd hml0 hP hK
  obtain ⟨rfl, hZ, hh⟩ := hP
  have hx := Bd.exec
  have hby := Bd.bytes
  have hml : c.maxLocals = 11 := hml0
  have hown : s.vm.findClass "com/example/hybridge/hybridge/model/RelationSwappedPinLaw" = some m.cls := findClass_of_methodNamed Bd.named
  have hnm := (name_of_methodNamed Bd.named Bd.method).1
  have hlk : meth.locks = false := BodyLoose.notSynchronized Bd
  have X0 : Stand p l e room_1 s m #[(.int xk), (.long ya), (.long yb), (.int xf)] below meth c s₁ [] 0 0 := Stand.of_body Bd
  have e0 : s₁.heap = h0 := by rw [← hh, Bd.state]; rfl
  have N0 := Fr.nil n0
  show W.Gl p e below s (Q0 Z xk ya yb xf aZ zp zq nZ fZ fp fq aO zo fo ka0 ka1 ka2 ka3 ka4 h0 n0) 40 192 s₁ (entryFrame m #[(.int xk), (.long ya), (.long yb), (.int xf)] maxLocals)
  refine W.cast (ef_0 m xk ya yb xf) ?_
  have J14 : ∀ xsame : Int32, W.Gl p e below s (Q0 Z xk ya yb xf aZ zp zq nZ fZ fp fq aO zo fo ka0 ka1 ka2 ka3 ka4 h0 n0) 40 192 s₁ (mkF m 14 #[.val (.int xk), .val (.long ya), .second, .val (.long yb), .second, .val (.int xf), .val (.int xsame), .unset, .unset, .unset, .unset] []) := by
    intro xsame
    refine W.s1 (mkF m 15 #[.val (.int xk), .val (.long ya), .second, .val (.long yb), .second, .val (.int xf), .val (.int xsame), .unset, .unset, .unset, .unset] [(.int xk)]) (fun _ kx_ => XS.iloadN X0.here hx rfl (hb hby at_14) rfl kx_) ?_
    obtain ⟨_, _, ⟨T101, L101, k101, n101⟩, -, X101, ⟨Lc101, hQ101, l101, y101, z101⟩, st101⟩ := Jvm.LawKit.callS X0 hx (y := (⟨"com/example/hybridge/hybridge/model/RelationSwappedPinLaw", "pick", "(I)Lcom/example/hybridge/hybridge/model/Relation;"⟩ : MethodName)) hown (mvT hZ (hw _ (List.mem_of_getElem? (i := 0) rfl))) (mvT hZ (hw _ (List.mem_of_getElem? (i := 1) rfl))) (mvT hZ (hw _ (List.mem_of_getElem? (i := 2) rfl))) (mvT hZ (hw _ (List.mem_of_getElem? (i := 3) rfl))) (by decide) (backOf (W := 0) (rm1 l Z a0 hw [] xk ka0 ka1 ka2 ka3 ka4 h0 n0 Z0 O0 S_LESS S_LESS_OR_EQUAL S_EQUAL S_GREATER_OR_EQUAL S_GREATER) hZ (hw _ (List.mem_of_getElem? (i := 3) rfl)) (hw _ (List.mem_of_getElem? (i := 2) rfl)) (by decide) (by decide)) (g := (mkF m 15 #[.val (.int xk), .val (.long ya), .second, .val (.long yb), .second, .val (.int xf), .val (.int xsame), .unset, .unset, .unset, .unset] [(.int xk)])) rfl (by rw [hml]; rfl) (argsL := [(.int xk)]) (rest := []) (lenOf pd_13 rfl) rfl (by show 2 * 0 + _ ≤ _; exact Nat.le_of_eq rfl) (hb hby at_15) (fun _ _ => ⟨rfl, e0, (by decide : 0 + 0 ≤ _), (by decide : 0 + 0 ≤ _)⟩)
    dsimp only [Pt.U, Pt.locs, Pt.cells, Pt.slots] at X101 l101 y101 z101 st101 hQ101
    subst l101 y101 z101
    obtain ⟨ap, rfl, Nq101, eq101, hp⟩ := hQ101
    have N101 := Fr.app N0 Nq101
    refine W.s2 (mkF m 18 #[.val (.int xk), .val (.long ya), .second, .val (.long yb), .second, .val (.int xf), .val (.int xsame), .unset, .unset, .unset, .unset] [(.ref ap)]) st101 ?_
    rcases hp with rfl | rfl | rfl | rfl | rfl
    · have Ek := Exa.ext O0.2 E_r0
      refine W.s1 (mkF m 20 #[.val (.int xk), .val (.long ya), .second, .val (.long yb), .second, .val (.int xf), .val (.int xsame), .val (.ref ka0), .unset, .unset, .unset] []) (fun _ kx_ => XS.astore X101.here hx rfl (hb hby at_18) rfl rfl (l' := #[.val (.int xk), .val (.long ya), .second, .val (.long yb), .second, .val (.int xf), .val (.int xsame), .val (.ref ka0), .unset, .unset, .unset]) rfl kx_) ?_
      refine W.s1 (mkF m 21 #[.val (.int xk), .val (.long ya), .second, .val (.long yb), .second, .val (.int xf), .val (.int xsame), .val (.ref ka0), .unset, .unset, .unset] [(.long ya)]) (fun _ kx_ => XS.lloadN X101.here hx rfl (hb hby at_20) rfl kx_) ?_
      obtain ⟨_, _, ⟨T102, L102, k102, n102⟩, -, X102, ⟨Lc102, hQ102, l102, y102, z102⟩, st102⟩ := Jvm.LawKit.callS X101 hx (y := (⟨"com/example/hybridge/hybridge/model/Rational", "of", "(J)Lcom/example/hybridge/hybridge/model/Rational;"⟩ : MethodName)) hown (mvT hZ (hw _ (List.mem_of_getElem? (i := 8) rfl))) (mvT hZ (hw _ (List.mem_of_getElem? (i := 9) rfl))) (mvT hZ (hw _ (List.mem_of_getElem? (i := 10) rfl))) (mvT hZ (hw _ (List.mem_of_getElem? (i := 11) rfl))) (by decide) (backOf (W := 0) (rm2 l Z a0 hw [] ya aZ zp zq nZ fZ fp fq aO h0 n0 Z0 O0 S_ZERO S_posConst S_negConst HZ A_zp A_zq h_zp h_zq S_ONE) hZ (hw _ (List.mem_of_getElem? (i := 11) rfl)) (hw _ (List.mem_of_getElem? (i := 10) rfl)) (by decide) (by decide)) (g := (mkF m 21 #[.val (.int xk), .val (.long ya), .second, .val (.long yb), .second, .val (.int xf), .val (.int xsame), .val (.ref ka0), .unset, .unset, .unset] [(.long ya)])) rfl (by rw [hml]; rfl) (argsL := [(.long ya)]) (rest := []) (lenOf pd_14 rfl) rfl (by show 2 * 0 + _ ≤ _; exact Nat.le_of_eq rfl) (hb hby at_21) (fun _ _ => ⟨rfl, eq101, (by decide : 0 + 3 ≤ _), (by decide : 0 + 10 ≤ _)⟩)
      dsimp only [Pt.U, Pt.locs, Pt.cells, Pt.slots] at X102 l102 y102 z102 st102 hQ102
      subst l102 y102 z102
      obtain ⟨h102, e102⟩ : ∃ z, T102.heap = z := ⟨_, rfl⟩
      rw [e102] at hQ102
      obtain ⟨al, sl, nl, fl, rfl, Nq102, Kq102, Hl⟩ := hQ102
      have N102 := Fr.app N101 Nq102
      have Z102 : n0 ≤ h102.size := Nat.le_trans Z0 Kq102.1
      have f103 := O0.keep Kq102 all0
      have f104 := Ek.keep Kq102
      refine W.s2 (mkF m 24 #[.val (.int xk), .val (.long ya), .second, .val (.long yb), .second, .val (.int xf), .val (.int xsame), .val (.ref ka0), .unset, .unset, .unset] [(.ref al)]) st102 ?_
      refine W.s1 (mkF m 26 #[.val (.int xk), .val (.long ya), .second, .val (.long yb), .second, .val (.int xf), .val (.int xsame), .val (.ref ka0), .val (.ref al), .unset, .unset] []) (fun _ kx_ => XS.astore X102.here hx rfl (hb hby at_24) rfl rfl (l' := #[.val (.int xk), .val (.long ya), .second, .val (.long yb), .second, .val (.int xf), .val (.int xsame), .val (.ref ka0), .val (.ref al), .unset, .unset]) rfl kx_) ?_
      refine W.s1 (mkF m 28 #[.val (.int xk), .val (.long ya), .second, .val (.long yb), .second, .val (.int xf), .val (.int xsame), .val (.ref ka0), .val (.ref al), .unset, .unset] [(.int xsame)]) (fun _ kx_ => XS.iload X102.here hx rfl (hb hby at_26) rfl kx_) ?_
      refine W.ifc X102 hx (hb hby at_28) (pc' := 35) (pc'' := 31) (by decide) (by decide) rfl (fun (c28 : xsame = (0 : Int32)) => ?_) (fun (c28 : ¬ xsame = (0 : Int32)) => ?_)
      · refine W.s1 (mkF m 36 #[.val (.int xk), .val (.long ya), .second, .val (.long yb), .second, .val (.int xf), .val (.int xsame), .val (.ref ka0), .val (.ref al), .unset, .unset] [(.long yb)]) (fun _ kx_ => XS.lloadN X102.here hx rfl (hb hby at_35) rfl kx_) ?_
        obtain ⟨_, _, ⟨T105, L105, k105, n105⟩, -, X105, ⟨Lc105, hQ105, l105, y105, z105⟩, st105⟩ := Jvm.LawKit.callS X102 hx (y := (⟨"com/example/hybridge/hybridge/model/Rational", "of", "(J)Lcom/example/hybridge/hybridge/model/Rational;"⟩ : MethodName)) hown (mvT hZ (hw _ (List.mem_of_getElem? (i := 8) rfl))) (mvT hZ (hw _ (List.mem_of_getElem? (i := 9) rfl))) (mvT hZ (hw _ (List.mem_of_getElem? (i := 10) rfl))) (mvT hZ (hw _ (List.mem_of_getElem? (i := 11) rfl))) (by decide) (backOf (W := 0) (rm2 l Z a0 hw [] yb aZ zp zq nZ fZ fp fq aO h102 n0 Z102 f103 S_ZERO S_posConst S_negConst HZ A_zp A_zq h_zp h_zq S_ONE) hZ (hw _ (List.mem_of_getElem? (i := 11) rfl)) (hw _ (List.mem_of_getElem? (i := 10) rfl)) (by decide) (by decide)) (g := (mkF m 36 #[.val (.int xk), .val (.long ya), .second, .val (.long yb), .second, .val (.int xf), .val (.int xsame), .val (.ref ka0), .val (.ref al), .unset, .unset] [(.long yb)])) rfl (by rw [hml]; rfl) (argsL := [(.long yb)]) (rest := []) (lenOf pd_14 rfl) rfl (by show 2 * 0 + _ ≤ _; exact Nat.le_of_eq rfl) (hb hby at_36) (fun _ _ => ⟨rfl, e102, (by decide : 3 + 3 ≤ _), (by decide : 10 + 10 ≤ _)⟩)
        dsimp only [Pt.U, Pt.locs, Pt.cells, Pt.slots] at X105 l105 y105 z105 st105 hQ105
        subst l105 y105 z105
        obtain ⟨h105, e105⟩ : ∃ z, T105.heap = z := ⟨_, rfl⟩
        rw [e105] at hQ105
        obtain ⟨ar, sr, nr, fr, rfl, Nq105, Kq105, Hr⟩ := hQ105
        have N105 := Fr.app N102 Nq105
        have Z105 : n0 ≤ h105.size := Nat.le_trans Z102 Kq105.1
        have f106 := f103.keep Kq105 all0
        have f107 := f104.keep Kq105
        have HlR := Hl.keep Kq105
        refine W.s2 (mkF m 39 #[.val (.int xk), .val (.long ya), .second, .val (.long yb), .second, .val (.int xf), .val (.int xsame), .val (.ref ka0), .val (.ref al), .unset, .unset] [(.ref ar)]) st105 ?_
        refine W.s1 (mkF m 41 #[.val (.int xk), .val (.long ya), .second, .val (.long yb), .second, .val (.int xf), .val (.int xsame), .val (.ref ka0), .val (.ref al), .val (.ref ar), .unset] []) (fun _ kx_ => XS.astore X105.here hx rfl (hb hby at_39) rfl rfl (l' := #[.val (.int xk), .val (.long ya), .second, .val (.long yb), .second, .val (.int xf), .val (.int xsame), .val (.ref ka0), .val (.ref al), .val (.ref ar), .unset]) rfl kx_) ?_
        refine W.s1 (mkF m 43 #[.val (.int xk), .val (.long ya), .second, .val (.long yb), .second, .val (.int xf), .val (.int xsame), .val (.ref ka0), .val (.ref al), .val (.ref ar), .unset] [(.ref ka0)]) (fun _ kx_ => XS.aload X105.here hx rfl (hb hby at_41) rfl rfl kx_) ?_
        obtain ⟨cq108, kq108, q108a, q108b, q108c⟩ := isOf hZ e105 f107
        obtain ⟨_, _, ⟨T108, L108, k108, n108⟩, -, X108, ⟨Lc108, hQ108, l108, y108, z108⟩, st108⟩ := X105.virtualBack hx (y := (⟨"com/example/hybridge/hybridge/model/Relation", "swapped", "()Lcom/example/hybridge/hybridge/model/Relation;"⟩ : MethodName)) (z := (⟨"com/example/hybridge/hybridge/model/Relation", "swapped", "()Lcom/example/hybridge/hybridge/model/Relation;"⟩ : MethodName)) hown (mvT hZ (hw _ (List.mem_of_getElem? (i := 50) rfl))) (mvT hZ (hw _ (List.mem_of_getElem? (i := 51) rfl))) (notFace_of_selects (args := #[]) (mvT hZ (hw _ (List.mem_of_getElem? (i := 53) rfl)))) (mvT hZ (hw _ (List.mem_of_getElem? (i := 53) rfl))) (mvT hZ (hw _ (List.mem_of_getElem? (i := 52) rfl))) (by decide) (backOf (W := 0) (rm8_0 l Z a0 hw [] ka0 ka4 h105 n0 Z105 f106 f107 (F_r0.ext f106.2) S_GREATER) hZ (hw _ (List.mem_of_getElem? (i := 54) rfl)) (hw _ (List.mem_of_getElem? (i := 6) rfl)) (by decide) (by decide)) q108a q108c (g := (mkF m 43 #[.val (.int xk), .val (.long ya), .second, .val (.long yb), .second, .val (.int xf), .val (.int xsame), .val (.ref ka0), .val (.ref al), .val (.ref ar), .unset] [(.ref ka0)])) rfl (by rw [hml]; rfl) (Steps.refl _) (argsL := []) (rest := []) (lenOf pd_15 rfl) rfl (by show 2 * 0 + _ ≤ _; exact Nat.le_of_eq rfl) (hb hby at_43) (fun _ _ => ⟨rfl, e105, (by decide : 6 + 0 ≤ _), (by decide : 20 + 0 ≤ _)⟩)
        dsimp only [Pt.U, Pt.locs, Pt.cells, Pt.slots] at X108 l108 y108 z108 st108 hQ108
        subst l108 y108 z108
        obtain ⟨rfl, Nq108, eq108⟩ := hQ108
        have N108 := Fr.app N105 Nq108
        have Es := Exa.ext f106.2 E_r4
        refine W.s3 (mkF m 46 #[.val (.int xk), .val (.long ya), .second, .val (.long yb), .second, .val (.int xf), .val (.int xsame), .val (.ref ka0), .val (.ref al), .val (.ref ar), .unset] [(.ref ka4)]) st108 ?_
        refine W.s1 (mkF m 48 #[.val (.int xk), .val (.long ya), .second, .val (.long yb), .second, .val (.int xf), .val (.int xsame), .val (.ref ka0), .val (.ref al), .val (.ref ar), .val (.ref ka4)] []) (fun _ kx_ => XS.astore X108.here hx rfl (hb hby at_46) rfl rfl (l' := #[.val (.int xk), .val (.long ya), .second, .val (.long yb), .second, .val (.int xf), .val (.int xsame), .val (.ref ka0), .val (.ref al), .val (.ref ar), .val (.ref ka4)]) rfl kx_) ?_
        refine W.s1 (mkF m 50 #[.val (.int xk), .val (.long ya), .second, .val (.long yb), .second, .val (.int xf), .val (.int xsame), .val (.ref ka0), .val (.ref al), .val (.ref ar), .val (.ref ka4)] [(.ref ka4)]) (fun _ kx_ => XS.aload X108.here hx rfl (hb hby at_48) rfl rfl kx_) ?_
        refine W.s1 (mkF m 55 #[.val (.int xk), .val (.long ya), .second, .val (.long yb), .second, .val (.int xf), .val (.int xsame), .val (.ref ka0), .val (.ref al), .val (.ref ar), .val (.ref ka4)] []) (fun _ kx_ => XS.ifnonnullYes X108.here hx rfl (pc0 := 50) (pc' := 55) rfl (hb hby at_50) rfl (by decide) (by decide) kx_) ?_
        refine W.s1 (mkF m 57 #[.val (.int xk), .val (.long ya), .second, .val (.long yb), .second, .val (.int xf), .val (.int xsame), .val (.ref ka0), .val (.ref al), .val (.ref ar), .val (.ref ka4)] [(.ref ka0)]) (fun _ kx_ => XS.aload X108.here hx rfl (hb hby at_55) rfl rfl kx_) ?_
        refine W.s1 (mkF m 59 #[.val (.int xk), .val (.long ya), .second, .val (.long yb), .second, .val (.int xf), .val (.int xsame), .val (.ref ka0), .val (.ref al), .val (.ref ar), .val (.ref ka4)] [(.ref al), (.ref ka0)]) (fun _ kx_ => XS.aload X108.here hx rfl (hb hby at_57) rfl rfl kx_) ?_
        refine W.s1 (mkF m 61 #[.val (.int xk), .val (.long ya), .second, .val (.long yb), .second, .val (.int xf), .val (.int xsame), .val (.ref ka0), .val (.ref al), .val (.ref ar), .val (.ref ka4)] [(.ref ar), (.ref al), (.ref ka0)]) (fun _ kx_ => XS.aload X108.here hx rfl (hb hby at_59) rfl rfl kx_) ?_
        obtain ⟨cq109, kq109, q109a, q109b, q109c⟩ := isOf hZ eq108 f107
        obtain ⟨_, _, ⟨T109, L109, k109, n109⟩, -, X109, ⟨Lc109, hQ109, l109, y109, z109⟩, st109⟩ := X108.virtualBack hx (y := (⟨"com/example/hybridge/hybridge/model/Relation", "holds", "(Lcom/example/hybridge/hybridge/model/Rational;Lcom/example/hybridge/hybridge/model/Rational;)Z"⟩ : MethodName)) (z := (⟨"com/example/hybridge/hybridge/model/Relation", "holds", "(Lcom/example/hybridge/hybridge/model/Rational;Lcom/example/hybridge/hybridge/model/Rational;)Z"⟩ : MethodName)) hown (mvT hZ (hw _ (List.mem_of_getElem? (i := 66) rfl))) (mvT hZ (hw _ (List.mem_of_getElem? (i := 67) rfl))) (notFace_of_selects (args := #[]) (mvT hZ (hw _ (List.mem_of_getElem? (i := 69) rfl)))) (mvT hZ (hw _ (List.mem_of_getElem? (i := 69) rfl))) (mvT hZ (hw _ (List.mem_of_getElem? (i := 68) rfl))) (by decide) (backOf (W := 0) (rm10_0 l Z a0 hw [] ka0 al ar aZ nZ fZ aO zo fo sl nl fl sr nr fr h105 n0 Z105 f106 S_ZERO HZ EO FO1 FO2 AO hfo HlR Hr f107 (F_r0.ext f106.2)) hZ (hw _ (List.mem_of_getElem? (i := 70) rfl)) (hw _ (List.mem_of_getElem? (i := 6) rfl)) (by decide) (by decide)) q109a q109c (g := (mkF m 61 #[.val (.int xk), .val (.long ya), .second, .val (.long yb), .second, .val (.int xf), .val (.int xsame), .val (.ref ka0), .val (.ref al), .val (.ref ar), .val (.ref ka4)] [(.ref ar), (.ref al), (.ref ka0)])) rfl (by rw [hml]; rfl) (Steps.refl _) (argsL := [(.ref al), (.ref ar)]) (rest := []) (lenOf pd_16 rfl) rfl (by show 2 * 0 + _ ≤ _; exact Nat.le_of_eq rfl) (hb hby at_61) (fun _ _ => ⟨rfl, eq108, (by decide : 6 + 4 ≤ _), (by decide : 20 + 16 ≤ _)⟩)
        dsimp only [Pt.U, Pt.locs, Pt.cells, Pt.slots] at X109 l109 y109 z109 st109 hQ109
        subst l109 y109 z109
        obtain ⟨h109, e109⟩ : ∃ z, T109.heap = z := ⟨_, rfl⟩
        rw [e109] at hQ109
        obtain ⟨q61, rfl, Nq109, Kq109, hq61⟩ := hQ109
        have N109 := Fr.app N108 Nq109
        have Z109 : n0 ≤ h109.size := Nat.le_trans Z105 Kq109.1
        have f110 := f106.keep Kq109 all0
        have f111 := f107.keep Kq109
        have f112 := Es.keep Kq109
        have Hl2 := HlR.keep Kq109
        have Hr2 := Hr.keep Kq109
        refine W.s3 (mkF m 64 #[.val (.int xk), .val (.long ya), .second, .val (.long yb), .second, .val (.int xf), .val (.int xsame), .val (.ref ka0), .val (.ref al), .val (.ref ar), .val (.ref ka4)] [(.int q61)]) st109 ?_
        refine W.s1 (mkF m 66 #[.val (.int xk), .val (.long ya), .second, .val (.long yb), .second, .val (.int xf), .val (.int xsame), .val (.ref ka0), .val (.ref al), .val (.ref ar), .val (.ref ka4)] [(.ref ka4), (.int q61)]) (fun _ kx_ => XS.aload X109.here hx rfl (hb hby at_64) rfl rfl kx_) ?_
        refine W.s1 (mkF m 68 #[.val (.int xk), .val (.long ya), .second, .val (.long yb), .second, .val (.int xf), .val (.int xsame), .val (.ref ka0), .val (.ref al), .val (.ref ar), .val (.ref ka4)] [(.ref ar), (.ref ka4), (.int q61)]) (fun _ kx_ => XS.aload X109.here hx rfl (hb hby at_66) rfl rfl kx_) ?_
        refine W.s1 (mkF m 70 #[.val (.int xk), .val (.long ya), .second, .val (.long yb), .second, .val (.int xf), .val (.int xsame), .val (.ref ka0), .val (.ref al), .val (.ref ar), .val (.ref ka4)] [(.ref al), (.ref ar), (.ref ka4), (.int q61)]) (fun _ kx_ => XS.aload X109.here hx rfl (hb hby at_68) rfl rfl kx_) ?_
        obtain ⟨cq113, kq113, q113a, q113b, q113c⟩ := isOf hZ e109 f112
        obtain ⟨_, _, ⟨T113, L113, k113, n113⟩, -, X113, ⟨Lc113, hQ113, l113, y113, z113⟩, st113⟩ := X109.virtualBack hx (y := (⟨"com/example/hybridge/hybridge/model/Relation", "holds", "(Lcom/example/hybridge/hybridge/model/Rational;Lcom/example/hybridge/hybridge/model/Rational;)Z"⟩ : MethodName)) (z := (⟨"com/example/hybridge/hybridge/model/Relation", "holds", "(Lcom/example/hybridge/hybridge/model/Rational;Lcom/example/hybridge/hybridge/model/Rational;)Z"⟩ : MethodName)) hown (mvT hZ (hw _ (List.mem_of_getElem? (i := 66) rfl))) (mvT hZ (hw _ (List.mem_of_getElem? (i := 67) rfl))) (notFace_of_selects (args := #[]) (mvT hZ (hw _ (List.mem_of_getElem? (i := 69) rfl)))) (mvT hZ (hw _ (List.mem_of_getElem? (i := 69) rfl))) (mvT hZ (hw _ (List.mem_of_getElem? (i := 68) rfl))) (by decide) (backOf (W := 1) (rm10_4 l Z a0 hw [] ka4 ar al aZ nZ fZ aO zo fo sr nr fr sl nl fl h109 n0 Z109 f110 S_ZERO HZ EO FO1 FO2 AO hfo Hr2 Hl2 f112 (F_r4.ext f110.2)) hZ (hw _ (List.mem_of_getElem? (i := 70) rfl)) (hw _ (List.mem_of_getElem? (i := 6) rfl)) (by decide) (by decide)) q113a q113c (g := (mkF m 70 #[.val (.int xk), .val (.long ya), .second, .val (.long yb), .second, .val (.int xf), .val (.int xsame), .val (.ref ka0), .val (.ref al), .val (.ref ar), .val (.ref ka4)] [(.ref al), (.ref ar), (.ref ka4), (.int q61)])) rfl (by rw [hml]; rfl) (Steps.refl _) (argsL := [(.ref ar), (.ref al)]) (rest := [(.int q61)]) (lenOf pd_16 rfl) rfl (by show 2 * 0 + _ ≤ _; exact Nat.le_of_eq rfl) (hb hby at_70) (fun _ _ => ⟨rfl, e109, (by decide : 10 + 4 ≤ _), (by decide : 36 + 16 ≤ _)⟩)
        dsimp only [Pt.U, Pt.locs, Pt.cells, Pt.slots] at X113 l113 y113 z113 st113 hQ113
        subst l113 y113 z113
        obtain ⟨h113, e113⟩ : ∃ z, T113.heap = z := ⟨_, rfl⟩
        rw [e113] at hQ113
        obtain ⟨q70, rfl, Nq113, Kq113, hq70⟩ := hQ113
        have N113 := Fr.app N109 Nq113
        have Z113 : n0 ≤ h113.size := Nat.le_trans Z109 Kq113.1
        have f114 := f110.keep Kq113 all0
        have f115 := f111.keep Kq113
        have f116 := f112.keep Kq113
        have hqq : q61 = q70 := by
          rw [own_cmpa sl nl fl sr nr fr] at hq70
          have hsw := own_hs ⟨0, by decide⟩ (own_cmp0 sl nl fl sr nr fr)
          rcases hq61 with ⟨rfl, u⟩ | ⟨rfl, u⟩ <;> rcases hq70 with ⟨rfl, w⟩ | ⟨rfl, w⟩ <;> first | rfl | exact absurd (hsw.mpr u) w | exact absurd (hsw.mp w) u
        refine W.s3 (mkF m 73 #[.val (.int xk), .val (.long ya), .second, .val (.long yb), .second, .val (.int xf), .val (.int xsame), .val (.ref ka0), .val (.ref al), .val (.ref ar), .val (.ref ka4)] [(.int q70), (.int q61)]) st113 ?_
        refine W.icmp X113 hx (hb hby at_73) (pc' := 80) (pc'' := 76) (by decide) (by decide) rfl (fun (c73 : ¬ q61 = q70) => ?_) (fun (c73 : q61 = q70) => ?_)
        · exact absurd hqq c73
        · refine W.s1 (mkF m 77 #[.val (.int xk), .val (.long ya), .second, .val (.long yb), .second, .val (.int xf), .val (.int xsame), .val (.ref ka0), .val (.ref al), .val (.ref ar), .val (.ref ka4)] [(.int (1 : Int32))]) (fun _ kx_ => XS.iconst X113.here hx rfl (hb hby at_76) kx_) ?_
          refine W.s1 (mkF m 81 #[.val (.int xk), .val (.long ya), .second, .val (.long yb), .second, .val (.int xf), .val (.int xsame), .val (.ref ka0), .val (.ref al), .val (.ref ar), .val (.ref ka4)] [(.int (1 : Int32))]) (fun _ kx_ => XS.goto X113.here hx rfl (pc0 := 77) (pc' := 81) rfl (hb hby at_77) (by decide) (by decide) kx_) ?_
          exact W.retZ X113 hx hlk (t := .boolean) (z' := (1 : Int32)) Bd.returns (by simp) (hb hby at_81) rfl (by show Q0 Z xk ya yb xf aZ zp zq nZ fZ fp fq aO zo fo ka0 ka1 ka2 ka3 ka4 h0 n0 _ T113.heap _; rw [e113]; exact ⟨rfl, N113⟩) (by decide) (by decide)
      · refine W.s1 (mkF m 32 #[.val (.int xk), .val (.long ya), .second, .val (.long yb), .second, .val (.int xf), .val (.int xsame), .val (.ref ka0), .val (.ref al), .unset, .unset] [(.long ya)]) (fun _ kx_ => XS.lloadN X102.here hx rfl (hb hby at_31) rfl kx_) ?_
        refine W.s1 (mkF m 36 #[.val (.int xk), .val (.long ya), .second, .val (.long yb), .second, .val (.int xf), .val (.int xsame), .val (.ref ka0), .val (.ref al), .unset, .unset] [(.long ya)]) (fun _ kx_ => XS.goto X102.here hx rfl (pc0 := 32) (pc' := 36) rfl (hb hby at_32) (by decide) (by decide) kx_) ?_
        obtain ⟨_, _, ⟨T117, L117, k117, n117⟩, -, X117, ⟨Lc117, hQ117, l117, y117, z117⟩, st117⟩ := Jvm.LawKit.callS X102 hx (y := (⟨"com/example/hybridge/hybridge/model/Rational", "of", "(J)Lcom/example/hybridge/hybridge/model/Rational;"⟩ : MethodName)) hown (mvT hZ (hw _ (List.mem_of_getElem? (i := 8) rfl))) (mvT hZ (hw _ (List.mem_of_getElem? (i := 9) rfl))) (mvT hZ (hw _ (List.mem_of_getElem? (i := 10) rfl))) (mvT hZ (hw _ (List.mem_of_getElem? (i := 11) rfl))) (by decide) (backOf (W := 0) (rm2 l Z a0 hw [] ya aZ zp zq nZ fZ fp fq aO h102 n0 Z102 f103 S_ZERO S_posConst S_negConst HZ A_zp A_zq h_zp h_zq S_ONE) hZ (hw _ (List.mem_of_getElem? (i := 11) rfl)) (hw _ (List.mem_of_getElem? (i := 10) rfl)) (by decide) (by decide)) (g := (mkF m 36 #[.val (.int xk), .val (.long ya), .second, .val (.long yb), .second, .val (.int xf), .val (.int xsame), .val (.ref ka0), .val (.ref al), .unset, .unset] [(.long ya)])) rfl (by rw [hml]; rfl) (argsL := [(.long ya)]) (rest := []) (lenOf pd_14 rfl) rfl (by show 2 * 0 + _ ≤ _; exact Nat.le_of_eq rfl) (hb hby at_36) (fun _ _ => ⟨rfl, e102, (by decide : 3 + 3 ≤ _), (by decide : 10 + 10 ≤ _)⟩)
        dsimp only [Pt.U, Pt.locs, Pt.cells, Pt.slots] at X117 l117 y117 z117 st117 hQ117
        subst l117 y117 z117
        obtain ⟨h117, e117⟩ : ∃ z, T117.heap = z := ⟨_, rfl⟩
        rw [e117] at hQ117
        obtain ⟨ar, sr, nr, fr, rfl, Nq117, Kq117, Hr⟩ := hQ117
        have N117 := Fr.app N102 Nq117
        have Z117 : n0 ≤ h117.size := Nat.le_trans Z102 Kq117.1
        have f118 := f103.keep Kq117 all0
        have f119 := f104.keep Kq117
        have HlR := Hl.keep Kq117
        refine W.s2 (mkF m 39 #[.val (.int xk), .val (.long ya), .second, .val (.long yb), .second, .val (.int xf), .val (.int xsame), .val (.ref ka0), .val (.ref al), .unset, .unset] [(.ref ar)]) st117 ?_
        refine W.s1 (mkF m 41 #[.val (.int xk), .val (.long ya), .second, .val (.long yb), .second, .val (.int xf), .val (.int xsame), .val (.ref ka0), .val (.ref al), .val (.ref ar), .unset] []) (fun _ kx_ => XS.astore X117.here hx rfl (hb hby at_39) rfl rfl (l' := #[.val (.int xk), .val (.long ya), .second, .val (.long yb), .second, .val (.int xf), .val (.int xsame), .val (.ref ka0), .val (.ref al), .val (.ref ar), .unset]) rfl kx_) ?_
        refine W.s1 (mkF m 43 #[.val (.int xk), .val (.long ya), .second, .val (.long yb), .second, .val (.int xf), .val (.int xsame), .val (.ref ka0), .val (.ref al), .val (.ref ar), .unset] [(.ref ka0)]) (fun _ kx_ => XS.aload X117.here hx rfl (hb hby at_41) rfl rfl kx_) ?_
        obtain ⟨cq120, kq120, q120a, q120b, q120c⟩ := isOf hZ e117 f119
        obtain ⟨_, _, ⟨T120, L120, k120, n120⟩, -, X120, ⟨Lc120, hQ120, l120, y120, z120⟩, st120⟩ := X117.virtualBack hx (y := (⟨"com/example/hybridge/hybridge/model/Relation", "swapped", "()Lcom/example/hybridge/hybridge/model/Relation;"⟩ : MethodName)) (z := (⟨"com/example/hybridge/hybridge/model/Relation", "swapped", "()Lcom/example/hybridge/hybridge/model/Relation;"⟩ : MethodName)) hown (mvT hZ (hw _ (List.mem_of_getElem? (i := 50) rfl))) (mvT hZ (hw _ (List.mem_of_getElem? (i := 51) rfl))) (notFace_of_selects (args := #[]) (mvT hZ (hw _ (List.mem_of_getElem? (i := 53) rfl)))) (mvT hZ (hw _ (List.mem_of_getElem? (i := 53) rfl))) (mvT hZ (hw _ (List.mem_of_getElem? (i := 52) rfl))) (by decide) (backOf (W := 0) (rm8_0 l Z a0 hw [] ka0 ka4 h117 n0 Z117 f118 f119 (F_r0.ext f118.2) S_GREATER) hZ (hw _ (List.mem_of_getElem? (i := 54) rfl)) (hw _ (List.mem_of_getElem? (i := 6) rfl)) (by decide) (by decide)) q120a q120c (g := (mkF m 43 #[.val (.int xk), .val (.long ya), .second, .val (.long yb), .second, .val (.int xf), .val (.int xsame), .val (.ref ka0), .val (.ref al), .val (.ref ar), .unset] [(.ref ka0)])) rfl (by rw [hml]; rfl) (Steps.refl _) (argsL := []) (rest := []) (lenOf pd_15 rfl) rfl (by show 2 * 0 + _ ≤ _; exact Nat.le_of_eq rfl) (hb hby at_43) (fun _ _ => ⟨rfl, e117, (by decide : 6 + 0 ≤ _), (by decide : 20 + 0 ≤ _)⟩)
        dsimp only [Pt.U, Pt.locs, Pt.cells, Pt.slots] at X120 l120 y120 z120 st120 hQ120
        subst l120 y120 z120
        obtain ⟨rfl, Nq120, eq120⟩ := hQ120
        have N120 := Fr.app N117 Nq120
        have Es := Exa.ext f118.2 E_r4
        refine W.s3 (mkF m 46 #[.val (.int xk), .val (.long ya), .second, .val (.long yb), .second, .val (.int xf), .val (.int xsame), .val (.ref ka0), .val (.ref al), .val (.ref ar), .unset] [(.ref ka4)]) st120 ?_
        refine W.s1 (mkF m 48 #[.val (.int xk), .val (.long ya), .second, .val (.long yb), .second, .val (.int xf), .val (.int xsame), .val (.ref ka0), .val (.ref al), .val (.ref ar), .val (.ref ka4)] []) (fun _ kx_ => XS.astore X120.here hx rfl (hb hby at_46) rfl rfl (l' := #[.val (.int xk), .val (.long ya), .second, .val (.long yb), .second, .val (.int xf), .val (.int xsame), .val (.ref ka0), .val (.ref al), .val (.ref ar), .val (.ref ka4)]) rfl kx_) ?_
        refine W.s1 (mkF m 50 #[.val (.int xk), .val (.long ya), .second, .val (.long yb), .second, .val (.int xf), .val (.int xsame), .val (.ref ka0), .val (.ref al), .val (.ref ar), .val (.ref ka4)] [(.ref ka4)]) (fun _ kx_ => XS.aload X120.here hx rfl (hb hby at_48) rfl rfl kx_) ?_
        refine W.s1 (mkF m 55 #[.val (.int xk), .val (.long ya), .second, .val (.long yb), .second, .val (.int xf), .val (.int xsame), .val (.ref ka0), .val (.ref al), .val (.ref ar), .val (.ref ka4)] []) (fun _ kx_ => XS.ifnonnullYes X120.here hx rfl (pc0 := 50) (pc' := 55) rfl (hb hby at_50) rfl (by decide) (by decide) kx_) ?_
        refine W.s1 (mkF m 57 #[.val (.int xk), .val (.long ya), .second, .val (.long yb), .second, .val (.int xf), .val (.int xsame), .val (.ref ka0), .val (.ref al), .val (.ref ar), .val (.ref ka4)] [(.ref ka0)]) (fun _ kx_ => XS.aload X120.here hx rfl (hb hby at_55) rfl rfl kx_) ?_
        refine W.s1 (mkF m 59 #[.val (.int xk), .val (.long ya), .second, .val (.long yb), .second, .val (.int xf), .val (.int xsame), .val (.ref ka0), .val (.ref al), .val (.ref ar), .val (.ref ka4)] [(.ref al), (.ref ka0)]) (fun _ kx_ => XS.aload X120.here hx rfl (hb hby at_57) rfl rfl kx_) ?_
        refine W.s1 (mkF m 61 #[.val (.int xk), .val (.long ya), .second, .val (.long yb), .second, .val (.int xf), .val (.int xsame), .val (.ref ka0), .val (.ref al), .val (.ref ar), .val (.ref ka4)] [(.ref ar), (.ref al), (.ref ka0)]) (fun _ kx_ => XS.aload X120.here hx rfl (hb hby at_59) rfl rfl kx_) ?_
        obtain ⟨cq121, kq121, q121a, q121b, q121c⟩ := isOf hZ eq120 f119
        obtain ⟨_, _, ⟨T121, L121, k121, n121⟩, -, X121, ⟨Lc121, hQ121, l121, y121, z121⟩, st121⟩ := X120.virtualBack hx (y := (⟨"com/example/hybridge/hybridge/model/Relation", "holds", "(Lcom/example/hybridge/hybridge/model/Rational;Lcom/example/hybridge/hybridge/model/Rational;)Z"⟩ : MethodName)) (z := (⟨"com/example/hybridge/hybridge/model/Relation", "holds", "(Lcom/example/hybridge/hybridge/model/Rational;Lcom/example/hybridge/hybridge/model/Rational;)Z"⟩ : MethodName)) hown (mvT hZ (hw _ (List.mem_of_getElem? (i := 66) rfl))) (mvT hZ (hw _ (List.mem_of_getElem? (i := 67) rfl))) (notFace_of_selects (args := #[]) (mvT hZ (hw _ (List.mem_of_getElem? (i := 69) rfl)))) (mvT hZ (hw _ (List.mem_of_getElem? (i := 69) rfl))) (mvT hZ (hw _ (List.mem_of_getElem? (i := 68) rfl))) (by decide) (backOf (W := 0) (rm10_0 l Z a0 hw [] ka0 al ar aZ nZ fZ aO zo fo sl nl fl sr nr fr h117 n0 Z117 f118 S_ZERO HZ EO FO1 FO2 AO hfo HlR Hr f119 (F_r0.ext f118.2)) hZ (hw _ (List.mem_of_getElem? (i := 70) rfl)) (hw _ (List.mem_of_getElem? (i := 6) rfl)) (by decide) (by decide)) q121a q121c (g := (mkF m 61 #[.val (.int xk), .val (.long ya), .second, .val (.long yb), .second, .val (.int xf), .val (.int xsame), .val (.ref ka0), .val (.ref al), .val (.ref ar), .val (.ref ka4)] [(.ref ar), (.ref al), (.ref ka0)])) rfl (by rw [hml]; rfl) (Steps.refl _) (argsL := [(.ref al), (.ref ar)]) (rest := []) (lenOf pd_16 rfl) rfl (by show 2 * 0 + _ ≤ _; exact Nat.le_of_eq rfl) (hb hby at_61) (fun _ _ => ⟨rfl, eq120, (by decide : 6 + 4 ≤ _), (by decide : 20 + 16 ≤ _)⟩)
        dsimp only [Pt.U, Pt.locs, Pt.cells, Pt.slots] at X121 l121 y121 z121 st121 hQ121
        subst l121 y121 z121
        obtain ⟨h121, e121⟩ : ∃ z, T121.heap = z := ⟨_, rfl⟩
        rw [e121] at hQ121
        obtain ⟨q61, rfl, Nq121, Kq121, hq61⟩ := hQ121
        have N121 := Fr.app N120 Nq121
        have Z121 : n0 ≤ h121.size := Nat.le_trans Z117 Kq121.1
        have f122 := f118.keep Kq121 all0
        have f123 := f119.keep Kq121
        have f124 := Es.keep Kq121
        have Hl2 := HlR.keep Kq121
        have Hr2 := Hr.keep Kq121
        refine W.s3 (mkF m 64 #[.val (.int xk), .val (.long ya), .second, .val (.long yb), .second, .val (.int xf), .val (.int xsame), .val (.ref ka0), .val (.ref al), .val (.ref ar), .val (.ref ka4)] [(.int q61)]) st121 ?_
        refine W.s1 (mkF m 66 #[.val (.int xk), .val (.long ya), .second, .val (.long yb), .second, .val (.int xf), .val (.int xsame), .val (.ref ka0), .val (.ref al), .val (.ref ar), .val (.ref ka4)] [(.ref ka4), (.int q61)]) (fun _ kx_ => XS.aload X121.here hx rfl (hb hby at_64) rfl rfl kx_) ?_
        refine W.s1 (mkF m 68 #[.val (.int xk), .val (.long ya), .second, .val (.long yb), .second, .val (.int xf), .val (.int xsame), .val (.ref ka0), .val (.ref al), .val (.ref ar), .val (.ref ka4)] [(.ref ar), (.ref ka4), (.int q61)]) (fun _ kx_ => XS.aload X121.here hx rfl (hb hby at_66) rfl rfl kx_) ?_
        refine W.s1 (mkF m 70 #[.val (.int xk), .val (.long ya), .second, .val (.long yb), .second, .val (.int xf), .val (.int xsame), .val (.ref ka0), .val (.ref al), .val (.ref ar), .val (.ref ka4)] [(.ref al), (.ref ar), (.ref ka4), (.int q61)]) (fun _ kx_ => XS.aload X121.here hx rfl (hb hby at_68) rfl rfl kx_) ?_
        obtain ⟨cq125, kq125, q125a, q125b, q125c⟩ := isOf hZ e121 f124
        obtain ⟨_, _, ⟨T125, L125, k125, n125⟩, -, X125, ⟨Lc125, hQ125, l125, y125, z125⟩, st125⟩ := X121.virtualBack hx (y := (⟨"com/example/hybridge/hybridge/model/Relation", "holds", "(Lcom/example/hybridge/hybridge/model/Rational;Lcom/example/hybridge/hybridge/model/Rational;)Z"⟩ : MethodName)) (z := (⟨"com/example/hybridge/hybridge/model/Relation", "holds", "(Lcom/example/hybridge/hybridge/model/Rational;Lcom/example/hybridge/hybridge/model/Rational;)Z"⟩ : MethodName)) hown (mvT hZ (hw _ (List.mem_of_getElem? (i := 66) rfl))) (mvT hZ (hw _ (List.mem_of_getElem? (i := 67) rfl))) (notFace_of_selects (args := #[]) (mvT hZ (hw _ (List.mem_of_getElem? (i := 69) rfl)))) (mvT hZ (hw _ (List.mem_of_getElem? (i := 69) rfl))) (mvT hZ (hw _ (List.mem_of_getElem? (i := 68) rfl))) (by decide) (backOf (W := 1) (rm10_4 l Z a0 hw [] ka4 ar al aZ nZ fZ aO zo fo sr nr fr sl nl fl h121 n0 Z121 f122 S_ZERO HZ EO FO1 FO2 AO hfo Hr2 Hl2 f124 (F_r4.ext f122.2)) hZ (hw _ (List.mem_of_getElem? (i := 70) rfl)) (hw _ (List.mem_of_getElem? (i := 6) rfl)) (by decide) (by decide)) q125a q125c (g := (mkF m 70 #[.val (.int xk), .val (.long ya), .second, .val (.long yb), .second, .val (.int xf), .val (.int xsame), .val (.ref ka0), .val (.ref al), .val (.ref ar), .val (.ref ka4)] [(.ref al), (.ref ar), (.ref ka4), (.int q61)])) rfl (by rw [hml]; rfl) (Steps.refl _) (argsL := [(.ref ar), (.ref al)]) (rest := [(.int q61)]) (lenOf pd_16 rfl) rfl (by show 2 * 0 + _ ≤ _; exact Nat.le_of_eq rfl) (hb hby at_70) (fun _ _ => ⟨rfl, e121, (by decide : 10 + 4 ≤ _), (by decide : 36 + 16 ≤ _)⟩)
        dsimp only [Pt.U, Pt.locs, Pt.cells, Pt.slots] at X125 l125 y125 z125 st125 hQ125
        subst l125 y125 z125
        obtain ⟨h125, e125⟩ : ∃ z, T125.heap = z := ⟨_, rfl⟩
        rw [e125] at hQ125
        obtain ⟨q70, rfl, Nq125, Kq125, hq70⟩ := hQ125
        have N125 := Fr.app N121 Nq125
        have Z125 : n0 ≤ h125.size := Nat.le_trans Z121 Kq125.1
        have f126 := f122.keep Kq125 all0
        have f127 := f123.keep Kq125
        have f128 := f124.keep Kq125
        have hqq : q61 = q70 := by
          rw [own_cmpa sl nl fl sr nr fr] at hq70
          have hsw := own_hs ⟨0, by decide⟩ (own_cmp0 sl nl fl sr nr fr)
          rcases hq61 with ⟨rfl, u⟩ | ⟨rfl, u⟩ <;> rcases hq70 with ⟨rfl, w⟩ | ⟨rfl, w⟩ <;> first | rfl | exact absurd (hsw.mpr u) w | exact absurd (hsw.mp w) u
        refine W.s3 (mkF m 73 #[.val (.int xk), .val (.long ya), .second, .val (.long yb), .second, .val (.int xf), .val (.int xsame), .val (.ref ka0), .val (.ref al), .val (.ref ar), .val (.ref ka4)] [(.int q70), (.int q61)]) st125 ?_
        refine W.icmp X125 hx (hb hby at_73) (pc' := 80) (pc'' := 76) (by decide) (by decide) rfl (fun (c73 : ¬ q61 = q70) => ?_) (fun (c73 : q61 = q70) => ?_)
        · exact absurd hqq c73
        · refine W.s1 (mkF m 77 #[.val (.int xk), .val (.long ya), .second, .val (.long yb), .second, .val (.int xf), .val (.int xsame), .val (.ref ka0), .val (.ref al), .val (.ref ar), .val (.ref ka4)] [(.int (1 : Int32))]) (fun _ kx_ => XS.iconst X125.here hx rfl (hb hby at_76) kx_) ?_
          refine W.s1 (mkF m 81 #[.val (.int xk), .val (.long ya), .second, .val (.long yb), .second, .val (.int xf), .val (.int xsame), .val (.ref ka0), .val (.ref al), .val (.ref ar), .val (.ref ka4)] [(.int (1 : Int32))]) (fun _ kx_ => XS.goto X125.here hx rfl (pc0 := 77) (pc' := 81) rfl (hb hby at_77) (by decide) (by decide) kx_) ?_
          exact W.retZ X125 hx hlk (t := .boolean) (z' := (1 : Int32)) Bd.returns (by simp) (hb hby at_81) rfl (by show Q0 Z xk ya yb xf aZ zp zq nZ fZ fp fq aO zo fo ka0 ka1 ka2 ka3 ka4 h0 n0 _ T125.heap _; rw [e125]; exact ⟨rfl, N125⟩) (by decide) (by decide)
    · have Ek := Exa.ext O0.2 E_r1
      refine W.s1 (mkF m 20 #[.val (.int xk), .val (.long ya), .second, .val (.long yb), .second, .val (.int xf), .val (.int xsame), .val (.ref ka1), .unset, .unset, .unset] []) (fun _ kx_ => XS.astore X101.here hx rfl (hb hby at_18) rfl rfl (l' := #[.val (.int xk), .val (.long ya), .second, .val (.long yb), .second, .val (.int xf), .val (.int xsame), .val (.ref ka1), .unset, .unset, .unset]) rfl kx_) ?_
      refine W.s1 (mkF m 21 #[.val (.int xk), .val (.long ya), .second, .val (.long yb), .second, .val (.int xf), .val (.int xsame), .val (.ref ka1), .unset, .unset, .unset] [(.long ya)]) (fun _ kx_ => XS.lloadN X101.here hx rfl (hb hby at_20) rfl kx_) ?_
      obtain ⟨_, _, ⟨T129, L129, k129, n129⟩, -, X129, ⟨Lc129, hQ129, l129, y129, z129⟩, st129⟩ := Jvm.LawKit.callS X101 hx (y := (⟨"com/example/hybridge/hybridge/model/Rational", "of", "(J)Lcom/example/hybridge/hybridge/model/Rational;"⟩ : MethodName)) hown (mvT hZ (hw _ (List.mem_of_getElem? (i := 8) rfl))) (mvT hZ (hw _ (List.mem_of_getElem? (i := 9) rfl))) (mvT hZ (hw _ (List.mem_of_getElem? (i := 10) rfl))) (mvT hZ (hw _ (List.mem_of_getElem? (i := 11) rfl))) (by decide) (backOf (W := 0) (rm2 l Z a0 hw [] ya aZ zp zq nZ fZ fp fq aO h0 n0 Z0 O0 S_ZERO S_posConst S_negConst HZ A_zp A_zq h_zp h_zq S_ONE) hZ (hw _ (List.mem_of_getElem? (i := 11) rfl)) (hw _ (List.mem_of_getElem? (i := 10) rfl)) (by decide) (by decide)) (g := (mkF m 21 #[.val (.int xk), .val (.long ya), .second, .val (.long yb), .second, .val (.int xf), .val (.int xsame), .val (.ref ka1), .unset, .unset, .unset] [(.long ya)])) rfl (by rw [hml]; rfl) (argsL := [(.long ya)]) (rest := []) (lenOf pd_14 rfl) rfl (by show 2 * 0 + _ ≤ _; exact Nat.le_of_eq rfl) (hb hby at_21) (fun _ _ => ⟨rfl, eq101, (by decide : 0 + 3 ≤ _), (by decide : 0 + 10 ≤ _)⟩)
      dsimp only [Pt.U, Pt.locs, Pt.cells, Pt.slots] at X129 l129 y129 z129 st129 hQ129
      subst l129 y129 z129
      obtain ⟨h129, e129⟩ : ∃ z, T129.heap = z := ⟨_, rfl⟩
      rw [e129] at hQ129
      obtain ⟨al, sl, nl, fl, rfl, Nq129, Kq129, Hl⟩ := hQ129
      have N129 := Fr.app N101 Nq129
      have Z129 : n0 ≤ h129.size := Nat.le_trans Z0 Kq129.1
      have f130 := O0.keep Kq129 all0
      have f131 := Ek.keep Kq129
      refine W.s2 (mkF m 24 #[.val (.int xk), .val (.long ya), .second, .val (.long yb), .second, .val (.int xf), .val (.int xsame), .val (.ref ka1), .unset, .unset, .unset] [(.ref al)]) st129 ?_
      refine W.s1 (mkF m 26 #[.val (.int xk), .val (.long ya), .second, .val (.long yb), .second, .val (.int xf), .val (.int xsame), .val (.ref ka1), .val (.ref al), .unset, .unset] []) (fun _ kx_ => XS.astore X129.here hx rfl (hb hby at_24) rfl rfl (l' := #[.val (.int xk), .val (.long ya), .second, .val (.long yb), .second, .val (.int xf), .val (.int xsame), .val (.ref ka1), .val (.ref al), .unset, .unset]) rfl kx_) ?_
      refine W.s1 (mkF m 28 #[.val (.int xk), .val (.long ya), .second, .val (.long yb), .second, .val (.int xf), .val (.int xsame), .val (.ref ka1), .val (.ref al), .unset, .unset] [(.int xsame)]) (fun _ kx_ => XS.iload X129.here hx rfl (hb hby at_26) rfl kx_) ?_
      refine W.ifc X129 hx (hb hby at_28) (pc' := 35) (pc'' := 31) (by decide) (by decide) rfl (fun (c28 : xsame = (0 : Int32)) => ?_) (fun (c28 : ¬ xsame = (0 : Int32)) => ?_)
      · refine W.s1 (mkF m 36 #[.val (.int xk), .val (.long ya), .second, .val (.long yb), .second, .val (.int xf), .val (.int xsame), .val (.ref ka1), .val (.ref al), .unset, .unset] [(.long yb)]) (fun _ kx_ => XS.lloadN X129.here hx rfl (hb hby at_35) rfl kx_) ?_
        obtain ⟨_, _, ⟨T132, L132, k132, n132⟩, -, X132, ⟨Lc132, hQ132, l132, y132, z132⟩, st132⟩ := Jvm.LawKit.callS X129 hx (y := (⟨"com/example/hybridge/hybridge/model/Rational", "of", "(J)Lcom/example/hybridge/hybridge/model/Rational;"⟩ : MethodName)) hown (mvT hZ (hw _ (List.mem_of_getElem? (i := 8) rfl))) (mvT hZ (hw _ (List.mem_of_getElem? (i := 9) rfl))) (mvT hZ (hw _ (List.mem_of_getElem? (i := 10) rfl))) (mvT hZ (hw _ (List.mem_of_getElem? (i := 11) rfl))) (by decide) (backOf (W := 0) (rm2 l Z a0 hw [] yb aZ zp zq nZ fZ fp fq aO h129 n0 Z129 f130 S_ZERO S_posConst S_negConst HZ A_zp A_zq h_zp h_zq S_ONE) hZ (hw _ (List.mem_of_getElem? (i := 11) rfl)) (hw _ (List.mem_of_getElem? (i := 10) rfl)) (by decide) (by decide)) (g := (mkF m 36 #[.val (.int xk), .val (.long ya), .second, .val (.long yb), .second, .val (.int xf), .val (.int xsame), .val (.ref ka1), .val (.ref al), .unset, .unset] [(.long yb)])) rfl (by rw [hml]; rfl) (argsL := [(.long yb)]) (rest := []) (lenOf pd_14 rfl) rfl (by show 2 * 0 + _ ≤ _; exact Nat.le_of_eq rfl) (hb hby at_36) (fun _ _ => ⟨rfl, e129, (by decide : 3 + 3 ≤ _), (by decide : 10 + 10 ≤ _)⟩)
        dsimp only [Pt.U, Pt.locs, Pt.cells, Pt.slots] at X132 l132 y132 z132 st132 hQ132
        subst l132 y132 z132
        obtain ⟨h132, e132⟩ : ∃ z, T132.heap = z := ⟨_, rfl⟩
        rw [e132] at hQ132
        obtain ⟨ar, sr, nr, fr, rfl, Nq132, Kq132, Hr⟩ := hQ132
        have N132 := Fr.app N129 Nq132
        have Z132 : n0 ≤ h132.size := Nat.le_trans Z129 Kq132.1
        have f133 := f130.keep Kq132 all0
        have f134 := f131.keep Kq132
        have HlR := Hl.keep Kq132
        refine W.s2 (mkF m 39 #[.val (.int xk), .val (.long ya), .second, .val (.long yb), .second, .val (.int xf), .val (.int xsame), .val (.ref ka1), .val (.ref al), .unset, .unset] [(.ref ar)]) st132 ?_
        refine W.s1 (mkF m 41 #[.val (.int xk), .val (.long ya), .second, .val (.long yb), .second, .val (.int xf), .val (.int xsame), .val (.ref ka1), .val (.ref al), .val (.ref ar), .unset] []) (fun _ kx_ => XS.astore X132.here hx rfl (hb hby at_39) rfl rfl (l' := #[.val (.int xk), .val (.long ya), .second, .val (.long yb), .second, .val (.int xf), .val (.int xsame), .val (.ref ka1), .val (.ref al), .val (.ref ar), .unset]) rfl kx_) ?_
        refine W.s1 (mkF m 43 #[.val (.int xk), .val (.long ya), .second, .val (.long yb), .second, .val (.int xf), .val (.int xsame), .val (.ref ka1), .val (.ref al), .val (.ref ar), .unset] [(.ref ka1)]) (fun _ kx_ => XS.aload X132.here hx rfl (hb hby at_41) rfl rfl kx_) ?_
        obtain ⟨cq135, kq135, q135a, q135b, q135c⟩ := isOf hZ e132 f134
        obtain ⟨_, _, ⟨T135, L135, k135, n135⟩, -, X135, ⟨Lc135, hQ135, l135, y135, z135⟩, st135⟩ := X132.virtualBack hx (y := (⟨"com/example/hybridge/hybridge/model/Relation", "swapped", "()Lcom/example/hybridge/hybridge/model/Relation;"⟩ : MethodName)) (z := (⟨"com/example/hybridge/hybridge/model/Relation", "swapped", "()Lcom/example/hybridge/hybridge/model/Relation;"⟩ : MethodName)) hown (mvT hZ (hw _ (List.mem_of_getElem? (i := 50) rfl))) (mvT hZ (hw _ (List.mem_of_getElem? (i := 51) rfl))) (notFace_of_selects (args := #[]) (mvT hZ (hw _ (List.mem_of_getElem? (i := 53) rfl)))) (mvT hZ (hw _ (List.mem_of_getElem? (i := 53) rfl))) (mvT hZ (hw _ (List.mem_of_getElem? (i := 52) rfl))) (by decide) (backOf (W := 0) (rm8_1 l Z a0 hw [] ka1 ka3 h132 n0 Z132 f133 f134 (F_r1.ext f133.2) S_GREATER_OR_EQUAL) hZ (hw _ (List.mem_of_getElem? (i := 54) rfl)) (hw _ (List.mem_of_getElem? (i := 6) rfl)) (by decide) (by decide)) q135a q135c (g := (mkF m 43 #[.val (.int xk), .val (.long ya), .second, .val (.long yb), .second, .val (.int xf), .val (.int xsame), .val (.ref ka1), .val (.ref al), .val (.ref ar), .unset] [(.ref ka1)])) rfl (by rw [hml]; rfl) (Steps.refl _) (argsL := []) (rest := []) (lenOf pd_15 rfl) rfl (by show 2 * 0 + _ ≤ _; exact Nat.le_of_eq rfl) (hb hby at_43) (fun _ _ => ⟨rfl, e132, (by decide : 6 + 0 ≤ _), (by decide : 20 + 0 ≤ _)⟩)
        dsimp only [Pt.U, Pt.locs, Pt.cells, Pt.slots] at X135 l135 y135 z135 st135 hQ135
        subst l135 y135 z135
        obtain ⟨rfl, Nq135, eq135⟩ := hQ135
        have N135 := Fr.app N132 Nq135
        have Es := Exa.ext f133.2 E_r3
        refine W.s3 (mkF m 46 #[.val (.int xk), .val (.long ya), .second, .val (.long yb), .second, .val (.int xf), .val (.int xsame), .val (.ref ka1), .val (.ref al), .val (.ref ar), .unset] [(.ref ka3)]) st135 ?_
        refine W.s1 (mkF m 48 #[.val (.int xk), .val (.long ya), .second, .val (.long yb), .second, .val (.int xf), .val (.int xsame), .val (.ref ka1), .val (.ref al), .val (.ref ar), .val (.ref ka3)] []) (fun _ kx_ => XS.astore X135.here hx rfl (hb hby at_46) rfl rfl (l' := #[.val (.int xk), .val (.long ya), .second, .val (.long yb), .second, .val (.int xf), .val (.int xsame), .val (.ref ka1), .val (.ref al), .val (.ref ar), .val (.ref ka3)]) rfl kx_) ?_
        refine W.s1 (mkF m 50 #[.val (.int xk), .val (.long ya), .second, .val (.long yb), .second, .val (.int xf), .val (.int xsame), .val (.ref ka1), .val (.ref al), .val (.ref ar), .val (.ref ka3)] [(.ref ka3)]) (fun _ kx_ => XS.aload X135.here hx rfl (hb hby at_48) rfl rfl kx_) ?_
        refine W.s1 (mkF m 55 #[.val (.int xk), .val (.long ya), .second, .val (.long yb), .second, .val (.int xf), .val (.int xsame), .val (.ref ka1), .val (.ref al), .val (.ref ar), .val (.ref ka3)] []) (fun _ kx_ => XS.ifnonnullYes X135.here hx rfl (pc0 := 50) (pc' := 55) rfl (hb hby at_50) rfl (by decide) (by decide) kx_) ?_
        refine W.s1 (mkF m 57 #[.val (.int xk), .val (.long ya), .second, .val (.long yb), .second, .val (.int xf), .val (.int xsame), .val (.ref ka1), .val (.ref al), .val (.ref ar), .val (.ref ka3)] [(.ref ka1)]) (fun _ kx_ => XS.aload X135.here hx rfl (hb hby at_55) rfl rfl kx_) ?_
        refine W.s1 (mkF m 59 #[.val (.int xk), .val (.long ya), .second, .val (.long yb), .second, .val (.int xf), .val (.int xsame), .val (.ref ka1), .val (.ref al), .val (.ref ar), .val (.ref ka3)] [(.ref al), (.ref ka1)]) (fun _ kx_ => XS.aload X135.here hx rfl (hb hby at_57) rfl rfl kx_) ?_
        refine W.s1 (mkF m 61 #[.val (.int xk), .val (.long ya), .second, .val (.long yb), .second, .val (.int xf), .val (.int xsame), .val (.ref ka1), .val (.ref al), .val (.ref ar), .val (.ref ka3)] [(.ref ar), (.ref al), (.ref ka1)]) (fun _ kx_ => XS.aload X135.here hx rfl (hb hby at_59) rfl rfl kx_) ?_
        obtain ⟨cq136, kq136, q136a, q136b, q136c⟩ := isOf hZ eq135 f134
        obtain ⟨_, _, ⟨T136, L136, k136, n136⟩, -, X136, ⟨Lc136, hQ136, l136, y136, z136⟩, st136⟩ := X135.virtualBack hx (y := (⟨"com/example/hybridge/hybridge/model/Relation", "holds", "(Lcom/example/hybridge/hybridge/model/Rational;Lcom/example/hybridge/hybridge/model/Rational;)Z"⟩ : MethodName)) (z := (⟨"com/example/hybridge/hybridge/model/Relation", "holds", "(Lcom/example/hybridge/hybridge/model/Rational;Lcom/example/hybridge/hybridge/model/Rational;)Z"⟩ : MethodName)) hown (mvT hZ (hw _ (List.mem_of_getElem? (i := 66) rfl))) (mvT hZ (hw _ (List.mem_of_getElem? (i := 67) rfl))) (notFace_of_selects (args := #[]) (mvT hZ (hw _ (List.mem_of_getElem? (i := 69) rfl)))) (mvT hZ (hw _ (List.mem_of_getElem? (i := 69) rfl))) (mvT hZ (hw _ (List.mem_of_getElem? (i := 68) rfl))) (by decide) (backOf (W := 0) (rm10_1 l Z a0 hw [] ka1 al ar aZ nZ fZ aO zo fo sl nl fl sr nr fr h132 n0 Z132 f133 S_ZERO HZ EO FO1 FO2 AO hfo HlR Hr f134 (F_r1.ext f133.2)) hZ (hw _ (List.mem_of_getElem? (i := 70) rfl)) (hw _ (List.mem_of_getElem? (i := 6) rfl)) (by decide) (by decide)) q136a q136c (g := (mkF m 61 #[.val (.int xk), .val (.long ya), .second, .val (.long yb), .second, .val (.int xf), .val (.int xsame), .val (.ref ka1), .val (.ref al), .val (.ref ar), .val (.ref ka3)] [(.ref ar), (.ref al), (.ref ka1)])) rfl (by rw [hml]; rfl) (Steps.refl _) (argsL := [(.ref al), (.ref ar)]) (rest := []) (lenOf pd_16 rfl) rfl (by show 2 * 0 + _ ≤ _; exact Nat.le_of_eq rfl) (hb hby at_61) (fun _ _ => ⟨rfl, eq135, (by decide : 6 + 4 ≤ _), (by decide : 20 + 16 ≤ _)⟩)
        dsimp only [Pt.U, Pt.locs, Pt.cells, Pt.slots] at X136 l136 y136 z136 st136 hQ136
        subst l136 y136 z136
        obtain ⟨h136, e136⟩ : ∃ z, T136.heap = z := ⟨_, rfl⟩
        rw [e136] at hQ136
        obtain ⟨q61, rfl, Nq136, Kq136, hq61⟩ := hQ136
        have N136 := Fr.app N135 Nq136
        have Z136 : n0 ≤ h136.size := Nat.le_trans Z132 Kq136.1
        have f137 := f133.keep Kq136 all0
        have f138 := f134.keep Kq136
        have f139 := Es.keep Kq136
        have Hl2 := HlR.keep Kq136
        have Hr2 := Hr.keep Kq136
        refine W.s3 (mkF m 64 #[.val (.int xk), .val (.long ya), .second, .val (.long yb), .second, .val (.int xf), .val (.int xsame), .val (.ref ka1), .val (.ref al), .val (.ref ar), .val (.ref ka3)] [(.int q61)]) st136 ?_
        refine W.s1 (mkF m 66 #[.val (.int xk), .val (.long ya), .second, .val (.long yb), .second, .val (.int xf), .val (.int xsame), .val (.ref ka1), .val (.ref al), .val (.ref ar), .val (.ref ka3)] [(.ref ka3), (.int q61)]) (fun _ kx_ => XS.aload X136.here hx rfl (hb hby at_64) rfl rfl kx_) ?_
        refine W.s1 (mkF m 68 #[.val (.int xk), .val (.long ya), .second, .val (.long yb), .second, .val (.int xf), .val (.int xsame), .val (.ref ka1), .val (.ref al), .val (.ref ar), .val (.ref ka3)] [(.ref ar), (.ref ka3), (.int q61)]) (fun _ kx_ => XS.aload X136.here hx rfl (hb hby at_66) rfl rfl kx_) ?_
        refine W.s1 (mkF m 70 #[.val (.int xk), .val (.long ya), .second, .val (.long yb), .second, .val (.int xf), .val (.int xsame), .val (.ref ka1), .val (.ref al), .val (.ref ar), .val (.ref ka3)] [(.ref al), (.ref ar), (.ref ka3), (.int q61)]) (fun _ kx_ => XS.aload X136.here hx rfl (hb hby at_68) rfl rfl kx_) ?_
        obtain ⟨cq140, kq140, q140a, q140b, q140c⟩ := isOf hZ e136 f139
        obtain ⟨_, _, ⟨T140, L140, k140, n140⟩, -, X140, ⟨Lc140, hQ140, l140, y140, z140⟩, st140⟩ := X136.virtualBack hx (y := (⟨"com/example/hybridge/hybridge/model/Relation", "holds", "(Lcom/example/hybridge/hybridge/model/Rational;Lcom/example/hybridge/hybridge/model/Rational;)Z"⟩ : MethodName)) (z := (⟨"com/example/hybridge/hybridge/model/Relation", "holds", "(Lcom/example/hybridge/hybridge/model/Rational;Lcom/example/hybridge/hybridge/model/Rational;)Z"⟩ : MethodName)) hown (mvT hZ (hw _ (List.mem_of_getElem? (i := 66) rfl))) (mvT hZ (hw _ (List.mem_of_getElem? (i := 67) rfl))) (notFace_of_selects (args := #[]) (mvT hZ (hw _ (List.mem_of_getElem? (i := 69) rfl)))) (mvT hZ (hw _ (List.mem_of_getElem? (i := 69) rfl))) (mvT hZ (hw _ (List.mem_of_getElem? (i := 68) rfl))) (by decide) (backOf (W := 1) (rm10_3 l Z a0 hw [] ka3 ar al aZ nZ fZ aO zo fo sr nr fr sl nl fl h136 n0 Z136 f137 S_ZERO HZ EO FO1 FO2 AO hfo Hr2 Hl2 f139 (F_r3.ext f137.2)) hZ (hw _ (List.mem_of_getElem? (i := 70) rfl)) (hw _ (List.mem_of_getElem? (i := 6) rfl)) (by decide) (by decide)) q140a q140c (g := (mkF m 70 #[.val (.int xk), .val (.long ya), .second, .val (.long yb), .second, .val (.int xf), .val (.int xsame), .val (.ref ka1), .val (.ref al), .val (.ref ar), .val (.ref ka3)] [(.ref al), (.ref ar), (.ref ka3), (.int q61)])) rfl (by rw [hml]; rfl) (Steps.refl _) (argsL := [(.ref ar), (.ref al)]) (rest := [(.int q61)]) (lenOf pd_16 rfl) rfl (by show 2 * 0 + _ ≤ _; exact Nat.le_of_eq rfl) (hb hby at_70) (fun _ _ => ⟨rfl, e136, (by decide : 10 + 4 ≤ _), (by decide : 36 + 16 ≤ _)⟩)
        dsimp only [Pt.U, Pt.locs, Pt.cells, Pt.slots] at X140 l140 y140 z140 st140 hQ140
        subst l140 y140 z140
        obtain ⟨h140, e140⟩ : ∃ z, T140.heap = z := ⟨_, rfl⟩
        rw [e140] at hQ140
        obtain ⟨q70, rfl, Nq140, Kq140, hq70⟩ := hQ140
        have N140 := Fr.app N136 Nq140
        have Z140 : n0 ≤ h140.size := Nat.le_trans Z136 Kq140.1
        have f141 := f137.keep Kq140 all0
        have f142 := f138.keep Kq140
        have f143 := f139.keep Kq140
        have hqq : q61 = q70 := by
          rw [own_cmpa sl nl fl sr nr fr] at hq70
          have hsw := own_hs ⟨1, by decide⟩ (own_cmp0 sl nl fl sr nr fr)
          rcases hq61 with ⟨rfl, u⟩ | ⟨rfl, u⟩ <;> rcases hq70 with ⟨rfl, w⟩ | ⟨rfl, w⟩ <;> first | rfl | exact absurd (hsw.mpr u) w | exact absurd (hsw.mp w) u
        refine W.s3 (mkF m 73 #[.val (.int xk), .val (.long ya), .second, .val (.long yb), .second, .val (.int xf), .val (.int xsame), .val (.ref ka1), .val (.ref al), .val (.ref ar), .val (.ref ka3)] [(.int q70), (.int q61)]) st140 ?_
        refine W.icmp X140 hx (hb hby at_73) (pc' := 80) (pc'' := 76) (by decide) (by decide) rfl (fun (c73 : ¬ q61 = q70) => ?_) (fun (c73 : q61 = q70) => ?_)
        · exact absurd hqq c73
        · refine W.s1 (mkF m 77 #[.val (.int xk), .val (.long ya), .second, .val (.long yb), .second, .val (.int xf), .val (.int xsame), .val (.ref ka1), .val (.ref al), .val (.ref ar), .val (.ref ka3)] [(.int (1 : Int32))]) (fun _ kx_ => XS.iconst X140.here hx rfl (hb hby at_76) kx_) ?_
          refine W.s1 (mkF m 81 #[.val (.int xk), .val (.long ya), .second, .val (.long yb), .second, .val (.int xf), .val (.int xsame), .val (.ref ka1), .val (.ref al), .val (.ref ar), .val (.ref ka3)] [(.int (1 : Int32))]) (fun _ kx_ => XS.goto X140.here hx rfl (pc0 := 77) (pc' := 81) rfl (hb hby at_77) (by decide) (by decide) kx_) ?_
          exact W.retZ X140 hx hlk (t := .boolean) (z' := (1 : Int32)) Bd.returns (by simp) (hb hby at_81) rfl (by show Q0 Z xk ya yb xf aZ zp zq nZ fZ fp fq aO zo fo ka0 ka1 ka2 ka3 ka4 h0 n0 _ T140.heap _; rw [e140]; exact ⟨rfl, N140⟩) (by decide) (by decide)
      · refine W.s1 (mkF m 32 #[.val (.int xk), .val (.long ya), .second, .val (.long yb), .second, .val (.int xf), .val (.int xsame), .val (.ref ka1), .val (.ref al), .unset, .unset] [(.long ya)]) (fun _ kx_ => XS.lloadN X129.here hx rfl (hb hby at_31) rfl kx_) ?_
        refine W.s1 (mkF m 36 #[.val (.int xk), .val (.long ya), .second, .val (.long yb), .second, .val (.int xf), .val (.int xsame), .val (.ref ka1), .val (.ref al), .unset, .unset] [(.long ya)]) (fun _ kx_ => XS.goto X129.here hx rfl (pc0 := 32) (pc' := 36) rfl (hb hby at_32) (by decide) (by decide) kx_) ?_
        obtain ⟨_, _, ⟨T144, L144, k144, n144⟩, -, X144, ⟨Lc144, hQ144, l144, y144, z144⟩, st144⟩ := Jvm.LawKit.callS X129 hx (y := (⟨"com/example/hybridge/hybridge/model/Rational", "of", "(J)Lcom/example/hybridge/hybridge/model/Rational;"⟩ : MethodName)) hown (mvT hZ (hw _ (List.mem_of_getElem? (i := 8) rfl))) (mvT hZ (hw _ (List.mem_of_getElem? (i := 9) rfl))) (mvT hZ (hw _ (List.mem_of_getElem? (i := 10) rfl))) (mvT hZ (hw _ (List.mem_of_getElem? (i := 11) rfl))) (by decide) (backOf (W := 0) (rm2 l Z a0 hw [] ya aZ zp zq nZ fZ fp fq aO h129 n0 Z129 f130 S_ZERO S_posConst S_negConst HZ A_zp A_zq h_zp h_zq S_ONE) hZ (hw _ (List.mem_of_getElem? (i := 11) rfl)) (hw _ (List.mem_of_getElem? (i := 10) rfl)) (by decide) (by decide)) (g := (mkF m 36 #[.val (.int xk), .val (.long ya), .second, .val (.long yb), .second, .val (.int xf), .val (.int xsame), .val (.ref ka1), .val (.ref al), .unset, .unset] [(.long ya)])) rfl (by rw [hml]; rfl) (argsL := [(.long ya)]) (rest := []) (lenOf pd_14 rfl) rfl (by show 2 * 0 + _ ≤ _; exact Nat.le_of_eq rfl) (hb hby at_36) (fun _ _ => ⟨rfl, e129, (by decide : 3 + 3 ≤ _), (by decide : 10 + 10 ≤ _)⟩)
        dsimp only [Pt.U, Pt.locs, Pt.cells, Pt.slots] at X144 l144 y144 z144 st144 hQ144
        subst l144 y144 z144
        obtain ⟨h144, e144⟩ : ∃ z, T144.heap = z := ⟨_, rfl⟩
        rw [e144] at hQ144
        obtain ⟨ar, sr, nr, fr, rfl, Nq144, Kq144, Hr⟩ := hQ144
        have N144 := Fr.app N129 Nq144
        have Z144 : n0 ≤ h144.size := Nat.le_trans Z129 Kq144.1
        have f145 := f130.keep Kq144 all0
        have f146 := f131.keep Kq144
        have HlR := Hl.keep Kq144
        refine W.s2 (mkF m 39 #[.val (.int xk), .val (.long ya), .second, .val (.long yb), .second, .val (.int xf), .val (.int xsame), .val (.ref ka1), .val (.ref al), .unset, .unset] [(.ref ar)]) st144 ?_
        refine W.s1 (mkF m 41 #[.val (.int xk), .val (.long ya), .second, .val (.long yb), .second, .val (.int xf), .val (.int xsame), .val (.ref ka1), .val (.ref al), .val (.ref ar), .unset] []) (fun _ kx_ => XS.astore X144.here hx rfl (hb hby at_39) rfl rfl (l' := #[.val (.int xk), .val (.long ya), .second, .val (.long yb), .second, .val (.int xf), .val (.int xsame), .val (.ref ka1), .val (.ref al), .val (.ref ar), .unset]) rfl kx_) ?_
        refine W.s1 (mkF m 43 #[.val (.int xk), .val (.long ya), .second, .val (.long yb), .second, .val (.int xf), .val (.int xsame), .val (.ref ka1), .val (.ref al), .val (.ref ar), .unset] [(.ref ka1)]) (fun _ kx_ => XS.aload X144.here hx rfl (hb hby at_41) rfl rfl kx_) ?_
        obtain ⟨cq147, kq147, q147a, q147b, q147c⟩ := isOf hZ e144 f146
        obtain ⟨_, _, ⟨T147, L147, k147, n147⟩, -, X147, ⟨Lc147, hQ147, l147, y147, z147⟩, st147⟩ := X144.virtualBack hx (y := (⟨"com/example/hybridge/hybridge/model/Relation", "swapped", "()Lcom/example/hybridge/hybridge/model/Relation;"⟩ : MethodName)) (z := (⟨"com/example/hybridge/hybridge/model/Relation", "swapped", "()Lcom/example/hybridge/hybridge/model/Relation;"⟩ : MethodName)) hown (mvT hZ (hw _ (List.mem_of_getElem? (i := 50) rfl))) (mvT hZ (hw _ (List.mem_of_getElem? (i := 51) rfl))) (notFace_of_selects (args := #[]) (mvT hZ (hw _ (List.mem_of_getElem? (i := 53) rfl)))) (mvT hZ (hw _ (List.mem_of_getElem? (i := 53) rfl))) (mvT hZ (hw _ (List.mem_of_getElem? (i := 52) rfl))) (by decide) (backOf (W := 0) (rm8_1 l Z a0 hw [] ka1 ka3 h144 n0 Z144 f145 f146 (F_r1.ext f145.2) S_GREATER_OR_EQUAL) hZ (hw _ (List.mem_of_getElem? (i := 54) rfl)) (hw _ (List.mem_of_getElem? (i := 6) rfl)) (by decide) (by decide)) q147a q147c (g := (mkF m 43 #[.val (.int xk), .val (.long ya), .second, .val (.long yb), .second, .val (.int xf), .val (.int xsame), .val (.ref ka1), .val (.ref al), .val (.ref ar), .unset] [(.ref ka1)])) rfl (by rw [hml]; rfl) (Steps.refl _) (argsL := []) (rest := []) (lenOf pd_15 rfl) rfl (by show 2 * 0 + _ ≤ _; exact Nat.le_of_eq rfl) (hb hby at_43) (fun _ _ => ⟨rfl, e144, (by decide : 6 + 0 ≤ _), (by decide : 20 + 0 ≤ _)⟩)
        dsimp only [Pt.U, Pt.locs, Pt.cells, Pt.slots] at X147 l147 y147 z147 st147 hQ147
        subst l147 y147 z147
        obtain ⟨rfl, Nq147, eq147⟩ := hQ147
        have N147 := Fr.app N144 Nq147
        have Es := Exa.ext f145.2 E_r3
        refine W.s3 (mkF m 46 #[.val (.int xk), .val (.long ya), .second, .val (.long yb), .second, .val (.int xf), .val (.int xsame), .val (.ref ka1), .val (.ref al), .val (.ref ar), .unset] [(.ref ka3)]) st147 ?_
        refine W.s1 (mkF m 48 #[.val (.int xk), .val (.long ya), .second, .val (.long yb), .second, .val (.int xf), .val (.int xsame), .val (.ref ka1), .val (.ref al), .val (.ref ar), .val (.ref ka3)] []) (fun _ kx_ => XS.astore X147.here hx rfl (hb hby at_46) rfl rfl (l' := #[.val (.int xk), .val (.long ya), .second, .val (.long yb), .second, .val (.int xf), .val (.int xsame), .val (.ref ka1), .val (.ref al), .val (.ref ar), .val (.ref ka3)]) rfl kx_) ?_
        refine W.s1 (mkF m 50 #[.val (.int xk), .val (.long ya), .second, .val (.long yb), .second, .val (.int xf), .val (.int xsame), .val (.ref ka1), .val (.ref al), .val (.ref ar), .val (.ref ka3)] [(.ref ka3)]) (fun _ kx_ => XS.aload X147.here hx rfl (hb hby at_48) rfl rfl kx_) ?_
        refine W.s1 (mkF m 55 #[.val (.int xk), .val (.long ya), .second, .val (.long yb), .second, .val (.int xf), .val (.int xsame), .val (.ref ka1), .val (.ref al), .val (.ref ar), .val (.ref ka3)] []) (fun _ kx_ => XS.ifnonnullYes X147.here hx rfl (pc0 := 50) (pc' := 55) rfl (hb hby at_50) rfl (by decide) (by decide) kx_) ?_
        refine W.s1 (mkF m 57 #[.val (.int xk), .val (.long ya), .second, .val (.long yb), .second, .val (.int xf), .val (.int xsame), .val (.ref ka1), .val (.ref al), .val (.ref ar), .val (.ref ka3)] [(.ref ka1)]) (fun _ kx_ => XS.aload X147.here hx rfl (hb hby at_55) rfl rfl kx_) ?_
        refine W.s1 (mkF m 59 #[.val (.int xk), .val (.long ya), .second, .val (.long yb), .second, .val (.int xf), .val (.int xsame), .val (.ref ka1), .val (.ref al), .val (.ref ar), .val (.ref ka3)] [(.ref al), (.ref ka1)]) (fun _ kx_ => XS.aload X147.here hx rfl (hb hby at_57) rfl rfl kx_) ?_
        refine W.s1 (mkF m 61 #[.val (.int xk), .val (.long ya), .second, .val (.long yb), .second, .val (.int xf), .val (.int xsame), .val (.ref ka1), .val (.ref al), .val (.ref ar), .val (.ref ka3)] [(.ref ar), (.ref al), (.ref ka1)]) (fun _ kx_ => XS.aload X147.here hx rfl (hb hby at_59) rfl rfl kx_) ?_
        obtain ⟨cq148, kq148, q148a, q148b, q148c⟩ := isOf hZ eq147 f146
        obtain ⟨_, _, ⟨T148, L148, k148, n148⟩, -, X148, ⟨Lc148, hQ148, l148, y148, z148⟩, st148⟩ := X147.virtualBack hx (y := (⟨"com/example/hybridge/hybridge/model/Relation", "holds", "(Lcom/example/hybridge/hybridge/model/Rational;Lcom/example/hybridge/hybridge/model/Rational;)Z"⟩ : MethodName)) (z := (⟨"com/example/hybridge/hybridge/model/Relation", "holds", "(Lcom/example/hybridge/hybridge/model/Rational;Lcom/example/hybridge/hybridge/model/Rational;)Z"⟩ : MethodName)) hown (mvT hZ (hw _ (List.mem_of_getElem? (i := 66) rfl))) (mvT hZ (hw _ (List.mem_of_getElem? (i := 67) rfl))) (notFace_of_selects (args := #[]) (mvT hZ (hw _ (List.mem_of_getElem? (i := 69) rfl)))) (mvT hZ (hw _ (List.mem_of_getElem? (i := 69) rfl))) (mvT hZ (hw _ (List.mem_of_getElem? (i := 68) rfl))) (by decide) (backOf (W := 0) (rm10_1 l Z a0 hw [] ka1 al ar aZ nZ fZ aO zo fo sl nl fl sr nr fr h144 n0 Z144 f145 S_ZERO HZ EO FO1 FO2 AO hfo HlR Hr f146 (F_r1.ext f145.2)) hZ (hw _ (List.mem_of_getElem? (i := 70) rfl)) (hw _ (List.mem_of_getElem? (i := 6) rfl)) (by decide) (by decide)) q148a q148c (g := (mkF m 61 #[.val (.int xk), .val (.long ya), .second, .val (.long yb), .second, .val (.int xf), .val (.int xsame), .val (.ref ka1), .val (.ref al), .val (.ref ar), .val (.ref ka3)] [(.ref ar), (.ref al), (.ref ka1)])) rfl (by rw [hml]; rfl) (Steps.refl _) (argsL := [(.ref al), (.ref ar)]) (rest := []) (lenOf pd_16 rfl) rfl (by show 2 * 0 + _ ≤ _; exact Nat.le_of_eq rfl) (hb hby at_61) (fun _ _ => ⟨rfl, eq147, (by decide : 6 + 4 ≤ _), (by decide : 20 + 16 ≤ _)⟩)
        dsimp only [Pt.U, Pt.locs, Pt.cells, Pt.slots] at X148 l148 y148 z148 st148 hQ148
        subst l148 y148 z148
        obtain ⟨h148, e148⟩ : ∃ z, T148.heap = z := ⟨_, rfl⟩
        rw [e148] at hQ148
        obtain ⟨q61, rfl, Nq148, Kq148, hq61⟩ := hQ148
        have N148 := Fr.app N147 Nq148
        have Z148 : n0 ≤ h148.size := Nat.le_trans Z144 Kq148.1
        have f149 := f145.keep Kq148 all0
        have f150 := f146.keep Kq148
        have f151 := Es.keep Kq148
        have Hl2 := HlR.keep Kq148
        have Hr2 := Hr.keep Kq148
        refine W.s3 (mkF m 64 #[.val (.int xk), .val (.long ya), .second, .val (.long yb), .second, .val (.int xf), .val (.int xsame), .val (.ref ka1), .val (.ref al), .val (.ref ar), .val (.ref ka3)] [(.int q61)]) st148 ?_
        refine W.s1 (mkF m 66 #[.val (.int xk), .val (.long ya), .second, .val (.long yb), .second, .val (.int xf), .val (.int xsame), .val (.ref ka1), .val (.ref al), .val (.ref ar), .val (.ref ka3)] [(.ref ka3), (.int q61)]) (fun _ kx_ => XS.aload X148.here hx rfl (hb hby at_64) rfl rfl kx_) ?_
        refine W.s1 (mkF m 68 #[.val (.int xk), .val (.long ya), .second, .val (.long yb), .second, .val (.int xf), .val (.int xsame), .val (.ref ka1), .val (.ref al), .val (.ref ar), .val (.ref ka3)] [(.ref ar), (.ref ka3), (.int q61)]) (fun _ kx_ => XS.aload X148.here hx rfl (hb hby at_66) rfl rfl kx_) ?_
        refine W.s1 (mkF m 70 #[.val (.int xk), .val (.long ya), .second, .val (.long yb), .second, .val (.int xf), .val (.int xsame), .val (.ref ka1), .val (.ref al), .val (.ref ar), .val (.ref ka3)] [(.ref al), (.ref ar), (.ref ka3), (.int q61)]) (fun _ kx_ => XS.aload X148.here hx rfl (hb hby at_68) rfl rfl kx_) ?_
        obtain ⟨cq152, kq152, q152a, q152b, q152c⟩ := isOf hZ e148 f151
        obtain ⟨_, _, ⟨T152, L152, k152, n152⟩, -, X152, ⟨Lc152, hQ152, l152, y152, z152⟩, st152⟩ := X148.virtualBack hx (y := (⟨"com/example/hybridge/hybridge/model/Relation", "holds", "(Lcom/example/hybridge/hybridge/model/Rational;Lcom/example/hybridge/hybridge/model/Rational;)Z"⟩ : MethodName)) (z := (⟨"com/example/hybridge/hybridge/model/Relation", "holds", "(Lcom/example/hybridge/hybridge/model/Rational;Lcom/example/hybridge/hybridge/model/Rational;)Z"⟩ : MethodName)) hown (mvT hZ (hw _ (List.mem_of_getElem? (i := 66) rfl))) (mvT hZ (hw _ (List.mem_of_getElem? (i := 67) rfl))) (notFace_of_selects (args := #[]) (mvT hZ (hw _ (List.mem_of_getElem? (i := 69) rfl)))) (mvT hZ (hw _ (List.mem_of_getElem? (i := 69) rfl))) (mvT hZ (hw _ (List.mem_of_getElem? (i := 68) rfl))) (by decide) (backOf (W := 1) (rm10_3 l Z a0 hw [] ka3 ar al aZ nZ fZ aO zo fo sr nr fr sl nl fl h148 n0 Z148 f149 S_ZERO HZ EO FO1 FO2 AO hfo Hr2 Hl2 f151 (F_r3.ext f149.2)) hZ (hw _ (List.mem_of_getElem? (i := 70) rfl)) (hw _ (List.mem_of_getElem? (i := 6) rfl)) (by decide) (by decide)) q152a q152c (g := (mkF m 70 #[.val (.int xk), .val (.long ya), .second, .val (.long yb), .second, .val (.int xf), .val (.int xsame), .val (.ref ka1), .val (.ref al), .val (.ref ar), .val (.ref ka3)] [(.ref al), (.ref ar), (.ref ka3), (.int q61)])) rfl (by rw [hml]; rfl) (Steps.refl _) (argsL := [(.ref ar), (.ref al)]) (rest := [(.int q61)]) (lenOf pd_16 rfl) rfl (by show 2 * 0 + _ ≤ _; exact Nat.le_of_eq rfl) (hb hby at_70) (fun _ _ => ⟨rfl, e148, (by decide : 10 + 4 ≤ _), (by decide : 36 + 16 ≤ _)⟩)
        dsimp only [Pt.U, Pt.locs, Pt.cells, Pt.slots] at X152 l152 y152 z152 st152 hQ152
        subst l152 y152 z152
        obtain ⟨h152, e152⟩ : ∃ z, T152.heap = z := ⟨_, rfl⟩
        rw [e152] at hQ152
        obtain ⟨q70, rfl, Nq152, Kq152, hq70⟩ := hQ152
        have N152 := Fr.app N148 Nq152
        have Z152 : n0 ≤ h152.size := Nat.le_trans Z148 Kq152.1
        have f153 := f149.keep Kq152 all0
        have f154 := f150.keep Kq152
        have f155 := f151.keep Kq152
        have hqq : q61 = q70 := by
          rw [own_cmpa sl nl fl sr nr fr] at hq70
          have hsw := own_hs ⟨1, by decide⟩ (own_cmp0 sl nl fl sr nr fr)
          rcases hq61 with ⟨rfl, u⟩ | ⟨rfl, u⟩ <;> rcases hq70 with ⟨rfl, w⟩ | ⟨rfl, w⟩ <;> first | rfl | exact absurd (hsw.mpr u) w | exact absurd (hsw.mp w) u
        refine W.s3 (mkF m 73 #[.val (.int xk), .val (.long ya), .second, .val (.long yb), .second, .val (.int xf), .val (.int xsame), .val (.ref ka1), .val (.ref al), .val (.ref ar), .val (.ref ka3)] [(.int q70), (.int q61)]) st152 ?_
        refine W.icmp X152 hx (hb hby at_73) (pc' := 80) (pc'' := 76) (by decide) (by decide) rfl (fun (c73 : ¬ q61 = q70) => ?_) (fun (c73 : q61 = q70) => ?_)
        · exact absurd hqq c73
        · refine W.s1 (mkF m 77 #[.val (.int xk), .val (.long ya), .second, .val (.long yb), .second, .val (.int xf), .val (.int xsame), .val (.ref ka1), .val (.ref al), .val (.ref ar), .val (.ref ka3)] [(.int (1 : Int32))]) (fun _ kx_ => XS.iconst X152.here hx rfl (hb hby at_76) kx_) ?_
          refine W.s1 (mkF m 81 #[.val (.int xk), .val (.long ya), .second, .val (.long yb), .second, .val (.int xf), .val (.int xsame), .val (.ref ka1), .val (.ref al), .val (.ref ar), .val (.ref ka3)] [(.int (1 : Int32))]) (fun _ kx_ => XS.goto X152.here hx rfl (pc0 := 77) (pc' := 81) rfl (hb hby at_77) (by decide) (by decide) kx_) ?_
          exact W.retZ X152 hx hlk (t := .boolean) (z' := (1 : Int32)) Bd.returns (by simp) (hb hby at_81) rfl (by show Q0 Z xk ya yb xf aZ zp zq nZ fZ fp fq aO zo fo ka0 ka1 ka2 ka3 ka4 h0 n0 _ T152.heap _; rw [e152]; exact ⟨rfl, N152⟩) (by decide) (by decide)
    · have Ek := Exa.ext O0.2 E_r2
      refine W.s1 (mkF m 20 #[.val (.int xk), .val (.long ya), .second, .val (.long yb), .second, .val (.int xf), .val (.int xsame), .val (.ref ka2), .unset, .unset, .unset] []) (fun _ kx_ => XS.astore X101.here hx rfl (hb hby at_18) rfl rfl (l' := #[.val (.int xk), .val (.long ya), .second, .val (.long yb), .second, .val (.int xf), .val (.int xsame), .val (.ref ka2), .unset, .unset, .unset]) rfl kx_) ?_
      refine W.s1 (mkF m 21 #[.val (.int xk), .val (.long ya), .second, .val (.long yb), .second, .val (.int xf), .val (.int xsame), .val (.ref ka2), .unset, .unset, .unset] [(.long ya)]) (fun _ kx_ => XS.lloadN X101.here hx rfl (hb hby at_20) rfl kx_) ?_
      obtain ⟨_, _, ⟨T156, L156, k156, n156⟩, -, X156, ⟨Lc156, hQ156, l156, y156, z156⟩, st156⟩ := Jvm.LawKit.callS X101 hx (y := (⟨"com/example/hybridge/hybridge/model/Rational", "of", "(J)Lcom/example/hybridge/hybridge/model/Rational;"⟩ : MethodName)) hown (mvT hZ (hw _ (List.mem_of_getElem? (i := 8) rfl))) (mvT hZ (hw _ (List.mem_of_getElem? (i := 9) rfl))) (mvT hZ (hw _ (List.mem_of_getElem? (i := 10) rfl))) (mvT hZ (hw _ (List.mem_of_getElem? (i := 11) rfl))) (by decide) (backOf (W := 0) (rm2 l Z a0 hw [] ya aZ zp zq nZ fZ fp fq aO h0 n0 Z0 O0 S_ZERO S_posConst S_negConst HZ A_zp A_zq h_zp h_zq S_ONE) hZ (hw _ (List.mem_of_getElem? (i := 11) rfl)) (hw _ (List.mem_of_getElem? (i := 10) rfl)) (by decide) (by decide)) (g := (mkF m 21 #[.val (.int xk), .val (.long ya), .second, .val (.long yb), .second, .val (.int xf), .val (.int xsame), .val (.ref ka2), .unset, .unset, .unset] [(.long ya)])) rfl (by rw [hml]; rfl) (argsL := [(.long ya)]) (rest := []) (lenOf pd_14 rfl) rfl (by show 2 * 0 + _ ≤ _; exact Nat.le_of_eq rfl) (hb hby at_21) (fun _ _ => ⟨rfl, eq101, (by decide : 0 + 3 ≤ _), (by decide : 0 + 10 ≤ _)⟩)
      dsimp only [Pt.U, Pt.locs, Pt.cells, Pt.slots] at X156 l156 y156 z156 st156 hQ156
      subst l156 y156 z156
      obtain ⟨h156, e156⟩ : ∃ z, T156.heap = z := ⟨_, rfl⟩
      rw [e156] at hQ156
      obtain ⟨al, sl, nl, fl, rfl, Nq156, Kq156, Hl⟩ := hQ156
      have N156 := Fr.app N101 Nq156
      have Z156 : n0 ≤ h156.size := Nat.le_trans Z0 Kq156.1
      have f157 := O0.keep Kq156 all0
      have f158 := Ek.keep Kq156
      refine W.s2 (mkF m 24 #[.val (.int xk), .val (.long ya), .second, .val (.long yb), .second, .val (.int xf), .val (.int xsame), .val (.ref ka2), .unset, .unset, .unset] [(.ref al)]) st156 ?_
      refine W.s1 (mkF m 26 #[.val (.int xk), .val (.long ya), .second, .val (.long yb), .second, .val (.int xf), .val (.int xsame), .val (.ref ka2), .val (.ref al), .unset, .unset] []) (fun _ kx_ => XS.astore X156.here hx rfl (hb hby at_24) rfl rfl (l' := #[.val (.int xk), .val (.long ya), .second, .val (.long yb), .second, .val (.int xf), .val (.int xsame), .val (.ref ka2), .val (.ref al), .unset, .unset]) rfl kx_) ?_
      refine W.s1 (mkF m 28 #[.val (.int xk), .val (.long ya), .second, .val (.long yb), .second, .val (.int xf), .val (.int xsame), .val (.ref ka2), .val (.ref al), .unset, .unset] [(.int xsame)]) (fun _ kx_ => XS.iload X156.here hx rfl (hb hby at_26) rfl kx_) ?_
      refine W.ifc X156 hx (hb hby at_28) (pc' := 35) (pc'' := 31) (by decide) (by decide) rfl (fun (c28 : xsame = (0 : Int32)) => ?_) (fun (c28 : ¬ xsame = (0 : Int32)) => ?_)
      · refine W.s1 (mkF m 36 #[.val (.int xk), .val (.long ya), .second, .val (.long yb), .second, .val (.int xf), .val (.int xsame), .val (.ref ka2), .val (.ref al), .unset, .unset] [(.long yb)]) (fun _ kx_ => XS.lloadN X156.here hx rfl (hb hby at_35) rfl kx_) ?_
        obtain ⟨_, _, ⟨T159, L159, k159, n159⟩, -, X159, ⟨Lc159, hQ159, l159, y159, z159⟩, st159⟩ := Jvm.LawKit.callS X156 hx (y := (⟨"com/example/hybridge/hybridge/model/Rational", "of", "(J)Lcom/example/hybridge/hybridge/model/Rational;"⟩ : MethodName)) hown (mvT hZ (hw _ (List.mem_of_getElem? (i := 8) rfl))) (mvT hZ (hw _ (List.mem_of_getElem? (i := 9) rfl))) (mvT hZ (hw _ (List.mem_of_getElem? (i := 10) rfl))) (mvT hZ (hw _ (List.mem_of_getElem? (i := 11) rfl))) (by decide) (backOf (W := 0) (rm2 l Z a0 hw [] yb aZ zp zq nZ fZ fp fq aO h156 n0 Z156 f157 S_ZERO S_posConst S_negConst HZ A_zp A_zq h_zp h_zq S_ONE) hZ (hw _ (List.mem_of_getElem? (i := 11) rfl)) (hw _ (List.mem_of_getElem? (i := 10) rfl)) (by decide) (by decide)) (g := (mkF m 36 #[.val (.int xk), .val (.long ya), .second, .val (.long yb), .second, .val (.int xf), .val (.int xsame), .val (.ref ka2), .val (.ref al), .unset, .unset] [(.long yb)])) rfl (by rw [hml]; rfl) (argsL := [(.long yb)]) (rest := []) (lenOf pd_14 rfl) rfl (by show 2 * 0 + _ ≤ _; exact Nat.le_of_eq rfl) (hb hby at_36) (fun _ _ => ⟨rfl, e156, (by decide : 3 + 3 ≤ _), (by decide : 10 + 10 ≤ _)⟩)
        dsimp only [Pt.U, Pt.locs, Pt.cells, Pt.slots] at X159 l159 y159 z159 st159 hQ159
        subst l159 y159 z159
        obtain ⟨h159, e159⟩ : ∃ z, T159.heap = z := ⟨_, rfl⟩
        rw [e159] at hQ159
        obtain ⟨ar, sr, nr, fr, rfl, Nq159, Kq159, Hr⟩ := hQ159
        have N159 := Fr.app N156 Nq159
        have Z159 : n0 ≤ h159.size := Nat.le_trans Z156 Kq159.1
        have f160 := f157.keep Kq159 all0
        have f161 := f158.keep Kq159
        have HlR := Hl.keep Kq159
        refine W.s2 (mkF m 39 #[.val (.int xk), .val (.long ya), .second, .val (.long yb), .second, .val (.int xf), .val (.int xsame), .val (.ref ka2), .val (.ref al), .unset, .unset] [(.ref ar)]) st159 ?_
        refine W.s1 (mkF m 41 #[.val (.int xk), .val (.long ya), .second, .val (.long yb), .second, .val (.int xf), .val (.int xsame), .val (.ref ka2), .val (.ref al), .val (.ref ar), .unset] []) (fun _ kx_ => XS.astore X159.here hx rfl (hb hby at_39) rfl rfl (l' := #[.val (.int xk), .val (.long ya), .second, .val (.long yb), .second, .val (.int xf), .val (.int xsame), .val (.ref ka2), .val (.ref al), .val (.ref ar), .unset]) rfl kx_) ?_
        refine W.s1 (mkF m 43 #[.val (.int xk), .val (.long ya), .second, .val (.long yb), .second, .val (.int xf), .val (.int xsame), .val (.ref ka2), .val (.ref al), .val (.ref ar), .unset] [(.ref ka2)]) (fun _ kx_ => XS.aload X159.here hx rfl (hb hby at_41) rfl rfl kx_) ?_
        obtain ⟨cq162, kq162, q162a, q162b, q162c⟩ := isOf hZ e159 f161
        obtain ⟨_, _, ⟨T162, L162, k162, n162⟩, -, X162, ⟨Lc162, hQ162, l162, y162, z162⟩, st162⟩ := X159.virtualBack hx (y := (⟨"com/example/hybridge/hybridge/model/Relation", "swapped", "()Lcom/example/hybridge/hybridge/model/Relation;"⟩ : MethodName)) (z := (⟨"com/example/hybridge/hybridge/model/Relation", "swapped", "()Lcom/example/hybridge/hybridge/model/Relation;"⟩ : MethodName)) hown (mvT hZ (hw _ (List.mem_of_getElem? (i := 50) rfl))) (mvT hZ (hw _ (List.mem_of_getElem? (i := 51) rfl))) (notFace_of_selects (args := #[]) (mvT hZ (hw _ (List.mem_of_getElem? (i := 53) rfl)))) (mvT hZ (hw _ (List.mem_of_getElem? (i := 53) rfl))) (mvT hZ (hw _ (List.mem_of_getElem? (i := 52) rfl))) (by decide) (backOf (W := 0) (rm8_2 l Z a0 hw [] ka2 ka2 h159 n0 Z159 f160 f161 (F_r2.ext f160.2) S_EQUAL) hZ (hw _ (List.mem_of_getElem? (i := 54) rfl)) (hw _ (List.mem_of_getElem? (i := 6) rfl)) (by decide) (by decide)) q162a q162c (g := (mkF m 43 #[.val (.int xk), .val (.long ya), .second, .val (.long yb), .second, .val (.int xf), .val (.int xsame), .val (.ref ka2), .val (.ref al), .val (.ref ar), .unset] [(.ref ka2)])) rfl (by rw [hml]; rfl) (Steps.refl _) (argsL := []) (rest := []) (lenOf pd_15 rfl) rfl (by show 2 * 0 + _ ≤ _; exact Nat.le_of_eq rfl) (hb hby at_43) (fun _ _ => ⟨rfl, e159, (by decide : 6 + 0 ≤ _), (by decide : 20 + 0 ≤ _)⟩)
        dsimp only [Pt.U, Pt.locs, Pt.cells, Pt.slots] at X162 l162 y162 z162 st162 hQ162
        subst l162 y162 z162
        obtain ⟨rfl, Nq162, eq162⟩ := hQ162
        have N162 := Fr.app N159 Nq162
        have Es := Exa.ext f160.2 E_r2
        refine W.s3 (mkF m 46 #[.val (.int xk), .val (.long ya), .second, .val (.long yb), .second, .val (.int xf), .val (.int xsame), .val (.ref ka2), .val (.ref al), .val (.ref ar), .unset] [(.ref ka2)]) st162 ?_
        refine W.s1 (mkF m 48 #[.val (.int xk), .val (.long ya), .second, .val (.long yb), .second, .val (.int xf), .val (.int xsame), .val (.ref ka2), .val (.ref al), .val (.ref ar), .val (.ref ka2)] []) (fun _ kx_ => XS.astore X162.here hx rfl (hb hby at_46) rfl rfl (l' := #[.val (.int xk), .val (.long ya), .second, .val (.long yb), .second, .val (.int xf), .val (.int xsame), .val (.ref ka2), .val (.ref al), .val (.ref ar), .val (.ref ka2)]) rfl kx_) ?_
        refine W.s1 (mkF m 50 #[.val (.int xk), .val (.long ya), .second, .val (.long yb), .second, .val (.int xf), .val (.int xsame), .val (.ref ka2), .val (.ref al), .val (.ref ar), .val (.ref ka2)] [(.ref ka2)]) (fun _ kx_ => XS.aload X162.here hx rfl (hb hby at_48) rfl rfl kx_) ?_
        refine W.s1 (mkF m 55 #[.val (.int xk), .val (.long ya), .second, .val (.long yb), .second, .val (.int xf), .val (.int xsame), .val (.ref ka2), .val (.ref al), .val (.ref ar), .val (.ref ka2)] []) (fun _ kx_ => XS.ifnonnullYes X162.here hx rfl (pc0 := 50) (pc' := 55) rfl (hb hby at_50) rfl (by decide) (by decide) kx_) ?_
        refine W.s1 (mkF m 57 #[.val (.int xk), .val (.long ya), .second, .val (.long yb), .second, .val (.int xf), .val (.int xsame), .val (.ref ka2), .val (.ref al), .val (.ref ar), .val (.ref ka2)] [(.ref ka2)]) (fun _ kx_ => XS.aload X162.here hx rfl (hb hby at_55) rfl rfl kx_) ?_
        refine W.s1 (mkF m 59 #[.val (.int xk), .val (.long ya), .second, .val (.long yb), .second, .val (.int xf), .val (.int xsame), .val (.ref ka2), .val (.ref al), .val (.ref ar), .val (.ref ka2)] [(.ref al), (.ref ka2)]) (fun _ kx_ => XS.aload X162.here hx rfl (hb hby at_57) rfl rfl kx_) ?_
        refine W.s1 (mkF m 61 #[.val (.int xk), .val (.long ya), .second, .val (.long yb), .second, .val (.int xf), .val (.int xsame), .val (.ref ka2), .val (.ref al), .val (.ref ar), .val (.ref ka2)] [(.ref ar), (.ref al), (.ref ka2)]) (fun _ kx_ => XS.aload X162.here hx rfl (hb hby at_59) rfl rfl kx_) ?_
        obtain ⟨cq163, kq163, q163a, q163b, q163c⟩ := isOf hZ eq162 Es
        obtain ⟨_, _, ⟨T163, L163, k163, n163⟩, -, X163, ⟨Lc163, hQ163, l163, y163, z163⟩, st163⟩ := X162.virtualBack hx (y := (⟨"com/example/hybridge/hybridge/model/Relation", "holds", "(Lcom/example/hybridge/hybridge/model/Rational;Lcom/example/hybridge/hybridge/model/Rational;)Z"⟩ : MethodName)) (z := (⟨"com/example/hybridge/hybridge/model/Relation", "holds", "(Lcom/example/hybridge/hybridge/model/Rational;Lcom/example/hybridge/hybridge/model/Rational;)Z"⟩ : MethodName)) hown (mvT hZ (hw _ (List.mem_of_getElem? (i := 66) rfl))) (mvT hZ (hw _ (List.mem_of_getElem? (i := 67) rfl))) (notFace_of_selects (args := #[]) (mvT hZ (hw _ (List.mem_of_getElem? (i := 69) rfl)))) (mvT hZ (hw _ (List.mem_of_getElem? (i := 69) rfl))) (mvT hZ (hw _ (List.mem_of_getElem? (i := 68) rfl))) (by decide) (backOf (W := 0) (rm10_2 l Z a0 hw [] ka2 al ar aZ nZ fZ aO zo fo sl nl fl sr nr fr h159 n0 Z159 f160 S_ZERO HZ EO FO1 FO2 AO hfo HlR Hr Es (F_r2.ext f160.2)) hZ (hw _ (List.mem_of_getElem? (i := 70) rfl)) (hw _ (List.mem_of_getElem? (i := 6) rfl)) (by decide) (by decide)) q163a q163c (g := (mkF m 61 #[.val (.int xk), .val (.long ya), .second, .val (.long yb), .second, .val (.int xf), .val (.int xsame), .val (.ref ka2), .val (.ref al), .val (.ref ar), .val (.ref ka2)] [(.ref ar), (.ref al), (.ref ka2)])) rfl (by rw [hml]; rfl) (Steps.refl _) (argsL := [(.ref al), (.ref ar)]) (rest := []) (lenOf pd_16 rfl) rfl (by show 2 * 0 + _ ≤ _; exact Nat.le_of_eq rfl) (hb hby at_61) (fun _ _ => ⟨rfl, eq162, (by decide : 6 + 4 ≤ _), (by decide : 20 + 16 ≤ _)⟩)
        dsimp only [Pt.U, Pt.locs, Pt.cells, Pt.slots] at X163 l163 y163 z163 st163 hQ163
        subst l163 y163 z163
        obtain ⟨h163, e163⟩ : ∃ z, T163.heap = z := ⟨_, rfl⟩
        rw [e163] at hQ163
        obtain ⟨q61, rfl, Nq163, Kq163, hq61⟩ := hQ163
        have N163 := Fr.app N162 Nq163
        have Z163 : n0 ≤ h163.size := Nat.le_trans Z159 Kq163.1
        have f164 := f160.keep Kq163 all0
        have f165 := Es.keep Kq163
        have Hl2 := HlR.keep Kq163
        have Hr2 := Hr.keep Kq163
        refine W.s3 (mkF m 64 #[.val (.int xk), .val (.long ya), .second, .val (.long yb), .second, .val (.int xf), .val (.int xsame), .val (.ref ka2), .val (.ref al), .val (.ref ar), .val (.ref ka2)] [(.int q61)]) st163 ?_
        refine W.s1 (mkF m 66 #[.val (.int xk), .val (.long ya), .second, .val (.long yb), .second, .val (.int xf), .val (.int xsame), .val (.ref ka2), .val (.ref al), .val (.ref ar), .val (.ref ka2)] [(.ref ka2), (.int q61)]) (fun _ kx_ => XS.aload X163.here hx rfl (hb hby at_64) rfl rfl kx_) ?_
        refine W.s1 (mkF m 68 #[.val (.int xk), .val (.long ya), .second, .val (.long yb), .second, .val (.int xf), .val (.int xsame), .val (.ref ka2), .val (.ref al), .val (.ref ar), .val (.ref ka2)] [(.ref ar), (.ref ka2), (.int q61)]) (fun _ kx_ => XS.aload X163.here hx rfl (hb hby at_66) rfl rfl kx_) ?_
        refine W.s1 (mkF m 70 #[.val (.int xk), .val (.long ya), .second, .val (.long yb), .second, .val (.int xf), .val (.int xsame), .val (.ref ka2), .val (.ref al), .val (.ref ar), .val (.ref ka2)] [(.ref al), (.ref ar), (.ref ka2), (.int q61)]) (fun _ kx_ => XS.aload X163.here hx rfl (hb hby at_68) rfl rfl kx_) ?_
        obtain ⟨cq166, kq166, q166a, q166b, q166c⟩ := isOf hZ e163 f165
        obtain ⟨_, _, ⟨T166, L166, k166, n166⟩, -, X166, ⟨Lc166, hQ166, l166, y166, z166⟩, st166⟩ := X163.virtualBack hx (y := (⟨"com/example/hybridge/hybridge/model/Relation", "holds", "(Lcom/example/hybridge/hybridge/model/Rational;Lcom/example/hybridge/hybridge/model/Rational;)Z"⟩ : MethodName)) (z := (⟨"com/example/hybridge/hybridge/model/Relation", "holds", "(Lcom/example/hybridge/hybridge/model/Rational;Lcom/example/hybridge/hybridge/model/Rational;)Z"⟩ : MethodName)) hown (mvT hZ (hw _ (List.mem_of_getElem? (i := 66) rfl))) (mvT hZ (hw _ (List.mem_of_getElem? (i := 67) rfl))) (notFace_of_selects (args := #[]) (mvT hZ (hw _ (List.mem_of_getElem? (i := 69) rfl)))) (mvT hZ (hw _ (List.mem_of_getElem? (i := 69) rfl))) (mvT hZ (hw _ (List.mem_of_getElem? (i := 68) rfl))) (by decide) (backOf (W := 1) (rm10_2 l Z a0 hw [] ka2 ar al aZ nZ fZ aO zo fo sr nr fr sl nl fl h163 n0 Z163 f164 S_ZERO HZ EO FO1 FO2 AO hfo Hr2 Hl2 f165 (F_r2.ext f164.2)) hZ (hw _ (List.mem_of_getElem? (i := 70) rfl)) (hw _ (List.mem_of_getElem? (i := 6) rfl)) (by decide) (by decide)) q166a q166c (g := (mkF m 70 #[.val (.int xk), .val (.long ya), .second, .val (.long yb), .second, .val (.int xf), .val (.int xsame), .val (.ref ka2), .val (.ref al), .val (.ref ar), .val (.ref ka2)] [(.ref al), (.ref ar), (.ref ka2), (.int q61)])) rfl (by rw [hml]; rfl) (Steps.refl _) (argsL := [(.ref ar), (.ref al)]) (rest := [(.int q61)]) (lenOf pd_16 rfl) rfl (by show 2 * 0 + _ ≤ _; exact Nat.le_of_eq rfl) (hb hby at_70) (fun _ _ => ⟨rfl, e163, (by decide : 10 + 4 ≤ _), (by decide : 36 + 16 ≤ _)⟩)
        dsimp only [Pt.U, Pt.locs, Pt.cells, Pt.slots] at X166 l166 y166 z166 st166 hQ166
        subst l166 y166 z166
        obtain ⟨h166, e166⟩ : ∃ z, T166.heap = z := ⟨_, rfl⟩
        rw [e166] at hQ166
        obtain ⟨q70, rfl, Nq166, Kq166, hq70⟩ := hQ166
        have N166 := Fr.app N163 Nq166
        have Z166 : n0 ≤ h166.size := Nat.le_trans Z163 Kq166.1
        have f167 := f164.keep Kq166 all0
        have f168 := f165.keep Kq166
        have hqq : q61 = q70 := by
          rw [own_cmpa sl nl fl sr nr fr] at hq70
          have hsw := own_hs ⟨2, by decide⟩ (own_cmp0 sl nl fl sr nr fr)
          rcases hq61 with ⟨rfl, u⟩ | ⟨rfl, u⟩ <;> rcases hq70 with ⟨rfl, w⟩ | ⟨rfl, w⟩ <;> first | rfl | exact absurd (hsw.mpr u) w | exact absurd (hsw.mp w) u
        refine W.s3 (mkF m 73 #[.val (.int xk), .val (.long ya), .second, .val (.long yb), .second, .val (.int xf), .val (.int xsame), .val (.ref ka2), .val (.ref al), .val (.ref ar), .val (.ref ka2)] [(.int q70), (.int q61)]) st166 ?_
        refine W.icmp X166 hx (hb hby at_73) (pc' := 80) (pc'' := 76) (by decide) (by decide) rfl (fun (c73 : ¬ q61 = q70) => ?_) (fun (c73 : q61 = q70) => ?_)
        · exact absurd hqq c73
        · refine W.s1 (mkF m 77 #[.val (.int xk), .val (.long ya), .second, .val (.long yb), .second, .val (.int xf), .val (.int xsame), .val (.ref ka2), .val (.ref al), .val (.ref ar), .val (.ref ka2)] [(.int (1 : Int32))]) (fun _ kx_ => XS.iconst X166.here hx rfl (hb hby at_76) kx_) ?_
          refine W.s1 (mkF m 81 #[.val (.int xk), .val (.long ya), .second, .val (.long yb), .second, .val (.int xf), .val (.int xsame), .val (.ref ka2), .val (.ref al), .val (.ref ar), .val (.ref ka2)] [(.int (1 : Int32))]) (fun _ kx_ => XS.goto X166.here hx rfl (pc0 := 77) (pc' := 81) rfl (hb hby at_77) (by decide) (by decide) kx_) ?_
          exact W.retZ X166 hx hlk (t := .boolean) (z' := (1 : Int32)) Bd.returns (by simp) (hb hby at_81) rfl (by show Q0 Z xk ya yb xf aZ zp zq nZ fZ fp fq aO zo fo ka0 ka1 ka2 ka3 ka4 h0 n0 _ T166.heap _; rw [e166]; exact ⟨rfl, N166⟩) (by decide) (by decide)
      · refine W.s1 (mkF m 32 #[.val (.int xk), .val (.long ya), .second, .val (.long yb), .second, .val (.int xf), .val (.int xsame), .val (.ref ka2), .val (.ref al), .unset, .unset] [(.long ya)]) (fun _ kx_ => XS.lloadN X156.here hx rfl (hb hby at_31) rfl kx_) ?_
        refine W.s1 (mkF m 36 #[.val (.int xk), .val (.long ya), .second, .val (.long yb), .second, .val (.int xf), .val (.int xsame), .val (.ref ka2), .val (.ref al), .unset, .unset] [(.long ya)]) (fun _ kx_ => XS.goto X156.here hx rfl (pc0 := 32) (pc' := 36) rfl (hb hby at_32) (by decide) (by decide) kx_) ?_
        obtain ⟨_, _, ⟨T169, L169, k169, n169⟩, -, X169, ⟨Lc169, hQ169, l169, y169, z169⟩, st169⟩ := Jvm.LawKit.callS X156 hx (y := (⟨"com/example/hybridge/hybridge/model/Rational", "of", "(J)Lcom/example/hybridge/hybridge/model/Rational;"⟩ : MethodName)) hown (mvT hZ (hw _ (List.mem_of_getElem? (i := 8) rfl))) (mvT hZ (hw _ (List.mem_of_getElem? (i := 9) rfl))) (mvT hZ (hw _ (List.mem_of_getElem? (i := 10) rfl))) (mvT hZ (hw _ (List.mem_of_getElem? (i := 11) rfl))) (by decide) (backOf (W := 0) (rm2 l Z a0 hw [] ya aZ zp zq nZ fZ fp fq aO h156 n0 Z156 f157 S_ZERO S_posConst S_negConst HZ A_zp A_zq h_zp h_zq S_ONE) hZ (hw _ (List.mem_of_getElem? (i := 11) rfl)) (hw _ (List.mem_of_getElem? (i := 10) rfl)) (by decide) (by decide)) (g := (mkF m 36 #[.val (.int xk), .val (.long ya), .second, .val (.long yb), .second, .val (.int xf), .val (.int xsame), .val (.ref ka2), .val (.ref al), .unset, .unset] [(.long ya)])) rfl (by rw [hml]; rfl) (argsL := [(.long ya)]) (rest := []) (lenOf pd_14 rfl) rfl (by show 2 * 0 + _ ≤ _; exact Nat.le_of_eq rfl) (hb hby at_36) (fun _ _ => ⟨rfl, e156, (by decide : 3 + 3 ≤ _), (by decide : 10 + 10 ≤ _)⟩)
        dsimp only [Pt.U, Pt.locs, Pt.cells, Pt.slots] at X169 l169 y169 z169 st169 hQ169
        subst l169 y169 z169
        obtain ⟨h169, e169⟩ : ∃ z, T169.heap = z := ⟨_, rfl⟩
        rw [e169] at hQ169
        obtain ⟨ar, sr, nr, fr, rfl, Nq169, Kq169, Hr⟩ := hQ169
        have N169 := Fr.app N156 Nq169
        have Z169 : n0 ≤ h169.size := Nat.le_trans Z156 Kq169.1
        have f170 := f157.keep Kq169 all0
        have f171 := f158.keep Kq169
        have HlR := Hl.keep Kq169
        refine W.s2 (mkF m 39 #[.val (.int xk), .val (.long ya), .second, .val (.long yb), .second, .val (.int xf), .val (.int xsame), .val (.ref ka2), .val (.ref al), .unset, .unset] [(.ref ar)]) st169 ?_
        refine W.s1 (mkF m 41 #[.val (.int xk), .val (.long ya), .second, .val (.long yb), .second, .val (.int xf), .val (.int xsame), .val (.ref ka2), .val (.ref al), .val (.ref ar), .unset] []) (fun _ kx_ => XS.astore X169.here hx rfl (hb hby at_39) rfl rfl (l' := #[.val (.int xk), .val (.long ya), .second, .val (.long yb), .second, .val (.int xf), .val (.int xsame), .val (.ref ka2), .val (.ref al), .val (.ref ar), .unset]) rfl kx_) ?_
        refine W.s1 (mkF m 43 #[.val (.int xk), .val (.long ya), .second, .val (.long yb), .second, .val (.int xf), .val (.int xsame), .val (.ref ka2), .val (.ref al), .val (.ref ar), .unset] [(.ref ka2)]) (fun _ kx_ => XS.aload X169.here hx rfl (hb hby at_41) rfl rfl kx_) ?_
        obtain ⟨cq172, kq172, q172a, q172b, q172c⟩ := isOf hZ e169 f171
        obtain ⟨_, _, ⟨T172, L172, k172, n172⟩, -, X172, ⟨Lc172, hQ172, l172, y172, z172⟩, st172⟩ := X169.virtualBack hx (y := (⟨"com/example/hybridge/hybridge/model/Relation", "swapped", "()Lcom/example/hybridge/hybridge/model/Relation;"⟩ : MethodName)) (z := (⟨"com/example/hybridge/hybridge/model/Relation", "swapped", "()Lcom/example/hybridge/hybridge/model/Relation;"⟩ : MethodName)) hown (mvT hZ (hw _ (List.mem_of_getElem? (i := 50) rfl))) (mvT hZ (hw _ (List.mem_of_getElem? (i := 51) rfl))) (notFace_of_selects (args := #[]) (mvT hZ (hw _ (List.mem_of_getElem? (i := 53) rfl)))) (mvT hZ (hw _ (List.mem_of_getElem? (i := 53) rfl))) (mvT hZ (hw _ (List.mem_of_getElem? (i := 52) rfl))) (by decide) (backOf (W := 0) (rm8_2 l Z a0 hw [] ka2 ka2 h169 n0 Z169 f170 f171 (F_r2.ext f170.2) S_EQUAL) hZ (hw _ (List.mem_of_getElem? (i := 54) rfl)) (hw _ (List.mem_of_getElem? (i := 6) rfl)) (by decide) (by decide)) q172a q172c (g := (mkF m 43 #[.val (.int xk), .val (.long ya), .second, .val (.long yb), .second, .val (.int xf), .val (.int xsame), .val (.ref ka2), .val (.ref al), .val (.ref ar), .unset] [(.ref ka2)])) rfl (by rw [hml]; rfl) (Steps.refl _) (argsL := []) (rest := []) (lenOf pd_15 rfl) rfl (by show 2 * 0 + _ ≤ _; exact Nat.le_of_eq rfl) (hb hby at_43) (fun _ _ => ⟨rfl, e169, (by decide : 6 + 0 ≤ _), (by decide : 20 + 0 ≤ _)⟩)
        dsimp only [Pt.U, Pt.locs, Pt.cells, Pt.slots] at X172 l172 y172 z172 st172 hQ172
        subst l172 y172 z172
        obtain ⟨rfl, Nq172, eq172⟩ := hQ172
        have N172 := Fr.app N169 Nq172
        have Es := Exa.ext f170.2 E_r2
        refine W.s3 (mkF m 46 #[.val (.int xk), .val (.long ya), .second, .val (.long yb), .second, .val (.int xf), .val (.int xsame), .val (.ref ka2), .val (.ref al), .val (.ref ar), .unset] [(.ref ka2)]) st172 ?_
        refine W.s1 (mkF m 48 #[.val (.int xk), .val (.long ya), .second, .val (.long yb), .second, .val (.int xf), .val (.int xsame), .val (.ref ka2), .val (.ref al), .val (.ref ar), .val (.ref ka2)] []) (fun _ kx_ => XS.astore X172.here hx rfl (hb hby at_46) rfl rfl (l' := #[.val (.int xk), .val (.long ya), .second, .val (.long yb), .second, .val (.int xf), .val (.int xsame), .val (.ref ka2), .val (.ref al), .val (.ref ar), .val (.ref ka2)]) rfl kx_) ?_
        refine W.s1 (mkF m 50 #[.val (.int xk), .val (.long ya), .second, .val (.long yb), .second, .val (.int xf), .val (.int xsame), .val (.ref ka2), .val (.ref al), .val (.ref ar), .val (.ref ka2)] [(.ref ka2)]) (fun _ kx_ => XS.aload X172.here hx rfl (hb hby at_48) rfl rfl kx_) ?_
        refine W.s1 (mkF m 55 #[.val (.int xk), .val (.long ya), .second, .val (.long yb), .second, .val (.int xf), .val (.int xsame), .val (.ref ka2), .val (.ref al), .val (.ref ar), .val (.ref ka2)] []) (fun _ kx_ => XS.ifnonnullYes X172.here hx rfl (pc0 := 50) (pc' := 55) rfl (hb hby at_50) rfl (by decide) (by decide) kx_) ?_
        refine W.s1 (mkF m 57 #[.val (.int xk), .val (.long ya), .second, .val (.long yb), .second, .val (.int xf), .val (.int xsame), .val (.ref ka2), .val (.ref al), .val (.ref ar), .val (.ref ka2)] [(.ref ka2)]) (fun _ kx_ => XS.aload X172.here hx rfl (hb hby at_55) rfl rfl kx_) ?_
        refine W.s1 (mkF m 59 #[.val (.int xk), .val (.long ya), .second, .val (.long yb), .second, .val (.int xf), .val (.int xsame), .val (.ref ka2), .val (.ref al), .val (.ref ar), .val (.ref ka2)] [(.ref al), (.ref ka2)]) (fun _ kx_ => XS.aload X172.here hx rfl (hb hby at_57) rfl rfl kx_) ?_
        refine W.s1 (mkF m 61 #[.val (.int xk), .val (.long ya), .second, .val (.long yb), .second, .val (.int xf), .val (.int xsame), .val (.ref ka2), .val (.ref al), .val (.ref ar), .val (.ref ka2)] [(.ref ar), (.ref al), (.ref ka2)]) (fun _ kx_ => XS.aload X172.here hx rfl (hb hby at_59) rfl rfl kx_) ?_
        obtain ⟨cq173, kq173, q173a, q173b, q173c⟩ := isOf hZ eq172 Es
        obtain ⟨_, _, ⟨T173, L173, k173, n173⟩, -, X173, ⟨Lc173, hQ173, l173, y173, z173⟩, st173⟩ := X172.virtualBack hx (y := (⟨"com/example/hybridge/hybridge/model/Relation", "holds", "(Lcom/example/hybridge/hybridge/model/Rational;Lcom/example/hybridge/hybridge/model/Rational;)Z"⟩ : MethodName)) (z := (⟨"com/example/hybridge/hybridge/model/Relation", "holds", "(Lcom/example/hybridge/hybridge/model/Rational;Lcom/example/hybridge/hybridge/model/Rational;)Z"⟩ : MethodName)) hown (mvT hZ (hw _ (List.mem_of_getElem? (i := 66) rfl))) (mvT hZ (hw _ (List.mem_of_getElem? (i := 67) rfl))) (notFace_of_selects (args := #[]) (mvT hZ (hw _ (List.mem_of_getElem? (i := 69) rfl)))) (mvT hZ (hw _ (List.mem_of_getElem? (i := 69) rfl))) (mvT hZ (hw _ (List.mem_of_getElem? (i := 68) rfl))) (by decide) (backOf (W := 0) (rm10_2 l Z a0 hw [] ka2 al ar aZ nZ fZ aO zo fo sl nl fl sr nr fr h169 n0 Z169 f170 S_ZERO HZ EO FO1 FO2 AO hfo HlR Hr Es (F_r2.ext f170.2)) hZ (hw _ (List.mem_of_getElem? (i := 70) rfl)) (hw _ (List.mem_of_getElem? (i := 6) rfl)) (by decide) (by decide)) q173a q173c (g := (mkF m 61 #[.val (.int xk), .val (.long ya), .second, .val (.long yb), .second, .val (.int xf), .val (.int xsame), .val (.ref ka2), .val (.ref al), .val (.ref ar), .val (.ref ka2)] [(.ref ar), (.ref al), (.ref ka2)])) rfl (by rw [hml]; rfl) (Steps.refl _) (argsL := [(.ref al), (.ref ar)]) (rest := []) (lenOf pd_16 rfl) rfl (by show 2 * 0 + _ ≤ _; exact Nat.le_of_eq rfl) (hb hby at_61) (fun _ _ => ⟨rfl, eq172, (by decide : 6 + 4 ≤ _), (by decide : 20 + 16 ≤ _)⟩)
        dsimp only [Pt.U, Pt.locs, Pt.cells, Pt.slots] at X173 l173 y173 z173 st173 hQ173
        subst l173 y173 z173
        obtain ⟨h173, e173⟩ : ∃ z, T173.heap = z := ⟨_, rfl⟩
        rw [e173] at hQ173
        obtain ⟨q61, rfl, Nq173, Kq173, hq61⟩ := hQ173
        have N173 := Fr.app N172 Nq173
        have Z173 : n0 ≤ h173.size := Nat.le_trans Z169 Kq173.1
        have f174 := f170.keep Kq173 all0
        have f175 := Es.keep Kq173
        have Hl2 := HlR.keep Kq173
        have Hr2 := Hr.keep Kq173
        refine W.s3 (mkF m 64 #[.val (.int xk), .val (.long ya), .second, .val (.long yb), .second, .val (.int xf), .val (.int xsame), .val (.ref ka2), .val (.ref al), .val (.ref ar), .val (.ref ka2)] [(.int q61)]) st173 ?_
        refine W.s1 (mkF m 66 #[.val (.int xk), .val (.long ya), .second, .val (.long yb), .second, .val (.int xf), .val (.int xsame), .val (.ref ka2), .val (.ref al), .val (.ref ar), .val (.ref ka2)] [(.ref ka2), (.int q61)]) (fun _ kx_ => XS.aload X173.here hx rfl (hb hby at_64) rfl rfl kx_) ?_
        refine W.s1 (mkF m 68 #[.val (.int xk), .val (.long ya), .second, .val (.long yb), .second, .val (.int xf), .val (.int xsame), .val (.ref ka2), .val (.ref al), .val (.ref ar), .val (.ref ka2)] [(.ref ar), (.ref ka2), (.int q61)]) (fun _ kx_ => XS.aload X173.here hx rfl (hb hby at_66) rfl rfl kx_) ?_
        refine W.s1 (mkF m 70 #[.val (.int xk), .val (.long ya), .second, .val (.long yb), .second, .val (.int xf), .val (.int xsame), .val (.ref ka2), .val (.ref al), .val (.ref ar), .val (.ref ka2)] [(.ref al), (.ref ar), (.ref ka2), (.int q61)]) (fun _ kx_ => XS.aload X173.here hx rfl (hb hby at_68) rfl rfl kx_) ?_
        obtain ⟨cq176, kq176, q176a, q176b, q176c⟩ := isOf hZ e173 f175
        obtain ⟨_, _, ⟨T176, L176, k176, n176⟩, -, X176, ⟨Lc176, hQ176, l176, y176, z176⟩, st176⟩ := X173.virtualBack hx (y := (⟨"com/example/hybridge/hybridge/model/Relation", "holds", "(Lcom/example/hybridge/hybridge/model/Rational;Lcom/example/hybridge/hybridge/model/Rational;)Z"⟩ : MethodName)) (z := (⟨"com/example/hybridge/hybridge/model/Relation", "holds", "(Lcom/example/hybridge/hybridge/model/Rational;Lcom/example/hybridge/hybridge/model/Rational;)Z"⟩ : MethodName)) hown (mvT hZ (hw _ (List.mem_of_getElem? (i := 66) rfl))) (mvT hZ (hw _ (List.mem_of_getElem? (i := 67) rfl))) (notFace_of_selects (args := #[]) (mvT hZ (hw _ (List.mem_of_getElem? (i := 69) rfl)))) (mvT hZ (hw _ (List.mem_of_getElem? (i := 69) rfl))) (mvT hZ (hw _ (List.mem_of_getElem? (i := 68) rfl))) (by decide) (backOf (W := 1) (rm10_2 l Z a0 hw [] ka2 ar al aZ nZ fZ aO zo fo sr nr fr sl nl fl h173 n0 Z173 f174 S_ZERO HZ EO FO1 FO2 AO hfo Hr2 Hl2 f175 (F_r2.ext f174.2)) hZ (hw _ (List.mem_of_getElem? (i := 70) rfl)) (hw _ (List.mem_of_getElem? (i := 6) rfl)) (by decide) (by decide)) q176a q176c (g := (mkF m 70 #[.val (.int xk), .val (.long ya), .second, .val (.long yb), .second, .val (.int xf), .val (.int xsame), .val (.ref ka2), .val (.ref al), .val (.ref ar), .val (.ref ka2)] [(.ref al), (.ref ar), (.ref ka2), (.int q61)])) rfl (by rw [hml]; rfl) (Steps.refl _) (argsL := [(.ref ar), (.ref al)]) (rest := [(.int q61)]) (lenOf pd_16 rfl) rfl (by show 2 * 0 + _ ≤ _; exact Nat.le_of_eq rfl) (hb hby at_70) (fun _ _ => ⟨rfl, e173, (by decide : 10 + 4 ≤ _), (by decide : 36 + 16 ≤ _)⟩)
        dsimp only [Pt.U, Pt.locs, Pt.cells, Pt.slots] at X176 l176 y176 z176 st176 hQ176
        subst l176 y176 z176
        obtain ⟨h176, e176⟩ : ∃ z, T176.heap = z := ⟨_, rfl⟩
        rw [e176] at hQ176
        obtain ⟨q70, rfl, Nq176, Kq176, hq70⟩ := hQ176
        have N176 := Fr.app N173 Nq176
        have Z176 : n0 ≤ h176.size := Nat.le_trans Z173 Kq176.1
        have f177 := f174.keep Kq176 all0
        have f178 := f175.keep Kq176
        have hqq : q61 = q70 := by
          rw [own_cmpa sl nl fl sr nr fr] at hq70
          have hsw := own_hs ⟨2, by decide⟩ (own_cmp0 sl nl fl sr nr fr)
          rcases hq61 with ⟨rfl, u⟩ | ⟨rfl, u⟩ <;> rcases hq70 with ⟨rfl, w⟩ | ⟨rfl, w⟩ <;> first | rfl | exact absurd (hsw.mpr u) w | exact absurd (hsw.mp w) u
        refine W.s3 (mkF m 73 #[.val (.int xk), .val (.long ya), .second, .val (.long yb), .second, .val (.int xf), .val (.int xsame), .val (.ref ka2), .val (.ref al), .val (.ref ar), .val (.ref ka2)] [(.int q70), (.int q61)]) st176 ?_
        refine W.icmp X176 hx (hb hby at_73) (pc' := 80) (pc'' := 76) (by decide) (by decide) rfl (fun (c73 : ¬ q61 = q70) => ?_) (fun (c73 : q61 = q70) => ?_)
        · exact absurd hqq c73
        · refine W.s1 (mkF m 77 #[.val (.int xk), .val (.long ya), .second, .val (.long yb), .second, .val (.int xf), .val (.int xsame), .val (.ref ka2), .val (.ref al), .val (.ref ar), .val (.ref ka2)] [(.int (1 : Int32))]) (fun _ kx_ => XS.iconst X176.here hx rfl (hb hby at_76) kx_) ?_
          refine W.s1 (mkF m 81 #[.val (.int xk), .val (.long ya), .second, .val (.long yb), .second, .val (.int xf), .val (.int xsame), .val (.ref ka2), .val (.ref al), .val (.ref ar), .val (.ref ka2)] [(.int (1 : Int32))]) (fun _ kx_ => XS.goto X176.here hx rfl (pc0 := 77) (pc' := 81) rfl (hb hby at_77) (by decide) (by decide) kx_) ?_
          exact W.retZ X176 hx hlk (t := .boolean) (z' := (1 : Int32)) Bd.returns (by simp) (hb hby at_81) rfl (by show Q0 Z xk ya yb xf aZ zp zq nZ fZ fp fq aO zo fo ka0 ka1 ka2 ka3 ka4 h0 n0 _ T176.heap _; rw [e176]; exact ⟨rfl, N176⟩) (by decide) (by decide)
    · have Ek := Exa.ext O0.2 E_r3
      refine W.s1 (mkF m 20 #[.val (.int xk), .val (.long ya), .second, .val (.long yb), .second, .val (.int xf), .val (.int xsame), .val (.ref ka3), .unset, .unset, .unset] []) (fun _ kx_ => XS.astore X101.here hx rfl (hb hby at_18) rfl rfl (l' := #[.val (.int xk), .val (.long ya), .second, .val (.long yb), .second, .val (.int xf), .val (.int xsame), .val (.ref ka3), .unset, .unset, .unset]) rfl kx_) ?_
      refine W.s1 (mkF m 21 #[.val (.int xk), .val (.long ya), .second, .val (.long yb), .second, .val (.int xf), .val (.int xsame), .val (.ref ka3), .unset, .unset, .unset] [(.long ya)]) (fun _ kx_ => XS.lloadN X101.here hx rfl (hb hby at_20) rfl kx_) ?_
      obtain ⟨_, _, ⟨T179, L179, k179, n179⟩, -, X179, ⟨Lc179, hQ179, l179, y179, z179⟩, st179⟩ := Jvm.LawKit.callS X101 hx (y := (⟨"com/example/hybridge/hybridge/model/Rational", "of", "(J)Lcom/example/hybridge/hybridge/model/Rational;"⟩ : MethodName)) hown (mvT hZ (hw _ (List.mem_of_getElem? (i := 8) rfl))) (mvT hZ (hw _ (List.mem_of_getElem? (i := 9) rfl))) (mvT hZ (hw _ (List.mem_of_getElem? (i := 10) rfl))) (mvT hZ (hw _ (List.mem_of_getElem? (i := 11) rfl))) (by decide) (backOf (W := 0) (rm2 l Z a0 hw [] ya aZ zp zq nZ fZ fp fq aO h0 n0 Z0 O0 S_ZERO S_posConst S_negConst HZ A_zp A_zq h_zp h_zq S_ONE) hZ (hw _ (List.mem_of_getElem? (i := 11) rfl)) (hw _ (List.mem_of_getElem? (i := 10) rfl)) (by decide) (by decide)) (g := (mkF m 21 #[.val (.int xk), .val (.long ya), .second, .val (.long yb), .second, .val (.int xf), .val (.int xsame), .val (.ref ka3), .unset, .unset, .unset] [(.long ya)])) rfl (by rw [hml]; rfl) (argsL := [(.long ya)]) (rest := []) (lenOf pd_14 rfl) rfl (by show 2 * 0 + _ ≤ _; exact Nat.le_of_eq rfl) (hb hby at_21) (fun _ _ => ⟨rfl, eq101, (by decide : 0 + 3 ≤ _), (by decide : 0 + 10 ≤ _)⟩)
      dsimp only [Pt.U, Pt.locs, Pt.cells, Pt.slots] at X179 l179 y179 z179 st179 hQ179
      subst l179 y179 z179
      obtain ⟨h179, e179⟩ : ∃ z, T179.heap = z := ⟨_, rfl⟩
      rw [e179] at hQ179
      obtain ⟨al, sl, nl, fl, rfl, Nq179, Kq179, Hl⟩ := hQ179
      have N179 := Fr.app N101 Nq179
      have Z179 : n0 ≤ h179.size := Nat.le_trans Z0 Kq179.1
      have f180 := O0.keep Kq179 all0
      have f181 := Ek.keep Kq179
      refine W.s2 (mkF m 24 #[.val (.int xk), .val (.long ya), .second, .val (.long yb), .second, .val (.int xf), .val (.int xsame), .val (.ref ka3), .unset, .unset, .unset] [(.ref al)]) st179 ?_
      refine W.s1 (mkF m 26 #[.val (.int xk), .val (.long ya), .second, .val (.long yb), .second, .val (.int xf), .val (.int xsame), .val (.ref ka3), .val (.ref al), .unset, .unset] []) (fun _ kx_ => XS.astore X179.here hx rfl (hb hby at_24) rfl rfl (l' := #[.val (.int xk), .val (.long ya), .second, .val (.long yb), .second, .val (.int xf), .val (.int xsame), .val (.ref ka3), .val (.ref al), .unset, .unset]) rfl kx_) ?_
      refine W.s1 (mkF m 28 #[.val (.int xk), .val (.long ya), .second, .val (.long yb), .second, .val (.int xf), .val (.int xsame), .val (.ref ka3), .val (.ref al), .unset, .unset] [(.int xsame)]) (fun _ kx_ => XS.iload X179.here hx rfl (hb hby at_26) rfl kx_) ?_
      refine W.ifc X179 hx (hb hby at_28) (pc' := 35) (pc'' := 31) (by decide) (by decide) rfl (fun (c28 : xsame = (0 : Int32)) => ?_) (fun (c28 : ¬ xsame = (0 : Int32)) => ?_)
      · refine W.s1 (mkF m 36 #[.val (.int xk), .val (.long ya), .second, .val (.long yb), .second, .val (.int xf), .val (.int xsame), .val (.ref ka3), .val (.ref al), .unset, .unset] [(.long yb)]) (fun _ kx_ => XS.lloadN X179.here hx rfl (hb hby at_35) rfl kx_) ?_
        obtain ⟨_, _, ⟨T182, L182, k182, n182⟩, -, X182, ⟨Lc182, hQ182, l182, y182, z182⟩, st182⟩ := Jvm.LawKit.callS X179 hx (y := (⟨"com/example/hybridge/hybridge/model/Rational", "of", "(J)Lcom/example/hybridge/hybridge/model/Rational;"⟩ : MethodName)) hown (mvT hZ (hw _ (List.mem_of_getElem? (i := 8) rfl))) (mvT hZ (hw _ (List.mem_of_getElem? (i := 9) rfl))) (mvT hZ (hw _ (List.mem_of_getElem? (i := 10) rfl))) (mvT hZ (hw _ (List.mem_of_getElem? (i := 11) rfl))) (by decide) (backOf (W := 0) (rm2 l Z a0 hw [] yb aZ zp zq nZ fZ fp fq aO h179 n0 Z179 f180 S_ZERO S_posConst S_negConst HZ A_zp A_zq h_zp h_zq S_ONE) hZ (hw _ (List.mem_of_getElem? (i := 11) rfl)) (hw _ (List.mem_of_getElem? (i := 10) rfl)) (by decide) (by decide)) (g := (mkF m 36 #[.val (.int xk), .val (.long ya), .second, .val (.long yb), .second, .val (.int xf), .val (.int xsame), .val (.ref ka3), .val (.ref al), .unset, .unset] [(.long yb)])) rfl (by rw [hml]; rfl) (argsL := [(.long yb)]) (rest := []) (lenOf pd_14 rfl) rfl (by show 2 * 0 + _ ≤ _; exact Nat.le_of_eq rfl) (hb hby at_36) (fun _ _ => ⟨rfl, e179, (by decide : 3 + 3 ≤ _), (by decide : 10 + 10 ≤ _)⟩)
        dsimp only [Pt.U, Pt.locs, Pt.cells, Pt.slots] at X182 l182 y182 z182 st182 hQ182
        subst l182 y182 z182
        obtain ⟨h182, e182⟩ : ∃ z, T182.heap = z := ⟨_, rfl⟩
        rw [e182] at hQ182
        obtain ⟨ar, sr, nr, fr, rfl, Nq182, Kq182, Hr⟩ := hQ182
        have N182 := Fr.app N179 Nq182
        have Z182 : n0 ≤ h182.size := Nat.le_trans Z179 Kq182.1
        have f183 := f180.keep Kq182 all0
        have f184 := f181.keep Kq182
        have HlR := Hl.keep Kq182
        refine W.s2 (mkF m 39 #[.val (.int xk), .val (.long ya), .second, .val (.long yb), .second, .val (.int xf), .val (.int xsame), .val (.ref ka3), .val (.ref al), .unset, .unset] [(.ref ar)]) st182 ?_
        refine W.s1 (mkF m 41 #[.val (.int xk), .val (.long ya), .second, .val (.long yb), .second, .val (.int xf), .val (.int xsame), .val (.ref ka3), .val (.ref al), .val (.ref ar), .unset] []) (fun _ kx_ => XS.astore X182.here hx rfl (hb hby at_39) rfl rfl (l' := #[.val (.int xk), .val (.long ya), .second, .val (.long yb), .second, .val (.int xf), .val (.int xsame), .val (.ref ka3), .val (.ref al), .val (.ref ar), .unset]) rfl kx_) ?_
        refine W.s1 (mkF m 43 #[.val (.int xk), .val (.long ya), .second, .val (.long yb), .second, .val (.int xf), .val (.int xsame), .val (.ref ka3), .val (.ref al), .val (.ref ar), .unset] [(.ref ka3)]) (fun _ kx_ => XS.aload X182.here hx rfl (hb hby at_41) rfl rfl kx_) ?_
        obtain ⟨cq185, kq185, q185a, q185b, q185c⟩ := isOf hZ e182 f184
        obtain ⟨_, _, ⟨T185, L185, k185, n185⟩, -, X185, ⟨Lc185, hQ185, l185, y185, z185⟩, st185⟩ := X182.virtualBack hx (y := (⟨"com/example/hybridge/hybridge/model/Relation", "swapped", "()Lcom/example/hybridge/hybridge/model/Relation;"⟩ : MethodName)) (z := (⟨"com/example/hybridge/hybridge/model/Relation", "swapped", "()Lcom/example/hybridge/hybridge/model/Relation;"⟩ : MethodName)) hown (mvT hZ (hw _ (List.mem_of_getElem? (i := 50) rfl))) (mvT hZ (hw _ (List.mem_of_getElem? (i := 51) rfl))) (notFace_of_selects (args := #[]) (mvT hZ (hw _ (List.mem_of_getElem? (i := 53) rfl)))) (mvT hZ (hw _ (List.mem_of_getElem? (i := 53) rfl))) (mvT hZ (hw _ (List.mem_of_getElem? (i := 52) rfl))) (by decide) (backOf (W := 0) (rm8_3 l Z a0 hw [] ka3 ka1 h182 n0 Z182 f183 f184 (F_r3.ext f183.2) S_LESS_OR_EQUAL) hZ (hw _ (List.mem_of_getElem? (i := 54) rfl)) (hw _ (List.mem_of_getElem? (i := 6) rfl)) (by decide) (by decide)) q185a q185c (g := (mkF m 43 #[.val (.int xk), .val (.long ya), .second, .val (.long yb), .second, .val (.int xf), .val (.int xsame), .val (.ref ka3), .val (.ref al), .val (.ref ar), .unset] [(.ref ka3)])) rfl (by rw [hml]; rfl) (Steps.refl _) (argsL := []) (rest := []) (lenOf pd_15 rfl) rfl (by show 2 * 0 + _ ≤ _; exact Nat.le_of_eq rfl) (hb hby at_43) (fun _ _ => ⟨rfl, e182, (by decide : 6 + 0 ≤ _), (by decide : 20 + 0 ≤ _)⟩)
        dsimp only [Pt.U, Pt.locs, Pt.cells, Pt.slots] at X185 l185 y185 z185 st185 hQ185
        subst l185 y185 z185
        obtain ⟨rfl, Nq185, eq185⟩ := hQ185
        have N185 := Fr.app N182 Nq185
        have Es := Exa.ext f183.2 E_r1
        refine W.s3 (mkF m 46 #[.val (.int xk), .val (.long ya), .second, .val (.long yb), .second, .val (.int xf), .val (.int xsame), .val (.ref ka3), .val (.ref al), .val (.ref ar), .unset] [(.ref ka1)]) st185 ?_
        refine W.s1 (mkF m 48 #[.val (.int xk), .val (.long ya), .second, .val (.long yb), .second, .val (.int xf), .val (.int xsame), .val (.ref ka3), .val (.ref al), .val (.ref ar), .val (.ref ka1)] []) (fun _ kx_ => XS.astore X185.here hx rfl (hb hby at_46) rfl rfl (l' := #[.val (.int xk), .val (.long ya), .second, .val (.long yb), .second, .val (.int xf), .val (.int xsame), .val (.ref ka3), .val (.ref al), .val (.ref ar), .val (.ref ka1)]) rfl kx_) ?_
        refine W.s1 (mkF m 50 #[.val (.int xk), .val (.long ya), .second, .val (.long yb), .second, .val (.int xf), .val (.int xsame), .val (.ref ka3), .val (.ref al), .val (.ref ar), .val (.ref ka1)] [(.ref ka1)]) (fun _ kx_ => XS.aload X185.here hx rfl (hb hby at_48) rfl rfl kx_) ?_
        refine W.s1 (mkF m 55 #[.val (.int xk), .val (.long ya), .second, .val (.long yb), .second, .val (.int xf), .val (.int xsame), .val (.ref ka3), .val (.ref al), .val (.ref ar), .val (.ref ka1)] []) (fun _ kx_ => XS.ifnonnullYes X185.here hx rfl (pc0 := 50) (pc' := 55) rfl (hb hby at_50) rfl (by decide) (by decide) kx_) ?_
        refine W.s1 (mkF m 57 #[.val (.int xk), .val (.long ya), .second, .val (.long yb), .second, .val (.int xf), .val (.int xsame), .val (.ref ka3), .val (.ref al), .val (.ref ar), .val (.ref ka1)] [(.ref ka3)]) (fun _ kx_ => XS.aload X185.here hx rfl (hb hby at_55) rfl rfl kx_) ?_
        refine W.s1 (mkF m 59 #[.val (.int xk), .val (.long ya), .second, .val (.long yb), .second, .val (.int xf), .val (.int xsame), .val (.ref ka3), .val (.ref al), .val (.ref ar), .val (.ref ka1)] [(.ref al), (.ref ka3)]) (fun _ kx_ => XS.aload X185.here hx rfl (hb hby at_57) rfl rfl kx_) ?_
        refine W.s1 (mkF m 61 #[.val (.int xk), .val (.long ya), .second, .val (.long yb), .second, .val (.int xf), .val (.int xsame), .val (.ref ka3), .val (.ref al), .val (.ref ar), .val (.ref ka1)] [(.ref ar), (.ref al), (.ref ka3)]) (fun _ kx_ => XS.aload X185.here hx rfl (hb hby at_59) rfl rfl kx_) ?_
        obtain ⟨cq186, kq186, q186a, q186b, q186c⟩ := isOf hZ eq185 f184
        obtain ⟨_, _, ⟨T186, L186, k186, n186⟩, -, X186, ⟨Lc186, hQ186, l186, y186, z186⟩, st186⟩ := X185.virtualBack hx (y := (⟨"com/example/hybridge/hybridge/model/Relation", "holds", "(Lcom/example/hybridge/hybridge/model/Rational;Lcom/example/hybridge/hybridge/model/Rational;)Z"⟩ : MethodName)) (z := (⟨"com/example/hybridge/hybridge/model/Relation", "holds", "(Lcom/example/hybridge/hybridge/model/Rational;Lcom/example/hybridge/hybridge/model/Rational;)Z"⟩ : MethodName)) hown (mvT hZ (hw _ (List.mem_of_getElem? (i := 66) rfl))) (mvT hZ (hw _ (List.mem_of_getElem? (i := 67) rfl))) (notFace_of_selects (args := #[]) (mvT hZ (hw _ (List.mem_of_getElem? (i := 69) rfl)))) (mvT hZ (hw _ (List.mem_of_getElem? (i := 69) rfl))) (mvT hZ (hw _ (List.mem_of_getElem? (i := 68) rfl))) (by decide) (backOf (W := 0) (rm10_3 l Z a0 hw [] ka3 al ar aZ nZ fZ aO zo fo sl nl fl sr nr fr h182 n0 Z182 f183 S_ZERO HZ EO FO1 FO2 AO hfo HlR Hr f184 (F_r3.ext f183.2)) hZ (hw _ (List.mem_of_getElem? (i := 70) rfl)) (hw _ (List.mem_of_getElem? (i := 6) rfl)) (by decide) (by decide)) q186a q186c (g := (mkF m 61 #[.val (.int xk), .val (.long ya), .second, .val (.long yb), .second, .val (.int xf), .val (.int xsame), .val (.ref ka3), .val (.ref al), .val (.ref ar), .val (.ref ka1)] [(.ref ar), (.ref al), (.ref ka3)])) rfl (by rw [hml]; rfl) (Steps.refl _) (argsL := [(.ref al), (.ref ar)]) (rest := []) (lenOf pd_16 rfl) rfl (by show 2 * 0 + _ ≤ _; exact Nat.le_of_eq rfl) (hb hby at_61) (fun _ _ => ⟨rfl, eq185, (by decide : 6 + 4 ≤ _), (by decide : 20 + 16 ≤ _)⟩)
        dsimp only [Pt.U, Pt.locs, Pt.cells, Pt.slots] at X186 l186 y186 z186 st186 hQ186
        subst l186 y186 z186
        obtain ⟨h186, e186⟩ : ∃ z, T186.heap = z := ⟨_, rfl⟩
        rw [e186] at hQ186
        obtain ⟨q61, rfl, Nq186, Kq186, hq61⟩ := hQ186
        have N186 := Fr.app N185 Nq186
        have Z186 : n0 ≤ h186.size := Nat.le_trans Z182 Kq186.1
        have f187 := f183.keep Kq186 all0
        have f188 := f184.keep Kq186
        have f189 := Es.keep Kq186
        have Hl2 := HlR.keep Kq186
        have Hr2 := Hr.keep Kq186
        refine W.s3 (mkF m 64 #[.val (.int xk), .val (.long ya), .second, .val (.long yb), .second, .val (.int xf), .val (.int xsame), .val (.ref ka3), .val (.ref al), .val (.ref ar), .val (.ref ka1)] [(.int q61)]) st186 ?_
        refine W.s1 (mkF m 66 #[.val (.int xk), .val (.long ya), .second, .val (.long yb), .second, .val (.int xf), .val (.int xsame), .val (.ref ka3), .val (.ref al), .val (.ref ar), .val (.ref ka1)] [(.ref ka1), (.int q61)]) (fun _ kx_ => XS.aload X186.here hx rfl (hb hby at_64) rfl rfl kx_) ?_
        refine W.s1 (mkF m 68 #[.val (.int xk), .val (.long ya), .second, .val (.long yb), .second, .val (.int xf), .val (.int xsame), .val (.ref ka3), .val (.ref al), .val (.ref ar), .val (.ref ka1)] [(.ref ar), (.ref ka1), (.int q61)]) (fun _ kx_ => XS.aload X186.here hx rfl (hb hby at_66) rfl rfl kx_) ?_
        refine W.s1 (mkF m 70 #[.val (.int xk), .val (.long ya), .second, .val (.long yb), .second, .val (.int xf), .val (.int xsame), .val (.ref ka3), .val (.ref al), .val (.ref ar), .val (.ref ka1)] [(.ref al), (.ref ar), (.ref ka1), (.int q61)]) (fun _ kx_ => XS.aload X186.here hx rfl (hb hby at_68) rfl rfl kx_) ?_
        obtain ⟨cq190, kq190, q190a, q190b, q190c⟩ := isOf hZ e186 f189
        obtain ⟨_, _, ⟨T190, L190, k190, n190⟩, -, X190, ⟨Lc190, hQ190, l190, y190, z190⟩, st190⟩ := X186.virtualBack hx (y := (⟨"com/example/hybridge/hybridge/model/Relation", "holds", "(Lcom/example/hybridge/hybridge/model/Rational;Lcom/example/hybridge/hybridge/model/Rational;)Z"⟩ : MethodName)) (z := (⟨"com/example/hybridge/hybridge/model/Relation", "holds", "(Lcom/example/hybridge/hybridge/model/Rational;Lcom/example/hybridge/hybridge/model/Rational;)Z"⟩ : MethodName)) hown (mvT hZ (hw _ (List.mem_of_getElem? (i := 66) rfl))) (mvT hZ (hw _ (List.mem_of_getElem? (i := 67) rfl))) (notFace_of_selects (args := #[]) (mvT hZ (hw _ (List.mem_of_getElem? (i := 69) rfl)))) (mvT hZ (hw _ (List.mem_of_getElem? (i := 69) rfl))) (mvT hZ (hw _ (List.mem_of_getElem? (i := 68) rfl))) (by decide) (backOf (W := 1) (rm10_1 l Z a0 hw [] ka1 ar al aZ nZ fZ aO zo fo sr nr fr sl nl fl h186 n0 Z186 f187 S_ZERO HZ EO FO1 FO2 AO hfo Hr2 Hl2 f189 (F_r1.ext f187.2)) hZ (hw _ (List.mem_of_getElem? (i := 70) rfl)) (hw _ (List.mem_of_getElem? (i := 6) rfl)) (by decide) (by decide)) q190a q190c (g := (mkF m 70 #[.val (.int xk), .val (.long ya), .second, .val (.long yb), .second, .val (.int xf), .val (.int xsame), .val (.ref ka3), .val (.ref al), .val (.ref ar), .val (.ref ka1)] [(.ref al), (.ref ar), (.ref ka1), (.int q61)])) rfl (by rw [hml]; rfl) (Steps.refl _) (argsL := [(.ref ar), (.ref al)]) (rest := [(.int q61)]) (lenOf pd_16 rfl) rfl (by show 2 * 0 + _ ≤ _; exact Nat.le_of_eq rfl) (hb hby at_70) (fun _ _ => ⟨rfl, e186, (by decide : 10 + 4 ≤ _), (by decide : 36 + 16 ≤ _)⟩)
        dsimp only [Pt.U, Pt.locs, Pt.cells, Pt.slots] at X190 l190 y190 z190 st190 hQ190
        subst l190 y190 z190
        obtain ⟨h190, e190⟩ : ∃ z, T190.heap = z := ⟨_, rfl⟩
        rw [e190] at hQ190
        obtain ⟨q70, rfl, Nq190, Kq190, hq70⟩ := hQ190
        have N190 := Fr.app N186 Nq190
        have Z190 : n0 ≤ h190.size := Nat.le_trans Z186 Kq190.1
        have f191 := f187.keep Kq190 all0
        have f192 := f188.keep Kq190
        have f193 := f189.keep Kq190
        have hqq : q61 = q70 := by
          rw [own_cmpa sl nl fl sr nr fr] at hq70
          have hsw := own_hs ⟨3, by decide⟩ (own_cmp0 sl nl fl sr nr fr)
          rcases hq61 with ⟨rfl, u⟩ | ⟨rfl, u⟩ <;> rcases hq70 with ⟨rfl, w⟩ | ⟨rfl, w⟩ <;> first | rfl | exact absurd (hsw.mpr u) w | exact absurd (hsw.mp w) u
        refine W.s3 (mkF m 73 #[.val (.int xk), .val (.long ya), .second, .val (.long yb), .second, .val (.int xf), .val (.int xsame), .val (.ref ka3), .val (.ref al), .val (.ref ar), .val (.ref ka1)] [(.int q70), (.int q61)]) st190 ?_
        refine W.icmp X190 hx (hb hby at_73) (pc' := 80) (pc'' := 76) (by decide) (by decide) rfl (fun (c73 : ¬ q61 = q70) => ?_) (fun (c73 : q61 = q70) => ?_)
        · exact absurd hqq c73
        · refine W.s1 (mkF m 77 #[.val (.int xk), .val (.long ya), .second, .val (.long yb), .second, .val (.int xf), .val (.int xsame), .val (.ref ka3), .val (.ref al), .val (.ref ar), .val (.ref ka1)] [(.int (1 : Int32))]) (fun _ kx_ => XS.iconst X190.here hx rfl (hb hby at_76) kx_) ?_
          refine W.s1 (mkF m 81 #[.val (.int xk), .val (.long ya), .second, .val (.long yb), .second, .val (.int xf), .val (.int xsame), .val (.ref ka3), .val (.ref al), .val (.ref ar), .val (.ref ka1)] [(.int (1 : Int32))]) (fun _ kx_ => XS.goto X190.here hx rfl (pc0 := 77) (pc' := 81) rfl (hb hby at_77) (by decide) (by decide) kx_) ?_
          exact W.retZ X190 hx hlk (t := .boolean) (z' := (1 : Int32)) Bd.returns (by simp) (hb hby at_81) rfl (by show Q0 Z xk ya yb xf aZ zp zq nZ fZ fp fq aO zo fo ka0 ka1 ka2 ka3 ka4 h0 n0 _ T190.heap _; rw [e190]; exact ⟨rfl, N190⟩) (by decide) (by decide)
      · refine W.s1 (mkF m 32 #[.val (.int xk), .val (.long ya), .second, .val (.long yb), .second, .val (.int xf), .val (.int xsame), .val (.ref ka3), .val (.ref al), .unset, .unset] [(.long ya)]) (fun _ kx_ => XS.lloadN X179.here hx rfl (hb hby at_31) rfl kx_) ?_
        refine W.s1 (mkF m 36 #[.val (.int xk), .val (.long ya), .second, .val (.long yb), .second, .val (.int xf), .val (.int xsame), .val (.ref ka3), .val (.ref al), .unset, .unset] [(.long ya)]) (fun _ kx_ => XS.goto X179.here hx rfl (pc0 := 32) (pc' := 36) rfl (hb hby at_32) (by decide) (by decide) kx_) ?_
        obtain ⟨_, _, ⟨T194, L194, k194, n194⟩, -, X194, ⟨Lc194, hQ194, l194, y194, z194⟩, st194⟩ := Jvm.LawKit.callS X179 hx (y := (⟨"com/example/hybridge/hybridge/model/Rational", "of", "(J)Lcom/example/hybridge/hybridge/model/Rational;"⟩ : MethodName)) hown (mvT hZ (hw _ (List.mem_of_getElem? (i := 8) rfl))) (mvT hZ (hw _ (List.mem_of_getElem? (i := 9) rfl))) (mvT hZ (hw _ (List.mem_of_getElem? (i := 10) rfl))) (mvT hZ (hw _ (List.mem_of_getElem? (i := 11) rfl))) (by decide) (backOf (W := 0) (rm2 l Z a0 hw [] ya aZ zp zq nZ fZ fp fq aO h179 n0 Z179 f180 S_ZERO S_posConst S_negConst HZ A_zp A_zq h_zp h_zq S_ONE) hZ (hw _ (List.mem_of_getElem? (i := 11) rfl)) (hw _ (List.mem_of_getElem? (i := 10) rfl)) (by decide) (by decide)) (g := (mkF m 36 #[.val (.int xk), .val (.long ya), .second, .val (.long yb), .second, .val (.int xf), .val (.int xsame), .val (.ref ka3), .val (.ref al), .unset, .unset] [(.long ya)])) rfl (by rw [hml]; rfl) (argsL := [(.long ya)]) (rest := []) (lenOf pd_14 rfl) rfl (by show 2 * 0 + _ ≤ _; exact Nat.le_of_eq rfl) (hb hby at_36) (fun _ _ => ⟨rfl, e179, (by decide : 3 + 3 ≤ _), (by decide : 10 + 10 ≤ _)⟩)
        dsimp only [Pt.U, Pt.locs, Pt.cells, Pt.slots] at X194 l194 y194 z194 st194 hQ194
        subst l194 y194 z194
        obtain ⟨h194, e194⟩ : ∃ z, T194.heap = z := ⟨_, rfl⟩
        rw [e194] at hQ194
        obtain ⟨ar, sr, nr, fr, rfl, Nq194, Kq194, Hr⟩ := hQ194
        have N194 := Fr.app N179 Nq194
        have Z194 : n0 ≤ h194.size := Nat.le_trans Z179 Kq194.1
        have f195 := f180.keep Kq194 all0
        have f196 := f181.keep Kq194
        have HlR := Hl.keep Kq194
        refine W.s2 (mkF m 39 #[.val (.int xk), .val (.long ya), .second, .val (.long yb), .second, .val (.int xf), .val (.int xsame), .val (.ref ka3), .val (.ref al), .unset, .unset] [(.ref ar)]) st194 ?_
        refine W.s1 (mkF m 41 #[.val (.int xk), .val (.long ya), .second, .val (.long yb), .second, .val (.int xf), .val (.int xsame), .val (.ref ka3), .val (.ref al), .val (.ref ar), .unset] []) (fun _ kx_ => XS.astore X194.here hx rfl (hb hby at_39) rfl rfl (l' := #[.val (.int xk), .val (.long ya), .second, .val (.long yb), .second, .val (.int xf), .val (.int xsame), .val (.ref ka3), .val (.ref al), .val (.ref ar), .unset]) rfl kx_) ?_
        refine W.s1 (mkF m 43 #[.val (.int xk), .val (.long ya), .second, .val (.long yb), .second, .val (.int xf), .val (.int xsame), .val (.ref ka3), .val (.ref al), .val (.ref ar), .unset] [(.ref ka3)]) (fun _ kx_ => XS.aload X194.here hx rfl (hb hby at_41) rfl rfl kx_) ?_
        obtain ⟨cq197, kq197, q197a, q197b, q197c⟩ := isOf hZ e194 f196
        obtain ⟨_, _, ⟨T197, L197, k197, n197⟩, -, X197, ⟨Lc197, hQ197, l197, y197, z197⟩, st197⟩ := X194.virtualBack hx (y := (⟨"com/example/hybridge/hybridge/model/Relation", "swapped", "()Lcom/example/hybridge/hybridge/model/Relation;"⟩ : MethodName)) (z := (⟨"com/example/hybridge/hybridge/model/Relation", "swapped", "()Lcom/example/hybridge/hybridge/model/Relation;"⟩ : MethodName)) hown (mvT hZ (hw _ (List.mem_of_getElem? (i := 50) rfl))) (mvT hZ (hw _ (List.mem_of_getElem? (i := 51) rfl))) (notFace_of_selects (args := #[]) (mvT hZ (hw _ (List.mem_of_getElem? (i := 53) rfl)))) (mvT hZ (hw _ (List.mem_of_getElem? (i := 53) rfl))) (mvT hZ (hw _ (List.mem_of_getElem? (i := 52) rfl))) (by decide) (backOf (W := 0) (rm8_3 l Z a0 hw [] ka3 ka1 h194 n0 Z194 f195 f196 (F_r3.ext f195.2) S_LESS_OR_EQUAL) hZ (hw _ (List.mem_of_getElem? (i := 54) rfl)) (hw _ (List.mem_of_getElem? (i := 6) rfl)) (by decide) (by decide)) q197a q197c (g := (mkF m 43 #[.val (.int xk), .val (.long ya), .second, .val (.long yb), .second, .val (.int xf), .val (.int xsame), .val (.ref ka3), .val (.ref al), .val (.ref ar), .unset] [(.ref ka3)])) rfl (by rw [hml]; rfl) (Steps.refl _) (argsL := []) (rest := []) (lenOf pd_15 rfl) rfl (by show 2 * 0 + _ ≤ _; exact Nat.le_of_eq rfl) (hb hby at_43) (fun _ _ => ⟨rfl, e194, (by decide : 6 + 0 ≤ _), (by decide : 20 + 0 ≤ _)⟩)
        dsimp only [Pt.U, Pt.locs, Pt.cells, Pt.slots] at X197 l197 y197 z197 st197 hQ197
        subst l197 y197 z197
        obtain ⟨rfl, Nq197, eq197⟩ := hQ197
        have N197 := Fr.app N194 Nq197
        have Es := Exa.ext f195.2 E_r1
        refine W.s3 (mkF m 46 #[.val (.int xk), .val (.long ya), .second, .val (.long yb), .second, .val (.int xf), .val (.int xsame), .val (.ref ka3), .val (.ref al), .val (.ref ar), .unset] [(.ref ka1)]) st197 ?_
        refine W.s1 (mkF m 48 #[.val (.int xk), .val (.long ya), .second, .val (.long yb), .second, .val (.int xf), .val (.int xsame), .val (.ref ka3), .val (.ref al), .val (.ref ar), .val (.ref ka1)] []) (fun _ kx_ => XS.astore X197.here hx rfl (hb hby at_46) rfl rfl (l' := #[.val (.int xk), .val (.long ya), .second, .val (.long yb), .second, .val (.int xf), .val (.int xsame), .val (.ref ka3), .val (.ref al), .val (.ref ar), .val (.ref ka1)]) rfl kx_) ?_
        refine W.s1 (mkF m 50 #[.val (.int xk), .val (.long ya), .second, .val (.long yb), .second, .val (.int xf), .val (.int xsame), .val (.ref ka3), .val (.ref al), .val (.ref ar), .val (.ref ka1)] [(.ref ka1)]) (fun _ kx_ => XS.aload X197.here hx rfl (hb hby at_48) rfl rfl kx_) ?_
        refine W.s1 (mkF m 55 #[.val (.int xk), .val (.long ya), .second, .val (.long yb), .second, .val (.int xf), .val (.int xsame), .val (.ref ka3), .val (.ref al), .val (.ref ar), .val (.ref ka1)] []) (fun _ kx_ => XS.ifnonnullYes X197.here hx rfl (pc0 := 50) (pc' := 55) rfl (hb hby at_50) rfl (by decide) (by decide) kx_) ?_
        refine W.s1 (mkF m 57 #[.val (.int xk), .val (.long ya), .second, .val (.long yb), .second, .val (.int xf), .val (.int xsame), .val (.ref ka3), .val (.ref al), .val (.ref ar), .val (.ref ka1)] [(.ref ka3)]) (fun _ kx_ => XS.aload X197.here hx rfl (hb hby at_55) rfl rfl kx_) ?_
        refine W.s1 (mkF m 59 #[.val (.int xk), .val (.long ya), .second, .val (.long yb), .second, .val (.int xf), .val (.int xsame), .val (.ref ka3), .val (.ref al), .val (.ref ar), .val (.ref ka1)] [(.ref al), (.ref ka3)]) (fun _ kx_ => XS.aload X197.here hx rfl (hb hby at_57) rfl rfl kx_) ?_
        refine W.s1 (mkF m 61 #[.val (.int xk), .val (.long ya), .second, .val (.long yb), .second, .val (.int xf), .val (.int xsame), .val (.ref ka3), .val (.ref al), .val (.ref ar), .val (.ref ka1)] [(.ref ar), (.ref al), (.ref ka3)]) (fun _ kx_ => XS.aload X197.here hx rfl (hb hby at_59) rfl rfl kx_) ?_
        obtain ⟨cq198, kq198, q198a, q198b, q198c⟩ := isOf hZ eq197 f196
        obtain ⟨_, _, ⟨T198, L198, k198, n198⟩, -, X198, ⟨Lc198, hQ198, l198, y198, z198⟩, st198⟩ := X197.virtualBack hx (y := (⟨"com/example/hybridge/hybridge/model/Relation", "holds", "(Lcom/example/hybridge/hybridge/model/Rational;Lcom/example/hybridge/hybridge/model/Rational;)Z"⟩ : MethodName)) (z := (⟨"com/example/hybridge/hybridge/model/Relation", "holds", "(Lcom/example/hybridge/hybridge/model/Rational;Lcom/example/hybridge/hybridge/model/Rational;)Z"⟩ : MethodName)) hown (mvT hZ (hw _ (List.mem_of_getElem? (i := 66) rfl))) (mvT hZ (hw _ (List.mem_of_getElem? (i := 67) rfl))) (notFace_of_selects (args := #[]) (mvT hZ (hw _ (List.mem_of_getElem? (i := 69) rfl)))) (mvT hZ (hw _ (List.mem_of_getElem? (i := 69) rfl))) (mvT hZ (hw _ (List.mem_of_getElem? (i := 68) rfl))) (by decide) (backOf (W := 0) (rm10_3 l Z a0 hw [] ka3 al ar aZ nZ fZ aO zo fo sl nl fl sr nr fr h194 n0 Z194 f195 S_ZERO HZ EO FO1 FO2 AO hfo HlR Hr f196 (F_r3.ext f195.2)) hZ (hw _ (List.mem_of_getElem? (i := 70) rfl)) (hw _ (List.mem_of_getElem? (i := 6) rfl)) (by decide) (by decide)) q198a q198c (g := (mkF m 61 #[.val (.int xk), .val (.long ya), .second, .val (.long yb), .second, .val (.int xf), .val (.int xsame), .val (.ref ka3), .val (.ref al), .val (.ref ar), .val (.ref ka1)] [(.ref ar), (.ref al), (.ref ka3)])) rfl (by rw [hml]; rfl) (Steps.refl _) (argsL := [(.ref al), (.ref ar)]) (rest := []) (lenOf pd_16 rfl) rfl (by show 2 * 0 + _ ≤ _; exact Nat.le_of_eq rfl) (hb hby at_61) (fun _ _ => ⟨rfl, eq197, (by decide : 6 + 4 ≤ _), (by decide : 20 + 16 ≤ _)⟩)
        dsimp only [Pt.U, Pt.locs, Pt.cells, Pt.slots] at X198 l198 y198 z198 st198 hQ198
        subst l198 y198 z198
        obtain ⟨h198, e198⟩ : ∃ z, T198.heap = z := ⟨_, rfl⟩
        rw [e198] at hQ198
        obtain ⟨q61, rfl, Nq198, Kq198, hq61⟩ := hQ198
        have N198 := Fr.app N197 Nq198
        have Z198 : n0 ≤ h198.size := Nat.le_trans Z194 Kq198.1
        have f199 := f195.keep Kq198 all0
        have f200 := f196.keep Kq198
        have f201 := Es.keep Kq198
        have Hl2 := HlR.keep Kq198
        have Hr2 := Hr.keep Kq198
        refine W.s3 (mkF m 64 #[.val (.int xk), .val (.long ya), .second, .val (.long yb), .second, .val (.int xf), .val (.int xsame), .val (.ref ka3), .val (.ref al), .val (.ref ar), .val (.ref ka1)] [(.int q61)]) st198 ?_
        refine W.s1 (mkF m 66 #[.val (.int xk), .val (.long ya), .second, .val (.long yb), .second, .val (.int xf), .val (.int xsame), .val (.ref ka3), .val (.ref al), .val (.ref ar), .val (.ref ka1)] [(.ref ka1), (.int q61)]) (fun _ kx_ => XS.aload X198.here hx rfl (hb hby at_64) rfl rfl kx_) ?_
        refine W.s1 (mkF m 68 #[.val (.int xk), .val (.long ya), .second, .val (.long yb), .second, .val (.int xf), .val (.int xsame), .val (.ref ka3), .val (.ref al), .val (.ref ar), .val (.ref ka1)] [(.ref ar), (.ref ka1), (.int q61)]) (fun _ kx_ => XS.aload X198.here hx rfl (hb hby at_66) rfl rfl kx_) ?_
        refine W.s1 (mkF m 70 #[.val (.int xk), .val (.long ya), .second, .val (.long yb), .second, .val (.int xf), .val (.int xsame), .val (.ref ka3), .val (.ref al), .val (.ref ar), .val (.ref ka1)] [(.ref al), (.ref ar), (.ref ka1), (.int q61)]) (fun _ kx_ => XS.aload X198.here hx rfl (hb hby at_68) rfl rfl kx_) ?_
        obtain ⟨cq202, kq202, q202a, q202b, q202c⟩ := isOf hZ e198 f201
        obtain ⟨_, _, ⟨T202, L202, k202, n202⟩, -, X202, ⟨Lc202, hQ202, l202, y202, z202⟩, st202⟩ := X198.virtualBack hx (y := (⟨"com/example/hybridge/hybridge/model/Relation", "holds", "(Lcom/example/hybridge/hybridge/model/Rational;Lcom/example/hybridge/hybridge/model/Rational;)Z"⟩ : MethodName)) (z := (⟨"com/example/hybridge/hybridge/model/Relation", "holds", "(Lcom/example/hybridge/hybridge/model/Rational;Lcom/example/hybridge/hybridge/model/Rational;)Z"⟩ : MethodName)) hown (mvT hZ (hw _ (List.mem_of_getElem? (i := 66) rfl))) (mvT hZ (hw _ (List.mem_of_getElem? (i := 67) rfl))) (notFace_of_selects (args := #[]) (mvT hZ (hw _ (List.mem_of_getElem? (i := 69) rfl)))) (mvT hZ (hw _ (List.mem_of_getElem? (i := 69) rfl))) (mvT hZ (hw _ (List.mem_of_getElem? (i := 68) rfl))) (by decide) (backOf (W := 1) (rm10_1 l Z a0 hw [] ka1 ar al aZ nZ fZ aO zo fo sr nr fr sl nl fl h198 n0 Z198 f199 S_ZERO HZ EO FO1 FO2 AO hfo Hr2 Hl2 f201 (F_r1.ext f199.2)) hZ (hw _ (List.mem_of_getElem? (i := 70) rfl)) (hw _ (List.mem_of_getElem? (i := 6) rfl)) (by decide) (by decide)) q202a q202c (g := (mkF m 70 #[.val (.int xk), .val (.long ya), .second, .val (.long yb), .second, .val (.int xf), .val (.int xsame), .val (.ref ka3), .val (.ref al), .val (.ref ar), .val (.ref ka1)] [(.ref al), (.ref ar), (.ref ka1), (.int q61)])) rfl (by rw [hml]; rfl) (Steps.refl _) (argsL := [(.ref ar), (.ref al)]) (rest := [(.int q61)]) (lenOf pd_16 rfl) rfl (by show 2 * 0 + _ ≤ _; exact Nat.le_of_eq rfl) (hb hby at_70) (fun _ _ => ⟨rfl, e198, (by decide : 10 + 4 ≤ _), (by decide : 36 + 16 ≤ _)⟩)
        dsimp only [Pt.U, Pt.locs, Pt.cells, Pt.slots] at X202 l202 y202 z202 st202 hQ202
        subst l202 y202 z202
        obtain ⟨h202, e202⟩ : ∃ z, T202.heap = z := ⟨_, rfl⟩
        rw [e202] at hQ202
        obtain ⟨q70, rfl, Nq202, Kq202, hq70⟩ := hQ202
        have N202 := Fr.app N198 Nq202
        have Z202 : n0 ≤ h202.size := Nat.le_trans Z198 Kq202.1
        have f203 := f199.keep Kq202 all0
        have f204 := f200.keep Kq202
        have f205 := f201.keep Kq202
        have hqq : q61 = q70 := by
          rw [own_cmpa sl nl fl sr nr fr] at hq70
          have hsw := own_hs ⟨3, by decide⟩ (own_cmp0 sl nl fl sr nr fr)
          rcases hq61 with ⟨rfl, u⟩ | ⟨rfl, u⟩ <;> rcases hq70 with ⟨rfl, w⟩ | ⟨rfl, w⟩ <;> first | rfl | exact absurd (hsw.mpr u) w | exact absurd (hsw.mp w) u
        refine W.s3 (mkF m 73 #[.val (.int xk), .val (.long ya), .second, .val (.long yb), .second, .val (.int xf), .val (.int xsame), .val (.ref ka3), .val (.ref al), .val (.ref ar), .val (.ref ka1)] [(.int q70), (.int q61)]) st202 ?_
        refine W.icmp X202 hx (hb hby at_73) (pc' := 80) (pc'' := 76) (by decide) (by decide) rfl (fun (c73 : ¬ q61 = q70) => ?_) (fun (c73 : q61 = q70) => ?_)
        · exact absurd hqq c73
        · refine W.s1 (mkF m 77 #[.val (.int xk), .val (.long ya), .second, .val (.long yb), .second, .val (.int xf), .val (.int xsame), .val (.ref ka3), .val (.ref al), .val (.ref ar), .val (.ref ka1)] [(.int (1 : Int32))]) (fun _ kx_ => XS.iconst X202.here hx rfl (hb hby at_76) kx_) ?_
          refine W.s1 (mkF m 81 #[.val (.int xk), .val (.long ya), .second, .val (.long yb), .second, .val (.int xf), .val (.int xsame), .val (.ref ka3), .val (.ref al), .val (.ref ar), .val (.ref ka1)] [(.int (1 : Int32))]) (fun _ kx_ => XS.goto X202.here hx rfl (pc0 := 77) (pc' := 81) rfl (hb hby at_77) (by decide) (by decide) kx_) ?_
          exact W.retZ X202 hx hlk (t := .boolean) (z' := (1 : Int32)) Bd.returns (by simp) (hb hby at_81) rfl (by show Q0 Z xk ya yb xf aZ zp zq nZ fZ fp fq aO zo fo ka0 ka1 ka2 ka3 ka4 h0 n0 _ T202.heap _; rw [e202]; exact ⟨rfl, N202⟩) (by decide) (by decide)
    · have Ek := Exa.ext O0.2 E_r4
      refine W.s1 (mkF m 20 #[.val (.int xk), .val (.long ya), .second, .val (.long yb), .second, .val (.int xf), .val (.int xsame), .val (.ref ka4), .unset, .unset, .unset] []) (fun _ kx_ => XS.astore X101.here hx rfl (hb hby at_18) rfl rfl (l' := #[.val (.int xk), .val (.long ya), .second, .val (.long yb), .second, .val (.int xf), .val (.int xsame), .val (.ref ka4), .unset, .unset, .unset]) rfl kx_) ?_
      refine W.s1 (mkF m 21 #[.val (.int xk), .val (.long ya), .second, .val (.long yb), .second, .val (.int xf), .val (.int xsame), .val (.ref ka4), .unset, .unset, .unset] [(.long ya)]) (fun _ kx_ => XS.lloadN X101.here hx rfl (hb hby at_20) rfl kx_) ?_
      obtain ⟨_, _, ⟨T206, L206, k206, n206⟩, -, X206, ⟨Lc206, hQ206, l206, y206, z206⟩, st206⟩ := Jvm.LawKit.callS X101 hx (y := (⟨"com/example/hybridge/hybridge/model/Rational", "of", "(J)Lcom/example/hybridge/hybridge/model/Rational;"⟩ : MethodName)) hown (mvT hZ (hw _ (List.mem_of_getElem? (i := 8) rfl))) (mvT hZ (hw _ (List.mem_of_getElem? (i := 9) rfl))) (mvT hZ (hw _ (List.mem_of_getElem? (i := 10) rfl))) (mvT hZ (hw _ (List.mem_of_getElem? (i := 11) rfl))) (by decide) (backOf (W := 0) (rm2 l Z a0 hw [] ya aZ zp zq nZ fZ fp fq aO h0 n0 Z0 O0 S_ZERO S_posConst S_negConst HZ A_zp A_zq h_zp h_zq S_ONE) hZ (hw _ (List.mem_of_getElem? (i := 11) rfl)) (hw _ (List.mem_of_getElem? (i := 10) rfl)) (by decide) (by decide)) (g := (mkF m 21 #[.val (.int xk), .val (.long ya), .second, .val (.long yb), .second, .val (.int xf), .val (.int xsame), .val (.ref ka4), .unset, .unset, .unset] [(.long ya)])) rfl (by rw [hml]; rfl) (argsL := [(.long ya)]) (rest := []) (lenOf pd_14 rfl) rfl (by show 2 * 0 + _ ≤ _; exact Nat.le_of_eq rfl) (hb hby at_21) (fun _ _ => ⟨rfl, eq101, (by decide : 0 + 3 ≤ _), (by decide : 0 + 10 ≤ _)⟩)
      dsimp only [Pt.U, Pt.locs, Pt.cells, Pt.slots] at X206 l206 y206 z206 st206 hQ206
      subst l206 y206 z206
      obtain ⟨h206, e206⟩ : ∃ z, T206.heap = z := ⟨_, rfl⟩
      rw [e206] at hQ206
      obtain ⟨al, sl, nl, fl, rfl, Nq206, Kq206, Hl⟩ := hQ206
      have N206 := Fr.app N101 Nq206
      have Z206 : n0 ≤ h206.size := Nat.le_trans Z0 Kq206.1
      have f207 := O0.keep Kq206 all0
      have f208 := Ek.keep Kq206
      refine W.s2 (mkF m 24 #[.val (.int xk), .val (.long ya), .second, .val (.long yb), .second, .val (.int xf), .val (.int xsame), .val (.ref ka4), .unset, .unset, .unset] [(.ref al)]) st206 ?_
      refine W.s1 (mkF m 26 #[.val (.int xk), .val (.long ya), .second, .val (.long yb), .second, .val (.int xf), .val (.int xsame), .val (.ref ka4), .val (.ref al), .unset, .unset] []) (fun _ kx_ => XS.astore X206.here hx rfl (hb hby at_24) rfl rfl (l' := #[.val (.int xk), .val (.long ya), .second, .val (.long yb), .second, .val (.int xf), .val (.int xsame), .val (.ref ka4), .val (.ref al), .unset, .unset]) rfl kx_) ?_
      refine W.s1 (mkF m 28 #[.val (.int xk), .val (.long ya), .second, .val (.long yb), .second, .val (.int xf), .val (.int xsame), .val (.ref ka4), .val (.ref al), .unset, .unset] [(.int xsame)]) (fun _ kx_ => XS.iload X206.here hx rfl (hb hby at_26) rfl kx_) ?_
      refine W.ifc X206 hx (hb hby at_28) (pc' := 35) (pc'' := 31) (by decide) (by decide) rfl (fun (c28 : xsame = (0 : Int32)) => ?_) (fun (c28 : ¬ xsame = (0 : Int32)) => ?_)
      · refine W.s1 (mkF m 36 #[.val (.int xk), .val (.long ya), .second, .val (.long yb), .second, .val (.int xf), .val (.int xsame), .val (.ref ka4), .val (.ref al), .unset, .unset] [(.long yb)]) (fun _ kx_ => XS.lloadN X206.here hx rfl (hb hby at_35) rfl kx_) ?_
        obtain ⟨_, _, ⟨T209, L209, k209, n209⟩, -, X209, ⟨Lc209, hQ209, l209, y209, z209⟩, st209⟩ := Jvm.LawKit.callS X206 hx (y := (⟨"com/example/hybridge/hybridge/model/Rational", "of", "(J)Lcom/example/hybridge/hybridge/model/Rational;"⟩ : MethodName)) hown (mvT hZ (hw _ (List.mem_of_getElem? (i := 8) rfl))) (mvT hZ (hw _ (List.mem_of_getElem? (i := 9) rfl))) (mvT hZ (hw _ (List.mem_of_getElem? (i := 10) rfl))) (mvT hZ (hw _ (List.mem_of_getElem? (i := 11) rfl))) (by decide) (backOf (W := 0) (rm2 l Z a0 hw [] yb aZ zp zq nZ fZ fp fq aO h206 n0 Z206 f207 S_ZERO S_posConst S_negConst HZ A_zp A_zq h_zp h_zq S_ONE) hZ (hw _ (List.mem_of_getElem? (i := 11) rfl)) (hw _ (List.mem_of_getElem? (i := 10) rfl)) (by decide) (by decide)) (g := (mkF m 36 #[.val (.int xk), .val (.long ya), .second, .val (.long yb), .second, .val (.int xf), .val (.int xsame), .val (.ref ka4), .val (.ref al), .unset, .unset] [(.long yb)])) rfl (by rw [hml]; rfl) (argsL := [(.long yb)]) (rest := []) (lenOf pd_14 rfl) rfl (by show 2 * 0 + _ ≤ _; exact Nat.le_of_eq rfl) (hb hby at_36) (fun _ _ => ⟨rfl, e206, (by decide : 3 + 3 ≤ _), (by decide : 10 + 10 ≤ _)⟩)
        dsimp only [Pt.U, Pt.locs, Pt.cells, Pt.slots] at X209 l209 y209 z209 st209 hQ209
        subst l209 y209 z209
        obtain ⟨h209, e209⟩ : ∃ z, T209.heap = z := ⟨_, rfl⟩
        rw [e209] at hQ209
        obtain ⟨ar, sr, nr, fr, rfl, Nq209, Kq209, Hr⟩ := hQ209
        have N209 := Fr.app N206 Nq209
        have Z209 : n0 ≤ h209.size := Nat.le_trans Z206 Kq209.1
        have f210 := f207.keep Kq209 all0
        have f211 := f208.keep Kq209
        have HlR := Hl.keep Kq209
        refine W.s2 (mkF m 39 #[.val (.int xk), .val (.long ya), .second, .val (.long yb), .second, .val (.int xf), .val (.int xsame), .val (.ref ka4), .val (.ref al), .unset, .unset] [(.ref ar)]) st209 ?_
        refine W.s1 (mkF m 41 #[.val (.int xk), .val (.long ya), .second, .val (.long yb), .second, .val (.int xf), .val (.int xsame), .val (.ref ka4), .val (.ref al), .val (.ref ar), .unset] []) (fun _ kx_ => XS.astore X209.here hx rfl (hb hby at_39) rfl rfl (l' := #[.val (.int xk), .val (.long ya), .second, .val (.long yb), .second, .val (.int xf), .val (.int xsame), .val (.ref ka4), .val (.ref al), .val (.ref ar), .unset]) rfl kx_) ?_
        refine W.s1 (mkF m 43 #[.val (.int xk), .val (.long ya), .second, .val (.long yb), .second, .val (.int xf), .val (.int xsame), .val (.ref ka4), .val (.ref al), .val (.ref ar), .unset] [(.ref ka4)]) (fun _ kx_ => XS.aload X209.here hx rfl (hb hby at_41) rfl rfl kx_) ?_
        obtain ⟨cq212, kq212, q212a, q212b, q212c⟩ := isOf hZ e209 f211
        obtain ⟨_, _, ⟨T212, L212, k212, n212⟩, -, X212, ⟨Lc212, hQ212, l212, y212, z212⟩, st212⟩ := X209.virtualBack hx (y := (⟨"com/example/hybridge/hybridge/model/Relation", "swapped", "()Lcom/example/hybridge/hybridge/model/Relation;"⟩ : MethodName)) (z := (⟨"com/example/hybridge/hybridge/model/Relation", "swapped", "()Lcom/example/hybridge/hybridge/model/Relation;"⟩ : MethodName)) hown (mvT hZ (hw _ (List.mem_of_getElem? (i := 50) rfl))) (mvT hZ (hw _ (List.mem_of_getElem? (i := 51) rfl))) (notFace_of_selects (args := #[]) (mvT hZ (hw _ (List.mem_of_getElem? (i := 53) rfl)))) (mvT hZ (hw _ (List.mem_of_getElem? (i := 53) rfl))) (mvT hZ (hw _ (List.mem_of_getElem? (i := 52) rfl))) (by decide) (backOf (W := 0) (rm8_4 l Z a0 hw [] ka4 ka0 h209 n0 Z209 f210 f211 (F_r4.ext f210.2) S_LESS) hZ (hw _ (List.mem_of_getElem? (i := 54) rfl)) (hw _ (List.mem_of_getElem? (i := 6) rfl)) (by decide) (by decide)) q212a q212c (g := (mkF m 43 #[.val (.int xk), .val (.long ya), .second, .val (.long yb), .second, .val (.int xf), .val (.int xsame), .val (.ref ka4), .val (.ref al), .val (.ref ar), .unset] [(.ref ka4)])) rfl (by rw [hml]; rfl) (Steps.refl _) (argsL := []) (rest := []) (lenOf pd_15 rfl) rfl (by show 2 * 0 + _ ≤ _; exact Nat.le_of_eq rfl) (hb hby at_43) (fun _ _ => ⟨rfl, e209, (by decide : 6 + 0 ≤ _), (by decide : 20 + 0 ≤ _)⟩)
        dsimp only [Pt.U, Pt.locs, Pt.cells, Pt.slots] at X212 l212 y212 z212 st212 hQ212
        subst l212 y212 z212
        obtain ⟨rfl, Nq212, eq212⟩ := hQ212
        have N212 := Fr.app N209 Nq212
        have Es := Exa.ext f210.2 E_r0
        refine W.s3 (mkF m 46 #[.val (.int xk), .val (.long ya), .second, .val (.long yb), .second, .val (.int xf), .val (.int xsame), .val (.ref ka4), .val (.ref al), .val (.ref ar), .unset] [(.ref ka0)]) st212 ?_
        refine W.s1 (mkF m 48 #[.val (.int xk), .val (.long ya), .second, .val (.long yb), .second, .val (.int xf), .val (.int xsame), .val (.ref ka4), .val (.ref al), .val (.ref ar), .val (.ref ka0)] []) (fun _ kx_ => XS.astore X212.here hx rfl (hb hby at_46) rfl rfl (l' := #[.val (.int xk), .val (.long ya), .second, .val (.long yb), .second, .val (.int xf), .val (.int xsame), .val (.ref ka4), .val (.ref al), .val (.ref ar), .val (.ref ka0)]) rfl kx_) ?_
        refine W.s1 (mkF m 50 #[.val (.int xk), .val (.long ya), .second, .val (.long yb), .second, .val (.int xf), .val (.int xsame), .val (.ref ka4), .val (.ref al), .val (.ref ar), .val (.ref ka0)] [(.ref ka0)]) (fun _ kx_ => XS.aload X212.here hx rfl (hb hby at_48) rfl rfl kx_) ?_
        refine W.s1 (mkF m 55 #[.val (.int xk), .val (.long ya), .second, .val (.long yb), .second, .val (.int xf), .val (.int xsame), .val (.ref ka4), .val (.ref al), .val (.ref ar), .val (.ref ka0)] []) (fun _ kx_ => XS.ifnonnullYes X212.here hx rfl (pc0 := 50) (pc' := 55) rfl (hb hby at_50) rfl (by decide) (by decide) kx_) ?_
        refine W.s1 (mkF m 57 #[.val (.int xk), .val (.long ya), .second, .val (.long yb), .second, .val (.int xf), .val (.int xsame), .val (.ref ka4), .val (.ref al), .val (.ref ar), .val (.ref ka0)] [(.ref ka4)]) (fun _ kx_ => XS.aload X212.here hx rfl (hb hby at_55) rfl rfl kx_) ?_
        refine W.s1 (mkF m 59 #[.val (.int xk), .val (.long ya), .second, .val (.long yb), .second, .val (.int xf), .val (.int xsame), .val (.ref ka4), .val (.ref al), .val (.ref ar), .val (.ref ka0)] [(.ref al), (.ref ka4)]) (fun _ kx_ => XS.aload X212.here hx rfl (hb hby at_57) rfl rfl kx_) ?_
        refine W.s1 (mkF m 61 #[.val (.int xk), .val (.long ya), .second, .val (.long yb), .second, .val (.int xf), .val (.int xsame), .val (.ref ka4), .val (.ref al), .val (.ref ar), .val (.ref ka0)] [(.ref ar), (.ref al), (.ref ka4)]) (fun _ kx_ => XS.aload X212.here hx rfl (hb hby at_59) rfl rfl kx_) ?_
        obtain ⟨cq213, kq213, q213a, q213b, q213c⟩ := isOf hZ eq212 f211
        obtain ⟨_, _, ⟨T213, L213, k213, n213⟩, -, X213, ⟨Lc213, hQ213, l213, y213, z213⟩, st213⟩ := X212.virtualBack hx (y := (⟨"com/example/hybridge/hybridge/model/Relation", "holds", "(Lcom/example/hybridge/hybridge/model/Rational;Lcom/example/hybridge/hybridge/model/Rational;)Z"⟩ : MethodName)) (z := (⟨"com/example/hybridge/hybridge/model/Relation", "holds", "(Lcom/example/hybridge/hybridge/model/Rational;Lcom/example/hybridge/hybridge/model/Rational;)Z"⟩ : MethodName)) hown (mvT hZ (hw _ (List.mem_of_getElem? (i := 66) rfl))) (mvT hZ (hw _ (List.mem_of_getElem? (i := 67) rfl))) (notFace_of_selects (args := #[]) (mvT hZ (hw _ (List.mem_of_getElem? (i := 69) rfl)))) (mvT hZ (hw _ (List.mem_of_getElem? (i := 69) rfl))) (mvT hZ (hw _ (List.mem_of_getElem? (i := 68) rfl))) (by decide) (backOf (W := 0) (rm10_4 l Z a0 hw [] ka4 al ar aZ nZ fZ aO zo fo sl nl fl sr nr fr h209 n0 Z209 f210 S_ZERO HZ EO FO1 FO2 AO hfo HlR Hr f211 (F_r4.ext f210.2)) hZ (hw _ (List.mem_of_getElem? (i := 70) rfl)) (hw _ (List.mem_of_getElem? (i := 6) rfl)) (by decide) (by decide)) q213a q213c (g := (mkF m 61 #[.val (.int xk), .val (.long ya), .second, .val (.long yb), .second, .val (.int xf), .val (.int xsame), .val (.ref ka4), .val (.ref al), .val (.ref ar), .val (.ref ka0)] [(.ref ar), (.ref al), (.ref ka4)])) rfl (by rw [hml]; rfl) (Steps.refl _) (argsL := [(.ref al), (.ref ar)]) (rest := []) (lenOf pd_16 rfl) rfl (by show 2 * 0 + _ ≤ _; exact Nat.le_of_eq rfl) (hb hby at_61) (fun _ _ => ⟨rfl, eq212, (by decide : 6 + 4 ≤ _), (by decide : 20 + 16 ≤ _)⟩)
        dsimp only [Pt.U, Pt.locs, Pt.cells, Pt.slots] at X213 l213 y213 z213 st213 hQ213
        subst l213 y213 z213
        obtain ⟨h213, e213⟩ : ∃ z, T213.heap = z := ⟨_, rfl⟩
        rw [e213] at hQ213
        obtain ⟨q61, rfl, Nq213, Kq213, hq61⟩ := hQ213
        have N213 := Fr.app N212 Nq213
        have Z213 : n0 ≤ h213.size := Nat.le_trans Z209 Kq213.1
        have f214 := f210.keep Kq213 all0
        have f215 := f211.keep Kq213
        have f216 := Es.keep Kq213
        have Hl2 := HlR.keep Kq213
        have Hr2 := Hr.keep Kq213
        refine W.s3 (mkF m 64 #[.val (.int xk), .val (.long ya), .second, .val (.long yb), .second, .val (.int xf), .val (.int xsame), .val (.ref ka4), .val (.ref al), .val (.ref ar), .val (.ref ka0)] [(.int q61)]) st213 ?_
        refine W.s1 (mkF m 66 #[.val (.int xk), .val (.long ya), .second, .val (.long yb), .second, .val (.int xf), .val (.int xsame), .val (.ref ka4), .val (.ref al), .val (.ref ar), .val (.ref ka0)] [(.ref ka0), (.int q61)]) (fun _ kx_ => XS.aload X213.here hx rfl (hb hby at_64) rfl rfl kx_) ?_
        refine W.s1 (mkF m 68 #[.val (.int xk), .val (.long ya), .second, .val (.long yb), .second, .val (.int xf), .val (.int xsame), .val (.ref ka4), .val (.ref al), .val (.ref ar), .val (.ref ka0)] [(.ref ar), (.ref ka0), (.int q61)]) (fun _ kx_ => XS.aload X213.here hx rfl (hb hby at_66) rfl rfl kx_) ?_
        refine W.s1 (mkF m 70 #[.val (.int xk), .val (.long ya), .second, .val (.long yb), .second, .val (.int xf), .val (.int xsame), .val (.ref ka4), .val (.ref al), .val (.ref ar), .val (.ref ka0)] [(.ref al), (.ref ar), (.ref ka0), (.int q61)]) (fun _ kx_ => XS.aload X213.here hx rfl (hb hby at_68) rfl rfl kx_) ?_
        obtain ⟨cq217, kq217, q217a, q217b, q217c⟩ := isOf hZ e213 f216
        obtain ⟨_, _, ⟨T217, L217, k217, n217⟩, -, X217, ⟨Lc217, hQ217, l217, y217, z217⟩, st217⟩ := X213.virtualBack hx (y := (⟨"com/example/hybridge/hybridge/model/Relation", "holds", "(Lcom/example/hybridge/hybridge/model/Rational;Lcom/example/hybridge/hybridge/model/Rational;)Z"⟩ : MethodName)) (z := (⟨"com/example/hybridge/hybridge/model/Relation", "holds", "(Lcom/example/hybridge/hybridge/model/Rational;Lcom/example/hybridge/hybridge/model/Rational;)Z"⟩ : MethodName)) hown (mvT hZ (hw _ (List.mem_of_getElem? (i := 66) rfl))) (mvT hZ (hw _ (List.mem_of_getElem? (i := 67) rfl))) (notFace_of_selects (args := #[]) (mvT hZ (hw _ (List.mem_of_getElem? (i := 69) rfl)))) (mvT hZ (hw _ (List.mem_of_getElem? (i := 69) rfl))) (mvT hZ (hw _ (List.mem_of_getElem? (i := 68) rfl))) (by decide) (backOf (W := 1) (rm10_0 l Z a0 hw [] ka0 ar al aZ nZ fZ aO zo fo sr nr fr sl nl fl h213 n0 Z213 f214 S_ZERO HZ EO FO1 FO2 AO hfo Hr2 Hl2 f216 (F_r0.ext f214.2)) hZ (hw _ (List.mem_of_getElem? (i := 70) rfl)) (hw _ (List.mem_of_getElem? (i := 6) rfl)) (by decide) (by decide)) q217a q217c (g := (mkF m 70 #[.val (.int xk), .val (.long ya), .second, .val (.long yb), .second, .val (.int xf), .val (.int xsame), .val (.ref ka4), .val (.ref al), .val (.ref ar), .val (.ref ka0)] [(.ref al), (.ref ar), (.ref ka0), (.int q61)])) rfl (by rw [hml]; rfl) (Steps.refl _) (argsL := [(.ref ar), (.ref al)]) (rest := [(.int q61)]) (lenOf pd_16 rfl) rfl (by show 2 * 0 + _ ≤ _; exact Nat.le_of_eq rfl) (hb hby at_70) (fun _ _ => ⟨rfl, e213, (by decide : 10 + 4 ≤ _), (by decide : 36 + 16 ≤ _)⟩)
        dsimp only [Pt.U, Pt.locs, Pt.cells, Pt.slots] at X217 l217 y217 z217 st217 hQ217
        subst l217 y217 z217
        obtain ⟨h217, e217⟩ : ∃ z, T217.heap = z := ⟨_, rfl⟩
        rw [e217] at hQ217
        obtain ⟨q70, rfl, Nq217, Kq217, hq70⟩ := hQ217
        have N217 := Fr.app N213 Nq217
        have Z217 : n0 ≤ h217.size := Nat.le_trans Z213 Kq217.1
        have f218 := f214.keep Kq217 all0
        have f219 := f215.keep Kq217
        have f220 := f216.keep Kq217
        have hqq : q61 = q70 := by
          rw [own_cmpa sl nl fl sr nr fr] at hq70
          have hsw := own_hs ⟨4, by decide⟩ (own_cmp0 sl nl fl sr nr fr)
          rcases hq61 with ⟨rfl, u⟩ | ⟨rfl, u⟩ <;> rcases hq70 with ⟨rfl, w⟩ | ⟨rfl, w⟩ <;> first | rfl | exact absurd (hsw.mpr u) w | exact absurd (hsw.mp w) u
        refine W.s3 (mkF m 73 #[.val (.int xk), .val (.long ya), .second, .val (.long yb), .second, .val (.int xf), .val (.int xsame), .val (.ref ka4), .val (.ref al), .val (.ref ar), .val (.ref ka0)] [(.int q70), (.int q61)]) st217 ?_
        refine W.icmp X217 hx (hb hby at_73) (pc' := 80) (pc'' := 76) (by decide) (by decide) rfl (fun (c73 : ¬ q61 = q70) => ?_) (fun (c73 : q61 = q70) => ?_)
        · exact absurd hqq c73
        · refine W.s1 (mkF m 77 #[.val (.int xk), .val (.long ya), .second, .val (.long yb), .second, .val (.int xf), .val (.int xsame), .val (.ref ka4), .val (.ref al), .val (.ref ar), .val (.ref ka0)] [(.int (1 : Int32))]) (fun _ kx_ => XS.iconst X217.here hx rfl (hb hby at_76) kx_) ?_
          refine W.s1 (mkF m 81 #[.val (.int xk), .val (.long ya), .second, .val (.long yb), .second, .val (.int xf), .val (.int xsame), .val (.ref ka4), .val (.ref al), .val (.ref ar), .val (.ref ka0)] [(.int (1 : Int32))]) (fun _ kx_ => XS.goto X217.here hx rfl (pc0 := 77) (pc' := 81) rfl (hb hby at_77) (by decide) (by decide) kx_) ?_
          exact W.retZ X217 hx hlk (t := .boolean) (z' := (1 : Int32)) Bd.returns (by simp) (hb hby at_81) rfl (by show Q0 Z xk ya yb xf aZ zp zq nZ fZ fp fq aO zo fo ka0 ka1 ka2 ka3 ka4 h0 n0 _ T217.heap _; rw [e217]; exact ⟨rfl, N217⟩) (by decide) (by decide)
      · refine W.s1 (mkF m 32 #[.val (.int xk), .val (.long ya), .second, .val (.long yb), .second, .val (.int xf), .val (.int xsame), .val (.ref ka4), .val (.ref al), .unset, .unset] [(.long ya)]) (fun _ kx_ => XS.lloadN X206.here hx rfl (hb hby at_31) rfl kx_) ?_
        refine W.s1 (mkF m 36 #[.val (.int xk), .val (.long ya), .second, .val (.long yb), .second, .val (.int xf), .val (.int xsame), .val (.ref ka4), .val (.ref al), .unset, .unset] [(.long ya)]) (fun _ kx_ => XS.goto X206.here hx rfl (pc0 := 32) (pc' := 36) rfl (hb hby at_32) (by decide) (by decide) kx_) ?_
        obtain ⟨_, _, ⟨T221, L221, k221, n221⟩, -, X221, ⟨Lc221, hQ221, l221, y221, z221⟩, st221⟩ := Jvm.LawKit.callS X206 hx (y := (⟨"com/example/hybridge/hybridge/model/Rational", "of", "(J)Lcom/example/hybridge/hybridge/model/Rational;"⟩ : MethodName)) hown (mvT hZ (hw _ (List.mem_of_getElem? (i := 8) rfl))) (mvT hZ (hw _ (List.mem_of_getElem? (i := 9) rfl))) (mvT hZ (hw _ (List.mem_of_getElem? (i := 10) rfl))) (mvT hZ (hw _ (List.mem_of_getElem? (i := 11) rfl))) (by decide) (backOf (W := 0) (rm2 l Z a0 hw [] ya aZ zp zq nZ fZ fp fq aO h206 n0 Z206 f207 S_ZERO S_posConst S_negConst HZ A_zp A_zq h_zp h_zq S_ONE) hZ (hw _ (List.mem_of_getElem? (i := 11) rfl)) (hw _ (List.mem_of_getElem? (i := 10) rfl)) (by decide) (by decide)) (g := (mkF m 36 #[.val (.int xk), .val (.long ya), .second, .val (.long yb), .second, .val (.int xf), .val (.int xsame), .val (.ref ka4), .val (.ref al), .unset, .unset] [(.long ya)])) rfl (by rw [hml]; rfl) (argsL := [(.long ya)]) (rest := []) (lenOf pd_14 rfl) rfl (by show 2 * 0 + _ ≤ _; exact Nat.le_of_eq rfl) (hb hby at_36) (fun _ _ => ⟨rfl, e206, (by decide : 3 + 3 ≤ _), (by decide : 10 + 10 ≤ _)⟩)
        dsimp only [Pt.U, Pt.locs, Pt.cells, Pt.slots] at X221 l221 y221 z221 st221 hQ221
        subst l221 y221 z221
        obtain ⟨h221, e221⟩ : ∃ z, T221.heap = z := ⟨_, rfl⟩
        rw [e221] at hQ221
        obtain ⟨ar, sr, nr, fr, rfl, Nq221, Kq221, Hr⟩ := hQ221
        have N221 := Fr.app N206 Nq221
        have Z221 : n0 ≤ h221.size := Nat.le_trans Z206 Kq221.1
        have f222 := f207.keep Kq221 all0
        have f223 := f208.keep Kq221
        have HlR := Hl.keep Kq221
        refine W.s2 (mkF m 39 #[.val (.int xk), .val (.long ya), .second, .val (.long yb), .second, .val (.int xf), .val (.int xsame), .val (.ref ka4), .val (.ref al), .unset, .unset] [(.ref ar)]) st221 ?_
        refine W.s1 (mkF m 41 #[.val (.int xk), .val (.long ya), .second, .val (.long yb), .second, .val (.int xf), .val (.int xsame), .val (.ref ka4), .val (.ref al), .val (.ref ar), .unset] []) (fun _ kx_ => XS.astore X221.here hx rfl (hb hby at_39) rfl rfl (l' := #[.val (.int xk), .val (.long ya), .second, .val (.long yb), .second, .val (.int xf), .val (.int xsame), .val (.ref ka4), .val (.ref al), .val (.ref ar), .unset]) rfl kx_) ?_
        refine W.s1 (mkF m 43 #[.val (.int xk), .val (.long ya), .second, .val (.long yb), .second, .val (.int xf), .val (.int xsame), .val (.ref ka4), .val (.ref al), .val (.ref ar), .unset] [(.ref ka4)]) (fun _ kx_ => XS.aload X221.here hx rfl (hb hby at_41) rfl rfl kx_) ?_
        obtain ⟨cq224, kq224, q224a, q224b, q224c⟩ := isOf hZ e221 f223
        obtain ⟨_, _, ⟨T224, L224, k224, n224⟩, -, X224, ⟨Lc224, hQ224, l224, y224, z224⟩, st224⟩ := X221.virtualBack hx (y := (⟨"com/example/hybridge/hybridge/model/Relation", "swapped", "()Lcom/example/hybridge/hybridge/model/Relation;"⟩ : MethodName)) (z := (⟨"com/example/hybridge/hybridge/model/Relation", "swapped", "()Lcom/example/hybridge/hybridge/model/Relation;"⟩ : MethodName)) hown (mvT hZ (hw _ (List.mem_of_getElem? (i := 50) rfl))) (mvT hZ (hw _ (List.mem_of_getElem? (i := 51) rfl))) (notFace_of_selects (args := #[]) (mvT hZ (hw _ (List.mem_of_getElem? (i := 53) rfl)))) (mvT hZ (hw _ (List.mem_of_getElem? (i := 53) rfl))) (mvT hZ (hw _ (List.mem_of_getElem? (i := 52) rfl))) (by decide) (backOf (W := 0) (rm8_4 l Z a0 hw [] ka4 ka0 h221 n0 Z221 f222 f223 (F_r4.ext f222.2) S_LESS) hZ (hw _ (List.mem_of_getElem? (i := 54) rfl)) (hw _ (List.mem_of_getElem? (i := 6) rfl)) (by decide) (by decide)) q224a q224c (g := (mkF m 43 #[.val (.int xk), .val (.long ya), .second, .val (.long yb), .second, .val (.int xf), .val (.int xsame), .val (.ref ka4), .val (.ref al), .val (.ref ar), .unset] [(.ref ka4)])) rfl (by rw [hml]; rfl) (Steps.refl _) (argsL := []) (rest := []) (lenOf pd_15 rfl) rfl (by show 2 * 0 + _ ≤ _; exact Nat.le_of_eq rfl) (hb hby at_43) (fun _ _ => ⟨rfl, e221, (by decide : 6 + 0 ≤ _), (by decide : 20 + 0 ≤ _)⟩)
        dsimp only [Pt.U, Pt.locs, Pt.cells, Pt.slots] at X224 l224 y224 z224 st224 hQ224
        subst l224 y224 z224
        obtain ⟨rfl, Nq224, eq224⟩ := hQ224
        have N224 := Fr.app N221 Nq224
        have Es := Exa.ext f222.2 E_r0
        refine W.s3 (mkF m 46 #[.val (.int xk), .val (.long ya), .second, .val (.long yb), .second, .val (.int xf), .val (.int xsame), .val (.ref ka4), .val (.ref al), .val (.ref ar), .unset] [(.ref ka0)]) st224 ?_
        refine W.s1 (mkF m 48 #[.val (.int xk), .val (.long ya), .second, .val (.long yb), .second, .val (.int xf), .val (.int xsame), .val (.ref ka4), .val (.ref al), .val (.ref ar), .val (.ref ka0)] []) (fun _ kx_ => XS.astore X224.here hx rfl (hb hby at_46) rfl rfl (l' := #[.val (.int xk), .val (.long ya), .second, .val (.long yb), .second, .val (.int xf), .val (.int xsame), .val (.ref ka4), .val (.ref al), .val (.ref ar), .val (.ref ka0)]) rfl kx_) ?_
        refine W.s1 (mkF m 50 #[.val (.int xk), .val (.long ya), .second, .val (.long yb), .second, .val (.int xf), .val (.int xsame), .val (.ref ka4), .val (.ref al), .val (.ref ar), .val (.ref ka0)] [(.ref ka0)]) (fun _ kx_ => XS.aload X224.here hx rfl (hb hby at_48) rfl rfl kx_) ?_
        refine W.s1 (mkF m 55 #[.val (.int xk), .val (.long ya), .second, .val (.long yb), .second, .val (.int xf), .val (.int xsame), .val (.ref ka4), .val (.ref al), .val (.ref ar), .val (.ref ka0)] []) (fun _ kx_ => XS.ifnonnullYes X224.here hx rfl (pc0 := 50) (pc' := 55) rfl (hb hby at_50) rfl (by decide) (by decide) kx_) ?_
        refine W.s1 (mkF m 57 #[.val (.int xk), .val (.long ya), .second, .val (.long yb), .second, .val (.int xf), .val (.int xsame), .val (.ref ka4), .val (.ref al), .val (.ref ar), .val (.ref ka0)] [(.ref ka4)]) (fun _ kx_ => XS.aload X224.here hx rfl (hb hby at_55) rfl rfl kx_) ?_
        refine W.s1 (mkF m 59 #[.val (.int xk), .val (.long ya), .second, .val (.long yb), .second, .val (.int xf), .val (.int xsame), .val (.ref ka4), .val (.ref al), .val (.ref ar), .val (.ref ka0)] [(.ref al), (.ref ka4)]) (fun _ kx_ => XS.aload X224.here hx rfl (hb hby at_57) rfl rfl kx_) ?_
        refine W.s1 (mkF m 61 #[.val (.int xk), .val (.long ya), .second, .val (.long yb), .second, .val (.int xf), .val (.int xsame), .val (.ref ka4), .val (.ref al), .val (.ref ar), .val (.ref ka0)] [(.ref ar), (.ref al), (.ref ka4)]) (fun _ kx_ => XS.aload X224.here hx rfl (hb hby at_59) rfl rfl kx_) ?_
        obtain ⟨cq225, kq225, q225a, q225b, q225c⟩ := isOf hZ eq224 f223
        obtain ⟨_, _, ⟨T225, L225, k225, n225⟩, -, X225, ⟨Lc225, hQ225, l225, y225, z225⟩, st225⟩ := X224.virtualBack hx (y := (⟨"com/example/hybridge/hybridge/model/Relation", "holds", "(Lcom/example/hybridge/hybridge/model/Rational;Lcom/example/hybridge/hybridge/model/Rational;)Z"⟩ : MethodName)) (z := (⟨"com/example/hybridge/hybridge/model/Relation", "holds", "(Lcom/example/hybridge/hybridge/model/Rational;Lcom/example/hybridge/hybridge/model/Rational;)Z"⟩ : MethodName)) hown (mvT hZ (hw _ (List.mem_of_getElem? (i := 66) rfl))) (mvT hZ (hw _ (List.mem_of_getElem? (i := 67) rfl))) (notFace_of_selects (args := #[]) (mvT hZ (hw _ (List.mem_of_getElem? (i := 69) rfl)))) (mvT hZ (hw _ (List.mem_of_getElem? (i := 69) rfl))) (mvT hZ (hw _ (List.mem_of_getElem? (i := 68) rfl))) (by decide) (backOf (W := 0) (rm10_4 l Z a0 hw [] ka4 al ar aZ nZ fZ aO zo fo sl nl fl sr nr fr h221 n0 Z221 f222 S_ZERO HZ EO FO1 FO2 AO hfo HlR Hr f223 (F_r4.ext f222.2)) hZ (hw _ (List.mem_of_getElem? (i := 70) rfl)) (hw _ (List.mem_of_getElem? (i := 6) rfl)) (by decide) (by decide)) q225a q225c (g := (mkF m 61 #[.val (.int xk), .val (.long ya), .second, .val (.long yb), .second, .val (.int xf), .val (.int xsame), .val (.ref ka4), .val (.ref al), .val (.ref ar), .val (.ref ka0)] [(.ref ar), (.ref al), (.ref ka4)])) rfl (by rw [hml]; rfl) (Steps.refl _) (argsL := [(.ref al), (.ref ar)]) (rest := []) (lenOf pd_16 rfl) rfl (by show 2 * 0 + _ ≤ _; exact Nat.le_of_eq rfl) (hb hby at_61) (fun _ _ => ⟨rfl, eq224, (by decide : 6 + 4 ≤ _), (by decide : 20 + 16 ≤ _)⟩)
        dsimp only [Pt.U, Pt.locs, Pt.cells, Pt.slots] at X225 l225 y225 z225 st225 hQ225
        subst l225 y225 z225
        obtain ⟨h225, e225⟩ : ∃ z, T225.heap = z := ⟨_, rfl⟩
        rw [e225] at hQ225
        obtain ⟨q61, rfl, Nq225, Kq225, hq61⟩ := hQ225
        have N225 := Fr.app N224 Nq225
        have Z225 : n0 ≤ h225.size := Nat.le_trans Z221 Kq225.1
        have f226 := f222.keep Kq225 all0
        have f227 := f223.keep Kq225
        have f228 := Es.keep Kq225
        have Hl2 := HlR.keep Kq225
        have Hr2 := Hr.keep Kq225
        refine W.s3 (mkF m 64 #[.val (.int xk), .val (.long ya), .second, .val (.long yb), .second, .val (.int xf), .val (.int xsame), .val (.ref ka4), .val (.ref al), .val (.ref ar), .val (.ref ka0)] [(.int q61)]) st225 ?_
        refine W.s1 (mkF m 66 #[.val (.int xk), .val (.long ya), .second, .val (.long yb), .second, .val (.int xf), .val (.int xsame), .val (.ref ka4), .val (.ref al), .val (.ref ar), .val (.ref ka0)] [(.ref ka0), (.int q61)]) (fun _ kx_ => XS.aload X225.here hx rfl (hb hby at_64) rfl rfl kx_) ?_
        refine W.s1 (mkF m 68 #[.val (.int xk), .val (.long ya), .second, .val (.long yb), .second, .val (.int xf), .val (.int xsame), .val (.ref ka4), .val (.ref al), .val (.ref ar), .val (.ref ka0)] [(.ref ar), (.ref ka0), (.int q61)]) (fun _ kx_ => XS.aload X225.here hx rfl (hb hby at_66) rfl rfl kx_) ?_
        refine W.s1 (mkF m 70 #[.val (.int xk), .val (.long ya), .second, .val (.long yb), .second, .val (.int xf), .val (.int xsame), .val (.ref ka4), .val (.ref al), .val (.ref ar), .val (.ref ka0)] [(.ref al), (.ref ar), (.ref ka0), (.int q61)]) (fun _ kx_ => XS.aload X225.here hx rfl (hb hby at_68) rfl rfl kx_) ?_
        obtain ⟨cq229, kq229, q229a, q229b, q229c⟩ := isOf hZ e225 f228
        obtain ⟨_, _, ⟨T229, L229, k229, n229⟩, -, X229, ⟨Lc229, hQ229, l229, y229, z229⟩, st229⟩ := X225.virtualBack hx (y := (⟨"com/example/hybridge/hybridge/model/Relation", "holds", "(Lcom/example/hybridge/hybridge/model/Rational;Lcom/example/hybridge/hybridge/model/Rational;)Z"⟩ : MethodName)) (z := (⟨"com/example/hybridge/hybridge/model/Relation", "holds", "(Lcom/example/hybridge/hybridge/model/Rational;Lcom/example/hybridge/hybridge/model/Rational;)Z"⟩ : MethodName)) hown (mvT hZ (hw _ (List.mem_of_getElem? (i := 66) rfl))) (mvT hZ (hw _ (List.mem_of_getElem? (i := 67) rfl))) (notFace_of_selects (args := #[]) (mvT hZ (hw _ (List.mem_of_getElem? (i := 69) rfl)))) (mvT hZ (hw _ (List.mem_of_getElem? (i := 69) rfl))) (mvT hZ (hw _ (List.mem_of_getElem? (i := 68) rfl))) (by decide) (backOf (W := 1) (rm10_0 l Z a0 hw [] ka0 ar al aZ nZ fZ aO zo fo sr nr fr sl nl fl h225 n0 Z225 f226 S_ZERO HZ EO FO1 FO2 AO hfo Hr2 Hl2 f228 (F_r0.ext f226.2)) hZ (hw _ (List.mem_of_getElem? (i := 70) rfl)) (hw _ (List.mem_of_getElem? (i := 6) rfl)) (by decide) (by decide)) q229a q229c (g := (mkF m 70 #[.val (.int xk), .val (.long ya), .second, .val (.long yb), .second, .val (.int xf), .val (.int xsame), .val (.ref ka4), .val (.ref al), .val (.ref ar), .val (.ref ka0)] [(.ref al), (.ref ar), (.ref ka0), (.int q61)])) rfl (by rw [hml]; rfl) (Steps.refl _) (argsL := [(.ref ar), (.ref al)]) (rest := [(.int q61)]) (lenOf pd_16 rfl) rfl (by show 2 * 0 + _ ≤ _; exact Nat.le_of_eq rfl) (hb hby at_70) (fun _ _ => ⟨rfl, e225, (by decide : 10 + 4 ≤ _), (by decide : 36 + 16 ≤ _)⟩)
        dsimp only [Pt.U, Pt.locs, Pt.cells, Pt.slots] at X229 l229 y229 z229 st229 hQ229
        subst l229 y229 z229
        obtain ⟨h229, e229⟩ : ∃ z, T229.heap = z := ⟨_, rfl⟩
        rw [e229] at hQ229
        obtain ⟨q70, rfl, Nq229, Kq229, hq70⟩ := hQ229
        have N229 := Fr.app N225 Nq229
        have Z229 : n0 ≤ h229.size := Nat.le_trans Z225 Kq229.1
        have f230 := f226.keep Kq229 all0
        have f231 := f227.keep Kq229
        have f232 := f228.keep Kq229
        have hqq : q61 = q70 := by
          rw [own_cmpa sl nl fl sr nr fr] at hq70
          have hsw := own_hs ⟨4, by decide⟩ (own_cmp0 sl nl fl sr nr fr)
          rcases hq61 with ⟨rfl, u⟩ | ⟨rfl, u⟩ <;> rcases hq70 with ⟨rfl, w⟩ | ⟨rfl, w⟩ <;> first | rfl | exact absurd (hsw.mpr u) w | exact absurd (hsw.mp w) u
        refine W.s3 (mkF m 73 #[.val (.int xk), .val (.long ya), .second, .val (.long yb), .second, .val (.int xf), .val (.int xsame), .val (.ref ka4), .val (.ref al), .val (.ref ar), .val (.ref ka0)] [(.int q70), (.int q61)]) st229 ?_
        refine W.icmp X229 hx (hb hby at_73) (pc' := 80) (pc'' := 76) (by decide) (by decide) rfl (fun (c73 : ¬ q61 = q70) => ?_) (fun (c73 : q61 = q70) => ?_)
        · exact absurd hqq c73
        · refine W.s1 (mkF m 77 #[.val (.int xk), .val (.long ya), .second, .val (.long yb), .second, .val (.int xf), .val (.int xsame), .val (.ref ka4), .val (.ref al), .val (.ref ar), .val (.ref ka0)] [(.int (1 : Int32))]) (fun _ kx_ => XS.iconst X229.here hx rfl (hb hby at_76) kx_) ?_
          refine W.s1 (mkF m 81 #[.val (.int xk), .val (.long ya), .second, .val (.long yb), .second, .val (.int xf), .val (.int xsame), .val (.ref ka4), .val (.ref al), .val (.ref ar), .val (.ref ka0)] [(.int (1 : Int32))]) (fun _ kx_ => XS.goto X229.here hx rfl (pc0 := 77) (pc' := 81) rfl (hb hby at_77) (by decide) (by decide) kx_) ?_
          exact W.retZ X229 hx hlk (t := .boolean) (z' := (1 : Int32)) Bd.returns (by simp) (hb hby at_81) rfl (by show Q0 Z xk ya yb xf aZ zp zq nZ fZ fp fq aO zo fo ka0 ka1 ka2 ka3 ka4 h0 n0 _ T229.heap _; rw [e229]; exact ⟨rfl, N229⟩) (by decide) (by decide)
  refine W.s1 (mkF m 2 #[.val (.int xk), .val (.long ya), .second, .val (.long yb), .second, .val (.int xf), .unset, .unset, .unset, .unset, .unset] [(.int xf)]) (fun _ kx_ => XS.iload X0.here hx rfl (hb hby at_0) rfl kx_) ?_
  refine W.s1 (mkF m 3 #[.val (.int xk), .val (.long ya), .second, .val (.long yb), .second, .val (.int xf), .unset, .unset, .unset, .unset, .unset] [(.int (1 : Int32)), (.int xf)]) (fun _ kx_ => XS.iconst X0.here hx rfl (hb hby at_2) kx_) ?_
  refine W.s1 (mkF m 4 #[.val (.int xk), .val (.long ya), .second, .val (.long yb), .second, .val (.int xf), .unset, .unset, .unset, .unset, .unset] [(.int (xf &&& (1 : Int32)))]) (fun _ kx_ => XS.iand X0.here hx rfl (hb hby at_3) rfl kx_) ?_
  refine W.ifc X0 hx (hb hby at_4) (pc' := 11) (pc'' := 7) (by decide) (by decide) rfl (fun (c4 : (xf &&& (1 : Int32)) = (0 : Int32)) => ?_) (fun (c4 : ¬ (xf &&& (1 : Int32)) = (0 : Int32)) => ?_)
  · refine W.s1 (mkF m 12 #[.val (.int xk), .val (.long ya), .second, .val (.long yb), .second, .val (.int xf), .unset, .unset, .unset, .unset, .unset] [(.int (0 : Int32))]) (fun _ kx_ => XS.iconst X0.here hx rfl (hb hby at_11) kx_) ?_
    refine W.s1 (mkF m 14 #[.val (.int xk), .val (.long ya), .second, .val (.long yb), .second, .val (.int xf), .val (.int (0 : Int32)), .unset, .unset, .unset, .unset] []) (fun _ kx_ => XS.istore X0.here hx rfl (hb hby at_12) rfl (l' := #[.val (.int xk), .val (.long ya), .second, .val (.long yb), .second, .val (.int xf), .val (.int (0 : Int32)), .unset, .unset, .unset, .unset]) rfl kx_) ?_
    exact J14 _
  · refine W.s1 (mkF m 8 #[.val (.int xk), .val (.long ya), .second, .val (.long yb), .second, .val (.int xf), .unset, .unset, .unset, .unset, .unset] [(.int (1 : Int32))]) (fun _ kx_ => XS.iconst X0.here hx rfl (hb hby at_7) kx_) ?_
    refine W.s1 (mkF m 12 #[.val (.int xk), .val (.long ya), .second, .val (.long yb), .second, .val (.int xf), .unset, .unset, .unset, .unset, .unset] [(.int (1 : Int32))]) (fun _ kx_ => XS.goto X0.here hx rfl (pc0 := 8) (pc' := 12) rfl (hb hby at_8) (by decide) (by decide) kx_) ?_
    refine W.s1 (mkF m 14 #[.val (.int xk), .val (.long ya), .second, .val (.long yb), .second, .val (.int xf), .val (.int (1 : Int32)), .unset, .unset, .unset, .unset] []) (fun _ kx_ => XS.istore X0.here hx rfl (hb hby at_12) rfl (l' := #[.val (.int xk), .val (.long ya), .second, .val (.long yb), .second, .val (.int xf), .val (.int (1 : Int32)), .unset, .unset, .unset, .unset]) rfl kx_) ?_
    exact J14 _
theorem own_alen {args : Array Value} {Z : State} {t : Term} {a : Addr} {cl : Cell} {ty : FieldType} {z : Int32} (ev : t.eval args Z none [] Z = some (.ref a)) (A : Arr Z Z.heap a cl ty) (h : (Term.length t).eval args Z none [] Z = some (.int z)) : (cl.slots.size : Int) = z.toInt ∧ cl.slots.size < 2 ^ 31 := by
  obtain ⟨_, _, t1, t2, t3⟩ := Term.length_spec h
  cases ev.symm.trans t1
  cases (A.fin (Vm.Alike.refl _)).symm.trans t2
  have hb : cl.slots.size < 2 ^ 31 := Jvm.Free.SBG.length_lt ev t2 h
  exact ⟨by rw [Value.int.inj t3]; exact (len_toInt hb).symm, hb⟩
theorem own_ints {args : Array Value} {Z : State} {t : Term} {z : Int32} {n : Nat} (hf : Fit Z) (w3 : (Jvm.Cond.arrayOf t .int).before args Z = true) (w4 : (Jvm.Cond.eq (.length t) (.int z)).before args Z = true) (hz : z.toInt = n) : ∃ (zm : Addr) (cl : Cell), t.eval args Z none [] Z = some (.ref zm) ∧ Arr Z Z.heap zm cl .int ∧ W.AI Z Z.heap zm .int n (fun k => atv cl (Int32.ofNat k)) := by
  have h4 := own_eqI (Cond.before_iff.mp w4)
  obtain ⟨zm, ev⟩ := arr_v (Cond.before_iff.mp w3)
  obtain ⟨cl, A⟩ := Arr.start ev (Cond.before_iff.mp w3)
  obtain ⟨q1, q2⟩ := own_alen ev A h4
  obtain ⟨m, -, -, -, -, hs⟩ := Scr.start hf A q2
  refine ⟨zm, cl, ev, A, cl, A, by omega, fun k hk => ?_⟩
  have e1 : (Int32.ofNat k).toInt = k := Int32.toInt_ofNat_small (by omega)
  have := hs (Int32.ofNat k) (W.inb e1 (by omega))
  rwa [W.clamp e1] at this
theorem own_bi {args : Array Value} {Z : State} {t : Term} {sg z : Int32} {n : Nat} (hf : Fit Z) (w1 : (Jvm.Cond.exactly t "java/math/BigInteger").before args Z = true) (w2 : (Jvm.Cond.eq (.field t "java/math/BigInteger" "signum" "I") (.int sg)).before args Z = true) (w3 : (Jvm.Cond.arrayOf (.field t "java/math/BigInteger" "mag" "[I") .int).before args Z = true) (w4 : (Jvm.Cond.eq (.length (.field t "java/math/BigInteger" "mag" "[I")) (.int z)).before args Z = true) (hz : z.toInt = n) (hn : n ≤ 2) (hsg : sg = 0 ∨ sg = 1 ∨ sg = -1) (h1 : ¬ sg = 0 → 1 ≤ n) :
    ∃ (a : Addr) (f : Nat → Int32), t.eval args Z none [] Z = some (.ref a) ∧ own_BI Z Z.heap a sg n f := by
  obtain ⟨a, ev⟩ := exa_v (Cond.before_iff.mp w1)
  obtain ⟨zm, cl, em, A, AI⟩ := own_ints hf w3 w4 hz
  exact ⟨a, _, ev, zm, Exa.start ev (Cond.before_iff.mp w1), Fld.start ((fld_at ev).symm.trans (own_eqI (Cond.before_iff.mp w2))), Fld.start ((fld_at ev).symm.trans em), AI, hn, hsg, h1⟩
theorem own_ar {args : Array Value} {Z : State} {t : Term} (w1 : (Jvm.Cond.arrayOf t (.object "java/math/BigInteger")).before args Z = true) (w2 : (Jvm.Cond.eq (.length t) (.int 17)).before args Z = true) : ∃ (zp : Addr) (cl : Cell), t.eval args Z none [] Z = some (.ref zp) ∧ Z.heap[zp]? = some cl ∧ W.AR Z Z.heap zp (.object "java/math/BigInteger") (fun _ => True) 17 (fun k => (cl.slots[k]?).getD .null) := by
  obtain ⟨zp, ev⟩ := arr_v (Cond.before_iff.mp w1)
  obtain ⟨cl, A⟩ := Arr.start ev (Cond.before_iff.mp w1)
  obtain ⟨q1, q2⟩ := own_alen ev A (own_eqI (Cond.before_iff.mp w2))
  have e17 : (17 : Int32).toInt = 17 := rfl
  refine ⟨zp, cl, ev, A.1, cl, A, trivial, by omega, fun k hk => ?_⟩
  have hk2 : k < cl.slots.size := by omega
  show cl.slots[k]? = some ((cl.slots[k]?).getD .null)
  rw [Array.getElem?_eq_getElem hk2] <;> rfl
theorem own_el {args : Array Value} {Z : State} {t : Term} {zp a : Addr} {cl : Cell} {j : Int32} {k : Nat} (ev : t.eval args Z none [] Z = some (.ref zp)) (hc : Z.heap[zp]? = some cl) (hj : j.toInt = k) (h : (Term.elem t (.int j)).eval args Z none [] Z = some (.ref a)) : (cl.slots[k]?).getD .null = .ref a := by
  have := (elem_in h ev (Term.int_eval j) hc).2
  rw [W.clamp hj] at this
  rw [this] <;> rfl
set_option maxRecDepth 65536 in
set_option maxHeartbeats 40000000 in
theorem comes_1 {Post : Tables → Env → Array Value → State → Outcome → State → Prop} (hpost : ∀ tb e args s v u, (limb_1_1.after args s (.returned v) u = true ∧ limb_1_2.after args s (.returned v) u = true ∧ True) → FrameEnd s (.returned v) u (Jvm.fieldLocs frame_1_writes args s ++ Jvm.arrayLocs frame_1_arrays args s ++ Jvm.staticLocs frame_1_statics s) 40 192 → Post tb e args s (.returned v) u) :
    ArmFor flags0 classFile x code maxLocals ret World_1 tables_1 room_1 Calls_1 rest_1 Pre_1 Post := by
  intro l hfl _ _ p e ha hc hk s m args below hf hA hF happ hP
  obtain ⟨hcalls, hrest, hpre⟩ := hP
  obtain ⟨-, -, -, hnamed, -, -, -, hat⟩ := (Spec.applies_iff hf).mp happ
  obtain ⟨hg, hn⟩ := and_e (Cond.before_iff.mp (show (Jvm.Cond.and given_1 narrow_1).before args s = true from hpre))
  obtain ⟨gc, g0⟩ := and_e hg
  obtain ⟨w_0, g1⟩ := and_e g0
  obtain ⟨w_1, g2⟩ := and_e g1
  obtain ⟨w_2, g3⟩ := and_e g2
  have w_3 := g3
  obtain ⟨w0, w1, w2, w3, rfl⟩ : ∃ w0 w1 w2 w3 : Value, args = #[w0, w1, w2, w3] := by
    have hs : args.size = 4 := by simpa [Cond.value, given_1] using gc
    obtain ⟨L⟩ := args
    match L, hs with
    | [w0, w1, w2, w3], _ => exact ⟨w0, w1, w2, w3, rfl⟩
  have hw := fun d (hd : d ∈ tables_1) => atoms_spec (ws := Jvm.Cond.code x code maxLocals ret :: tables_1) hat d (List.mem_cons_of_mem _ hd)
  have hfit : Fit s := fun {y c} hc i hi => by
    obtain ⟨ha, rfl⟩ := Array.getElem?_eq_some_iff.mp hc
    have q := List.all_eq_true.mp ((Array.all_eq_true_iff_forall_mem.mp hF) _ (Array.getElem_mem ha)) i (List.mem_range.mpr hi)
    simpa [Array.getElem?_eq_getElem hi] using q
  obtain ⟨i0, ei0⟩ := is_v w_0
  obtain rfl : w0 = (.int i0) := Option.some.inj ei0
  obtain ⟨i1, ei1⟩ := isL_v w_1
  obtain rfl : w1 = (.long i1) := Option.some.inj ei1
  obtain ⟨i2, ei2⟩ := isL_v w_2
  obtain rfl : w2 = (.long i2) := Option.some.inj ei2
  obtain ⟨i3, ei3⟩ := is_v w_3
  obtain rfl : w3 = (.int i3) := Option.some.inj ei3
  obtain ⟨hsets, hown0⟩ := atoms_of _ (rest_1_c_eq ▸ (show rest_1_c.before _ s = true from hrest))
  obtain ⟨x0, q0⟩ := and_e hn
  obtain ⟨x1, q1⟩ := and_e q0
  obtain ⟨x2, q2⟩ := and_e q1
  obtain ⟨x3, q3⟩ := and_e q2
  obtain ⟨x4, q4⟩ := and_e q3
  obtain ⟨x5, q5⟩ := and_e q4
  obtain ⟨x6, q6⟩ := and_e q5
  obtain ⟨x7, q7⟩ := and_e q6
  obtain ⟨x8, q8⟩ := and_e q7
  have x9 := q8
  obtain ⟨ka0, v_ka0⟩ := exa_v x0
  have E_ka0 := Exa.start v_ka0 x0
  have F_ka0 := Fld.start ((fld_at v_ka0).symm.trans (own_eqI x1))
  have S_ka0 := Sta.start v_ka0 (Or.inr ⟨(hw _ (List.mem_of_getElem? (i := 6) rfl)), (hw _ (List.mem_of_getElem? (i := 7) rfl))⟩)
  obtain ⟨ka4, v_ka4⟩ := exa_v x2
  have E_ka4 := Exa.start v_ka4 x2
  have F_ka4 := Fld.start ((fld_at v_ka4).symm.trans (own_eqI x3))
  have S_ka4 := Sta.start v_ka4 (Or.inr ⟨(hw _ (List.mem_of_getElem? (i := 6) rfl)), (hw _ (List.mem_of_getElem? (i := 65) rfl))⟩)
  obtain ⟨ka1, v_ka1⟩ := exa_v x4
  have E_ka1 := Exa.start v_ka1 x4
  have F_ka1 := Fld.start ((fld_at v_ka1).symm.trans (own_eqI x5))
  have S_ka1 := Sta.start v_ka1 (Or.inr ⟨(hw _ (List.mem_of_getElem? (i := 6) rfl)), (hw _ (List.mem_of_getElem? (i := 121) rfl))⟩)
  obtain ⟨ka3, v_ka3⟩ := exa_v x6
  have E_ka3 := Exa.start v_ka3 x6
  have F_ka3 := Fld.start ((fld_at v_ka3).symm.trans (own_eqI x7))
  have S_ka3 := Sta.start v_ka3 (Or.inr ⟨(hw _ (List.mem_of_getElem? (i := 6) rfl)), (hw _ (List.mem_of_getElem? (i := 123) rfl))⟩)
  obtain ⟨ka2, v_ka2⟩ := exa_v x8
  have E_ka2 := Exa.start v_ka2 x8
  have F_ka2 := Fld.start ((fld_at v_ka2).symm.trans (own_eqI x9))
  have S_ka2 := Sta.start v_ka2 (Or.inr ⟨(hw _ (List.mem_of_getElem? (i := 6) rfl)), (hw _ (List.mem_of_getElem? (i := 125) rfl))⟩)
  obtain ⟨aZ, f_aZ, v_aZ, H_aZ⟩ := own_bi (t := (Jvm.Term.static "java/math/BigInteger" "ZERO" "Ljava/math/BigInteger;")) (sg := 0) (z := 0) (n := 0) hfit (hsets _ (List.mem_of_getElem? (i := 224) rfl)) (hsets _ (List.mem_of_getElem? (i := 225) rfl)) (hsets _ (List.mem_of_getElem? (i := 226) rfl)) (hsets _ (List.mem_of_getElem? (i := 228) rfl)) rfl (by decide) (by decide) (by decide)
  have S_aZ := Sta.start v_aZ (Or.inl (hsets _ (List.mem_of_getElem? (i := 223) rfl)))
  obtain ⟨aO, f_aO, v_aO, H_aO⟩ := own_bi (t := (Jvm.Term.static "java/math/BigInteger" "ONE" "Ljava/math/BigInteger;")) (sg := 1) (z := 1) (n := 1) hfit (hsets _ (List.mem_of_getElem? (i := 112) rfl)) (hsets _ (List.mem_of_getElem? (i := 113) rfl)) (hsets _ (List.mem_of_getElem? (i := 114) rfl)) (hsets _ (List.mem_of_getElem? (i := 116) rfl)) rfl (by decide) (by decide) (by decide)
  have S_aO := Sta.start v_aO (Or.inl (hsets _ (List.mem_of_getElem? (i := 3) rfl)))
  obtain ⟨zo, clo, evo, Ao, AIo⟩ := own_ints (t := (Jvm.Term.field (Jvm.Term.static "java/math/BigInteger" "ONE" "Ljava/math/BigInteger;") "java/math/BigInteger" "mag" "[I")) (z := 1) (n := 1) hfit (hsets _ (List.mem_of_getElem? (i := 114) rfl)) (hsets _ (List.mem_of_getElem? (i := 116) rfl)) rfl
  have hfo : atv clo (Int32.ofNat 0) = 1 := by have := (elem_in (own_eqI (Cond.before_iff.mp (hsets _ (List.mem_of_getElem? (i := 117) rfl)))) evo (Term.int_eval 0) Ao.1).2; exact atv_of this
  have EO := Exa.start v_aO (Cond.before_iff.mp (hsets _ (List.mem_of_getElem? (i := 112) rfl)))
  have FO1 := Fld.start ((fld_at v_aO).symm.trans (own_eqI (Cond.before_iff.mp (hsets _ (List.mem_of_getElem? (i := 113) rfl)))))
  have FO2 := Fld.start ((fld_at v_aO).symm.trans evo)
  obtain ⟨zp, cl_zp, v_zp, c_zp, A_zp⟩ := own_ar (t := (Jvm.Term.static "java/math/BigInteger" "posConst" "[Ljava/math/BigInteger;")) (hsets _ (List.mem_of_getElem? (i := 8) rfl)) (hsets _ (List.mem_of_getElem? (i := 10) rfl))
  have S_zp := Sta.start v_zp (Or.inl (hsets _ (List.mem_of_getElem? (i := 1) rfl)))
  have h_zp : ∀ k, 1 ≤ k → k ≤ 16 → ∃ (a : Addr) (sg : Int32) (n : Nat) (f : Nat → Int32), (cl_zp.slots[k]?).getD .null = .ref a ∧ own_BI s s.heap a sg n f := by
    intro k hk1 hk2
    rcases (show k = 1 ∨ k = 2 ∨ k = 3 ∨ k = 4 ∨ k = 5 ∨ k = 6 ∨ k = 7 ∨ k = 8 ∨ k = 9 ∨ k = 10 ∨ k = 11 ∨ k = 12 ∨ k = 13 ∨ k = 14 ∨ k = 15 ∨ k = 16 by omega) with rfl | rfl | rfl | rfl | rfl | rfl | rfl | rfl | rfl | rfl | rfl | rfl | rfl | rfl | rfl | rfl
    · obtain ⟨a, f, ev, H⟩ := own_bi (t := (Jvm.Term.elem (Jvm.Term.static "java/math/BigInteger" "posConst" "[Ljava/math/BigInteger;") (Jvm.Term.int (1 : Int32)))) (sg := 1) (z := 1) (n := 1) hfit (hsets _ (List.mem_of_getElem? (i := 12) rfl)) (hsets _ (List.mem_of_getElem? (i := 13) rfl)) (hsets _ (List.mem_of_getElem? (i := 14) rfl)) (hsets _ (List.mem_of_getElem? (i := 16) rfl)) rfl (by decide) (by decide) (by decide)
      exact ⟨a, _, _, f, own_el v_zp c_zp (j := 1) rfl ev, H⟩
    · obtain ⟨a, f, ev, H⟩ := own_bi (t := (Jvm.Term.elem (Jvm.Term.static "java/math/BigInteger" "posConst" "[Ljava/math/BigInteger;") (Jvm.Term.int (2 : Int32)))) (sg := 1) (z := 1) (n := 1) hfit (hsets _ (List.mem_of_getElem? (i := 19) rfl)) (hsets _ (List.mem_of_getElem? (i := 20) rfl)) (hsets _ (List.mem_of_getElem? (i := 21) rfl)) (hsets _ (List.mem_of_getElem? (i := 23) rfl)) rfl (by decide) (by decide) (by decide)
      exact ⟨a, _, _, f, own_el v_zp c_zp (j := 2) rfl ev, H⟩
    · obtain ⟨a, f, ev, H⟩ := own_bi (t := (Jvm.Term.elem (Jvm.Term.static "java/math/BigInteger" "posConst" "[Ljava/math/BigInteger;") (Jvm.Term.int (3 : Int32)))) (sg := 1) (z := 1) (n := 1) hfit (hsets _ (List.mem_of_getElem? (i := 25) rfl)) (hsets _ (List.mem_of_getElem? (i := 26) rfl)) (hsets _ (List.mem_of_getElem? (i := 27) rfl)) (hsets _ (List.mem_of_getElem? (i := 29) rfl)) rfl (by decide) (by decide) (by decide)
      exact ⟨a, _, _, f, own_el v_zp c_zp (j := 3) rfl ev, H⟩
    · obtain ⟨a, f, ev, H⟩ := own_bi (t := (Jvm.Term.elem (Jvm.Term.static "java/math/BigInteger" "posConst" "[Ljava/math/BigInteger;") (Jvm.Term.int (4 : Int32)))) (sg := 1) (z := 1) (n := 1) hfit (hsets _ (List.mem_of_getElem? (i := 31) rfl)) (hsets _ (List.mem_of_getElem? (i := 32) rfl)) (hsets _ (List.mem_of_getElem? (i := 33) rfl)) (hsets _ (List.mem_of_getElem? (i := 35) rfl)) rfl (by decide) (by decide) (by decide)
      exact ⟨a, _, _, f, own_el v_zp c_zp (j := 4) rfl ev, H⟩
    · obtain ⟨a, f, ev, H⟩ := own_bi (t := (Jvm.Term.elem (Jvm.Term.static "java/math/BigInteger" "posConst" "[Ljava/math/BigInteger;") (Jvm.Term.int (5 : Int32)))) (sg := 1) (z := 1) (n := 1) hfit (hsets _ (List.mem_of_getElem? (i := 37) rfl)) (hsets _ (List.mem_of_getElem? (i := 38) rfl)) (hsets _ (List.mem_of_getElem? (i := 39) rfl)) (hsets _ (List.mem_of_getElem? (i := 41) rfl)) rfl (by decide) (by decide) (by decide)
      exact ⟨a, _, _, f, own_el v_zp c_zp (j := 5) rfl ev, H⟩
    · obtain ⟨a, f, ev, H⟩ := own_bi (t := (Jvm.Term.elem (Jvm.Term.static "java/math/BigInteger" "posConst" "[Ljava/math/BigInteger;") (Jvm.Term.int (6 : Int32)))) (sg := 1) (z := 1) (n := 1) hfit (hsets _ (List.mem_of_getElem? (i := 43) rfl)) (hsets _ (List.mem_of_getElem? (i := 44) rfl)) (hsets _ (List.mem_of_getElem? (i := 45) rfl)) (hsets _ (List.mem_of_getElem? (i := 47) rfl)) rfl (by decide) (by decide) (by decide)
      exact ⟨a, _, _, f, own_el v_zp c_zp (j := 6) rfl ev, H⟩
    · obtain ⟨a, f, ev, H⟩ := own_bi (t := (Jvm.Term.elem (Jvm.Term.static "java/math/BigInteger" "posConst" "[Ljava/math/BigInteger;") (Jvm.Term.int (7 : Int32)))) (sg := 1) (z := 1) (n := 1) hfit (hsets _ (List.mem_of_getElem? (i := 49) rfl)) (hsets _ (List.mem_of_getElem? (i := 50) rfl)) (hsets _ (List.mem_of_getElem? (i := 51) rfl)) (hsets _ (List.mem_of_getElem? (i := 53) rfl)) rfl (by decide) (by decide) (by decide)
      exact ⟨a, _, _, f, own_el v_zp c_zp (j := 7) rfl ev, H⟩
    · obtain ⟨a, f, ev, H⟩ := own_bi (t := (Jvm.Term.elem (Jvm.Term.static "java/math/BigInteger" "posConst" "[Ljava/math/BigInteger;") (Jvm.Term.int (8 : Int32)))) (sg := 1) (z := 1) (n := 1) hfit (hsets _ (List.mem_of_getElem? (i := 55) rfl)) (hsets _ (List.mem_of_getElem? (i := 56) rfl)) (hsets _ (List.mem_of_getElem? (i := 57) rfl)) (hsets _ (List.mem_of_getElem? (i := 59) rfl)) rfl (by decide) (by decide) (by decide)
      exact ⟨a, _, _, f, own_el v_zp c_zp (j := 8) rfl ev, H⟩
    · obtain ⟨a, f, ev, H⟩ := own_bi (t := (Jvm.Term.elem (Jvm.Term.static "java/math/BigInteger" "posConst" "[Ljava/math/BigInteger;") (Jvm.Term.int (9 : Int32)))) (sg := 1) (z := 1) (n := 1) hfit (hsets _ (List.mem_of_getElem? (i := 61) rfl)) (hsets _ (List.mem_of_getElem? (i := 62) rfl)) (hsets _ (List.mem_of_getElem? (i := 63) rfl)) (hsets _ (List.mem_of_getElem? (i := 65) rfl)) rfl (by decide) (by decide) (by decide)
      exact ⟨a, _, _, f, own_el v_zp c_zp (j := 9) rfl ev, H⟩
    · obtain ⟨a, f, ev, H⟩ := own_bi (t := (Jvm.Term.elem (Jvm.Term.static "java/math/BigInteger" "posConst" "[Ljava/math/BigInteger;") (Jvm.Term.int (10 : Int32)))) (sg := 1) (z := 1) (n := 1) hfit (hsets _ (List.mem_of_getElem? (i := 68) rfl)) (hsets _ (List.mem_of_getElem? (i := 69) rfl)) (hsets _ (List.mem_of_getElem? (i := 70) rfl)) (hsets _ (List.mem_of_getElem? (i := 72) rfl)) rfl (by decide) (by decide) (by decide)
      exact ⟨a, _, _, f, own_el v_zp c_zp (j := 10) rfl ev, H⟩
    · obtain ⟨a, f, ev, H⟩ := own_bi (t := (Jvm.Term.elem (Jvm.Term.static "java/math/BigInteger" "posConst" "[Ljava/math/BigInteger;") (Jvm.Term.int (11 : Int32)))) (sg := 1) (z := 1) (n := 1) hfit (hsets _ (List.mem_of_getElem? (i := 74) rfl)) (hsets _ (List.mem_of_getElem? (i := 75) rfl)) (hsets _ (List.mem_of_getElem? (i := 76) rfl)) (hsets _ (List.mem_of_getElem? (i := 78) rfl)) rfl (by decide) (by decide) (by decide)
      exact ⟨a, _, _, f, own_el v_zp c_zp (j := 11) rfl ev, H⟩
    · obtain ⟨a, f, ev, H⟩ := own_bi (t := (Jvm.Term.elem (Jvm.Term.static "java/math/BigInteger" "posConst" "[Ljava/math/BigInteger;") (Jvm.Term.int (12 : Int32)))) (sg := 1) (z := 1) (n := 1) hfit (hsets _ (List.mem_of_getElem? (i := 80) rfl)) (hsets _ (List.mem_of_getElem? (i := 81) rfl)) (hsets _ (List.mem_of_getElem? (i := 82) rfl)) (hsets _ (List.mem_of_getElem? (i := 84) rfl)) rfl (by decide) (by decide) (by decide)
      exact ⟨a, _, _, f, own_el v_zp c_zp (j := 12) rfl ev, H⟩
    · obtain ⟨a, f, ev, H⟩ := own_bi (t := (Jvm.Term.elem (Jvm.Term.static "java/math/BigInteger" "posConst" "[Ljava/math/BigInteger;") (Jvm.Term.int (13 : Int32)))) (sg := 1) (z := 1) (n := 1) hfit (hsets _ (List.mem_of_getElem? (i := 86) rfl)) (hsets _ (List.mem_of_getElem? (i := 87) rfl)) (hsets _ (List.mem_of_getElem? (i := 88) rfl)) (hsets _ (List.mem_of_getElem? (i := 90) rfl)) rfl (by decide) (by decide) (by decide)
      exact ⟨a, _, _, f, own_el v_zp c_zp (j := 13) rfl ev, H⟩
    · obtain ⟨a, f, ev, H⟩ := own_bi (t := (Jvm.Term.elem (Jvm.Term.static "java/math/BigInteger" "posConst" "[Ljava/math/BigInteger;") (Jvm.Term.int (14 : Int32)))) (sg := 1) (z := 1) (n := 1) hfit (hsets _ (List.mem_of_getElem? (i := 92) rfl)) (hsets _ (List.mem_of_getElem? (i := 93) rfl)) (hsets _ (List.mem_of_getElem? (i := 94) rfl)) (hsets _ (List.mem_of_getElem? (i := 96) rfl)) rfl (by decide) (by decide) (by decide)
      exact ⟨a, _, _, f, own_el v_zp c_zp (j := 14) rfl ev, H⟩
    · obtain ⟨a, f, ev, H⟩ := own_bi (t := (Jvm.Term.elem (Jvm.Term.static "java/math/BigInteger" "posConst" "[Ljava/math/BigInteger;") (Jvm.Term.int (15 : Int32)))) (sg := 1) (z := 1) (n := 1) hfit (hsets _ (List.mem_of_getElem? (i := 98) rfl)) (hsets _ (List.mem_of_getElem? (i := 99) rfl)) (hsets _ (List.mem_of_getElem? (i := 100) rfl)) (hsets _ (List.mem_of_getElem? (i := 102) rfl)) rfl (by decide) (by decide) (by decide)
      exact ⟨a, _, _, f, own_el v_zp c_zp (j := 15) rfl ev, H⟩
    · obtain ⟨a, f, ev, H⟩ := own_bi (t := (Jvm.Term.elem (Jvm.Term.static "java/math/BigInteger" "posConst" "[Ljava/math/BigInteger;") (Jvm.Term.int (16 : Int32)))) (sg := 1) (z := 1) (n := 1) hfit (hsets _ (List.mem_of_getElem? (i := 104) rfl)) (hsets _ (List.mem_of_getElem? (i := 105) rfl)) (hsets _ (List.mem_of_getElem? (i := 106) rfl)) (hsets _ (List.mem_of_getElem? (i := 108) rfl)) rfl (by decide) (by decide) (by decide)
      exact ⟨a, _, _, f, own_el v_zp c_zp (j := 16) rfl ev, H⟩
  obtain ⟨zq, cl_zq, v_zq, c_zq, A_zq⟩ := own_ar (t := (Jvm.Term.static "java/math/BigInteger" "negConst" "[Ljava/math/BigInteger;")) (hsets _ (List.mem_of_getElem? (i := 122) rfl)) (hsets _ (List.mem_of_getElem? (i := 124) rfl))
  have S_zq := Sta.start v_zq (Or.inl (hsets _ (List.mem_of_getElem? (i := 119) rfl)))
  have h_zq : ∀ k, 1 ≤ k → k ≤ 16 → ∃ (a : Addr) (sg : Int32) (n : Nat) (f : Nat → Int32), (cl_zq.slots[k]?).getD .null = .ref a ∧ own_BI s s.heap a sg n f := by
    intro k hk1 hk2
    rcases (show k = 1 ∨ k = 2 ∨ k = 3 ∨ k = 4 ∨ k = 5 ∨ k = 6 ∨ k = 7 ∨ k = 8 ∨ k = 9 ∨ k = 10 ∨ k = 11 ∨ k = 12 ∨ k = 13 ∨ k = 14 ∨ k = 15 ∨ k = 16 by omega) with rfl | rfl | rfl | rfl | rfl | rfl | rfl | rfl | rfl | rfl | rfl | rfl | rfl | rfl | rfl | rfl
    · obtain ⟨a, f, ev, H⟩ := own_bi (t := (Jvm.Term.elem (Jvm.Term.static "java/math/BigInteger" "negConst" "[Ljava/math/BigInteger;") (Jvm.Term.int (1 : Int32)))) (sg := -1) (z := 1) (n := 1) hfit (hsets _ (List.mem_of_getElem? (i := 126) rfl)) (hsets _ (List.mem_of_getElem? (i := 127) rfl)) (hsets _ (List.mem_of_getElem? (i := 128) rfl)) (hsets _ (List.mem_of_getElem? (i := 130) rfl)) rfl (by decide) (by decide) (by decide)
      exact ⟨a, _, _, f, own_el v_zq c_zq (j := 1) rfl ev, H⟩
    · obtain ⟨a, f, ev, H⟩ := own_bi (t := (Jvm.Term.elem (Jvm.Term.static "java/math/BigInteger" "negConst" "[Ljava/math/BigInteger;") (Jvm.Term.int (2 : Int32)))) (sg := -1) (z := 1) (n := 1) hfit (hsets _ (List.mem_of_getElem? (i := 132) rfl)) (hsets _ (List.mem_of_getElem? (i := 133) rfl)) (hsets _ (List.mem_of_getElem? (i := 134) rfl)) (hsets _ (List.mem_of_getElem? (i := 136) rfl)) rfl (by decide) (by decide) (by decide)
      exact ⟨a, _, _, f, own_el v_zq c_zq (j := 2) rfl ev, H⟩
    · obtain ⟨a, f, ev, H⟩ := own_bi (t := (Jvm.Term.elem (Jvm.Term.static "java/math/BigInteger" "negConst" "[Ljava/math/BigInteger;") (Jvm.Term.int (3 : Int32)))) (sg := -1) (z := 1) (n := 1) hfit (hsets _ (List.mem_of_getElem? (i := 138) rfl)) (hsets _ (List.mem_of_getElem? (i := 139) rfl)) (hsets _ (List.mem_of_getElem? (i := 140) rfl)) (hsets _ (List.mem_of_getElem? (i := 142) rfl)) rfl (by decide) (by decide) (by decide)
      exact ⟨a, _, _, f, own_el v_zq c_zq (j := 3) rfl ev, H⟩
    · obtain ⟨a, f, ev, H⟩ := own_bi (t := (Jvm.Term.elem (Jvm.Term.static "java/math/BigInteger" "negConst" "[Ljava/math/BigInteger;") (Jvm.Term.int (4 : Int32)))) (sg := -1) (z := 1) (n := 1) hfit (hsets _ (List.mem_of_getElem? (i := 144) rfl)) (hsets _ (List.mem_of_getElem? (i := 145) rfl)) (hsets _ (List.mem_of_getElem? (i := 146) rfl)) (hsets _ (List.mem_of_getElem? (i := 148) rfl)) rfl (by decide) (by decide) (by decide)
      exact ⟨a, _, _, f, own_el v_zq c_zq (j := 4) rfl ev, H⟩
    · obtain ⟨a, f, ev, H⟩ := own_bi (t := (Jvm.Term.elem (Jvm.Term.static "java/math/BigInteger" "negConst" "[Ljava/math/BigInteger;") (Jvm.Term.int (5 : Int32)))) (sg := -1) (z := 1) (n := 1) hfit (hsets _ (List.mem_of_getElem? (i := 150) rfl)) (hsets _ (List.mem_of_getElem? (i := 151) rfl)) (hsets _ (List.mem_of_getElem? (i := 152) rfl)) (hsets _ (List.mem_of_getElem? (i := 154) rfl)) rfl (by decide) (by decide) (by decide)
      exact ⟨a, _, _, f, own_el v_zq c_zq (j := 5) rfl ev, H⟩
    · obtain ⟨a, f, ev, H⟩ := own_bi (t := (Jvm.Term.elem (Jvm.Term.static "java/math/BigInteger" "negConst" "[Ljava/math/BigInteger;") (Jvm.Term.int (6 : Int32)))) (sg := -1) (z := 1) (n := 1) hfit (hsets _ (List.mem_of_getElem? (i := 156) rfl)) (hsets _ (List.mem_of_getElem? (i := 157) rfl)) (hsets _ (List.mem_of_getElem? (i := 158) rfl)) (hsets _ (List.mem_of_getElem? (i := 160) rfl)) rfl (by decide) (by decide) (by decide)
      exact ⟨a, _, _, f, own_el v_zq c_zq (j := 6) rfl ev, H⟩
    · obtain ⟨a, f, ev, H⟩ := own_bi (t := (Jvm.Term.elem (Jvm.Term.static "java/math/BigInteger" "negConst" "[Ljava/math/BigInteger;") (Jvm.Term.int (7 : Int32)))) (sg := -1) (z := 1) (n := 1) hfit (hsets _ (List.mem_of_getElem? (i := 162) rfl)) (hsets _ (List.mem_of_getElem? (i := 163) rfl)) (hsets _ (List.mem_of_getElem? (i := 164) rfl)) (hsets _ (List.mem_of_getElem? (i := 166) rfl)) rfl (by decide) (by decide) (by decide)
      exact ⟨a, _, _, f, own_el v_zq c_zq (j := 7) rfl ev, H⟩
    · obtain ⟨a, f, ev, H⟩ := own_bi (t := (Jvm.Term.elem (Jvm.Term.static "java/math/BigInteger" "negConst" "[Ljava/math/BigInteger;") (Jvm.Term.int (8 : Int32)))) (sg := -1) (z := 1) (n := 1) hfit (hsets _ (List.mem_of_getElem? (i := 168) rfl)) (hsets _ (List.mem_of_getElem? (i := 169) rfl)) (hsets _ (List.mem_of_getElem? (i := 170) rfl)) (hsets _ (List.mem_of_getElem? (i := 172) rfl)) rfl (by decide) (by decide) (by decide)
      exact ⟨a, _, _, f, own_el v_zq c_zq (j := 8) rfl ev, H⟩
    · obtain ⟨a, f, ev, H⟩ := own_bi (t := (Jvm.Term.elem (Jvm.Term.static "java/math/BigInteger" "negConst" "[Ljava/math/BigInteger;") (Jvm.Term.int (9 : Int32)))) (sg := -1) (z := 1) (n := 1) hfit (hsets _ (List.mem_of_getElem? (i := 174) rfl)) (hsets _ (List.mem_of_getElem? (i := 175) rfl)) (hsets _ (List.mem_of_getElem? (i := 176) rfl)) (hsets _ (List.mem_of_getElem? (i := 178) rfl)) rfl (by decide) (by decide) (by decide)
      exact ⟨a, _, _, f, own_el v_zq c_zq (j := 9) rfl ev, H⟩
    · obtain ⟨a, f, ev, H⟩ := own_bi (t := (Jvm.Term.elem (Jvm.Term.static "java/math/BigInteger" "negConst" "[Ljava/math/BigInteger;") (Jvm.Term.int (10 : Int32)))) (sg := -1) (z := 1) (n := 1) hfit (hsets _ (List.mem_of_getElem? (i := 180) rfl)) (hsets _ (List.mem_of_getElem? (i := 181) rfl)) (hsets _ (List.mem_of_getElem? (i := 182) rfl)) (hsets _ (List.mem_of_getElem? (i := 184) rfl)) rfl (by decide) (by decide) (by decide)
      exact ⟨a, _, _, f, own_el v_zq c_zq (j := 10) rfl ev, H⟩
    · obtain ⟨a, f, ev, H⟩ := own_bi (t := (Jvm.Term.elem (Jvm.Term.static "java/math/BigInteger" "negConst" "[Ljava/math/BigInteger;") (Jvm.Term.int (11 : Int32)))) (sg := -1) (z := 1) (n := 1) hfit (hsets _ (List.mem_of_getElem? (i := 186) rfl)) (hsets _ (List.mem_of_getElem? (i := 187) rfl)) (hsets _ (List.mem_of_getElem? (i := 188) rfl)) (hsets _ (List.mem_of_getElem? (i := 190) rfl)) rfl (by decide) (by decide) (by decide)
      exact ⟨a, _, _, f, own_el v_zq c_zq (j := 11) rfl ev, H⟩
    · obtain ⟨a, f, ev, H⟩ := own_bi (t := (Jvm.Term.elem (Jvm.Term.static "java/math/BigInteger" "negConst" "[Ljava/math/BigInteger;") (Jvm.Term.int (12 : Int32)))) (sg := -1) (z := 1) (n := 1) hfit (hsets _ (List.mem_of_getElem? (i := 192) rfl)) (hsets _ (List.mem_of_getElem? (i := 193) rfl)) (hsets _ (List.mem_of_getElem? (i := 194) rfl)) (hsets _ (List.mem_of_getElem? (i := 196) rfl)) rfl (by decide) (by decide) (by decide)
      exact ⟨a, _, _, f, own_el v_zq c_zq (j := 12) rfl ev, H⟩
    · obtain ⟨a, f, ev, H⟩ := own_bi (t := (Jvm.Term.elem (Jvm.Term.static "java/math/BigInteger" "negConst" "[Ljava/math/BigInteger;") (Jvm.Term.int (13 : Int32)))) (sg := -1) (z := 1) (n := 1) hfit (hsets _ (List.mem_of_getElem? (i := 198) rfl)) (hsets _ (List.mem_of_getElem? (i := 199) rfl)) (hsets _ (List.mem_of_getElem? (i := 200) rfl)) (hsets _ (List.mem_of_getElem? (i := 202) rfl)) rfl (by decide) (by decide) (by decide)
      exact ⟨a, _, _, f, own_el v_zq c_zq (j := 13) rfl ev, H⟩
    · obtain ⟨a, f, ev, H⟩ := own_bi (t := (Jvm.Term.elem (Jvm.Term.static "java/math/BigInteger" "negConst" "[Ljava/math/BigInteger;") (Jvm.Term.int (14 : Int32)))) (sg := -1) (z := 1) (n := 1) hfit (hsets _ (List.mem_of_getElem? (i := 204) rfl)) (hsets _ (List.mem_of_getElem? (i := 205) rfl)) (hsets _ (List.mem_of_getElem? (i := 206) rfl)) (hsets _ (List.mem_of_getElem? (i := 208) rfl)) rfl (by decide) (by decide) (by decide)
      exact ⟨a, _, _, f, own_el v_zq c_zq (j := 14) rfl ev, H⟩
    · obtain ⟨a, f, ev, H⟩ := own_bi (t := (Jvm.Term.elem (Jvm.Term.static "java/math/BigInteger" "negConst" "[Ljava/math/BigInteger;") (Jvm.Term.int (15 : Int32)))) (sg := -1) (z := 1) (n := 1) hfit (hsets _ (List.mem_of_getElem? (i := 210) rfl)) (hsets _ (List.mem_of_getElem? (i := 211) rfl)) (hsets _ (List.mem_of_getElem? (i := 212) rfl)) (hsets _ (List.mem_of_getElem? (i := 214) rfl)) rfl (by decide) (by decide) (by decide)
      exact ⟨a, _, _, f, own_el v_zq c_zq (j := 15) rfl ev, H⟩
    · obtain ⟨a, f, ev, H⟩ := own_bi (t := (Jvm.Term.elem (Jvm.Term.static "java/math/BigInteger" "negConst" "[Ljava/math/BigInteger;") (Jvm.Term.int (16 : Int32)))) (sg := -1) (z := 1) (n := 1) hfit (hsets _ (List.mem_of_getElem? (i := 216) rfl)) (hsets _ (List.mem_of_getElem? (i := 217) rfl)) (hsets _ (List.mem_of_getElem? (i := 218) rfl)) (hsets _ (List.mem_of_getElem? (i := 220) rfl)) rfl (by decide) (by decide) (by decide)
      exact ⟨a, _, _, f, own_el v_zq c_zq (j := 16) rfl ev, H⟩
  obtain ⟨n, o, h1, h2, h3, _, L, rfl, ⟨rfl, N⟩, hq⟩ := rm0 l s _ hw tables_1 i0 i1 i2 i3 aZ zp zq _ _ _ _ aO zo _ ka0 ka1 ka2 ka3 ka4 s.heap s.heap.size (Nat.le_refl _) (Old.start s) S_aZ S_zp S_zq H_aZ A_zp A_zq h_zp h_zq S_aO EO FO1 FO2 AIo hfo S_ka0 S_ka1 S_ka2 S_ka3 S_ka4 E_ka0 E_ka1 E_ka2 E_ka3 E_ka4 F_ka0 F_ka1 F_ka2 F_ka3 F_ka4 p e ha hc hk s m _ below hf ((Spec.applies_iff_loose hf).mp happ).1 ⟨rfl, State.Warmed39.refl s, rfl⟩ trivial
  refine ⟨n, _, h1, h2, h3, hpost _ _ _ _ _ _ ⟨Cond.after_iff.mpr rfl, Cond.after_iff.mpr (eq_i res_at (Term.int_eval (1)) rfl), trivial⟩ ⟨hq.1, hq.2.1, (hq.2.2.sift fun y hy => Or.inr (N y hy)).mono (by decide) (by decide)⟩⟩
theorem main_1_1 : Claimed_1_1 := comes_1 fun _ _ _ _ _ _ h hF => ⟨h.1, hF⟩
theorem main_1_2 : Claimed_1_2 := comes_1 fun _ _ _ _ _ _ h hF => ⟨h.2.1, hF⟩
end Jvm.Pilot.@@N@@
namespace Jvm.Pilot.@@N@@
open Jvm Jvm.ClassFile Sem Op Lib Jvm.Free Jvm.Stand Jvm.Pilot.@@N@@.Jvm.D
/-! MADE BY PROGRAM (witnessworld.py) out of the Statement's table words and the real class files: 19 classes; the members and pool entries that the words name. The judged class is class 1, her method 2. -/
namespace start1
open Jvm.ClassFile
def u (s : String) : CpInfo := .utf8 (stringToUtf16 s)
/-- a pool by its gaps: so many unusable entries, then the entry; so many at the end -/
def gap : Nat → List CpInfo → List CpInfo
  | 0, r => r
  | n + 1, r => .unusable :: gap n r
def poolList (es : List (Nat × CpInfo)) (last : Nat) : List CpInfo := es.foldr (fun e r => gap e.1 (e.2 :: r)) (gap last [])
def pool (es : List (Nat × CpInfo)) (last : Nat) : Array CpInfo := ⟨poolList es last⟩
def fileOf (pool : Array CpInfo) (this : Nat) (attrs : Array Attribute := #[]) (ms : Array MethodInfo := #[]) (fl : Nat := 33) (sup : Nat := 0) (ifs : Array Nat := #[]) (fds : Array FieldInfo := #[]) : ClassFile where
  minorVersion := 0
  majorVersion := 65
  constantPool := pool
  accessFlags := fl
  thisClass := this
  superClass := sup
  interfaces := ifs
  fields := fds
  methods := ms
  attributes := attrs
def plain (name : String) (sup : Option ClassId) : Class where
  name := name
  kind := .ordinary
  loader := none
  accessFlags := 33
  super := sup
  interfaces := #[]
  cf := none
  fields := #[]
  methods := #[]
  instanceTypes := #[]
  staticTypes := #[]
  resolved := #[]
  callSites := []
  init := .initialized
  statics := none
  mirror := none

def pool0 : Array CpInfo := pool [(5, u "<init>"), (0, u "()V"), (1, .class_ 10), (1, u "java/lang/Object")] 113

def k0c0 : Code := { maxStack := 0, maxLocals := 1, code := object_method_1_code, exceptionTable := #[], attributes := #[] }
def k0m0 : Method := { name := "<init>", desc := "()V", sig := { parameters := [], returnType := none }, accessFlags := 1, code := some k0c0 }
/-- java/lang/Object -/
def k0 : Class := { plain "java/lang/Object" none with
  accessFlags := 33
  interfaces := #[]
  cf := some (fileOf pool0 8 #[] #[{ accessFlags := 1, nameIndex := 5, descriptorIndex := 6, attributes := #[] }] 33 0 #[] #[])
  fields := #[]
  methods := #[k0m0]
  instanceTypes := #[]
  staticTypes := #[]
  resolved := Array.replicate 124 none
  statics := none }

def pool1 : Array CpInfo := pool [(2, .class_ 4), (1, u "java/lang/Object"), (0, u "<init>"), (0, u "()V"), (0, .integer 2147483647), (0, .fieldref 9 10), (0, .class_ 11), (0, .nameAndType 12 13), (0, u "com/example/hybridge/hybridge/model/Relation"), (0, u "LESS"), (0, u "Lcom/example/hybridge/hybridge/model/Relation;"), (0, .fieldref 9 15), (0, .nameAndType 16 13), (0, u "LESS_OR_EQUAL"), (0, .fieldref 9 18), (0, .nameAndType 19 13), (0, u "EQUAL"), (0, .fieldref 9 21), (0, .nameAndType 22 13), (0, u "GREATER_OR_EQUAL"), (0, .fieldref 9 24), (0, .nameAndType 25 13), (0, u "GREATER"), (0, .methodref 27 28), (0, .class_ 29), (0, .nameAndType 30 31), (0, u "com/example/hybridge/hybridge/model/RelationSwappedPinLaw"), (0, u "pick"), (0, u "(I)Lcom/example/hybridge/hybridge/model/Relation;"), (0, .methodref 33 34), (0, .class_ 35), (0, .nameAndType 36 37), (0, u "com/example/hybridge/hybridge/model/Rational"), (0, u "of"), (0, u "(J)Lcom/example/hybridge/hybridge/model/Rational;"), (0, .methodref 9 39), (0, .nameAndType 40 41), (0, u "swapped"), (0, u "()Lcom/example/hybridge/hybridge/model/Relation;"), (0, .methodref 9 43), (0, .nameAndType 44 45), (0, u "holds"), (0, u "(Lcom/example/hybridge/hybridge/model/Rational;Lcom/example/hybridge/hybridge/model/Rational;)Z"), (3, u "law"), (0, u "(IJJI)Z")] 2

def k1m0 : Method := { name := "<init>", desc := "()V", sig := { parameters := [], returnType := none }, accessFlags := 1, code := none }
def k1c1 : Code := { maxStack := 2, maxLocals := 2, code := method_2_code, exceptionTable := #[], attributes := #[] }
def k1m1 : Method := { name := "pick", desc := "(I)Lcom/example/hybridge/hybridge/model/Relation;", sig := { parameters := [.int], returnType := some (.object "com/example/hybridge/hybridge/model/Relation") }, accessFlags := 10, code := some k1c1 }
def k1c2 : Code := { maxStack := 4, maxLocals := 11, code := code, exceptionTable := #[], attributes := #[] }
def k1m2 : Method := { name := "law", desc := "(IJJI)Z", sig := { parameters := [.int, .long, .long, .int], returnType := some .boolean }, accessFlags := 9, code := some k1c2 }
/-- com/example/hybridge/hybridge/model/RelationSwappedPinLaw -/
def k1 : Class := { plain "com/example/hybridge/hybridge/model/RelationSwappedPinLaw" (some 0) with
  accessFlags := 49
  interfaces := #[]
  cf := some (fileOf pool1 27 #[] #[{ accessFlags := 1, nameIndex := 5, descriptorIndex := 6, attributes := #[] }, { accessFlags := 10, nameIndex := 30, descriptorIndex := 31, attributes := #[] }, { accessFlags := 9, nameIndex := 49, descriptorIndex := 50, attributes := #[] }] 49 2 #[] #[])
  fields := #[]
  methods := #[k1m0, k1m1, k1m2]
  instanceTypes := #[]
  staticTypes := #[]
  resolved := Array.replicate 53 none
  statics := none }

def pool2 : Array CpInfo := pool [(1, .class_ 2), (0, u "java/lang/constant/Constable"), (0, .class_ 4), (0, u "java/lang/Object")] 6

/-- java/lang/constant/Constable -/
def k2 : Class := { plain "java/lang/constant/Constable" (some 0) with
  accessFlags := 1537
  interfaces := #[]
  cf := some (fileOf pool2 1 #[] #[] 1537 3 #[] #[])
  fields := #[]
  methods := #[]
  instanceTypes := #[]
  staticTypes := #[]
  resolved := Array.replicate 11 none
  statics := none }

def pool3 : Array CpInfo := pool [(1, .class_ 2), (0, u "java/lang/Comparable"), (0, .class_ 4), (0, u "java/lang/Object")] 7

/-- java/lang/Comparable -/
def k3 : Class := { plain "java/lang/Comparable" (some 0) with
  accessFlags := 1537
  interfaces := #[]
  cf := some (fileOf pool3 1 #[] #[] 1537 3 #[] #[])
  fields := #[]
  methods := #[]
  instanceTypes := #[]
  staticTypes := #[]
  resolved := Array.replicate 12 none
  statics := none }

def pool4 : Array CpInfo := pool [(1, .class_ 2), (0, u "java/io/Serializable"), (0, .class_ 4), (0, u "java/lang/Object")] 2

/-- java/io/Serializable -/
def k4 : Class := { plain "java/io/Serializable" (some 0) with
  accessFlags := 1537
  interfaces := #[]
  cf := some (fileOf pool4 1 #[] #[] 1537 3 #[] #[])
  fields := #[]
  methods := #[]
  instanceTypes := #[]
  staticTypes := #[]
  resolved := Array.replicate 7 none
  statics := none }

def pool5 : Array CpInfo := pool [(2, .class_ 4), (1, u "java/lang/Enum"), (0, u "name"), (0, u "Ljava/lang/String;"), (0, .fieldref 2 8), (0, .nameAndType 9 10), (0, u "ordinal"), (0, u "I"), (1, .class_ 14), (1, u "java/lang/Object"), (4, u "hash"), (86, .class_ 108), (1, u "java/lang/Enum$EnumDesc"), (2, .class_ 112), (0, u "java/lang/constant/Constable"), (0, .class_ 114), (0, u "java/lang/Comparable"), (0, .class_ 116), (0, u "java/io/Serializable"), (9, u "()I")] 77

def k5c0 : Code := { maxStack := 1, maxLocals := 1, code := jdk_37_method_2_code, exceptionTable := #[], attributes := #[] }
def k5m0 : Method := { name := "ordinal", desc := "()I", sig := { parameters := [], returnType := some .int }, accessFlags := 17, code := some k5c0 }
/-- java/lang/Enum -/
def k5 : Class := { plain "java/lang/Enum" (some 0) with
  accessFlags := 1057
  interfaces := #[2, 3, 4]
  cf := some (fileOf pool5 2 #[.nestMembers #[106]] #[{ accessFlags := 17, nameIndex := 9, descriptorIndex := 126, attributes := #[] }] 1057 12 #[111, 113, 115] #[{ accessFlags := 18, nameIndex := 5, descriptorIndex := 6, attributes := #[] }, { accessFlags := 18, nameIndex := 9, descriptorIndex := 10, attributes := #[] }, { accessFlags := 2, nameIndex := 19, descriptorIndex := 10, attributes := #[] }])
  fields := #[{ name := "name", type := (.object "java/lang/String"), accessFlags := 18, slot := 0, constantValue := 0 }, { name := "ordinal", type := .int, accessFlags := 18, slot := 1, constantValue := 0 }, { name := "hash", type := .int, accessFlags := 2, slot := 2, constantValue := 0 }]
  methods := #[k5m0]
  instanceTypes := #[(.object "java/lang/String"), .int, .int]
  staticTypes := #[]
  resolved := Array.replicate 204 none
  statics := none }

def pool6 : Array CpInfo := pool [(1, .class_ 2), (0, u "com/example/hybridge/hybridge/model/Relation"), (0, .fieldref 1 4), (0, .nameAndType 5 6), (0, u "LESS"), (0, u "Lcom/example/hybridge/hybridge/model/Relation;"), (0, .fieldref 1 8), (0, .nameAndType 9 6), (0, u "LESS_OR_EQUAL"), (0, .fieldref 1 11), (0, .nameAndType 12 6), (0, u "EQUAL"), (0, .fieldref 1 14), (0, .nameAndType 15 6), (0, u "GREATER_OR_EQUAL"), (0, .fieldref 1 17), (0, .nameAndType 18 6), (0, u "GREATER"), (2, u "$VALUES"), (0, u "[Lcom/example/hybridge/hybridge/model/Relation;"), (6, .class_ 31), (1, u "java/lang/Enum"), (8, u "symbol"), (0, u "Ljava/lang/String;"), (0, .methodref 1 43), (0, .nameAndType 44 45), (0, u "ordinal"), (0, u "()I"), (5, .methodref 52 53), (0, .class_ 54), (0, .nameAndType 55 56), (0, u "com/example/hybridge/hybridge/model/Rational"), (0, u "compareTo"), (0, u "(Lcom/example/hybridge/hybridge/model/Rational;)I"), (29, u "swapped"), (0, u "()Lcom/example/hybridge/hybridge/model/Relation;"), (1, u "holds"), (0, u "(Lcom/example/hybridge/hybridge/model/Rational;Lcom/example/hybridge/hybridge/model/Rational;)Z")] 7

def k6c0 : Code := { maxStack := 4, maxLocals := 1, code := prog_76_method_4_code, exceptionTable := #[], attributes := #[] }
def k6m0 : Method := { name := "swapped", desc := "()Lcom/example/hybridge/hybridge/model/Relation;", sig := { parameters := [], returnType := some (.object "com/example/hybridge/hybridge/model/Relation") }, accessFlags := 1, code := some k6c0 }
def k6c1 : Code := { maxStack := 4, maxLocals := 4, code := prog_76_method_5_code, exceptionTable := #[], attributes := #[] }
def k6m1 : Method := { name := "holds", desc := "(Lcom/example/hybridge/hybridge/model/Rational;Lcom/example/hybridge/hybridge/model/Rational;)Z", sig := { parameters := [(.object "com/example/hybridge/hybridge/model/Rational"), (.object "com/example/hybridge/hybridge/model/Rational")], returnType := some .boolean }, accessFlags := 1, code := some k6c1 }
/-- com/example/hybridge/hybridge/model/Relation -/
def k6 : Class := { plain "com/example/hybridge/hybridge/model/Relation" (some 5) with
  accessFlags := 16433
  interfaces := #[]
  cf := some (fileOf pool6 1 #[] #[{ accessFlags := 1, nameIndex := 86, descriptorIndex := 87, attributes := #[] }, { accessFlags := 1, nameIndex := 89, descriptorIndex := 90, attributes := #[] }] 16433 29 #[] #[{ accessFlags := 16409, nameIndex := 5, descriptorIndex := 6, attributes := #[] }, { accessFlags := 16409, nameIndex := 9, descriptorIndex := 6, attributes := #[] }, { accessFlags := 16409, nameIndex := 12, descriptorIndex := 6, attributes := #[] }, { accessFlags := 16409, nameIndex := 15, descriptorIndex := 6, attributes := #[] }, { accessFlags := 16409, nameIndex := 18, descriptorIndex := 6, attributes := #[] }, { accessFlags := 18, nameIndex := 40, descriptorIndex := 41, attributes := #[] }, { accessFlags := 4122, nameIndex := 21, descriptorIndex := 22, attributes := #[] }])
  fields := #[{ name := "LESS", type := (.object "com/example/hybridge/hybridge/model/Relation"), accessFlags := 16409, slot := 0, constantValue := 0 }, { name := "LESS_OR_EQUAL", type := (.object "com/example/hybridge/hybridge/model/Relation"), accessFlags := 16409, slot := 1, constantValue := 0 }, { name := "EQUAL", type := (.object "com/example/hybridge/hybridge/model/Relation"), accessFlags := 16409, slot := 2, constantValue := 0 }, { name := "GREATER_OR_EQUAL", type := (.object "com/example/hybridge/hybridge/model/Relation"), accessFlags := 16409, slot := 3, constantValue := 0 }, { name := "GREATER", type := (.object "com/example/hybridge/hybridge/model/Relation"), accessFlags := 16409, slot := 4, constantValue := 0 }, { name := "symbol", type := (.object "java/lang/String"), accessFlags := 18, slot := 3, constantValue := 0 }, { name := "$VALUES", type := (.array (.object "com/example/hybridge/hybridge/model/Relation")), accessFlags := 4122, slot := 5, constantValue := 0 }]
  methods := #[k6m0, k6m1]
  instanceTypes := #[(.object "java/lang/String"), .int, .int, (.object "java/lang/String")]
  staticTypes := #[(.object "com/example/hybridge/hybridge/model/Relation"), (.object "com/example/hybridge/hybridge/model/Relation"), (.object "com/example/hybridge/hybridge/model/Relation"), (.object "com/example/hybridge/hybridge/model/Relation"), (.object "com/example/hybridge/hybridge/model/Relation"), (.array (.object "com/example/hybridge/hybridge/model/Relation"))]
  resolved := Array.replicate 98 none
  statics := some 0 }

def pool7 : Array CpInfo := pool [(1, .methodref 2 3), (0, .class_ 4), (0, .nameAndType 5 6), (0, u "java/lang/Object"), (0, u "<init>"), (0, u "()V"), (0, .fieldref 8 9), (0, .class_ 10), (0, .nameAndType 11 12), (0, u "com/example/hybridge/hybridge/model/Rational"), (0, u "numerator"), (0, u "Ljava/math/BigInteger;"), (0, .fieldref 8 14), (0, .nameAndType 15 12), (0, u "denominator"), (0, .methodref 17 18), (0, .class_ 19), (0, .nameAndType 20 21), (0, u "java/math/BigInteger"), (0, u "valueOf"), (0, u "(J)Ljava/math/BigInteger;"), (0, .fieldref 17 23), (0, .nameAndType 24 12), (0, u "ONE"), (0, .methodref 8 26), (0, .nameAndType 5 27), (0, u "(Ljava/math/BigInteger;Ljava/math/BigInteger;)V"), (2, u "of"), (22, u "(Ljava/math/BigInteger;)Ljava/math/BigInteger;"), (48, .methodref 17 103), (0, .nameAndType 104 53), (0, u "multiply"), (44, .methodref 17 150), (0, .nameAndType 151 152), (0, u "compareTo"), (0, u "(Ljava/math/BigInteger;)I"), (12, u "FIVE"), (21, u "(Lcom/example/hybridge/hybridge/model/Rational;)I"), (2, u "ZERO"), (2, u "Lcom/example/hybridge/hybridge/model/Rational;"), (4, .class_ 199), (0, u "java/lang/Comparable"), (0, u "MAX_LITERAL_DIGITS"), (0, u "I"), (2, u "MAX_LITERAL_EXPONENT"), (2, u "(J)Lcom/example/hybridge/hybridge/model/Rational;")] 45

def k7c0 : Code := { maxStack := 2, maxLocals := 3, code := prog_75_method_1_code, exceptionTable := #[], attributes := #[] }
def k7m0 : Method := { name := "<init>", desc := "(Ljava/math/BigInteger;Ljava/math/BigInteger;)V", sig := { parameters := [(.object "java/math/BigInteger"), (.object "java/math/BigInteger")], returnType := none }, accessFlags := 2, code := some k7c0 }
def k7c1 : Code := { maxStack := 4, maxLocals := 2, code := prog_75_method_2_code, exceptionTable := #[], attributes := #[] }
def k7m1 : Method := { name := "of", desc := "(J)Lcom/example/hybridge/hybridge/model/Rational;", sig := { parameters := [.long], returnType := some (.object "com/example/hybridge/hybridge/model/Rational") }, accessFlags := 9, code := some k7c1 }
def k7c2 : Code := { maxStack := 3, maxLocals := 2, code := prog_75_method_19_code, exceptionTable := #[], attributes := #[] }
def k7m2 : Method := { name := "compareTo", desc := "(Lcom/example/hybridge/hybridge/model/Rational;)I", sig := { parameters := [(.object "com/example/hybridge/hybridge/model/Rational")], returnType := some .int }, accessFlags := 1, code := some k7c2 }
/-- com/example/hybridge/hybridge/model/Rational -/
def k7 : Class := { plain "com/example/hybridge/hybridge/model/Rational" (some 0) with
  accessFlags := 49
  interfaces := #[3]
  cf := some (fileOf pool7 8 #[] #[{ accessFlags := 2, nameIndex := 5, descriptorIndex := 27, attributes := #[] }, { accessFlags := 9, nameIndex := 30, descriptorIndex := 207, attributes := #[] }, { accessFlags := 1, nameIndex := 151, descriptorIndex := 187, attributes := #[] }] 49 2 #[198] #[{ accessFlags := 25, nameIndex := 190, descriptorIndex := 193, attributes := #[] }, { accessFlags := 25, nameIndex := 24, descriptorIndex := 193, attributes := #[] }, { accessFlags := 25, nameIndex := 200, descriptorIndex := 201, attributes := #[] }, { accessFlags := 25, nameIndex := 204, descriptorIndex := 201, attributes := #[] }, { accessFlags := 26, nameIndex := 165, descriptorIndex := 12, attributes := #[] }, { accessFlags := 18, nameIndex := 11, descriptorIndex := 12, attributes := #[] }, { accessFlags := 18, nameIndex := 15, descriptorIndex := 12, attributes := #[] }])
  fields := #[{ name := "ZERO", type := (.object "com/example/hybridge/hybridge/model/Rational"), accessFlags := 25, slot := 0, constantValue := 0 }, { name := "ONE", type := (.object "com/example/hybridge/hybridge/model/Rational"), accessFlags := 25, slot := 1, constantValue := 0 }, { name := "MAX_LITERAL_DIGITS", type := .int, accessFlags := 25, slot := 2, constantValue := 0 }, { name := "MAX_LITERAL_EXPONENT", type := .int, accessFlags := 25, slot := 3, constantValue := 0 }, { name := "FIVE", type := (.object "java/math/BigInteger"), accessFlags := 26, slot := 4, constantValue := 0 }, { name := "numerator", type := (.object "java/math/BigInteger"), accessFlags := 18, slot := 0, constantValue := 0 }, { name := "denominator", type := (.object "java/math/BigInteger"), accessFlags := 18, slot := 1, constantValue := 0 }]
  methods := #[k7m0, k7m1, k7m2]
  instanceTypes := #[(.object "java/math/BigInteger"), (.object "java/math/BigInteger")]
  staticTypes := #[(.object "com/example/hybridge/hybridge/model/Rational"), (.object "com/example/hybridge/hybridge/model/Rational"), .int, .int, (.object "java/math/BigInteger")]
  resolved := Array.replicate 253 none
  statics := none }

def pool8 : Array CpInfo := pool [(1, .methodref 2 3), (0, .class_ 4), (0, .nameAndType 5 6), (0, u "java/lang/Object"), (0, u "<init>"), (0, u "()V"), (1, .class_ 10), (1, u "java/lang/Number"), (2, .class_ 14), (0, u "java/io/Serializable"), (0, u "serialVersionUID"), (0, u "J")] 20

def k8c0 : Code := { maxStack := 1, maxLocals := 1, code := jdk_18_method_1_code, exceptionTable := #[], attributes := #[] }
def k8m0 : Method := { name := "<init>", desc := "()V", sig := { parameters := [], returnType := none }, accessFlags := 1, code := some k8c0 }
/-- java/lang/Number -/
def k8 : Class := { plain "java/lang/Number" (some 0) with
  accessFlags := 1057
  interfaces := #[4]
  cf := some (fileOf pool8 8 #[] #[{ accessFlags := 1, nameIndex := 5, descriptorIndex := 6, attributes := #[] }] 1057 2 #[13] #[{ accessFlags := 26, nameIndex := 15, descriptorIndex := 16, attributes := #[] }])
  fields := #[{ name := "serialVersionUID", type := .long, accessFlags := 26, slot := 0, constantValue := 0 }]
  methods := #[k8m0]
  instanceTypes := #[]
  staticTypes := #[.long]
  resolved := Array.replicate 37 none
  statics := none }

def pool9 : Array CpInfo := pool [(1, .class_ 2), (0, u "java/lang/Integer"), (0, .methodref 4 5), (0, .class_ 6), (0, .nameAndType 7 8), (0, u "java/lang/Number"), (0, u "<init>"), (0, u "()V"), (13, .fieldref 23 24), (0, .class_ 25), (0, .nameAndType 26 27), (0, u "java/math/BigInteger"), (0, u "ZERO"), (0, u "Ljava/math/BigInteger;"), (0, .fieldref 23 29), (0, .nameAndType 30 31), (0, u "mag"), (0, u "[I"), (0, .fieldref 23 33), (0, .nameAndType 34 35), (0, u "signum"), (0, u "I"), (7, .integer 67108864), (38, u "(I)I"), (12, u "bitsPerDigit"), (0, u "[J"), (9, u "digitsPerInt"), (12, u "intRadix"), (10, .long 4294967295), (44, .methodref 23 176), (0, .nameAndType 7 177), (0, u "([II)V"), (2, u "SMALL_PRIME_PRODUCT"), (3, u "(Ljava/math/BigInteger;)Ljava/math/BigInteger;"), (52, u "valueOf"), (0, u "(J)Ljava/math/BigInteger;"), (21, u "ONE"), (6, u "TWO"), (43, u "$assertionsDisabled"), (0, u "Z"), (5, u "multiply"), (18, u "compareTo"), (0, u "(Ljava/math/BigInteger;)I"), (6, .long 16), (1, .fieldref 23 348), (0, .nameAndType 349 350), (0, u "posConst"), (0, u "[Ljava/math/BigInteger;"), (0, .long 18446744073709551600), (1, .fieldref 23 354), (0, .nameAndType 355 350), (0, u "negConst"), (0, .methodref 23 357), (0, .nameAndType 7 358), (0, u "(J)V"), (6, .methodref 23 366), (0, .nameAndType 367 338), (0, u "compareMagnitude"), (20, .methodref 389 390), (0, .class_ 391), (0, .nameAndType 392 393), (0, u "java/lang/System"), (0, u "arraycopy"), (0, u "(Ljava/lang/Object;ILjava/lang/Object;II)V"), (3, .methodref 23 398), (0, .nameAndType 318 399), (0, u "(Ljava/math/BigInteger;ZZI)Ljava/math/BigInteger;"), (3, .methodref 23 404), (0, .nameAndType 405 406), (0, u "multiplyByInt"), (0, u "([III)Ljava/math/BigInteger;"), (16, .methodref 1 424), (0, .nameAndType 425 82), (0, u "bitCount"), (0, .methodref 1 427), (0, .nameAndType 428 82), (0, u "numberOfTrailingZeros"), (0, .methodref 23 430), (0, .nameAndType 431 432), (0, u "shiftLeft"), (0, u "([II)[I"), (39, .class_ 474), (1, u "java/math/BigInteger$RecursiveOp"), (106, u "NEGATIVE_ONE"), (91, u "bnExpModThreshTable"), (72, u "lowestSetBitPlusTwo"), (2, u "bitLengthPlusOne"), (2, u "bitCountPlusOne"), (6, u "LOG_TWO"), (0, u "D"), (2, u "logCache"), (0, u "[D"), (13, u "NUM_ZEROS"), (2, u "ZEROS"), (0, u "Ljava/lang/String;"), (9, u "longRadix"), (5, u "digitsPerLong"), (22, u "powerCache"), (0, u "[[Ljava/math/BigInteger;"), (45, u "firstNonzeroIntNumPlusTwo"), (38, .class_ 909), (1, u "java/math/BigInteger$UnsafeHolder"), (141, u "TEN"), (106, u "serialPersistentFields"), (0, u "[Ljava/io/ObjectStreamField;"), (0, .class_ 1161), (0, u "java/lang/Comparable"), (0, u "LONG_MASK"), (0, u "J"), (1, u "MAX_MAG_LENGTH"), (0, u "PRIME_SEARCH_BIT_LENGTH_LIMIT"), (1, u "KARATSUBA_THRESHOLD"), (1, u "TOOM_COOK_THRESHOLD"), (1, u "KARATSUBA_SQUARE_THRESHOLD"), (1, u "TOOM_COOK_SQUARE_THRESHOLD"), (1, u "BURNIKEL_ZIEGLER_THRESHOLD"), (0, u "BURNIKEL_ZIEGLER_OFFSET"), (1, u "SCHOENHAGE_BASE_CONVERSION_THRESHOLD"), (1, u "MULTIPLY_SQUARE_THRESHOLD"), (0, u "MONTGOMERY_INTRINSIC_THRESHOLD"), (1, u "SMALL_PRIME_THRESHOLD"), (1, u "DEFAULT_PRIME_CERTAINTY"), (1, u "MAX_CONSTANT"), (3, u "serialVersionUID"), (338, .class_ 1532), (0, u "java/math/BigInteger$RecursiveOp$RecursiveSquare"), (0, .class_ 1534), (0, u "java/math/BigInteger$RecursiveOp$RecursiveMultiply")] 7

def k9c0 : Code := { maxStack := 2, maxLocals := 3, code := jdk_2097_method_25_code, exceptionTable := #[], attributes := #[] }
def k9m0 : Method := { name := "<init>", desc := "([II)V", sig := { parameters := [(.array .int), .int], returnType := none }, accessFlags := 0, code := some k9c0 }
def k9c1 : Code := { maxStack := 4, maxLocals := 2, code := jdk_2097_method_29_code, exceptionTable := #[], attributes := #[] }
def k9m1 : Method := { name := "valueOf", desc := "(J)Ljava/math/BigInteger;", sig := { parameters := [.long], returnType := some (.object "java/math/BigInteger") }, accessFlags := 9, code := some k9c1 }
def k9c2 : Code := { maxStack := 4, maxLocals := 4, code := jdk_2097_method_30_code, exceptionTable := #[], attributes := #[] }
def k9m2 : Method := { name := "<init>", desc := "(J)V", sig := { parameters := [.long], returnType := none }, accessFlags := 2, code := some k9c2 }
def k9c3 : Code := { maxStack := 5, maxLocals := 2, code := jdk_2097_method_40_code, exceptionTable := #[], attributes := #[] }
def k9m3 : Method := { name := "multiply", desc := "(Ljava/math/BigInteger;)Ljava/math/BigInteger;", sig := { parameters := [(.object "java/math/BigInteger")], returnType := some (.object "java/math/BigInteger") }, accessFlags := 1, code := some k9c3 }
def k9c4 : Code := { maxStack := 5, maxLocals := 9, code := jdk_2097_method_42_code, exceptionTable := #[], attributes := #[] }
def k9m4 : Method := { name := "multiply", desc := "(Ljava/math/BigInteger;ZZI)Ljava/math/BigInteger;", sig := { parameters := [(.object "java/math/BigInteger"), .boolean, .boolean, .int], returnType := some (.object "java/math/BigInteger") }, accessFlags := 2, code := some k9c4 }
def k9c5 : Code := { maxStack := 4, maxLocals := 13, code := jdk_2097_method_43_code, exceptionTable := #[], attributes := #[] }
def k9m5 : Method := { name := "multiplyByInt", desc := "([III)Ljava/math/BigInteger;", sig := { parameters := [(.array .int), .int, .int], returnType := some (.object "java/math/BigInteger") }, accessFlags := 10, code := some k9c5 }
def k9c6 : Code := { maxStack := 5, maxLocals := 10, code := jdk_2097_method_102_code, exceptionTable := #[], attributes := #[] }
def k9m6 : Method := { name := "shiftLeft", desc := "([II)[I", sig := { parameters := [(.array .int), .int], returnType := some (.array .int) }, accessFlags := 10, code := some k9c6 }
def k9c7 : Code := { maxStack := 2, maxLocals := 2, code := jdk_2097_method_121_code, exceptionTable := #[], attributes := #[] }
def k9m7 : Method := { name := "compareTo", desc := "(Ljava/math/BigInteger;)I", sig := { parameters := [(.object "java/math/BigInteger")], returnType := some .int }, accessFlags := 1, code := some k9c7 }
def k9c8 : Code := { maxStack := 6, maxLocals := 9, code := jdk_2097_method_122_code, exceptionTable := #[], attributes := #[] }
def k9m8 : Method := { name := "compareMagnitude", desc := "(Ljava/math/BigInteger;)I", sig := { parameters := [(.object "java/math/BigInteger")], returnType := some .int }, accessFlags := 16, code := some k9c8 }
/-- java/math/BigInteger -/
def k9 : Class := { plain "java/math/BigInteger" (some 8) with
  accessFlags := 33
  interfaces := #[3]
  cf := some (fileOf pool9 23 #[.nestMembers #[907, 472, 1531, 1533]] #[{ accessFlags := 0, nameIndex := 7, descriptorIndex := 177, attributes := #[] }, { accessFlags := 9, nameIndex := 237, descriptorIndex := 238, attributes := #[] }, { accessFlags := 2, nameIndex := 7, descriptorIndex := 358, attributes := #[] }, { accessFlags := 1, nameIndex := 318, descriptorIndex := 184, attributes := #[] }, { accessFlags := 2, nameIndex := 318, descriptorIndex := 399, attributes := #[] }, { accessFlags := 10, nameIndex := 405, descriptorIndex := 406, attributes := #[] }, { accessFlags := 10, nameIndex := 431, descriptorIndex := 432, attributes := #[] }, { accessFlags := 1, nameIndex := 337, descriptorIndex := 338, attributes := #[] }, { accessFlags := 16, nameIndex := 367, descriptorIndex := 338, attributes := #[] }] 33 4 #[1160] #[{ accessFlags := 16, nameIndex := 34, descriptorIndex := 35, attributes := #[] }, { accessFlags := 16, nameIndex := 30, descriptorIndex := 31, attributes := #[] }, { accessFlags := 2, nameIndex := 752, descriptorIndex := 35, attributes := #[] }, { accessFlags := 2, nameIndex := 749, descriptorIndex := 35, attributes := #[] }, { accessFlags := 2, nameIndex := 746, descriptorIndex := 35, attributes := #[] }, { accessFlags := 2, nameIndex := 868, descriptorIndex := 35, attributes := #[] }, { accessFlags := 24, nameIndex := 1162, descriptorIndex := 1163, attributes := #[] }, { accessFlags := 26, nameIndex := 1165, descriptorIndex := 35, attributes := #[] }, { accessFlags := 26, nameIndex := 1166, descriptorIndex := 35, attributes := #[] }, { accessFlags := 26, nameIndex := 1168, descriptorIndex := 35, attributes := #[] }, { accessFlags := 26, nameIndex := 1170, descriptorIndex := 35, attributes := #[] }, { accessFlags := 26, nameIndex := 1172, descriptorIndex := 35, attributes := #[] }, { accessFlags := 26, nameIndex := 1174, descriptorIndex := 35, attributes := #[] }, { accessFlags := 24, nameIndex := 1176, descriptorIndex := 35, attributes := #[] }, { accessFlags := 24, nameIndex := 1177, descriptorIndex := 35, attributes := #[] }, { accessFlags := 26, nameIndex := 1179, descriptorIndex := 35, attributes := #[] }, { accessFlags := 26, nameIndex := 1181, descriptorIndex := 35, attributes := #[] }, { accessFlags := 26, nameIndex := 1182, descriptorIndex := 35, attributes := #[] }, { accessFlags := 10, nameIndex := 95, descriptorIndex := 96, attributes := #[] }, { accessFlags := 26, nameIndex := 1184, descriptorIndex := 35, attributes := #[] }, { accessFlags := 26, nameIndex := 1186, descriptorIndex := 35, attributes := #[] }, { accessFlags := 26, nameIndex := 180, descriptorIndex := 27, attributes := #[] }, { accessFlags := 26, nameIndex := 1188, descriptorIndex := 35, attributes := #[] }, { accessFlags := 26, nameIndex := 349, descriptorIndex := 350, attributes := #[] }, { accessFlags := 26, nameIndex := 355, descriptorIndex := 350, attributes := #[] }, { accessFlags := 74, nameIndex := 821, descriptorIndex := 822, attributes := #[] }, { accessFlags := 26, nameIndex := 763, descriptorIndex := 764, attributes := #[] }, { accessFlags := 26, nameIndex := 759, descriptorIndex := 760, attributes := #[] }, { accessFlags := 25, nameIndex := 26, descriptorIndex := 27, attributes := #[] }, { accessFlags := 25, nameIndex := 260, descriptorIndex := 27, attributes := #[] }, { accessFlags := 25, nameIndex := 267, descriptorIndex := 27, attributes := #[] }, { accessFlags := 26, nameIndex := 581, descriptorIndex := 27, attributes := #[] }, { accessFlags := 25, nameIndex := 1051, descriptorIndex := 27, attributes := #[] }, { accessFlags := 8, nameIndex := 673, descriptorIndex := 31, attributes := #[] }, { accessFlags := 10, nameIndex := 778, descriptorIndex := 35, attributes := #[] }, { accessFlags := 26, nameIndex := 781, descriptorIndex := 782, attributes := #[] }, { accessFlags := 10, nameIndex := 798, descriptorIndex := 31, attributes := #[] }, { accessFlags := 10, nameIndex := 792, descriptorIndex := 350, attributes := #[] }, { accessFlags := 10, nameIndex := 106, descriptorIndex := 31, attributes := #[] }, { accessFlags := 10, nameIndex := 119, descriptorIndex := 31, attributes := #[] }, { accessFlags := 26, nameIndex := 1192, descriptorIndex := 1163, attributes := #[] }, { accessFlags := 26, nameIndex := 1158, descriptorIndex := 1159, attributes := #[] }, { accessFlags := 4120, nameIndex := 311, descriptorIndex := 312, attributes := #[] }])
  fields := #[{ name := "signum", type := .int, accessFlags := 16, slot := 0, constantValue := 0 }, { name := "mag", type := (.array .int), accessFlags := 16, slot := 1, constantValue := 0 }, { name := "bitCountPlusOne", type := .int, accessFlags := 2, slot := 2, constantValue := 0 }, { name := "bitLengthPlusOne", type := .int, accessFlags := 2, slot := 3, constantValue := 0 }, { name := "lowestSetBitPlusTwo", type := .int, accessFlags := 2, slot := 4, constantValue := 0 }, { name := "firstNonzeroIntNumPlusTwo", type := .int, accessFlags := 2, slot := 5, constantValue := 0 }, { name := "LONG_MASK", type := .long, accessFlags := 24, slot := 0, constantValue := 0 }, { name := "MAX_MAG_LENGTH", type := .int, accessFlags := 26, slot := 1, constantValue := 0 }, { name := "PRIME_SEARCH_BIT_LENGTH_LIMIT", type := .int, accessFlags := 26, slot := 2, constantValue := 0 }, { name := "KARATSUBA_THRESHOLD", type := .int, accessFlags := 26, slot := 3, constantValue := 0 }, { name := "TOOM_COOK_THRESHOLD", type := .int, accessFlags := 26, slot := 4, constantValue := 0 }, { name := "KARATSUBA_SQUARE_THRESHOLD", type := .int, accessFlags := 26, slot := 5, constantValue := 0 }, { name := "TOOM_COOK_SQUARE_THRESHOLD", type := .int, accessFlags := 26, slot := 6, constantValue := 0 }, { name := "BURNIKEL_ZIEGLER_THRESHOLD", type := .int, accessFlags := 24, slot := 7, constantValue := 0 }, { name := "BURNIKEL_ZIEGLER_OFFSET", type := .int, accessFlags := 24, slot := 8, constantValue := 0 }, { name := "SCHOENHAGE_BASE_CONVERSION_THRESHOLD", type := .int, accessFlags := 26, slot := 9, constantValue := 0 }, { name := "MULTIPLY_SQUARE_THRESHOLD", type := .int, accessFlags := 26, slot := 10, constantValue := 0 }, { name := "MONTGOMERY_INTRINSIC_THRESHOLD", type := .int, accessFlags := 26, slot := 11, constantValue := 0 }, { name := "bitsPerDigit", type := (.array .long), accessFlags := 10, slot := 12, constantValue := 0 }, { name := "SMALL_PRIME_THRESHOLD", type := .int, accessFlags := 26, slot := 13, constantValue := 0 }, { name := "DEFAULT_PRIME_CERTAINTY", type := .int, accessFlags := 26, slot := 14, constantValue := 0 }, { name := "SMALL_PRIME_PRODUCT", type := (.object "java/math/BigInteger"), accessFlags := 26, slot := 15, constantValue := 0 }, { name := "MAX_CONSTANT", type := .int, accessFlags := 26, slot := 16, constantValue := 0 }, { name := "posConst", type := (.array (.object "java/math/BigInteger")), accessFlags := 26, slot := 17, constantValue := 0 }, { name := "negConst", type := (.array (.object "java/math/BigInteger")), accessFlags := 26, slot := 18, constantValue := 0 }, { name := "powerCache", type := (.array (.array (.object "java/math/BigInteger"))), accessFlags := 74, slot := 19, constantValue := 0 }, { name := "logCache", type := (.array .double), accessFlags := 26, slot := 20, constantValue := 0 }, { name := "LOG_TWO", type := .double, accessFlags := 26, slot := 21, constantValue := 0 }, { name := "ZERO", type := (.object "java/math/BigInteger"), accessFlags := 25, slot := 22, constantValue := 0 }, { name := "ONE", type := (.object "java/math/BigInteger"), accessFlags := 25, slot := 23, constantValue := 0 }, { name := "TWO", type := (.object "java/math/BigInteger"), accessFlags := 25, slot := 24, constantValue := 0 }, { name := "NEGATIVE_ONE", type := (.object "java/math/BigInteger"), accessFlags := 26, slot := 25, constantValue := 0 }, { name := "TEN", type := (.object "java/math/BigInteger"), accessFlags := 25, slot := 26, constantValue := 0 }, { name := "bnExpModThreshTable", type := (.array .int), accessFlags := 8, slot := 27, constantValue := 0 }, { name := "NUM_ZEROS", type := .int, accessFlags := 10, slot := 28, constantValue := 0 }, { name := "ZEROS", type := (.object "java/lang/String"), accessFlags := 26, slot := 29, constantValue := 0 }, { name := "digitsPerLong", type := (.array .int), accessFlags := 10, slot := 30, constantValue := 0 }, { name := "longRadix", type := (.array (.object "java/math/BigInteger")), accessFlags := 10, slot := 31, constantValue := 0 }, { name := "digitsPerInt", type := (.array .int), accessFlags := 10, slot := 32, constantValue := 0 }, { name := "intRadix", type := (.array .int), accessFlags := 10, slot := 33, constantValue := 0 }, { name := "serialVersionUID", type := .long, accessFlags := 26, slot := 34, constantValue := 0 }, { name := "serialPersistentFields", type := (.array (.object "java/io/ObjectStreamField")), accessFlags := 26, slot := 35, constantValue := 0 }, { name := "$assertionsDisabled", type := .boolean, accessFlags := 4120, slot := 36, constantValue := 0 }]
  methods := #[k9m0, k9m1, k9m2, k9m3, k9m4, k9m5, k9m6, k9m7, k9m8]
  instanceTypes := #[.int, (.array .int), .int, .int, .int, .int]
  staticTypes := #[.long, .int, .int, .int, .int, .int, .int, .int, .int, .int, .int, .int, (.array .long), .int, .int, (.object "java/math/BigInteger"), .int, (.array (.object "java/math/BigInteger")), (.array (.object "java/math/BigInteger")), (.array (.array (.object "java/math/BigInteger"))), (.array .double), .double, (.object "java/math/BigInteger"), (.object "java/math/BigInteger"), (.object "java/math/BigInteger"), (.object "java/math/BigInteger"), (.object "java/math/BigInteger"), (.array .int), .int, (.object "java/lang/String"), (.array .int), (.array (.object "java/math/BigInteger")), (.array .int), (.array .int), .long, (.array (.object "java/io/ObjectStreamField")), .boolean]
  resolved := Array.replicate 1542 none
  statics := some 1 }

def pool10 : Array CpInfo := pool [(1, .class_ 2), (0, u "java/lang/constant/ConstantDesc"), (0, .class_ 4), (0, u "java/lang/Object")] 32

/-- java/lang/constant/ConstantDesc -/
def k10 : Class := { plain "java/lang/constant/ConstantDesc" (some 0) with
  accessFlags := 1537
  interfaces := #[]
  cf := some (fileOf pool10 1 #[] #[] 1537 3 #[] #[])
  fields := #[]
  methods := #[]
  instanceTypes := #[]
  staticTypes := #[]
  resolved := Array.replicate 37 none
  statics := none }

def pool11 : Array CpInfo := pool [(1, .class_ 2), (0, u "java/lang/Integer"), (16, u "digits"), (0, u "[C"), (33, u "(I)I"), (30, u "DigitOnes"), (0, u "[B"), (2, u "DigitTens"), (99, .class_ 190), (0, u "java/lang/Integer$IntegerCache"), (3, u "I"), (8, .class_ 204), (0, u "java/lang/Number"), (2, u "value"), (57, .integer 1431655765), (0, .integer 858993459), (0, .integer 252645135), (34, u "TYPE"), (0, u "Ljava/lang/Class;"), (0, .class_ 305), (0, u "java/lang/Comparable"), (0, .class_ 307), (0, u "java/lang/constant/Constable"), (0, .class_ 309), (0, u "java/lang/constant/ConstantDesc"), (0, u "MIN_VALUE"), (1, u "MAX_VALUE"), (3, u "SIZE"), (1, u "BYTES"), (1, u "serialVersionUID"), (0, u "J"), (84, u "numberOfTrailingZeros"), (0, u "bitCount")] 45

def k11c0 : Code := { maxStack := 3, maxLocals := 2, code := jdk_33_method_48_code, exceptionTable := #[], attributes := #[] }
def k11m0 : Method := { name := "numberOfTrailingZeros", desc := "(I)I", sig := { parameters := [.int], returnType := some .int }, accessFlags := 9, code := some k11c0 }
def k11c1 : Code := { maxStack := 3, maxLocals := 1, code := jdk_33_method_49_code, exceptionTable := #[], attributes := #[] }
def k11m1 : Method := { name := "bitCount", desc := "(I)I", sig := { parameters := [.int], returnType := some .int }, accessFlags := 9, code := some k11c1 }
/-- java/lang/Integer -/
def k11 : Class := { plain "java/lang/Integer" (some 8) with
  accessFlags := 49
  interfaces := #[3, 2, 10]
  cf := some (fileOf pool11 1 #[.nestMembers #[189]] #[{ accessFlags := 9, nameIndex := 406, descriptorIndex := 54, attributes := #[] }, { accessFlags := 9, nameIndex := 407, descriptorIndex := 54, attributes := #[] }] 49 203 #[304, 306, 308] #[{ accessFlags := 25, nameIndex := 310, descriptorIndex := 194, attributes := #[] }, { accessFlags := 25, nameIndex := 312, descriptorIndex := 194, attributes := #[] }, { accessFlags := 25, nameIndex := 302, descriptorIndex := 303, attributes := #[] }, { accessFlags := 24, nameIndex := 19, descriptorIndex := 20, attributes := #[] }, { accessFlags := 24, nameIndex := 89, descriptorIndex := 86, attributes := #[] }, { accessFlags := 24, nameIndex := 85, descriptorIndex := 86, attributes := #[] }, { accessFlags := 18, nameIndex := 207, descriptorIndex := 194, attributes := #[] }, { accessFlags := 25, nameIndex := 316, descriptorIndex := 194, attributes := #[] }, { accessFlags := 25, nameIndex := 318, descriptorIndex := 194, attributes := #[] }, { accessFlags := 26, nameIndex := 320, descriptorIndex := 321, attributes := #[] }])
  fields := #[{ name := "MIN_VALUE", type := .int, accessFlags := 25, slot := 0, constantValue := 0 }, { name := "MAX_VALUE", type := .int, accessFlags := 25, slot := 1, constantValue := 0 }, { name := "TYPE", type := (.object "java/lang/Class"), accessFlags := 25, slot := 2, constantValue := 0 }, { name := "digits", type := (.array .char), accessFlags := 24, slot := 3, constantValue := 0 }, { name := "DigitTens", type := (.array .byte), accessFlags := 24, slot := 4, constantValue := 0 }, { name := "DigitOnes", type := (.array .byte), accessFlags := 24, slot := 5, constantValue := 0 }, { name := "value", type := .int, accessFlags := 18, slot := 0, constantValue := 0 }, { name := "SIZE", type := .int, accessFlags := 25, slot := 6, constantValue := 0 }, { name := "BYTES", type := .int, accessFlags := 25, slot := 7, constantValue := 0 }, { name := "serialVersionUID", type := .long, accessFlags := 26, slot := 8, constantValue := 0 }]
  methods := #[k11m0, k11m1]
  instanceTypes := #[.int]
  staticTypes := #[.int, .int, (.object "java/lang/Class"), (.array .char), (.array .byte), (.array .byte), .int, .int, .long]
  resolved := Array.replicate 453 none
  statics := none }

def pool12 : Array CpInfo := pool [(2, .class_ 4), (1, u "java/lang/Object"), (0, u "<init>"), (0, u "()V"), (1, .class_ 10), (1, u "java/lang/System"), (0, u "allowSecurityManager"), (0, u "I"), (16, u "cons"), (0, u "Ljava/io/Console;"), (77, .class_ 110), (1, u "java/lang/System$CallersHolder"), (43, u "initialErrStream"), (0, u "Ljava/io/PrintStream;"), (19, u "security"), (0, u "Ljava/lang/SecurityManager;"), (31, .class_ 209), (0, u "java/lang/System$1"), (7, u "props"), (0, u "Ljava/util/Properties;"), (2, u "lineSeparator"), (0, u "Ljava/lang/String;"), (96, .class_ 321), (1, u "java/lang/System$LoggerFinder"), (5, .class_ 328), (0, u "java/lang/System$Logger"), (67, u "err"), (2, u "out"), (91, u "notSupportedJnuEncoding"), (15, u "in"), (17, u "initialIn"), (0, u "Ljava/io/InputStream;"), (35, u "bootLayer"), (0, u "Ljava/lang/ModuleLayer;"), (99, .class_ 664), (0, u "java/lang/System$2"), (9, u "NEVER"), (2, u "MAYBE"), (49, u "arraycopy"), (0, u "(Ljava/lang/Object;ILjava/lang/Object;II)V"), (72, .class_ 802), (0, u "java/lang/System$Logger$Level")] 31

def k12m0 : Method := { name := "<init>", desc := "()V", sig := { parameters := [], returnType := none }, accessFlags := 2, code := none }
def k12m1 : Method := { name := "arraycopy", desc := "(Ljava/lang/Object;ILjava/lang/Object;II)V", sig := { parameters := [(.object "java/lang/Object"), .int, (.object "java/lang/Object"), .int, .int], returnType := none }, accessFlags := 265, code := none }
/-- java/lang/System -/
def k12 : Class := { plain "java/lang/System" (some 0) with
  accessFlags := 49
  interfaces := #[]
  cf := some (fileOf pool12 8 #[.nestMembers #[319, 327, 801, 108, 663, 208]] #[{ accessFlags := 2, nameIndex := 5, descriptorIndex := 6, attributes := #[] }, { accessFlags := 265, nameIndex := 727, descriptorIndex := 728, attributes := #[] }] 49 2 #[] #[{ accessFlags := 25, nameIndex := 507, descriptorIndex := 526, attributes := #[] }, { accessFlags := 25, nameIndex := 399, descriptorIndex := 155, attributes := #[] }, { accessFlags := 25, nameIndex := 396, descriptorIndex := 155, attributes := #[] }, { accessFlags := 10, nameIndex := 525, descriptorIndex := 526, attributes := #[] }, { accessFlags := 26, nameIndex := 674, descriptorIndex := 12, attributes := #[] }, { accessFlags := 26, nameIndex := 677, descriptorIndex := 12, attributes := #[] }, { accessFlags := 10, nameIndex := 11, descriptorIndex := 12, attributes := #[] }, { accessFlags := 74, nameIndex := 175, descriptorIndex := 176, attributes := #[] }, { accessFlags := 10, nameIndex := 491, descriptorIndex := 222, attributes := #[] }, { accessFlags := 74, nameIndex := 29, descriptorIndex := 30, attributes := #[] }, { accessFlags := 74, nameIndex := 154, descriptorIndex := 155, attributes := #[] }, { accessFlags := 10, nameIndex := 217, descriptorIndex := 218, attributes := #[] }, { accessFlags := 10, nameIndex := 221, descriptorIndex := 222, attributes := #[] }, { accessFlags := 8, nameIndex := 562, descriptorIndex := 563, attributes := #[] }])
  fields := #[{ name := "in", type := (.object "java/io/InputStream"), accessFlags := 25, slot := 0, constantValue := 0 }, { name := "out", type := (.object "java/io/PrintStream"), accessFlags := 25, slot := 1, constantValue := 0 }, { name := "err", type := (.object "java/io/PrintStream"), accessFlags := 25, slot := 2, constantValue := 0 }, { name := "initialIn", type := (.object "java/io/InputStream"), accessFlags := 10, slot := 3, constantValue := 0 }, { name := "NEVER", type := .int, accessFlags := 26, slot := 4, constantValue := 0 }, { name := "MAYBE", type := .int, accessFlags := 26, slot := 5, constantValue := 0 }, { name := "allowSecurityManager", type := .int, accessFlags := 10, slot := 6, constantValue := 0 }, { name := "security", type := (.object "java/lang/SecurityManager"), accessFlags := 74, slot := 7, constantValue := 0 }, { name := "notSupportedJnuEncoding", type := (.object "java/lang/String"), accessFlags := 10, slot := 8, constantValue := 0 }, { name := "cons", type := (.object "java/io/Console"), accessFlags := 74, slot := 9, constantValue := 0 }, { name := "initialErrStream", type := (.object "java/io/PrintStream"), accessFlags := 74, slot := 10, constantValue := 0 }, { name := "props", type := (.object "java/util/Properties"), accessFlags := 10, slot := 11, constantValue := 0 }, { name := "lineSeparator", type := (.object "java/lang/String"), accessFlags := 10, slot := 12, constantValue := 0 }, { name := "bootLayer", type := (.object "java/lang/ModuleLayer"), accessFlags := 8, slot := 13, constantValue := 0 }]
  methods := #[k12m0, k12m1]
  instanceTypes := #[]
  staticTypes := #[(.object "java/io/InputStream"), (.object "java/io/PrintStream"), (.object "java/io/PrintStream"), (.object "java/io/InputStream"), .int, .int, .int, (.object "java/lang/SecurityManager"), (.object "java/lang/String"), (.object "java/io/Console"), (.object "java/io/PrintStream"), (.object "java/util/Properties"), (.object "java/lang/String"), (.object "java/lang/ModuleLayer")]
  resolved := Array.replicate 834 none
  statics := none }

def pool13 : Array CpInfo := pool [(1, u "java/lang/Cloneable"), (0, .class_ 1), (0, u "java/lang/Object"), (0, .class_ 3)] 3

/-- java/lang/Cloneable -/
def k13 : Class := { plain "java/lang/Cloneable" (some 0) with
  accessFlags := 1537
  interfaces := #[]
  cf := some (fileOf pool13 2 #[] #[] 1537 4 #[] #[])
  fields := #[]
  methods := #[]
  instanceTypes := #[]
  staticTypes := #[]
  resolved := Array.replicate 8 none
  statics := none }

/-- the primitive byte -/
def k14 : Class := { plain "byte" none with kind := .primitive 'B', accessFlags := 0x411 }
/-- [B -/
def k15 : Class := { plain "[B" (some 0) with kind := .array 14 .byte, interfaces := #[13, 4], accessFlags := 1041 }

/-- the primitive int -/
def k16 : Class := { plain "int" none with kind := .primitive 'I', accessFlags := 0x411 }
/-- [I -/
def k17 : Class := { plain "[I" (some 0) with kind := .array 16 .int, interfaces := #[13, 4], accessFlags := 1041 }

/-- [Ljava/math/BigInteger; -/
def k18 : Class := { plain "[Ljava/math/BigInteger;" (some 0) with kind := .array 9 (.object "java/math/BigInteger"), interfaces := #[13, 4], accessFlags := 1041 }

def heap : Heap := #[{ cls := 6, slots := #[.ref 4, .ref 5, .ref 6, .ref 7, .ref 8, .null], vm := .statics 6 },
  { cls := 9, slots := #[.long 0, .int 0, .int 0, .int 0, .int 0, .int 0, .int 0, .int 0, .int 0, .int 0, .int 0, .int 0, .null, .int 0, .int 0, .null, .int 0, .ref 2, .ref 3, .null, .null, .double 0, .ref 58, .ref 25, .ref 26, .ref 41, .ref 34, .null, .int 0, .null, .null, .null, .null, .null, .long 0, .null, .int 0], vm := .statics 9 },
  { cls := 18, slots := #[.null, .ref 25, .ref 26, .ref 27, .ref 28, .ref 29, .ref 30, .ref 31, .ref 32, .ref 33, .ref 34, .ref 35, .ref 36, .ref 37, .ref 38, .ref 39, .ref 40], vm := .none },
  { cls := 18, slots := #[.null, .ref 41, .ref 42, .ref 43, .ref 44, .ref 45, .ref 46, .ref 47, .ref 48, .ref 49, .ref 50, .ref 51, .ref 52, .ref 53, .ref 54, .ref 55, .ref 56], vm := .none },
  { cls := 6, slots := #[.null, .int 0, .int 0, .null], vm := .none },
  { cls := 6, slots := #[.null, .int 1, .int 0, .null], vm := .none },
  { cls := 6, slots := #[.null, .int 2, .int 0, .null], vm := .none },
  { cls := 6, slots := #[.null, .int 3, .int 0, .null], vm := .none },
  { cls := 6, slots := #[.null, .int 4, .int 0, .null], vm := .none },
  { cls := 17, slots := #[.int 1], vm := .none },
  { cls := 17, slots := #[.int 2], vm := .none },
  { cls := 17, slots := #[.int 3], vm := .none },
  { cls := 17, slots := #[.int 4], vm := .none },
  { cls := 17, slots := #[.int 5], vm := .none },
  { cls := 17, slots := #[.int 6], vm := .none },
  { cls := 17, slots := #[.int 7], vm := .none },
  { cls := 17, slots := #[.int 8], vm := .none },
  { cls := 17, slots := #[.int 9], vm := .none },
  { cls := 17, slots := #[.int 10], vm := .none },
  { cls := 17, slots := #[.int 11], vm := .none },
  { cls := 17, slots := #[.int 12], vm := .none },
  { cls := 17, slots := #[.int 13], vm := .none },
  { cls := 17, slots := #[.int 14], vm := .none },
  { cls := 17, slots := #[.int 15], vm := .none },
  { cls := 17, slots := #[.int 16], vm := .none },
  { cls := 9, slots := #[.int 1, .ref 9, .int 0, .int 0, .int 0, .int 0], vm := .none },
  { cls := 9, slots := #[.int 1, .ref 10, .int 0, .int 0, .int 0, .int 0], vm := .none },
  { cls := 9, slots := #[.int 1, .ref 11, .int 0, .int 0, .int 0, .int 0], vm := .none },
  { cls := 9, slots := #[.int 1, .ref 12, .int 0, .int 0, .int 0, .int 0], vm := .none },
  { cls := 9, slots := #[.int 1, .ref 13, .int 0, .int 0, .int 0, .int 0], vm := .none },
  { cls := 9, slots := #[.int 1, .ref 14, .int 0, .int 0, .int 0, .int 0], vm := .none },
  { cls := 9, slots := #[.int 1, .ref 15, .int 0, .int 0, .int 0, .int 0], vm := .none },
  { cls := 9, slots := #[.int 1, .ref 16, .int 0, .int 0, .int 0, .int 0], vm := .none },
  { cls := 9, slots := #[.int 1, .ref 17, .int 0, .int 0, .int 0, .int 0], vm := .none },
  { cls := 9, slots := #[.int 1, .ref 18, .int 0, .int 0, .int 0, .int 0], vm := .none },
  { cls := 9, slots := #[.int 1, .ref 19, .int 0, .int 0, .int 0, .int 0], vm := .none },
  { cls := 9, slots := #[.int 1, .ref 20, .int 0, .int 0, .int 0, .int 0], vm := .none },
  { cls := 9, slots := #[.int 1, .ref 21, .int 0, .int 0, .int 0, .int 0], vm := .none },
  { cls := 9, slots := #[.int 1, .ref 22, .int 0, .int 0, .int 0, .int 0], vm := .none },
  { cls := 9, slots := #[.int 1, .ref 23, .int 0, .int 0, .int 0, .int 0], vm := .none },
  { cls := 9, slots := #[.int 1, .ref 24, .int 0, .int 0, .int 0, .int 0], vm := .none },
  { cls := 9, slots := #[.int (-1), .ref 9, .int 0, .int 0, .int 0, .int 0], vm := .none },
  { cls := 9, slots := #[.int (-1), .ref 10, .int 0, .int 0, .int 0, .int 0], vm := .none },
  { cls := 9, slots := #[.int (-1), .ref 11, .int 0, .int 0, .int 0, .int 0], vm := .none },
  { cls := 9, slots := #[.int (-1), .ref 12, .int 0, .int 0, .int 0, .int 0], vm := .none },
  { cls := 9, slots := #[.int (-1), .ref 13, .int 0, .int 0, .int 0, .int 0], vm := .none },
  { cls := 9, slots := #[.int (-1), .ref 14, .int 0, .int 0, .int 0, .int 0], vm := .none },
  { cls := 9, slots := #[.int (-1), .ref 15, .int 0, .int 0, .int 0, .int 0], vm := .none },
  { cls := 9, slots := #[.int (-1), .ref 16, .int 0, .int 0, .int 0, .int 0], vm := .none },
  { cls := 9, slots := #[.int (-1), .ref 17, .int 0, .int 0, .int 0, .int 0], vm := .none },
  { cls := 9, slots := #[.int (-1), .ref 18, .int 0, .int 0, .int 0, .int 0], vm := .none },
  { cls := 9, slots := #[.int (-1), .ref 19, .int 0, .int 0, .int 0, .int 0], vm := .none },
  { cls := 9, slots := #[.int (-1), .ref 20, .int 0, .int 0, .int 0, .int 0], vm := .none },
  { cls := 9, slots := #[.int (-1), .ref 21, .int 0, .int 0, .int 0, .int 0], vm := .none },
  { cls := 9, slots := #[.int (-1), .ref 22, .int 0, .int 0, .int 0, .int 0], vm := .none },
  { cls := 9, slots := #[.int (-1), .ref 23, .int 0, .int 0, .int 0, .int 0], vm := .none },
  { cls := 9, slots := #[.int (-1), .ref 24, .int 0, .int 0, .int 0, .int 0], vm := .none },
  { cls := 17, slots := #[], vm := .none },
  { cls := 9, slots := #[.int 0, .ref 57, .int 0, .int 0, .int 0, .int 0], vm := .none }]
def classes : Array Class := #[k0, k1, k2, k3, k4, k5, k6, k7, k8, k9, k10, k11, k12, k13, k14, k15, k16, k17, k18]
def interned : List (Array UInt16 × Addr) := []
def slotsUsed : Nat := 311
def theMethod : MethodId := ⟨1, 2⟩
def args0 : Array Value := #[.int 5, .long 3, .long 9, .int 0]
def aboutOver (below : List Frame) : State where
  vm := { classes := classes, interned := interned.toArray }
  heap := heap
  slotsUsed := slotsUsed
  threads := #[{ frames := .invoking theMethod args0 :: below }]
def below0 : List Frame := [.native { method := ⟨0, 0⟩, args := #[] }]
def about1 : State := aboutOver below0
def p0 : Program := .bare "" "" ""
def e0 : Env := launch0.env 0 0 0
theorem w_frames : about1.frames = Frame.invoking theMethod args0 :: below0 := rfl
set_option maxRecDepth 65536 in
theorem w_args : argsFit about1.vm theMethod args0 = true := by decide +kernel
set_option maxRecDepth 65536 in
theorem w_heap : heapFits about1 = true := by decide +kernel
set_option maxRecDepth 65536 in
theorem w_runnable : about1.curStatus? = some .runnable := by decide +kernel
set_option maxRecDepth 65536 in
theorem w_alone : about1.alone = true := by decide +kernel
set_option maxRecDepth 65536 in
theorem w_named : about1.methodNamed? x = some theMethod := by decide +kernel
set_option maxRecDepth 65536 in
theorem w_hears : about1.hears theMethod below0 = true := by decide +kernel
set_option maxRecDepth 65536 in
theorem w_ripe : about1.ripe theMethod args0 below0 = true := by decide +kernel
theorem w_running : about1.status = .running := rfl
set_option maxRecDepth 65536 in
theorem w_room : about1.hasRoom e0.platform room_1 = true :=
  launch0.hasRoom_least _ room_1 (by decide +kernel) (by decide +kernel) (by decide +kernel) (by decide +kernel) (by decide +kernel) (by decide +kernel)
theorem allAtoms_all (ts : List Jvm.Cond) (a : Array Jvm.Value) (st : Jvm.State) : (allAtoms ts).before a st = ts.all (fun c => c.before a st) := by
  induction ts with
  | nil => rfl
  | cons c t ih =>
    show (Jvm.Cond.and c (allAtoms t)).before a st = _
    rw [Jvm.Cond.before_and, ih, List.all_cons]
def words1 : List Jvm.Cond := Jvm.Cond.code x code maxLocals ret :: tables_1
/-- a 'code' word, met by the world's own term for the bytes: nothing is compared byte by byte -/
theorem code_word {y : MethodName} {bytes : ByteArray} {mx : Nat} {rt : Option FieldType} {a : Array Value} {s : State} {m : MethodId} {meth : Method} {c : Code} (h1 : s.methodNamed? y = some m) (h2 : s.vm.method? m = some meth) (h3 : meth.code = some c) (h4 : c.code = bytes)
    (h5 : (c.maxLocals == mx && c.exceptionTable.isEmpty && decide (c.maxStack ≤ mostOperands) && decide (meth.sig.returnType = rt) && !meth.locks && decide (parseMethodDescriptor y.desc = some meth.sig)) = true) : (Jvm.Cond.code y bytes mx rt).before a s = true := by
  simp only [Bool.and_eq_true, beq_iff_eq, Bool.not_eq_true', decide_eq_true_eq] at h5
  obtain ⟨⟨⟨⟨⟨g1, g2⟩, g3⟩, g4⟩, g5⟩, g6⟩ := h5
  simp [Cond.before, Cond.holds, Cond.value, h1, h2, h3, h4, g1, g2, g3, g4, g5, g6]
def isCode : Jvm.Cond → Bool
  | .code _ _ _ _ => true
  | _ => false
theorem all_split {L : List Jvm.Cond} {P : Jvm.Cond → Bool} (h1 : L.all (fun c => isCode c || P c) = true) (h2 : ∀ c ∈ L.filter isCode, P c = true) : L.all P = true := by
  refine List.all_eq_true.mpr fun c hc => ?_
  have h := List.all_eq_true.mp h1 c hc
  rcases Bool.eq_false_or_eq_true (isCode c) with hi | hi
  · exact h2 c (List.mem_filter.mpr ⟨hc, hi⟩)
  · simpa [hi] using h
set_option maxRecDepth 65536 in
theorem w_c0 : (Jvm.Cond.code x code maxLocals ret).before args0 about1 = true := code_word (m := ⟨1, 2⟩) (meth := k1m2) (c := k1c2) (by decide +kernel) rfl rfl rfl (by decide +kernel)
set_option maxRecDepth 65536 in
theorem w_c1 : (Jvm.Cond.code ({ cls := "com/example/hybridge/hybridge/model/RelationSwappedPinLaw", name := "pick", desc := "(I)Lcom/example/hybridge/hybridge/model/Relation;" } : Jvm.MethodName) method_2_code (2 : Nat) (Option.some (Jvm.ClassFile.FieldType.object "com/example/hybridge/hybridge/model/Relation"))).before args0 about1 = true := code_word (m := ⟨1, 1⟩) (meth := k1m1) (c := k1c1) (by decide +kernel) rfl rfl rfl (by decide +kernel)
set_option maxRecDepth 65536 in
theorem w_c2 : (Jvm.Cond.code ({ cls := "com/example/hybridge/hybridge/model/Rational", name := "of", desc := "(J)Lcom/example/hybridge/hybridge/model/Rational;" } : Jvm.MethodName) prog_75_method_2_code (2 : Nat) (Option.some (Jvm.ClassFile.FieldType.object "com/example/hybridge/hybridge/model/Rational"))).before args0 about1 = true := code_word (m := ⟨7, 1⟩) (meth := k7m1) (c := k7c1) (by decide +kernel) rfl rfl rfl (by decide +kernel)
set_option maxRecDepth 65536 in
theorem w_c3 : (Jvm.Cond.code ({ cls := "java/math/BigInteger", name := "valueOf", desc := "(J)Ljava/math/BigInteger;" } : Jvm.MethodName) jdk_2097_method_29_code (2 : Nat) (Option.some (Jvm.ClassFile.FieldType.object "java/math/BigInteger"))).before args0 about1 = true := code_word (m := ⟨9, 1⟩) (meth := k9m1) (c := k9c1) (by decide +kernel) rfl rfl rfl (by decide +kernel)
set_option maxRecDepth 65536 in
theorem w_c4 : (Jvm.Cond.code ({ cls := "com/example/hybridge/hybridge/model/Rational", name := "<init>", desc := "(Ljava/math/BigInteger;Ljava/math/BigInteger;)V" } : Jvm.MethodName) prog_75_method_1_code (3 : Nat) (Option.none : Option Jvm.ClassFile.FieldType)).before args0 about1 = true := code_word (m := ⟨7, 0⟩) (meth := k7m0) (c := k7c0) (by decide +kernel) rfl rfl rfl (by decide +kernel)
set_option maxRecDepth 65536 in
theorem w_c5 : (Jvm.Cond.code ({ cls := "java/lang/Object", name := "<init>", desc := "()V" } : Jvm.MethodName) object_method_1_code (1 : Nat) (Option.none : Option Jvm.ClassFile.FieldType)).before args0 about1 = true := code_word (m := ⟨0, 0⟩) (meth := k0m0) (c := k0c0) (by decide +kernel) rfl rfl rfl (by decide +kernel)
set_option maxRecDepth 65536 in
theorem w_c6 : (Jvm.Cond.code ({ cls := "java/math/BigInteger", name := "<init>", desc := "(J)V" } : Jvm.MethodName) jdk_2097_method_30_code (4 : Nat) (Option.none : Option Jvm.ClassFile.FieldType)).before args0 about1 = true := code_word (m := ⟨9, 2⟩) (meth := k9m2) (c := k9c2) (by decide +kernel) rfl rfl rfl (by decide +kernel)
set_option maxRecDepth 65536 in
theorem w_c7 : (Jvm.Cond.code ({ cls := "java/lang/Number", name := "<init>", desc := "()V" } : Jvm.MethodName) jdk_18_method_1_code (1 : Nat) (Option.none : Option Jvm.ClassFile.FieldType)).before args0 about1 = true := code_word (m := ⟨8, 0⟩) (meth := k8m0) (c := k8c0) (by decide +kernel) rfl rfl rfl (by decide +kernel)
set_option maxRecDepth 65536 in
theorem w_c8 : (Jvm.Cond.code ({ cls := "com/example/hybridge/hybridge/model/Relation", name := "swapped", desc := "()Lcom/example/hybridge/hybridge/model/Relation;" } : Jvm.MethodName) prog_76_method_4_code (1 : Nat) (Option.some (Jvm.ClassFile.FieldType.object "com/example/hybridge/hybridge/model/Relation"))).before args0 about1 = true := code_word (m := ⟨6, 0⟩) (meth := k6m0) (c := k6c0) (by decide +kernel) rfl rfl rfl (by decide +kernel)
set_option maxRecDepth 65536 in
theorem w_c9 : (Jvm.Cond.code ({ cls := "java/lang/Enum", name := "ordinal", desc := "()I" } : Jvm.MethodName) jdk_37_method_2_code (1 : Nat) (Option.some Jvm.ClassFile.FieldType.int)).before args0 about1 = true := code_word (m := ⟨5, 0⟩) (meth := k5m0) (c := k5c0) (by decide +kernel) rfl rfl rfl (by decide +kernel)
set_option maxRecDepth 65536 in
theorem w_c10 : (Jvm.Cond.code ({ cls := "com/example/hybridge/hybridge/model/Relation", name := "holds", desc := "(Lcom/example/hybridge/hybridge/model/Rational;Lcom/example/hybridge/hybridge/model/Rational;)Z" } : Jvm.MethodName) prog_76_method_5_code (4 : Nat) (Option.some Jvm.ClassFile.FieldType.boolean)).before args0 about1 = true := code_word (m := ⟨6, 1⟩) (meth := k6m1) (c := k6c1) (by decide +kernel) rfl rfl rfl (by decide +kernel)
set_option maxRecDepth 65536 in
theorem w_c11 : (Jvm.Cond.code ({ cls := "com/example/hybridge/hybridge/model/Rational", name := "compareTo", desc := "(Lcom/example/hybridge/hybridge/model/Rational;)I" } : Jvm.MethodName) prog_75_method_19_code (2 : Nat) (Option.some Jvm.ClassFile.FieldType.int)).before args0 about1 = true := code_word (m := ⟨7, 2⟩) (meth := k7m2) (c := k7c2) (by decide +kernel) rfl rfl rfl (by decide +kernel)
set_option maxRecDepth 65536 in
theorem w_c12 : (Jvm.Cond.code ({ cls := "java/math/BigInteger", name := "multiply", desc := "(Ljava/math/BigInteger;)Ljava/math/BigInteger;" } : Jvm.MethodName) jdk_2097_method_40_code (2 : Nat) (Option.some (Jvm.ClassFile.FieldType.object "java/math/BigInteger"))).before args0 about1 = true := code_word (m := ⟨9, 3⟩) (meth := k9m3) (c := k9c3) (by decide +kernel) rfl rfl rfl (by decide +kernel)
set_option maxRecDepth 65536 in
theorem w_c13 : (Jvm.Cond.code ({ cls := "java/math/BigInteger", name := "multiply", desc := "(Ljava/math/BigInteger;ZZI)Ljava/math/BigInteger;" } : Jvm.MethodName) jdk_2097_method_42_code (9 : Nat) (Option.some (Jvm.ClassFile.FieldType.object "java/math/BigInteger"))).before args0 about1 = true := code_word (m := ⟨9, 4⟩) (meth := k9m4) (c := k9c4) (by decide +kernel) rfl rfl rfl (by decide +kernel)
set_option maxRecDepth 65536 in
theorem w_c14 : (Jvm.Cond.code ({ cls := "java/math/BigInteger", name := "multiplyByInt", desc := "([III)Ljava/math/BigInteger;" } : Jvm.MethodName) jdk_2097_method_43_code (13 : Nat) (Option.some (Jvm.ClassFile.FieldType.object "java/math/BigInteger"))).before args0 about1 = true := code_word (m := ⟨9, 5⟩) (meth := k9m5) (c := k9c5) (by decide +kernel) rfl rfl rfl (by decide +kernel)
set_option maxRecDepth 65536 in
theorem w_c15 : (Jvm.Cond.code ({ cls := "java/lang/Integer", name := "bitCount", desc := "(I)I" } : Jvm.MethodName) jdk_33_method_49_code (1 : Nat) (Option.some Jvm.ClassFile.FieldType.int)).before args0 about1 = true := code_word (m := ⟨11, 1⟩) (meth := k11m1) (c := k11c1) (by decide +kernel) rfl rfl rfl (by decide +kernel)
set_option maxRecDepth 65536 in
theorem w_c16 : (Jvm.Cond.code ({ cls := "java/lang/Integer", name := "numberOfTrailingZeros", desc := "(I)I" } : Jvm.MethodName) jdk_33_method_48_code (2 : Nat) (Option.some Jvm.ClassFile.FieldType.int)).before args0 about1 = true := code_word (m := ⟨11, 0⟩) (meth := k11m0) (c := k11c0) (by decide +kernel) rfl rfl rfl (by decide +kernel)
set_option maxRecDepth 65536 in
theorem w_c17 : (Jvm.Cond.code ({ cls := "java/math/BigInteger", name := "shiftLeft", desc := "([II)[I" } : Jvm.MethodName) jdk_2097_method_102_code (10 : Nat) (Option.some (Jvm.ClassFile.FieldType.array Jvm.ClassFile.FieldType.int))).before args0 about1 = true := code_word (m := ⟨9, 6⟩) (meth := k9m6) (c := k9c6) (by decide +kernel) rfl rfl rfl (by decide +kernel)
set_option maxRecDepth 65536 in
theorem w_c18 : (Jvm.Cond.code ({ cls := "java/math/BigInteger", name := "<init>", desc := "([II)V" } : Jvm.MethodName) jdk_2097_method_25_code (3 : Nat) (Option.none : Option Jvm.ClassFile.FieldType)).before args0 about1 = true := code_word (m := ⟨9, 0⟩) (meth := k9m0) (c := k9c0) (by decide +kernel) rfl rfl rfl (by decide +kernel)
set_option maxRecDepth 65536 in
theorem w_c19 : (Jvm.Cond.code ({ cls := "java/math/BigInteger", name := "compareTo", desc := "(Ljava/math/BigInteger;)I" } : Jvm.MethodName) jdk_2097_method_121_code (2 : Nat) (Option.some Jvm.ClassFile.FieldType.int)).before args0 about1 = true := code_word (m := ⟨9, 7⟩) (meth := k9m7) (c := k9c7) (by decide +kernel) rfl rfl rfl (by decide +kernel)
set_option maxRecDepth 65536 in
theorem w_c20 : (Jvm.Cond.code ({ cls := "java/math/BigInteger", name := "compareMagnitude", desc := "(Ljava/math/BigInteger;)I" } : Jvm.MethodName) jdk_2097_method_122_code (9 : Nat) (Option.some Jvm.ClassFile.FieldType.int)).before args0 about1 = true := code_word (m := ⟨9, 8⟩) (meth := k9m8) (c := k9c8) (by decide +kernel) rfl rfl rfl (by decide +kernel)
def codes1 : List Jvm.Cond := [Jvm.Cond.code x code maxLocals ret, Jvm.Cond.code ({ cls := "com/example/hybridge/hybridge/model/RelationSwappedPinLaw", name := "pick", desc := "(I)Lcom/example/hybridge/hybridge/model/Relation;" } : Jvm.MethodName) method_2_code (2 : Nat) (Option.some (Jvm.ClassFile.FieldType.object "com/example/hybridge/hybridge/model/Relation")), Jvm.Cond.code ({ cls := "com/example/hybridge/hybridge/model/Rational", name := "of", desc := "(J)Lcom/example/hybridge/hybridge/model/Rational;" } : Jvm.MethodName) prog_75_method_2_code (2 : Nat) (Option.some (Jvm.ClassFile.FieldType.object "com/example/hybridge/hybridge/model/Rational")), Jvm.Cond.code ({ cls := "java/math/BigInteger", name := "valueOf", desc := "(J)Ljava/math/BigInteger;" } : Jvm.MethodName) jdk_2097_method_29_code (2 : Nat) (Option.some (Jvm.ClassFile.FieldType.object "java/math/BigInteger")), Jvm.Cond.code ({ cls := "com/example/hybridge/hybridge/model/Rational", name := "<init>", desc := "(Ljava/math/BigInteger;Ljava/math/BigInteger;)V" } : Jvm.MethodName) prog_75_method_1_code (3 : Nat) (Option.none : Option Jvm.ClassFile.FieldType), Jvm.Cond.code ({ cls := "java/lang/Object", name := "<init>", desc := "()V" } : Jvm.MethodName) object_method_1_code (1 : Nat) (Option.none : Option Jvm.ClassFile.FieldType), Jvm.Cond.code ({ cls := "java/math/BigInteger", name := "<init>", desc := "(J)V" } : Jvm.MethodName) jdk_2097_method_30_code (4 : Nat) (Option.none : Option Jvm.ClassFile.FieldType), Jvm.Cond.code ({ cls := "java/lang/Number", name := "<init>", desc := "()V" } : Jvm.MethodName) jdk_18_method_1_code (1 : Nat) (Option.none : Option Jvm.ClassFile.FieldType), Jvm.Cond.code ({ cls := "com/example/hybridge/hybridge/model/Relation", name := "swapped", desc := "()Lcom/example/hybridge/hybridge/model/Relation;" } : Jvm.MethodName) prog_76_method_4_code (1 : Nat) (Option.some (Jvm.ClassFile.FieldType.object "com/example/hybridge/hybridge/model/Relation")), Jvm.Cond.code ({ cls := "java/lang/Enum", name := "ordinal", desc := "()I" } : Jvm.MethodName) jdk_37_method_2_code (1 : Nat) (Option.some Jvm.ClassFile.FieldType.int), Jvm.Cond.code ({ cls := "com/example/hybridge/hybridge/model/Relation", name := "holds", desc := "(Lcom/example/hybridge/hybridge/model/Rational;Lcom/example/hybridge/hybridge/model/Rational;)Z" } : Jvm.MethodName) prog_76_method_5_code (4 : Nat) (Option.some Jvm.ClassFile.FieldType.boolean), Jvm.Cond.code ({ cls := "com/example/hybridge/hybridge/model/Rational", name := "compareTo", desc := "(Lcom/example/hybridge/hybridge/model/Rational;)I" } : Jvm.MethodName) prog_75_method_19_code (2 : Nat) (Option.some Jvm.ClassFile.FieldType.int), Jvm.Cond.code ({ cls := "java/math/BigInteger", name := "multiply", desc := "(Ljava/math/BigInteger;)Ljava/math/BigInteger;" } : Jvm.MethodName) jdk_2097_method_40_code (2 : Nat) (Option.some (Jvm.ClassFile.FieldType.object "java/math/BigInteger")), Jvm.Cond.code ({ cls := "java/math/BigInteger", name := "multiply", desc := "(Ljava/math/BigInteger;ZZI)Ljava/math/BigInteger;" } : Jvm.MethodName) jdk_2097_method_42_code (9 : Nat) (Option.some (Jvm.ClassFile.FieldType.object "java/math/BigInteger")), Jvm.Cond.code ({ cls := "java/math/BigInteger", name := "multiplyByInt", desc := "([III)Ljava/math/BigInteger;" } : Jvm.MethodName) jdk_2097_method_43_code (13 : Nat) (Option.some (Jvm.ClassFile.FieldType.object "java/math/BigInteger")), Jvm.Cond.code ({ cls := "java/lang/Integer", name := "bitCount", desc := "(I)I" } : Jvm.MethodName) jdk_33_method_49_code (1 : Nat) (Option.some Jvm.ClassFile.FieldType.int), Jvm.Cond.code ({ cls := "java/lang/Integer", name := "numberOfTrailingZeros", desc := "(I)I" } : Jvm.MethodName) jdk_33_method_48_code (2 : Nat) (Option.some Jvm.ClassFile.FieldType.int), Jvm.Cond.code ({ cls := "java/math/BigInteger", name := "shiftLeft", desc := "([II)[I" } : Jvm.MethodName) jdk_2097_method_102_code (10 : Nat) (Option.some (Jvm.ClassFile.FieldType.array Jvm.ClassFile.FieldType.int)), Jvm.Cond.code ({ cls := "java/math/BigInteger", name := "<init>", desc := "([II)V" } : Jvm.MethodName) jdk_2097_method_25_code (3 : Nat) (Option.none : Option Jvm.ClassFile.FieldType), Jvm.Cond.code ({ cls := "java/math/BigInteger", name := "compareTo", desc := "(Ljava/math/BigInteger;)I" } : Jvm.MethodName) jdk_2097_method_121_code (2 : Nat) (Option.some Jvm.ClassFile.FieldType.int), Jvm.Cond.code ({ cls := "java/math/BigInteger", name := "compareMagnitude", desc := "(Ljava/math/BigInteger;)I" } : Jvm.MethodName) jdk_2097_method_122_code (9 : Nat) (Option.some Jvm.ClassFile.FieldType.int)]
set_option maxRecDepth 65536 in
theorem codes_eq : words1.filter isCode = codes1 := rfl
theorem w_codes : ∀ c ∈ words1.filter isCode, c.before args0 about1 = true := by
  rw [codes_eq]
  intro c hc
  simp only [codes1, List.mem_cons, List.not_mem_nil, or_false] at hc
  rcases hc with rfl | rfl | rfl | rfl | rfl | rfl | rfl | rfl | rfl | rfl | rfl | rfl | rfl | rfl | rfl | rfl | rfl | rfl | rfl | rfl | rfl
  · exact w_c0
  · exact w_c1
  · exact w_c2
  · exact w_c3
  · exact w_c4
  · exact w_c5
  · exact w_c6
  · exact w_c7
  · exact w_c8
  · exact w_c9
  · exact w_c10
  · exact w_c11
  · exact w_c12
  · exact w_c13
  · exact w_c14
  · exact w_c15
  · exact w_c16
  · exact w_c17
  · exact w_c18
  · exact w_c19
  · exact w_c20
set_option maxRecDepth 65536 in
theorem w_t1 : (words1.take 24).all (fun c => isCode c || c.before args0 about1) = true := by decide +kernel
set_option maxRecDepth 65536 in
theorem w_t2 : ((words1.drop 24).take 24).all (fun c => isCode c || c.before args0 about1) = true := by decide +kernel
set_option maxRecDepth 65536 in
theorem w_t3 : (((words1.drop 24).drop 24).take 24).all (fun c => isCode c || c.before args0 about1) = true := by decide +kernel
set_option maxRecDepth 65536 in
theorem w_t4 : ((((words1.drop 24).drop 24).drop 24).take 24).all (fun c => isCode c || c.before args0 about1) = true := by decide +kernel
set_option maxRecDepth 65536 in
theorem w_t5 : (((((words1.drop 24).drop 24).drop 24).drop 24).take 24).all (fun c => isCode c || c.before args0 about1) = true := by decide +kernel
set_option maxRecDepth 65536 in
theorem w_t6 : (((((words1.drop 24).drop 24).drop 24).drop 24).drop 24).all (fun c => isCode c || c.before args0 about1) = true := by decide +kernel
theorem w_tables : (allAtoms (Jvm.Cond.code x code maxLocals ret :: tables_1)).before args0 about1 = true := by
  rw [allAtoms_all]
  show words1.all (fun c => c.before args0 about1) = true
  refine all_split ?_ w_codes
  rw [← List.take_append_drop 24 words1, List.all_append, w_t1, ← List.take_append_drop 24 (words1.drop 24), List.all_append, w_t2, ← List.take_append_drop 24 ((words1.drop 24).drop 24), List.all_append, w_t3, ← List.take_append_drop 24 (((words1.drop 24).drop 24).drop 24), List.all_append, w_t4, ← List.take_append_drop 24 ((((words1.drop 24).drop 24).drop 24).drop 24), List.all_append, w_t5, w_t6]
  rfl
set_option maxRecDepth 65536 in
theorem w_rest : rest_1_c.before args0 about1 = true := by decide +kernel
set_option maxRecDepth 65536 in
theorem w_case : (Jvm.Cond.and given_1 narrow_1).before args0 about1 = true := by decide +kernel
theorem w_applies : (headSpec (Jvm.Cond.code x code maxLocals ret :: tables_1) room_1).applies x e0.platform about1 = true :=
  (Spec.applies_iff w_frames).mpr ⟨w_running, w_runnable, w_alone, w_named, w_hears, w_ripe, w_room, w_tables⟩
theorem atStart : AtStart classFile x code maxLocals ret World_1 tables_1 room_1 Calls_1 rest_1 Pre_1 launch0 p0 e0 about1 theMethod args0 below0 :=
  ⟨lists_1, trivial, launch0.admits_env _ _ _, launch0.least_env, fairChoices_fair.cas, fairChoices_fair.clock, w_frames, w_args, w_heap, w_applies, trivial, w_rest, w_case⟩
end start1
theorem witness_1 : WitnessClaimed_1 := ⟨start1.p0, start1.e0, start1.about1, start1.theMethod, start1.args0, start1.below0, start1.atStart⟩
end Jvm.Pilot.@@N@@
