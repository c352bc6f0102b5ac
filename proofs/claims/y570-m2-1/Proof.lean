import JvmDerived
import JvmDerived.Pilot.@@N@@Statement
import JvmDerived.Pilot.@@N@@Code
set_option linter.unusedVariables false
set_option linter.unusedSimpArgs false
namespace Jvm.Pilot.@@N@@.W
open Jvm Jvm.ClassFile Sem Op Lib Jvm.Free Jvm.Stand Jvm.LawKit Jvm.RoadKit
/-! own kit: a body's walk in one pass, backwards from its end ('Gl': from here the body comes to its end and there P holds) -/
section Walk
variable {p : Program} {l : Launch} {e : Env} {R : Room} {s : State} {m : MethodId} {args : Array Value} {below : List Frame} {meth : Method} {c : Code} {T T' : State} {locs : List Loc} {cells slots : Nat} {P : Option Value → Heap → List Loc → Prop} {C N : Nat} {Ls : Array Slot} {S : List Value} {pc pc' pc'' : Nat} {g : JFrame}
def Gl (p : Program) (e : Env) (below : List Frame) (s : State) (P : Option Value → Heap → List Loc → Prop) (C N : Nat) (T : State) (g : JFrame) : Prop :=
  ∃ (s₂ : State) (o : Outcome), Steps p.tables e below (T.setTop g) s₂ ∧ s₂.status = .running ∧ Ended s₂ below o ∧ ∃ v L, o = .returned v ∧ P v s₂.heap L ∧ FrameEnd s o s₂ L C N
theorem s1 (g' : JFrame) (h : ∀ t, Steps p.tables e below (T.setTop g') t → Steps p.tables e below (T.setTop g) t) (K : Gl p e below s P C N T g') : Gl p e below s P C N T g := by
  obtain ⟨s₂, o, h1, h2⟩ := K; exact ⟨s₂, o, h _ h1, h2⟩
theorem s2 (g' : JFrame) (h : ∀ t, Steps p.tables e below (T'.setTop g') t → Steps p.tables e below (T.setTop g) t) (K : Gl p e below s P C N T' g') : Gl p e below s P C N T g := by
  obtain ⟨s₂, o, h1, h2⟩ := K; exact ⟨s₂, o, h _ h1, h2⟩
theorem s3 (g' : JFrame) (h : Steps p.tables e below (T.setTop g) (T'.setTop g')) (K : Gl p e below s P C N T' g') : Gl p e below s P C N T g := by
  obtain ⟨s₂, o, h1, h2⟩ := K; exact ⟨s₂, o, h.trans h1, h2⟩
theorem cast {g' : JFrame} (q : g = g') (K : Gl p e below s P C N T g') : Gl p e below s P C N T g := q ▸ K
theorem fin (X : Stand p l e R s m args below meth c T locs cells slots) {v : Option Value} (hv : meth.sig.returnType = none → v = none) (hlk : meth.locks = false)
    (hs : ∀ fs, (∀ (f : JFrame) (acts : List Action), f.method = m → f.locked = none → f.entered = [] → (doReturn e (T.setTop f) acts v).1 = T.setFrames fs) → Steps p.tables e below (T.setTop g) (T.setFrames fs))
    (hP : P v T.heap locs) (hC : cells ≤ C) (hN : slots ≤ N) : Gl p e below s P C N T g := by
  obtain ⟨fs, hr, hrun, hended, hW, hsame⟩ := X.leave hv hlk
  exact ⟨_, _, hs fs hr, hrun, hended, _, _, rfl, hP, ⟨_, rfl⟩, hW, hsame.mono hC hN⟩
theorem retZ (X : Stand p l e R s m args below meth c T locs cells slots) (hx : p.tables.exec = Jvm.exec) (hlk : meth.locks = false) {z z' : Int32} {t : FieldType} (hret : meth.sig.returnType = some t) (ht : t = .boolean ∨ t = .byte ∨ t = .char ∨ t = .short)
    (hd : decode c.code pc = .ok (.ireturn, 1)) (hz : nar t z = z') (hP : P (some (.int z')) T.heap locs) (hC : cells ≤ C) (hN : slots ≤ N) : Gl p e below s P C N T (mkF m pc Ls (.int z :: S)) :=
  fin X (v := some (.int z')) (fun h => by rw [hret] at h; cases h) hlk (fun fs hr => by subst hz; exact RoadKit.retN X hx hret ht hd hr) hP hC hN
theorem retI (X : Stand p l e R s m args below meth c T locs cells slots) (hx : p.tables.exec = Jvm.exec) (hlk : meth.locks = false) {z : Int32} (hret : meth.sig.returnType = some .int)
    (hd : decode c.code pc = .ok (.ireturn, 1)) (hP : P (some (.int z)) T.heap locs) (hC : cells ≤ C) (hN : slots ≤ N) : Gl p e below s P C N T (mkF m pc Ls (.int z :: S)) :=
  fin X (v := some (.int z)) (fun h => by rw [hret] at h; cases h) hlk (fun fs hr => retOut X hx hret rfl (Or.inl ⟨rfl, Or.inl rfl, _, rfl⟩) hd hr) hP hC hN
theorem retL (X : Stand p l e R s m args below meth c T locs cells slots) (hx : p.tables.exec = Jvm.exec) (hlk : meth.locks = false) {z : Int64} (hret : meth.sig.returnType = some .long)
    (hd : decode c.code pc = .ok (.lreturn, 1)) (hP : P (some (.long z)) T.heap locs) (hC : cells ≤ C) (hN : slots ≤ N) : Gl p e below s P C N T (mkF m pc Ls (.long z :: S)) :=
  fin X (v := some (.long z)) (fun h => by rw [hret] at h; cases h) hlk (fun fs hr => retOut X hx hret rfl (Or.inr (Or.inl ⟨rfl, rfl, _, rfl⟩)) hd hr) hP hC hN
theorem retA (X : Stand p l e R s m args below meth c T locs cells slots) (hx : p.tables.exec = Jvm.exec) (hlk : meth.locks = false) {w : Value} {t : FieldType} (hret : meth.sig.returnType = some t) (ht : t.isReference = true) (hw : w.isRef = true) (hn : narrow t w = w)
    (hd : decode c.code pc = .ok (.areturn, 1)) (hP : P (some w) T.heap locs) (hC : cells ≤ C) (hN : slots ≤ N) : Gl p e below s P C N T (mkF m pc Ls (w :: S)) :=
  fin X (v := some w) (fun h => by rw [hret] at h; cases h) hlk (fun fs hr => retOut X hx hret hn (Or.inr (Or.inr (Or.inr (Or.inr ⟨rfl, ht, hw⟩)))) hd hr) hP hC hN
theorem ret0 (X : Stand p l e R s m args below meth c T locs cells slots) (hx : p.tables.exec = Jvm.exec) (hlk : meth.locks = false) (hret : meth.sig.returnType = none)
    (hd : decode c.code pc = .ok (.return_, 1)) (hP : P none T.heap locs) (hC : cells ≤ C) (hN : slots ≤ N) : Gl p e below s P C N T (mkF m pc Ls []) :=
  fin X (v := none) (fun _ => rfl) hlk (fun fs hr => X.returnOut hx hret hd hr) hP hC hN
/-! the branches -/
def cY : ClassFile.Cond → Int32 → Int32 → Prop
  | .eq, x, y => x = y
  | .ne, x, y => ¬ x = y
  | .lt, x, y => x < y
  | .ge, x, y => ¬ x < y
  | .gt, x, y => y < x
  | .le, x, y => ¬ y < x
def cN : ClassFile.Cond → Int32 → Int32 → Prop
  | .eq, x, y => ¬ x = y
  | .ne, x, y => x = y
  | .lt, x, y => ¬ x < y
  | .ge, x, y => x < y
  | .gt, x, y => ¬ y < x
  | .le, x, y => y < x
theorem cOr (cd : ClassFile.Cond) (x y : Int32) : (cY cd x y ∧ if_icmp.holds cd x y = true) ∨ (cN cd x y ∧ if_icmp.holds cd x y = false) := by
  cases cd with
  | eq => by_cases h : x = y; exact Or.inl ⟨h, (teq h).1⟩; exact Or.inr ⟨h, (feq h).1⟩
  | ne => by_cases h : x = y; exact Or.inr ⟨h, (teq h).2⟩; exact Or.inl ⟨h, (feq h).2⟩
  | lt => by_cases h : x < y; exact Or.inl ⟨h, (tlt h).1⟩; exact Or.inr ⟨h, (flt h).1⟩
  | ge => by_cases h : x < y; exact Or.inr ⟨h, (tlt h).2.1⟩; exact Or.inl ⟨h, (flt h).2.1⟩
  | gt => by_cases h : y < x; exact Or.inl ⟨h, (tlt h).2.2.1⟩; exact Or.inr ⟨h, (flt h).2.2.1⟩
  | le => by_cases h : y < x; exact Or.inr ⟨h, (tlt h).2.2.2⟩; exact Or.inl ⟨h, (flt h).2.2.2⟩
def lY : ClassFile.Cond → Int64 → Int64 → Prop
  | .eq, x, y => x = y
  | .ne, x, y => ¬ x = y
  | .lt, x, y => x < y
  | .ge, x, y => ¬ x < y
  | .gt, x, y => y < x
  | .le, x, y => ¬ y < x
def lN : ClassFile.Cond → Int64 → Int64 → Prop
  | .eq, x, y => ¬ x = y
  | .ne, x, y => x = y
  | .lt, x, y => ¬ x < y
  | .ge, x, y => x < y
  | .gt, x, y => ¬ y < x
  | .le, x, y => y < x
theorem lYc {cd : ClassFile.Cond} {x y : Int64} (h : cY cd (lcmpW x y) 0) : lY cd x y := by
  rw [lcW] at h
  cases cd with
  | eq => exact (lc_eq x y).mp h
  | ne => exact fun q => h ((lc_eq x y).mpr q)
  | lt => exact (lc_lt x y).mp h
  | ge => exact fun q => h ((lc_lt x y).mpr q)
  | gt => exact (lc_gt x y).mp h
  | le => exact fun q => h ((lc_gt x y).mpr q)
theorem lNc {cd : ClassFile.Cond} {x y : Int64} (h : cN cd (lcmpW x y) 0) : lN cd x y := by
  rw [lcW] at h
  cases cd with
  | eq => exact fun q => h ((lc_eq x y).mpr q)
  | ne => exact (lc_eq x y).mp h
  | lt => exact fun q => h ((lc_lt x y).mpr q)
  | ge => exact (lc_lt x y).mp h
  | gt => exact fun q => h ((lc_gt x y).mpr q)
  | le => exact (lc_gt x y).mp h
theorem icmp (X : Stand p l e R s m args below meth c T locs cells slots) (hx : p.tables.exec = Jvm.exec) {cd : ClassFile.Cond} {x y : Int32} {o : Int} (hd : decode c.code pc = .ok (.if_icmp cd o, 3)) (ho : 0 ≤ (pc : Int) + o) (hp : ((pc : Int) + o).toNat = pc') (hq : pc + 3 = pc'')
    (ky : cY cd x y → Gl p e below s P C N T (mkF m pc' Ls S)) (kn : cN cd x y → Gl p e below s P C N T (mkF m pc'' Ls S)) : Gl p e below s P C N T (mkF m pc Ls (.int y :: .int x :: S)) := by
  subst hq
  rcases cOr cd x y with ⟨h1, h2⟩ | ⟨h1, h2⟩
  · exact s1 _ (fun t k => XS.icmpYes X.here hx rfl (pc0 := pc) (pc' := pc') rfl hd rfl h2 ho hp k) (ky h1)
  · exact s1 _ (fun t k => XS.icmpNo X.here hx rfl hd rfl h2 k) (kn h1)
theorem ifc (X : Stand p l e R s m args below meth c T locs cells slots) (hx : p.tables.exec = Jvm.exec) {cd : ClassFile.Cond} {x : Int32} {o : Int} (hd : decode c.code pc = .ok (.ifCond cd o, 3)) (ho : 0 ≤ (pc : Int) + o) (hp : ((pc : Int) + o).toNat = pc') (hq : pc + 3 = pc'')
    (ky : cY cd x 0 → Gl p e below s P C N T (mkF m pc' Ls S)) (kn : cN cd x 0 → Gl p e below s P C N T (mkF m pc'' Ls S)) : Gl p e below s P C N T (mkF m pc Ls (.int x :: S)) := by
  subst hq
  rcases cOr cd x 0 with ⟨h1, h2⟩ | ⟨h1, h2⟩
  · exact s1 _ (fun t k => XS.ifYes X.here hx rfl (pc0 := pc) (pc' := pc') rfl hd rfl ((if0 _ _).trans h2) ho hp k) (ky h1)
  · exact s1 _ (fun t k => XS.ifNo X.here hx rfl hd rfl ((if0 _ _).trans h2) k) (kn h1)
theorem lif (X : Stand p l e R s m args below meth c T locs cells slots) (hx : p.tables.exec = Jvm.exec) {cd : ClassFile.Cond} {x y : Int64} {o : Int} (hd1 : decode c.code pc = .ok (.lcmp, 1)) {pc1 : Nat} (h1 : pc + 1 = pc1) (hd : decode c.code pc1 = .ok (.ifCond cd o, 3)) (ho : 0 ≤ (pc1 : Int) + o) (hp : ((pc1 : Int) + o).toNat = pc') (hq : pc1 + 3 = pc'')
    (ky : lY cd x y → Gl p e below s P C N T (mkF m pc' Ls S)) (kn : lN cd x y → Gl p e below s P C N T (mkF m pc'' Ls S)) : Gl p e below s P C N T (mkF m pc Ls (.long y :: .long x :: S)) := by
  subst h1
  exact s1 (mkF m (pc + 1) Ls (.int (lcmpW x y) :: S)) (fun t k => XS.lcmp X.here hx rfl hd1 rfl k) (ifc X hx hd ho hp hq (fun h => ky (lYc h)) (fun h => kn (lNc h)))
end Walk
/-! arrays of ints and of longs, by what each place holds -/
section Arrays
variable {Z : State} {h h' : Heap} {a b : Addr} {ty : FieldType} {n : Nat} {f : Nat → Int32} {q : Nat → Int64}
def up {α : Type} (f : Nat → α) (j : Nat) (v : α) : Nat → α := fun k => if k = j then v else f k
theorem up_same {α : Type} (f : Nat → α) (j : Nat) (v : α) : up f j v j = v := if_pos rfl
theorem up_other {α : Type} (f : Nat → α) {j k : Nat} (v : α) (h : ¬ k = j) : up f j v k = f k := if_neg h
def AI (Z : State) (h : Heap) (a : Addr) (ty : FieldType) (n : Nat) (f : Nat → Int32) : Prop := ∃ c : Cell, Arr Z h a c ty ∧ c.slots.size = n ∧ ∀ k, k < n → c.slots[k]? = some (.int (f k))
def AJ (Z : State) (h : Heap) (a : Addr) (n : Nat) (f : Nat → Int64) : Prop := ∃ c : Cell, Arr Z h a c .long ∧ c.slots.size = n ∧ ∀ k, k < n → c.slots[k]? = some (.long (f k))
theorem AI.lt (F : AI Z h a ty n f) : a < h.size := by obtain ⟨c, A, -⟩ := F; exact A.lt
theorem AJ.lt (F : AJ Z h a n q) : a < h.size := by obtain ⟨c, A, -⟩ := F; exact A.lt
theorem AI.ext (F : AI Z h a ty n f) (E : Ext h h') : AI Z h' a ty n f := by obtain ⟨c, A, r⟩ := F; exact ⟨c, A.ext E, r⟩
theorem AJ.ext (F : AJ Z h a n q) (E : Ext h h') : AJ Z h' a n q := by obtain ⟨c, A, r⟩ := F; exact ⟨c, A.ext E, r⟩
theorem AI.other {sl : Nat} {v : Value} (F : AI Z h b ty n f) (W : Wr h h' a sl v) (e : b ≠ a) : AI Z h' b ty n f := by obtain ⟨c, A, r⟩ := F; exact ⟨c, A.other W e, r⟩
theorem AJ.other {sl : Nat} {v : Value} (F : AJ Z h b n q) (W : Wr h h' a sl v) (e : b ≠ a) : AJ Z h' b n q := by obtain ⟨c, A, r⟩ := F; exact ⟨c, A.other W e, r⟩
theorem AI.keep {ws : List Addr} (F : AI Z h a ty n f) (K : Keep h h' ws) (e : a ∉ ws) : AI Z h' a ty n f := by obtain ⟨c, A, r⟩ := F; exact ⟨c, ⟨K.2.1 a c A.1 e, A.2⟩, r⟩
theorem AJ.keep {ws : List Addr} (F : AJ Z h a n q) (K : Keep h h' ws) (e : a ∉ ws) : AJ Z h' a n q := by obtain ⟨c, A, r⟩ := F; exact ⟨c, ⟨K.2.1 a c A.1 e, A.2⟩, r⟩
theorem slots_set {c : Cell} {j k : Nat} {v : Value} (hj : j < c.slots.size) : (c.setSlot j v).slots[k]? = if k = j then some v else c.slots[k]? := by
  by_cases e : k = j
  · subst e; simp [Cell.setSlot, hj]
  · simp only [Cell.setSlot, if_neg e]; exact Array.getElem?_setIfInBounds_ne (Ne.symm e)
theorem AI.set {j : Nat} {v : Int32} (F : AI Z h a ty n f) (W : Wr h h' a j (.int v)) (hj : j < n) : AI Z h' a ty n (up f j v) := by
  obtain ⟨c, A, r1, r2⟩ := F
  refine ⟨_, A.same W, by rw [sz_set]; exact r1, fun k hk => ?_⟩
  rw [slots_set (by omega)]
  by_cases e : k = j
  · rw [if_pos e, e, up_same]
  · rw [if_neg e, up_other _ _ e]; exact r2 k hk
theorem AJ.set {j : Nat} {v : Int64} (F : AJ Z h a n q) (W : Wr h h' a j (.long v)) (hj : j < n) : AJ Z h' a n (up q j v) := by
  obtain ⟨c, A, r1, r2⟩ := F
  refine ⟨_, A.same W, by rw [sz_set]; exact r1, fun k hk => ?_⟩
  rw [slots_set (by omega)]
  by_cases e : k = j
  · rw [if_pos e, e, up_same]
  · rw [if_neg e, up_other _ _ e]; exact r2 k hk
theorem clamp {z : Int32} (hz : z.toInt = n) : z.toNatClampNeg = n := by simp only [Int32.toNatClampNeg]; omega
theorem AI.new {k : ClassId} {z : Int32} (A : Arr Z h a (newA k ty z) ty) (hz : z.toInt = n) (hd : defaultValue ty = .int 0) : AI Z h a ty n (fun _ => 0) :=
  ⟨_, A, by rw [sz_new]; exact clamp hz, fun i hi => by rw [← clamp hz] at hi; simp [newA, hi, hd]⟩
theorem AJ.new {k : ClassId} {z : Int32} (A : Arr Z h a (newA k .long z) .long) (hz : z.toInt = n) : AJ Z h a n (fun _ => 0) :=
  ⟨_, A, by rw [sz_new]; exact clamp hz, fun i hi => by rw [← clamp hz] at hi; simp [newA, hi, defaultValue]⟩
theorem AI.congr {f' : Nat → Int32} (F : AI Z h a ty n f) (e : ∀ k, k < n → f' k = f k) : AI Z h a ty n f' := by obtain ⟨c, A, r1, r2⟩ := F; exact ⟨c, A, r1, fun k hk => by rw [e k hk]; exact r2 k hk⟩
theorem AJ.congr {f' : Nat → Int64} (F : AJ Z h a n q) (e : ∀ k, k < n → f' k = q k) : AJ Z h a n f' := by obtain ⟨c, A, r1, r2⟩ := F; exact ⟨c, A, r1, fun k hk => by rw [e k hk]; exact r2 k hk⟩
theorem inb {j : Int32} {k sz : Nat} (hj : j.toInt = k) (hk : k < sz) : ¬ (j < 0 ∨ sz ≤ j.toNatClampNeg) := by
  rw [clamp hj, Int32.lt_iff_toInt_lt, hj, show (0 : Int32).toInt = 0 from rfl]; omega
theorem szI {z : Int32} (hz : z.toInt = n) : Nat.toInt32 n = z := by
  rw [← Int32.toInt_inj, len_toInt (by have := z.toInt_lt; omega), hz]
end Arrays
section Steps
variable {p : Program} {l : Launch} {e : Env} {R : Room} {s : State} {m : MethodId} {args : Array Value} {below : List Frame} {meth : Method} {c : Code} {T T' : State} {locs : List Loc} {cells slots : Nat} {P : Option Value → Heap → List Loc → Prop} {C N : Nat} {Ls : Array Slot} {S : List Value} {pc pc' : Nat} {Z : State} {h : Heap} {a : Addr} {n n0 : Nat} {f : Nat → Int32} {q : Nat → Int64} {a0 : Array Value} {ty : FieldType}
theorem getf (X : Stand p l e R s m args below meth c T locs cells slots) (hx : p.tables.exec = Jvm.exec) (hZ : Z.Warmed39 s.vm) {own R0 O n d host : String} {index : Nat} (hown : s.vm.findClass own = some m.cls) (w : (Cond.fieldLink own index R0 n d).before a0 Z = true ∨ (Cond.fieldLinkNest own index R0 n d host).before a0 Z = true) (via : Via Z R0 O n d)
    (eT : T.heap = h) {v : Value} (F : Fld Z h a O n d v) (hd : decode c.code pc = .ok (.getfield index, 3)) (hq : pc + 3 = pc') (K : ∀ T', Stand p l e R s m args below meth c T' locs cells slots → T'.heap = h → Gl p e below s P C N T' (mkF m pc' Ls (v :: S))) : Gl p e below s P C N T (mkF m pc Ls (.ref a :: S)) := by
  subst hq
  obtain ⟨T', X', e', st⟩ := getF X hx hZ hown w via eT F (g := mkF m pc Ls (.ref a :: S)) rfl rfl hd
  exact s2 _ st (K T' X' e')
theorem gets (X : Stand p l e R s m args below meth c T locs cells slots) (hx : p.tables.exec = Jvm.exec) (hZ : Z.Warmed39 s.vm) {own R0 O n d host : String} {index : Nat} (hown : s.vm.findClass own = some m.cls) (w : (Cond.fieldLink own index R0 n d).before a0 Z = true ∨ (Cond.fieldLinkNest own index R0 n d host).before a0 Z = true) (via : Via Z R0 O n d)
    (eT : T.heap = h) {v : Value} (F : Sta Z h O n d v) (hd : decode c.code pc = .ok (.getstatic index, 3)) (hq : pc + 3 = pc') (K : ∀ T', Stand p l e R s m args below meth c T' locs cells slots → T'.heap = h → Gl p e below s P C N T' (mkF m pc' Ls (v :: S))) : Gl p e below s P C N T (mkF m pc Ls S) := by
  subst hq
  obtain ⟨T', X', e', st⟩ := getS2 X hx hZ hown w via eT F (g := mkF m pc Ls S) rfl hd
  exact s2 _ st (K T' X' e')
theorem putf (X : Stand p l e R s m args below meth c T locs cells slots) (hx : p.tables.exec = Jvm.exec) (hZ : Z.Warmed39 s.vm) {own R0 O n d host Cl : String} {index kk : Nat} (hown : s.vm.findClass own = some m.cls) (w : (Cond.fieldLink own index R0 n d).before a0 Z = true ∨ (Cond.fieldLinkNest own index R0 n d host).before a0 Z = true) (via : Via Z R0 O n d)
    (eT : T.heap = h) {v old : Value} (F : Fld Z h a O n d old) (E : Exa Z h a Cl) (L : (Cond.lays Cl O n d).before a0 Z = true ∨ ((Cond.laysFinal Cl O n d).before a0 Z = true ∧ own = O ∧ meth.name = "<init>")) (wi : (Cond.instantiable Cl kk).before a0 Z = true)
    (hty : parseFieldDescriptor d = some ty) (hn : narrow ty v = v) (hf : fits ty v = true) (N0 : Fr n0 locs) (ga : n0 ≤ a) (hd : decode c.code pc = .ok (.putfield index, 3)) (hq : pc + 3 = pc')
    (K : ∀ T' h' L', Stand p l e R s m args below meth c T' L' cells slots → T'.heap = h' → Wr h h' a (RoadKit.slotOf Z O n d) v → Fld Z h' a O n d v → Fr n0 L' → Gl p e below s P C N T' (mkF m pc' Ls S)) : Gl p e below s P C N T (mkF m pc Ls (v :: .ref a :: S)) := by
  subst hq
  obtain ⟨T', h', X', e', W, st⟩ := putF X hx hZ hown w via eT F E L wi hty hn hf (g := mkF m pc Ls (v :: .ref a :: S)) rfl rfl hd
  exact s2 _ st (K T' h' _ X' e' W (F.same W) (Fr.snoc X' N0 ga))
theorem newo (X : Stand p l e R s m args below meth c T locs cells slots) (hx : p.tables.exec = Jvm.exec) (hZ : Z.Warmed39 s.vm) {own Cl : String} {index n : Nat} (hown : s.vm.findClass own = some m.cls) (w : (Cond.classLink own index Cl).before a0 Z = true) (wi : (Cond.instantiable Cl n).before a0 Z = true) (wz : (Cond.initialized Cl).before a0 Z = true) (eT : T.heap = h)
    (hd : decode c.code pc = .ok (.new index, 3)) (hc : cells + 1 ≤ R.cells) (hl : slots + n ≤ R.slots) (hq : pc + 3 = pc')
    (K : ∀ T' h' a, Stand p l e R s m args below meth c T' locs (cells + 1) (slots + n) → T'.heap = h' → Ext h h' → a = h.size → Exa Z h' a Cl → (∀ {O nm d : String} {ty : FieldType}, Laid Z a0 Cl O nm d → parseFieldDescriptor d = some ty → Fld Z h' a O nm d (defaultValue ty)) → Gl p e below s P C N T' (mkF m pc' Ls (.ref a :: S))) : Gl p e below s P C N T (mkF m pc Ls S) := by
  subst hq
  obtain ⟨T', h', X', e', E, A, D, -, st⟩ := newO X hx hZ hown w wi wz eT (g := mkF m pc Ls S) rfl hd hc hl
  exact s2 _ st (K T' h' _ X' e' E rfl A D)
theorem newi (X : Stand p l e R s m args below meth c T locs cells slots) (hx : p.tables.exec = Jvm.exec) (hZ : Z.Warmed39 s.vm) {aty : ArrayType} (w : (Cond.arrayClass ty).before a0 Z = true) (hty : newarray.typeOf aty = ty) (hdv : defaultValue ty = .int 0) (eT : T.heap = h) {z : Int32} (hd : decode c.code pc = .ok (.newarray aty, 2)) (hz : z.toInt = n) {cap : Nat} (hcap : n ≤ cap) (hb : cap * 8 ≤ 536870912) (hc : cells + 1 ≤ R.cells) (hl : slots + cap ≤ R.slots) (hq : pc + 2 = pc')
    (K : ∀ T' h' a, Stand p l e R s m args below meth c T' locs (cells + 1) (slots + cap) → T'.heap = h' → Ext h h' → a = h.size → AI Z h' a ty n (fun _ => 0) → Gl p e below s P C N T' (mkF m pc' Ls (.ref a :: S))) : Gl p e below s P C N T (mkF m pc Ls (.int z :: S)) := by
  subst hq hty
  obtain ⟨T', h', k, X', e', E, A, st⟩ := newP X hx hZ w eT (g := mkF m pc Ls (.int z :: S)) rfl hd rfl (by rw [Int32.lt_iff_toInt_lt, hz, show (0 : Int32).toInt = 0 from rfl]; omega) (cap := cap) (by rw [clamp hz]; exact hcap) hb hc hl
  exact s2 _ st (K T' h' _ X' e' E rfl (AI.new A hz hdv))
theorem newj (X : Stand p l e R s m args below meth c T locs cells slots) (hx : p.tables.exec = Jvm.exec) (hZ : Z.Warmed39 s.vm) (w : (Cond.arrayClass .long).before a0 Z = true) (eT : T.heap = h) {z : Int32} (hd : decode c.code pc = .ok (.newarray .long, 2)) (hz : z.toInt = n) {cap : Nat} (hcap : n ≤ cap) (hb : cap * 8 ≤ 536870912) (hc : cells + 1 ≤ R.cells) (hl : slots + cap ≤ R.slots) (hq : pc + 2 = pc')
    (K : ∀ T' h' a, Stand p l e R s m args below meth c T' locs (cells + 1) (slots + cap) → T'.heap = h' → Ext h h' → a = h.size → AJ Z h' a n (fun _ => 0) → Gl p e below s P C N T' (mkF m pc' Ls (.ref a :: S))) : Gl p e below s P C N T (mkF m pc Ls (.int z :: S)) := by
  subst hq
  obtain ⟨T', h', k, X', e', E, A, st⟩ := newP X hx hZ (aty := .long) w eT (g := mkF m pc Ls (.int z :: S)) rfl hd rfl (by rw [Int32.lt_iff_toInt_lt, hz, show (0 : Int32).toInt = 0 from rfl]; omega) (cap := cap) (by rw [clamp hz]; exact hcap) hb hc hl
  exact s2 _ st (K T' h' _ X' e' E rfl (AJ.new A hz))
theorem ldi (X : Stand p l e R s m args below meth c T locs cells slots) (hx : p.tables.exec = Jvm.exec) (hZ : Z.Warmed39 s.vm) (eT : T.heap = h) (F : AI Z h a .int n f) {j : Int32} (k : Nat) (hj : j.toInt = k) (hk : k < n) (hd : decode c.code pc = .ok (.iaload, 1)) (hq : pc + 1 = pc')
    (K : Gl p e below s P C N T (mkF m pc' Ls (.int (f k) :: S))) : Gl p e below s P C N T (mkF m pc Ls (.int j :: .ref a :: S)) := by
  subst hq
  obtain ⟨cl, A, r1, r2⟩ := F
  exact s1 _ (fun t q => X.iaload hx (v := .int (f k)) (by rw [eT]; exact A.1) (State.isArrayOf_alike hZ.alike A.2.1) A.2.2 (inb hj (by omega)) (by rw [clamp hj]; exact r2 k hk) (g := mkF m pc Ls (.int j :: .ref a :: S)) rfl rfl hd t q) K
theorem ldz (X : Stand p l e R s m args below meth c T locs cells slots) (hx : p.tables.exec = Jvm.exec) (hZ : Z.Warmed39 s.vm) (eT : T.heap = h) (F : AI Z h a .boolean n f) {j : Int32} (k : Nat) (hj : j.toInt = k) (hk : k < n) (hd : decode c.code pc = .ok (.baload, 1)) (hq : pc + 1 = pc')
    (K : Gl p e below s P C N T (mkF m pc' Ls (.int (f k) :: S))) : Gl p e below s P C N T (mkF m pc Ls (.int j :: .ref a :: S)) := by
  subst hq
  obtain ⟨cl, A, r1, r2⟩ := F
  exact s1 _ (fun t q => X.baloadBooleans hx (v := .int (f k)) (by rw [eT]; exact A.1) (State.isArrayOf_alike hZ.alike A.2.1) A.2.2 (inb hj (by omega)) (by rw [clamp hj]; exact r2 k hk) (g := mkF m pc Ls (.int j :: .ref a :: S)) rfl rfl hd t q) K
theorem ldb (X : Stand p l e R s m args below meth c T locs cells slots) (hx : p.tables.exec = Jvm.exec) (hZ : Z.Warmed39 s.vm) (eT : T.heap = h) (F : AI Z h a .byte n f) {j : Int32} (k : Nat) (hj : j.toInt = k) (hk : k < n) (hd : decode c.code pc = .ok (.baload, 1)) (hq : pc + 1 = pc')
    (K : Gl p e below s P C N T (mkF m pc' Ls (.int (f k) :: S))) : Gl p e below s P C N T (mkF m pc Ls (.int j :: .ref a :: S)) := by
  subst hq
  obtain ⟨cl, A, r1, r2⟩ := F
  exact s1 _ (fun t q => X.baloadBytes hx (v := .int (f k)) (by rw [eT]; exact A.1) (State.isArrayOf_alike hZ.alike A.2.1) A.2.2 (inb hj (by omega)) (by rw [clamp hj]; exact r2 k hk) (g := mkF m pc Ls (.int j :: .ref a :: S)) rfl rfl hd t q) K
theorem ldj (X : Stand p l e R s m args below meth c T locs cells slots) (hx : p.tables.exec = Jvm.exec) (hZ : Z.Warmed39 s.vm) (eT : T.heap = h) (F : AJ Z h a n q) {j : Int32} (k : Nat) (hj : j.toInt = k) (hk : k < n) (hd : decode c.code pc = .ok (.laload, 1)) (hq : pc + 1 = pc')
    (K : Gl p e below s P C N T (mkF m pc' Ls (.long (q k) :: S))) : Gl p e below s P C N T (mkF m pc Ls (.int j :: .ref a :: S)) := by
  subst hq
  obtain ⟨cl, A, r1, r2⟩ := F
  exact s1 _ (fun t u => X.laload hx (v := .long (q k)) (by rw [eT]; exact A.1) (State.isArrayOf_alike hZ.alike A.2.1) A.2.2 (inb hj (by omega)) (by rw [clamp hj]; exact r2 k hk) (g := mkF m pc Ls (.int j :: .ref a :: S)) rfl rfl hd t u) K
theorem alen (X : Stand p l e R s m args below meth c T locs cells slots) (hx : p.tables.exec = Jvm.exec) (hZ : Z.Warmed39 s.vm) (eT : T.heap = h) (F : AI Z h a ty n f) {z : Int32} (hz : z.toInt = n) (hd : decode c.code pc = .ok (.arraylength, 1)) (hq : pc + 1 = pc')
    (K : Gl p e below s P C N T (mkF m pc' Ls (.int z :: S))) : Gl p e below s P C N T (mkF m pc Ls (.ref a :: S)) := by
  subst hq
  obtain ⟨cl, A, r1, r2⟩ := F
  exact s1 _ (fun t u => X.arraylength hx (by rw [eT]; exact A.1) (State.isArrayOf_alike hZ.alike A.2.1) (g := mkF m pc Ls (.ref a :: S)) rfl rfl hd t (by rw [r1, szI hz]; exact u)) K
theorem alenJ (X : Stand p l e R s m args below meth c T locs cells slots) (hx : p.tables.exec = Jvm.exec) (hZ : Z.Warmed39 s.vm) (eT : T.heap = h) (F : AJ Z h a n q) {z : Int32} (hz : z.toInt = n) (hd : decode c.code pc = .ok (.arraylength, 1)) (hq : pc + 1 = pc')
    (K : Gl p e below s P C N T (mkF m pc' Ls (.int z :: S))) : Gl p e below s P C N T (mkF m pc Ls (.ref a :: S)) := by
  subst hq
  obtain ⟨cl, A, r1, r2⟩ := F
  exact s1 _ (fun t u => X.arraylength hx (by rw [eT]; exact A.1) (State.isArrayOf_alike hZ.alike A.2.1) (g := mkF m pc Ls (.ref a :: S)) rfl rfl hd t (by rw [r1, szI hz]; exact u)) K
theorem sti (X : Stand p l e R s m args below meth c T locs cells slots) (hx : p.tables.exec = Jvm.exec) (hZ : Z.Warmed39 s.vm) (eT : T.heap = h) (F : AI Z h a .int n f) {j x : Int32} (k : Nat) (hj : j.toInt = k) (hk : k < n) (N0 : Fr n0 locs) (ga : n0 ≤ a) (hd : decode c.code pc = .ok (.iastore, 1)) (hq : pc + 1 = pc')
    (K : ∀ T' h' L', Stand p l e R s m args below meth c T' L' cells slots → T'.heap = h' → Wr h h' a k (.int x) → AI Z h' a .int n (up f k x) → Fr n0 L' → Gl p e below s P C N T' (mkF m pc' Ls S)) : Gl p e below s P C N T (mkF m pc Ls (.int x :: .int j :: .ref a :: S)) := by
  subst hq
  obtain ⟨cl, A, r1, r2⟩ := F
  obtain ⟨T', h', X', e', W, st⟩ := stI X hx hZ eT A (inb hj (by omega)) (g := mkF m pc Ls (.int x :: .int j :: .ref a :: S)) rfl rfl hd
  have N1 := Fr.snoc X' N0 ga
  rw [clamp hj] at W
  exact s2 _ st (K T' h' _ X' e' W (AI.set ⟨cl, A, r1, r2⟩ W hk) N1)
theorem stz (X : Stand p l e R s m args below meth c T locs cells slots) (hx : p.tables.exec = Jvm.exec) (hZ : Z.Warmed39 s.vm) (eT : T.heap = h) (F : AI Z h a .boolean n f) {j x x' : Int32} (hn : nar .boolean x = x') (k : Nat) (hj : j.toInt = k) (hk : k < n) (N0 : Fr n0 locs) (ga : n0 ≤ a) (hd : decode c.code pc = .ok (.bastore, 1)) (hq : pc + 1 = pc')
    (K : ∀ T' h' L', Stand p l e R s m args below meth c T' L' cells slots → T'.heap = h' → Wr h h' a k (.int x') → AI Z h' a .boolean n (up f k x') → Fr n0 L' → Gl p e below s P C N T' (mkF m pc' Ls S)) : Gl p e below s P C N T (mkF m pc Ls (.int x :: .int j :: .ref a :: S)) := by
  subst hq hn
  obtain ⟨cl, A, r1, r2⟩ := F
  obtain ⟨T', h', X', e', W, st⟩ := stZ X hx hZ eT A (inb hj (by omega)) (g := mkF m pc Ls (.int x :: .int j :: .ref a :: S)) rfl rfl hd
  have N1 := Fr.snoc X' N0 ga
  rw [clamp hj] at W
  exact s2 _ st (K T' h' _ X' e' W (AI.set ⟨cl, A, r1, r2⟩ W hk) N1)
theorem stb (X : Stand p l e R s m args below meth c T locs cells slots) (hx : p.tables.exec = Jvm.exec) (hZ : Z.Warmed39 s.vm) (eT : T.heap = h) (F : AI Z h a .byte n f) {j x x' : Int32} (hn : nar .byte x = x') (k : Nat) (hj : j.toInt = k) (hk : k < n) (N0 : Fr n0 locs) (ga : n0 ≤ a) (hd : decode c.code pc = .ok (.bastore, 1)) (hq : pc + 1 = pc')
    (K : ∀ T' h' L', Stand p l e R s m args below meth c T' L' cells slots → T'.heap = h' → Wr h h' a k (.int x') → AI Z h' a .byte n (up f k x') → Fr n0 L' → Gl p e below s P C N T' (mkF m pc' Ls S)) : Gl p e below s P C N T (mkF m pc Ls (.int x :: .int j :: .ref a :: S)) := by
  subst hq hn
  obtain ⟨cl, A, r1, r2⟩ := F
  obtain ⟨T', h', X', e', W, st⟩ := stB X hx hZ eT A (inb hj (by omega)) (g := mkF m pc Ls (.int x :: .int j :: .ref a :: S)) rfl rfl hd
  have N1 := Fr.snoc X' N0 ga
  rw [clamp hj] at W
  exact s2 _ st (K T' h' _ X' e' W (AI.set ⟨cl, A, r1, r2⟩ W hk) N1)
theorem stj (X : Stand p l e R s m args below meth c T locs cells slots) (hx : p.tables.exec = Jvm.exec) (hZ : Z.Warmed39 s.vm) (eT : T.heap = h) (F : AJ Z h a n q) {j : Int32} {x : Int64} (k : Nat) (hj : j.toInt = k) (hk : k < n) (N0 : Fr n0 locs) (ga : n0 ≤ a) (hd : decode c.code pc = .ok (.lastore, 1)) (hq : pc + 1 = pc')
    (K : ∀ T' h' L', Stand p l e R s m args below meth c T' L' cells slots → T'.heap = h' → Wr h h' a k (.long x) → AJ Z h' a n (up q k x) → Fr n0 L' → Gl p e below s P C N T' (mkF m pc' Ls S)) : Gl p e below s P C N T (mkF m pc Ls (.long x :: .int j :: .ref a :: S)) := by
  subst hq
  obtain ⟨cl, A, r1, r2⟩ := F
  obtain ⟨T', h', X', e', W, st⟩ := stJ X hx hZ eT A (inb hj (by omega)) (g := mkF m pc Ls (.long x :: .int j :: .ref a :: S)) rfl rfl hd
  have N1 := Fr.snoc X' N0 ga
  rw [clamp hj] at W
  exact s2 _ st (K T' h' _ X' e' W (AJ.set ⟨cl, A, r1, r2⟩ W hk) N1)
end Steps
end Jvm.Pilot.@@N@@.W
namespace Jvm.Pilot.@@N@@
open Jvm Jvm.ClassFile Sem Op Lib Jvm.Free Jvm.Stand Jvm.LawKit Jvm.RoadKit Bundle Jvm.Pilot.@@N@@.Jvm.D
def own_X (w : Int64) (low : Int32) : Int64 := w &&& ((1 : Int64) <<< (low &&& 0x3f).toInt64)
def own_Y (w : Int64) (k : Int32) : Int64 := ((w.toUInt64 >>> (k &&& 0x3f).toInt64.toUInt64).toInt64) &&& (1 : Int64)
theorem own_k (k : Int32) : ∃ j : Nat, j < 64 ∧ (k &&& 0x3f) = Int32.ofNat j := by
  have h := c_mask k 0x3f 6 (by decide) rfl
  refine ⟨(k &&& 0x3f).toInt.toNat, by omega, ?_⟩
  rw [← Int32.toInt_inj, Int32.toInt_ofNat_small (by omega)]; omega
theorem own_shl (j : Nat) (hj : j < 64) : ((1 : Int64) <<< (Int32.ofNat j).toInt64).toBitVec = BitVec.twoPow 64 j := by
  have : ∀ i : Fin 64, ((1 : Int64) <<< (Int32.ofNat i.1).toInt64).toBitVec = BitVec.twoPow 64 i.1 := by decide +kernel
  exact this ⟨j, hj⟩
theorem own_shr (w : Int64) (j : Nat) (hj : j < 64) : ((w.toUInt64 >>> (Int32.ofNat j).toInt64.toUInt64).toInt64).toBitVec = w.toBitVec >>> j := by
  have e : ∀ i : Fin 64, ((Int32.ofNat i.1).toInt64.toUInt64 % 64).toBitVec.toNat = i.1 := by decide +kernel
  have e1 := e ⟨j, hj⟩
  show w.toBitVec >>> ((Int32.ofNat j).toInt64.toUInt64 % 64).toBitVec.toNat = _
  rw [e1]
theorem own_bit (w : Int64) {low k : Int32} (h : (low &&& 0x3f) = (k &&& 0x3f)) : own_X w low = 0 ↔ own_Y w k = 0 := by
  unfold own_X own_Y
  obtain ⟨j, hj, e⟩ := own_k k
  rw [h, e, ← Int64.toBitVec_inj, ← Int64.toBitVec_inj, Int64.toBitVec_and, Int64.toBitVec_and, own_shl j hj, own_shr w j hj]
  rw [BitVec.and_twoPow, show (1 : Int64).toBitVec = 1#64 from rfl, show (0 : Int64).toBitVec = 0#64 from rfl, BitVec.and_one_eq_setWidth_ofBool_getLsbD, BitVec.getLsbD_ushiftRight, Nat.add_zero]
  cases hb : w.toBitVec.getLsbD j
  · simp
  · simp only [if_true]
    constructor
    · intro q
      have := congrArg (fun z => BitVec.getLsbD z j) q
      simp [BitVec.getLsbD_twoPow, hj] at this
    · intro q; exact absurd q (by decide)
theorem own_zero (low : Int32) : own_X 0 low = 0 := by unfold own_X; exact Int64.zero_and
theorem own_m10 (x : Int32) : ∃ k : Nat, (x &&& (1023 : Int32)).toInt = k ∧ k < 1024 := by
  have := c_mask x 1023 10 (by decide) rfl
  exact ⟨((x &&& (1023 : Int32)).toInt).toNat, by omega, by omega⟩
theorem own_low {wi bi b low : Int32} {k : Nat} (hk : wi.toInt = k) (hl : k < 1024) (hb : (b &&& (63 : Int32)) = bi) (h : ((wi <<< ((6 : Int32) &&& 31)) ||| bi) = low) :
    ((low.toUInt32 >>> ((6 : Int32) &&& 31).toUInt32).toInt32).toInt = k ∧ (low &&& 0x3f) = (bi &&& 0x3f) := by
  have a0 := c_mask b 63 6 (by decide) rfl
  rw [hb] at a0
  have a1 := c_ishl wi 6 6 rfl
  have b1 := rng32 (wi <<< ((6 : Int32) &&& 31))
  have a2 : (wi <<< ((6 : Int32) &&& 31)).toInt = wi.toInt * 64 := by omega
  have a3 := c_or (wi <<< ((6 : Int32) &&& 31)) bi 6 (by decide) 64 rfl (by omega) (by omega) (by omega)
  rw [h] at a3
  have b2 := rng32 low
  have a4 : low.toInt = wi.toInt * 64 + bi.toInt := by omega
  refine ⟨?_, ?_⟩
  · rw [c_iushr low 6 6 rfl (by decide)]; omega
  · rw [← Int32.toInt_inj, c_mask low 0x3f 6 (by decide) rfl, c_mask bi 0x3f 6 (by decide) rfl]; omega
theorem own_low2 {cc low w2 b2 : Int32} (h : (cc &&& (65535 : Int32)) = low) (hw : (low.toUInt32 >>> ((6 : Int32) &&& 31).toUInt32).toInt32 = w2) (hb : (low &&& (63 : Int32)) = b2) :
    ∃ k : Nat, k < 1024 ∧ w2.toInt = k ∧ ((low.toUInt32 >>> ((6 : Int32) &&& 31).toUInt32).toInt32).toInt = k ∧ (low &&& 0x3f) = (b2 &&& 0x3f) := by
  have a0 := c_mask cc 65535 16 (by decide) rfl
  rw [h] at a0
  have a1 := c_iushr low 6 6 rfl (by decide)
  have a2 := c_mask low 63 6 (by decide) rfl
  rw [hb] at a2
  rw [hw] at a1 ⊢
  refine ⟨w2.toInt.toNat, by omega, by omega, by omega, ?_⟩
  rw [← Int32.toInt_inj, c_mask low 0x3f 6 (by decide) rfl, c_mask b2 0x3f 6 (by decide) rfl]; omega
theorem pn_0 : plainName "com/example/bitpress/bitpress/DocBlock" = true := by first | (simp [plainName, overriddenIn]; done) | decide +kernel
theorem ef_2 (m : MethodId) (x0 : Addr) : entryFrame m #[(.ref x0)] 1 = mkF m 0 #[.val (.ref x0)] [] := by first | (simp [entryFrame, mkF, argsToLocals, Value.category]; done) | rfl
theorem d2_0 : decode prog_8_method_1_code 0 = .ok (.aload_n 0, 1) := by decide +kernel
theorem d2_1 : decode prog_8_method_1_code 1 = .ok (.invokespecial 3, 3) := by decide +kernel
theorem d2_4 : decode prog_8_method_1_code 4 = .ok (.return_, 1) := by decide +kernel
def Q2 (Z : State) (ao : Addr) (h0 : Heap) (n0 : Nat) (v : Option Value) (h : Heap) (L : List Loc) : Prop := v = none ∧ Fr n0 L ∧ h = h0
set_option maxRecDepth 65536 in
set_option maxHeartbeats 40000000 in
theorem rm2 (l : Launch) (Z : State) (a0 : Array Value) (hw : ∀ d ∈ tables_1, d.before a0 Z = true) (ws : List Jvm.Cond) (ao : Addr) (h0 : Heap) (n0 : Nat) (Z0 : n0 ≤ h0.size) :
    MetFree l (⟨"com/example/bitpress/bitpress/DocBlock", "<init>", "()V"⟩ : MethodName) (head1 (Jvm.Cond.code (⟨"com/example/bitpress/bitpress/DocBlock", "<init>", "()V"⟩ : MethodName) prog_8_method_1_code 1 none :: ws) ({ frames := 1, cells := 0, slots := 0, locals := 12 } : Room)) (fun a U => a = #[(.ref ao)] ∧ Z.Warmed39 U.vm ∧ U.heap = h0) (fun _ _ _ _ _ => True) (fun _ U o U' => ∃ v L, o = .returned v ∧ Q2 Z ao h0 n0 v U'.heap L ∧ FrameEnd U o U' L ({ frames := 1, cells := 0, slots := 0, locals := 12 } : Room).cells ({ frames := 1, cells := 0, slots := 0, locals := 12 } : Room).slots) := by
  refine MetFree.of_bodySF (plainFor_of_name pn_0) hisR ?_
  intro p e s m args below meth c s₁ Bd hml0 hP hK
  obtain ⟨rfl, hZ, hh⟩ := hP
  have hx := Bd.exec
  have hby := Bd.bytes
  have hml : c.maxLocals = 1 := hml0
  have hown : s.vm.findClass "com/example/bitpress/bitpress/DocBlock" = some m.cls := findClass_of_methodNamed Bd.named
  have hnm := (name_of_methodNamed Bd.named Bd.method).1
  have hlk : meth.locks = false := BodyLoose.notSynchronized Bd
  have X0 : Stand p l e ({ frames := 1, cells := 0, slots := 0, locals := 12 } : Room) s m #[(.ref ao)] below meth c s₁ [] 0 0 := Stand.of_body Bd
  have e0 : s₁.heap = h0 := by rw [← hh, Bd.state]; rfl
  have N0 := Fr.nil n0
  show W.Gl p e below s (Q2 Z ao h0 n0) ({ frames := 1, cells := 0, slots := 0, locals := 12 } : Room).cells ({ frames := 1, cells := 0, slots := 0, locals := 12 } : Room).slots s₁ (entryFrame m #[(.ref ao)] 1)
  refine W.cast (ef_2 m ao) ?_
  refine W.s1 (mkF m 1 #[.val (.ref ao)] [(.ref ao)]) (fun _ kx_ => XS.aloadN X0.here hx rfl (hb hby d2_0) rfl rfl kx_) ?_
  obtain ⟨T101, X101, e101, st101⟩ := initO X0 hx hZ hown (hw _ (List.mem_of_getElem? (i := 12) rfl)) (hw _ (List.mem_of_getElem? (i := 13) rfl)) (hw _ (List.mem_of_getElem? (i := 14) rfl)) e0 (g := (mkF m 1 #[.val (.ref ao)] [(.ref ao)])) rfl (by rw [hml]; rfl) rfl (hb hby d2_1) (by decide) (W := 0) (by show 2 * 0 + _ ≤ _; exact Nat.le_of_eq rfl) (by decide)
  refine W.s2 (mkF m 4 #[.val (.ref ao)] []) st101 ?_
  exact W.ret0 X101 hx hlk Bd.returns (hb hby d2_4) (by show Q2 Z ao h0 n0 _ T101.heap _; rw [e101]; exact ⟨rfl, N0, rfl⟩) (by decide) (by decide)
theorem pn_1 : plainName "com/example/bitpress/bitpress/DocBlock$BitsetBlock" = true := by first | (simp [plainName, overriddenIn]; done) | decide +kernel
theorem ef_1 (m : MethodId) (x0 : Addr) (x1 : Addr) : entryFrame m #[(.ref x0), (.ref x1)] 2 = mkF m 0 #[.val (.ref x0), .val (.ref x1)] [] := by first | (simp [entryFrame, mkF, argsToLocals, Value.category]; done) | rfl
theorem d1_0 : decode prog_11_method_1_code 0 = .ok (.aload_n 0, 1) := by decide +kernel
theorem d1_1 : decode prog_11_method_1_code 1 = .ok (.invokespecial 1, 3) := by decide +kernel
theorem pd_0 : parseMethodDescriptor "()V" = some ⟨[], none⟩ := by decide +kernel
theorem d1_4 : decode prog_11_method_1_code 4 = .ok (.aload_n 0, 1) := by decide +kernel
theorem d1_5 : decode prog_11_method_1_code 5 = .ok (.aload_n 1, 1) := by decide +kernel
theorem d1_6 : decode prog_11_method_1_code 6 = .ok (.putfield 7, 3) := by decide +kernel
theorem d1_9 : decode prog_11_method_1_code 9 = .ok (.return_, 1) := by decide +kernel
def Q1 (Z : State) (ao : Addr) (aw : Addr) (uo : Value) (h0 : Heap) (n0 : Nat) (v : Option Value) (h : Heap) (L : List Loc) : Prop := v = none ∧ Fr n0 L ∧ Keep h0 h [ao] ∧ Fld Z h ao "com/example/bitpress/bitpress/DocBlock$BitsetBlock" "words" "[J" (.ref aw)
set_option maxRecDepth 65536 in
set_option maxHeartbeats 40000000 in
theorem rm1 (l : Launch) (Z : State) (a0 : Array Value) (hw : ∀ d ∈ tables_1, d.before a0 Z = true) (ws : List Jvm.Cond) (ao : Addr) (aw : Addr) (uo : Value) (h0 : Heap) (n0 : Nat) (Z0 : n0 ≤ h0.size) (F0 : Fld Z h0 ao "com/example/bitpress/bitpress/DocBlock$BitsetBlock" "words" "[J" uo) (E0 : Exa Z h0 ao "com/example/bitpress/bitpress/DocBlock$BitsetBlock") (ga : n0 ≤ ao) :
    MetFree l (⟨"com/example/bitpress/bitpress/DocBlock$BitsetBlock", "<init>", "([J)V"⟩ : MethodName) (head1 (Jvm.Cond.code (⟨"com/example/bitpress/bitpress/DocBlock$BitsetBlock", "<init>", "([J)V"⟩ : MethodName) prog_11_method_1_code 2 none :: ws) ({ frames := 2, cells := 0, slots := 0, locals := 24 } : Room)) (fun a U => a = #[(.ref ao), (.ref aw)] ∧ Z.Warmed39 U.vm ∧ U.heap = h0) (fun _ _ _ _ _ => True) (fun _ U o U' => ∃ v L, o = .returned v ∧ Q1 Z ao aw uo h0 n0 v U'.heap L ∧ FrameEnd U o U' L ({ frames := 2, cells := 0, slots := 0, locals := 24 } : Room).cells ({ frames := 2, cells := 0, slots := 0, locals := 24 } : Room).slots) := by
  refine MetFree.of_bodySF (plainFor_of_name pn_1) hisR ?_
  intro p e s m args below meth c s₁ Bd hml0 hP hK
  obtain ⟨rfl, hZ, hh⟩ := hP
  have hx := Bd.exec
  have hby := Bd.bytes
  have hml : c.maxLocals = 2 := hml0
  have hown : s.vm.findClass "com/example/bitpress/bitpress/DocBlock$BitsetBlock" = some m.cls := findClass_of_methodNamed Bd.named
  have hnm := (name_of_methodNamed Bd.named Bd.method).1
  have hlk : meth.locks = false := BodyLoose.notSynchronized Bd
  have X0 : Stand p l e ({ frames := 2, cells := 0, slots := 0, locals := 24 } : Room) s m #[(.ref ao), (.ref aw)] below meth c s₁ [] 0 0 := Stand.of_body Bd
  have e0 : s₁.heap = h0 := by rw [← hh, Bd.state]; rfl
  have N0 := Fr.nil n0
  show W.Gl p e below s (Q1 Z ao aw uo h0 n0) ({ frames := 2, cells := 0, slots := 0, locals := 24 } : Room).cells ({ frames := 2, cells := 0, slots := 0, locals := 24 } : Room).slots s₁ (entryFrame m #[(.ref ao), (.ref aw)] 2)
  refine W.cast (ef_1 m ao aw) ?_
  have K0 : Keep h0 h0 [ao] := Keep.refl h0 [ao]
  refine W.s1 (mkF m 1 #[.val (.ref ao), .val (.ref aw)] [(.ref ao)]) (fun _ kx_ => XS.aloadN X0.here hx rfl (hb hby d1_0) rfl rfl kx_) ?_
  obtain ⟨_, _, ⟨T101, L101, k101, n101⟩, -, X101, ⟨Lc101, hQ101, l101, y101, z101⟩, st101⟩ := X0.specialBack hx (y := (⟨"com/example/bitpress/bitpress/DocBlock", "<init>", "()V"⟩ : MethodName)) rfl hown (mvT hZ (hw _ (List.mem_of_getElem? (i := 7) rfl))) (mvT hZ (hw _ (List.mem_of_getElem? (i := 8) rfl))) (mvT hZ (hw _ (List.mem_of_getElem? (i := 11) rfl))) (by decide) (backOf (W := 0) (rm2 l Z a0 hw [] ao h0 n0 Z0 ) hZ (hw _ (List.mem_of_getElem? (i := 11) rfl)) (hw _ (List.mem_of_getElem? (i := 10) rfl)) (by decide) (by decide)) (g := (mkF m 1 #[.val (.ref ao), .val (.ref aw)] [(.ref ao)])) rfl (by rw [hml]; rfl) (Steps.refl _) (a := ao) (argsL := []) (rest := []) (lenOf pd_0 rfl) rfl (by show 2 * 0 + _ ≤ _; exact Nat.le_of_eq rfl) (hb hby d1_1) (fun _ _ => ⟨rfl, e0, (by decide : 0 + 0 ≤ _), (by decide : 0 + 0 ≤ _)⟩)
  dsimp only [Pt.U, Pt.locs, Pt.cells, Pt.slots] at X101 l101 y101 z101 st101 hQ101
  subst l101 y101 z101
  obtain ⟨rfl, Nq101, eq101⟩ := hQ101
  have N101 := Fr.app N0 Nq101
  refine W.s3 (mkF m 4 #[.val (.ref ao), .val (.ref aw)] []) st101 ?_
  refine W.s1 (mkF m 5 #[.val (.ref ao), .val (.ref aw)] [(.ref ao)]) (fun _ kx_ => XS.aloadN X101.here hx rfl (hb hby d1_4) rfl rfl kx_) ?_
  refine W.s1 (mkF m 6 #[.val (.ref ao), .val (.ref aw)] [(.ref aw), (.ref ao)]) (fun _ kx_ => XS.aloadN X101.here hx rfl (hb hby d1_5) rfl rfl kx_) ?_
  refine W.putf X101 hx hZ hown (host := "") (Or.inl (hw _ (List.mem_of_getElem? (i := 15) rfl))) Via.refl eq101 F0 E0 (Or.inr ⟨(hw _ (List.mem_of_getElem? (i := 16) rfl)), rfl, hnm⟩) (hw _ (List.mem_of_getElem? (i := 2) rfl)) (ty := (.array .long)) (by decide) rfl rfl N101 ga (hb hby d1_6) (pc' := 9) rfl (fun T102 h102 L102 X102 e102 W102 fw102 N102 => ?_)
  have Z102 : n0 ≤ h102.size := Nat.le_trans Z0 (Keep.of_wr W102).1
  have f103 := E0.wr W102
  have K102 : Keep h0 h102 [ao] := K0.wr W102 (Or.inl (List.mem_of_getElem? (i := 0) rfl))
  exact W.ret0 X102 hx hlk Bd.returns (hb hby d1_9) (by show Q1 Z ao aw uo h0 n0 _ T102.heap _; rw [e102]; exact ⟨rfl, N102, K102, fw102⟩) (by decide) (by decide)
theorem pn_2 : plainName "com/example/bitpress/bitpress/BitsetBlockContainsPinLaw" = true := by first | (simp [plainName, overriddenIn]; done) | decide +kernel
theorem ef_4 (m : MethodId) (x0 : Int64) (x1 : Int32) : entryFrame m #[(.long x0), (.int x1)] 3 = mkF m 0 #[.val (.long x0), .second, .val (.int x1)] [] := by first | (simp [entryFrame, mkF, argsToLocals, Value.category]; done) | rfl
theorem d4_0 : decode method_2_code 0 = .ok (.lload_n 0, 1) := by decide +kernel
theorem d4_1 : decode method_2_code 1 = .ok (.iload_n 2, 1) := by decide +kernel
theorem d4_2 : decode method_2_code 2 = .ok (.lushr, 1) := by decide +kernel
theorem d4_3 : decode method_2_code 3 = .ok (.lconst 1, 1) := by decide +kernel
theorem d4_4 : decode method_2_code 4 = .ok (.land, 1) := by decide +kernel
theorem d4_5 : decode method_2_code 5 = .ok (.lconst 0, 1) := by decide +kernel
theorem d4_6 : decode method_2_code 6 = .ok (.lcmp, 1) := by decide +kernel
theorem d4_7 : decode method_2_code 7 = .ok (.ifCond .eq 7, 3) := by decide +kernel
theorem d4_14 : decode method_2_code 14 = .ok (.iconst 0, 1) := by decide +kernel
theorem d4_15 : decode method_2_code 15 = .ok (.ireturn, 1) := by decide +kernel
theorem d4_10 : decode method_2_code 10 = .ok (.iconst 1, 1) := by decide +kernel
theorem d4_11 : decode method_2_code 11 = .ok (.goto 4, 3) := by decide +kernel
def Q4 (Z : State) (yw : Int64) (xk : Int32) (h0 : Heap) (n0 : Nat) (v : Option Value) (h : Heap) (L : List Loc) : Prop := ∃ r : Int32, v = some (.int r) ∧ Fr n0 L ∧ h = h0 ∧ ((r = 0 ∧ own_Y yw xk = 0) ∨ (r = 1 ∧ ¬ own_Y yw xk = 0))
set_option maxRecDepth 65536 in
set_option maxHeartbeats 40000000 in
theorem rm4 (l : Launch) (Z : State) (a0 : Array Value) (hw : ∀ d ∈ tables_1, d.before a0 Z = true) (ws : List Jvm.Cond) (yw : Int64) (xk : Int32) (h0 : Heap) (n0 : Nat) (Z0 : n0 ≤ h0.size) :
    MetFree l (⟨"com/example/bitpress/bitpress/BitsetBlockContainsPinLaw", "bit", "(JI)Z"⟩ : MethodName) (head1 (Jvm.Cond.code (⟨"com/example/bitpress/bitpress/BitsetBlockContainsPinLaw", "bit", "(JI)Z"⟩ : MethodName) method_2_code 3 (some .boolean) :: ws) ({ frames := 0, cells := 0, slots := 0, locals := 0 } : Room)) (fun a U => a = #[(.long yw), (.int xk)] ∧ Z.Warmed39 U.vm ∧ U.heap = h0) (fun _ _ _ _ _ => True) (fun _ U o U' => ∃ v L, o = .returned v ∧ Q4 Z yw xk h0 n0 v U'.heap L ∧ FrameEnd U o U' L ({ frames := 0, cells := 0, slots := 0, locals := 0 } : Room).cells ({ frames := 0, cells := 0, slots := 0, locals := 0 } : Room).slots) := by
  refine MetFree.of_bodySF (plainFor_of_name pn_2) hisR ?_
  intro p e s m args below meth c s₁ Bd hml0 hP hK
  obtain ⟨rfl, hZ, hh⟩ := hP
  have hx := Bd.exec
  have hby := Bd.bytes
  have hml : c.maxLocals = 3 := hml0
  have hown : s.vm.findClass "com/example/bitpress/bitpress/BitsetBlockContainsPinLaw" = some m.cls := findClass_of_methodNamed Bd.named
  have hnm := (name_of_methodNamed Bd.named Bd.method).1
  have hlk : meth.locks = false := BodyLoose.notSynchronized Bd
  have X0 : Stand p l e ({ frames := 0, cells := 0, slots := 0, locals := 0 } : Room) s m #[(.long yw), (.int xk)] below meth c s₁ [] 0 0 := Stand.of_body Bd
  have e0 : s₁.heap = h0 := by rw [← hh, Bd.state]; rfl
  have N0 := Fr.nil n0
  show W.Gl p e below s (Q4 Z yw xk h0 n0) ({ frames := 0, cells := 0, slots := 0, locals := 0 } : Room).cells ({ frames := 0, cells := 0, slots := 0, locals := 0 } : Room).slots s₁ (entryFrame m #[(.long yw), (.int xk)] 3)
  refine W.cast (ef_4 m yw xk) ?_
  refine W.s1 (mkF m 1 #[.val (.long yw), .second, .val (.int xk)] [(.long yw)]) (fun _ kx_ => XS.lloadN X0.here hx rfl (hb hby d4_0) rfl kx_) ?_
  refine W.s1 (mkF m 2 #[.val (.long yw), .second, .val (.int xk)] [(.int xk), (.long yw)]) (fun _ kx_ => XS.iloadN X0.here hx rfl (hb hby d4_1) rfl kx_) ?_
  refine W.s1 (mkF m 3 #[.val (.long yw), .second, .val (.int xk)] [(.long ((yw.toUInt64 >>> (xk &&& 0x3f).toInt64.toUInt64).toInt64))]) (fun _ kx_ => XS.lushr X0.here hx rfl (hb hby d4_2) rfl kx_) ?_
  refine W.s1 (mkF m 4 #[.val (.long yw), .second, .val (.int xk)] [(.long (1 : Int64)), (.long ((yw.toUInt64 >>> (xk &&& 0x3f).toInt64.toUInt64).toInt64))]) (fun _ kx_ => XS.lconst X0.here hx rfl (hb hby d4_3) kx_) ?_
  refine W.s1 (mkF m 5 #[.val (.long yw), .second, .val (.int xk)] [(.long (((yw.toUInt64 >>> (xk &&& 0x3f).toInt64.toUInt64).toInt64) &&& (1 : Int64)))]) (fun _ kx_ => XS.land X0.here hx rfl (hb hby d4_4) rfl kx_) ?_
  refine W.s1 (mkF m 6 #[.val (.long yw), .second, .val (.int xk)] [(.long (0 : Int64)), (.long (((yw.toUInt64 >>> (xk &&& 0x3f).toInt64.toUInt64).toInt64) &&& (1 : Int64)))]) (fun _ kx_ => XS.lconst X0.here hx rfl (hb hby d4_5) kx_) ?_
  refine W.lif X0 hx (hb hby d4_6) (pc1 := 7) rfl (hb hby d4_7) (pc' := 14) (pc'' := 10) (by decide) (by decide) rfl (fun (c7 : (((yw.toUInt64 >>> (xk &&& 0x3f).toInt64.toUInt64).toInt64) &&& (1 : Int64)) = (0 : Int64)) => ?_) (fun (c7 : ¬ (((yw.toUInt64 >>> (xk &&& 0x3f).toInt64.toUInt64).toInt64) &&& (1 : Int64)) = (0 : Int64)) => ?_)
  · refine W.s1 (mkF m 15 #[.val (.long yw), .second, .val (.int xk)] [(.int (0 : Int32))]) (fun _ kx_ => XS.iconst X0.here hx rfl (hb hby d4_14) kx_) ?_
    exact W.retZ X0 hx hlk (t := .boolean) (z' := (0 : Int32)) Bd.returns (by simp) (hb hby d4_15) rfl (by show Q4 Z yw xk h0 n0 _ s₁.heap _; rw [e0]; exact ⟨_, rfl, N0, rfl, Or.inl ⟨rfl, c7⟩⟩) (by decide) (by decide)
  · refine W.s1 (mkF m 11 #[.val (.long yw), .second, .val (.int xk)] [(.int (1 : Int32))]) (fun _ kx_ => XS.iconst X0.here hx rfl (hb hby d4_10) kx_) ?_
    refine W.s1 (mkF m 15 #[.val (.long yw), .second, .val (.int xk)] [(.int (1 : Int32))]) (fun _ kx_ => XS.goto X0.here hx rfl (pc0 := 11) (pc' := 15) rfl (hb hby d4_11) (by decide) (by decide) kx_) ?_
    exact W.retZ X0 hx hlk (t := .boolean) (z' := (1 : Int32)) Bd.returns (by simp) (hb hby d4_15) rfl (by show Q4 Z yw xk h0 n0 _ s₁.heap _; rw [e0]; exact ⟨_, rfl, N0, rfl, Or.inr ⟨rfl, c7⟩⟩) (by decide) (by decide)
theorem ef_5 (m : MethodId) (x0 : Addr) (x1 : Int32) : entryFrame m #[(.ref x0), (.int x1)] 2 = mkF m 0 #[.val (.ref x0), .val (.int x1)] [] := by first | (simp [entryFrame, mkF, argsToLocals, Value.category]; done) | rfl
theorem d5_0 : decode prog_11_method_3_code 0 = .ok (.aload_n 0, 1) := by decide +kernel
theorem d5_1 : decode prog_11_method_3_code 1 = .ok (.getfield 7, 3) := by decide +kernel
theorem d5_4 : decode prog_11_method_3_code 4 = .ok (.iload_n 1, 1) := by decide +kernel
theorem d5_5 : decode prog_11_method_3_code 5 = .ok (.bipush 6, 2) := by decide +kernel
theorem d5_7 : decode prog_11_method_3_code 7 = .ok (.iushr, 1) := by decide +kernel
theorem d5_8 : decode prog_11_method_3_code 8 = .ok (.laload, 1) := by decide +kernel
theorem d5_9 : decode prog_11_method_3_code 9 = .ok (.lconst 1, 1) := by decide +kernel
theorem d5_10 : decode prog_11_method_3_code 10 = .ok (.iload_n 1, 1) := by decide +kernel
theorem d5_11 : decode prog_11_method_3_code 11 = .ok (.lshl, 1) := by decide +kernel
theorem d5_12 : decode prog_11_method_3_code 12 = .ok (.land, 1) := by decide +kernel
theorem d5_13 : decode prog_11_method_3_code 13 = .ok (.lconst 0, 1) := by decide +kernel
theorem d5_14 : decode prog_11_method_3_code 14 = .ok (.lcmp, 1) := by decide +kernel
theorem d5_15 : decode prog_11_method_3_code 15 = .ok (.ifCond .eq 7, 3) := by decide +kernel
theorem d5_22 : decode prog_11_method_3_code 22 = .ok (.iconst 0, 1) := by decide +kernel
theorem d5_23 : decode prog_11_method_3_code 23 = .ok (.ireturn, 1) := by decide +kernel
theorem d5_18 : decode prog_11_method_3_code 18 = .ok (.iconst 1, 1) := by decide +kernel
theorem d5_19 : decode prog_11_method_3_code 19 = .ok (.goto 4, 3) := by decide +kernel
def Q5 (Z : State) (ao : Addr) (xl : Int32) (aw : Addr) (fq : Nat → Int64) (k : Nat) (h0 : Heap) (n0 : Nat) (v : Option Value) (h : Heap) (L : List Loc) : Prop := ∃ r : Int32, v = some (.int r) ∧ Fr n0 L ∧ h = h0 ∧ ((r = 0 ∧ own_X (fq k) xl = 0) ∨ (r = 1 ∧ ¬ own_X (fq k) xl = 0))
set_option maxRecDepth 65536 in
set_option maxHeartbeats 40000000 in
theorem rm5 (l : Launch) (Z : State) (a0 : Array Value) (hw : ∀ d ∈ tables_1, d.before a0 Z = true) (ws : List Jvm.Cond) (ao : Addr) (xl : Int32) (aw : Addr) (fq : Nat → Int64) (k : Nat) (h0 : Heap) (n0 : Nat) (Z0 : n0 ≤ h0.size) (F0 : Fld Z h0 ao "com/example/bitpress/bitpress/DocBlock$BitsetBlock" "words" "[J" (.ref aw)) (A0 : W.AJ Z h0 aw 1024 fq) (hk : ((xl.toUInt32 >>> ((6 : Int32) &&& 31).toUInt32).toInt32).toInt = k) (hkl : k < 1024) :
    MetFree l (⟨"com/example/bitpress/bitpress/DocBlock$BitsetBlock", "contains", "(I)Z"⟩ : MethodName) (head1 (Jvm.Cond.code (⟨"com/example/bitpress/bitpress/DocBlock$BitsetBlock", "contains", "(I)Z"⟩ : MethodName) prog_11_method_3_code 2 (some .boolean) :: ws) ({ frames := 0, cells := 0, slots := 0, locals := 0 } : Room)) (fun a U => a = #[(.ref ao), (.int xl)] ∧ Z.Warmed39 U.vm ∧ U.heap = h0) (fun _ _ _ _ _ => True) (fun _ U o U' => ∃ v L, o = .returned v ∧ Q5 Z ao xl aw fq k h0 n0 v U'.heap L ∧ FrameEnd U o U' L ({ frames := 0, cells := 0, slots := 0, locals := 0 } : Room).cells ({ frames := 0, cells := 0, slots := 0, locals := 0 } : Room).slots) := by
  refine MetFree.of_bodySF (plainFor_of_name pn_1) hisR ?_
  intro p e s m args below meth c s₁ Bd hml0 hP hK
  obtain ⟨rfl, hZ, hh⟩ := hP
  have hx := Bd.exec
  have hby := Bd.bytes
  have hml : c.maxLocals = 2 := hml0
  have hown : s.vm.findClass "com/example/bitpress/bitpress/DocBlock$BitsetBlock" = some m.cls := findClass_of_methodNamed Bd.named
  have hnm := (name_of_methodNamed Bd.named Bd.method).1
  have hlk : meth.locks = false := BodyLoose.notSynchronized Bd
  have X0 : Stand p l e ({ frames := 0, cells := 0, slots := 0, locals := 0 } : Room) s m #[(.ref ao), (.int xl)] below meth c s₁ [] 0 0 := Stand.of_body Bd
  have e0 : s₁.heap = h0 := by rw [← hh, Bd.state]; rfl
  have N0 := Fr.nil n0
  show W.Gl p e below s (Q5 Z ao xl aw fq k h0 n0) ({ frames := 0, cells := 0, slots := 0, locals := 0 } : Room).cells ({ frames := 0, cells := 0, slots := 0, locals := 0 } : Room).slots s₁ (entryFrame m #[(.ref ao), (.int xl)] 2)
  refine W.cast (ef_5 m ao xl) ?_
  refine W.s1 (mkF m 1 #[.val (.ref ao), .val (.int xl)] [(.ref ao)]) (fun _ kx_ => XS.aloadN X0.here hx rfl (hb hby d5_0) rfl rfl kx_) ?_
  refine W.getf X0 hx hZ hown (host := "") (Or.inl (hw _ (List.mem_of_getElem? (i := 15) rfl))) Via.refl e0 F0 (hb hby d5_1) (pc' := 4) rfl (fun T101 X101 e101 => ?_)
  refine W.s1 (mkF m 5 #[.val (.ref ao), .val (.int xl)] [(.int xl), (.ref aw)]) (fun _ kx_ => XS.iloadN X101.here hx rfl (hb hby d5_4) rfl kx_) ?_
  refine W.s1 (mkF m 7 #[.val (.ref ao), .val (.int xl)] [(.int (6 : Int32)), (.int xl), (.ref aw)]) (fun _ kx_ => XS.bipush X101.here hx rfl (hb hby d5_5) kx_) ?_
  refine W.s1 (mkF m 8 #[.val (.ref ao), .val (.int xl)] [(.int ((xl.toUInt32 >>> ((6 : Int32) &&& 31).toUInt32).toInt32)), (.ref aw)]) (fun _ kx_ => XS.iushr X101.here hx rfl (hb hby d5_7) rfl kx_) ?_
  refine W.ldj X101 hx hZ e101 A0 k hk hkl (hb hby d5_8) (pc' := 9) rfl ?_
  refine W.s1 (mkF m 10 #[.val (.ref ao), .val (.int xl)] [(.long (1 : Int64)), (.long (fq k))]) (fun _ kx_ => XS.lconst X101.here hx rfl (hb hby d5_9) kx_) ?_
  refine W.s1 (mkF m 11 #[.val (.ref ao), .val (.int xl)] [(.int xl), (.long (1 : Int64)), (.long (fq k))]) (fun _ kx_ => XS.iloadN X101.here hx rfl (hb hby d5_10) rfl kx_) ?_
  refine W.s1 (mkF m 12 #[.val (.ref ao), .val (.int xl)] [(.long ((1 : Int64) <<< (xl &&& 0x3f).toInt64)), (.long (fq k))]) (fun _ kx_ => XS.lshl X101.here hx rfl (hb hby d5_11) rfl kx_) ?_
  refine W.s1 (mkF m 13 #[.val (.ref ao), .val (.int xl)] [(.long ((fq k) &&& ((1 : Int64) <<< (xl &&& 0x3f).toInt64)))]) (fun _ kx_ => XS.land X101.here hx rfl (hb hby d5_12) rfl kx_) ?_
  refine W.s1 (mkF m 14 #[.val (.ref ao), .val (.int xl)] [(.long (0 : Int64)), (.long ((fq k) &&& ((1 : Int64) <<< (xl &&& 0x3f).toInt64)))]) (fun _ kx_ => XS.lconst X101.here hx rfl (hb hby d5_13) kx_) ?_
  refine W.lif X101 hx (hb hby d5_14) (pc1 := 15) rfl (hb hby d5_15) (pc' := 22) (pc'' := 18) (by decide) (by decide) rfl (fun (c15 : ((fq k) &&& ((1 : Int64) <<< (xl &&& 0x3f).toInt64)) = (0 : Int64)) => ?_) (fun (c15 : ¬ ((fq k) &&& ((1 : Int64) <<< (xl &&& 0x3f).toInt64)) = (0 : Int64)) => ?_)
  · refine W.s1 (mkF m 23 #[.val (.ref ao), .val (.int xl)] [(.int (0 : Int32))]) (fun _ kx_ => XS.iconst X101.here hx rfl (hb hby d5_22) kx_) ?_
    exact W.retZ X101 hx hlk (t := .boolean) (z' := (0 : Int32)) Bd.returns (by simp) (hb hby d5_23) rfl (by show Q5 Z ao xl aw fq k h0 n0 _ T101.heap _; rw [e101]; exact ⟨_, rfl, N0, rfl, Or.inl ⟨rfl, c15⟩⟩) (by decide) (by decide)
  · refine W.s1 (mkF m 19 #[.val (.ref ao), .val (.int xl)] [(.int (1 : Int32))]) (fun _ kx_ => XS.iconst X101.here hx rfl (hb hby d5_18) kx_) ?_
    refine W.s1 (mkF m 23 #[.val (.ref ao), .val (.int xl)] [(.int (1 : Int32))]) (fun _ kx_ => XS.goto X101.here hx rfl (pc0 := 19) (pc' := 23) rfl (hb hby d5_19) (by decide) (by decide) kx_) ?_
    exact W.retZ X101 hx hlk (t := .boolean) (z' := (1 : Int32)) Bd.returns (by simp) (hb hby d5_23) rfl (by show Q5 Z ao xl aw fq k h0 n0 _ T101.heap _; rw [e101]; exact ⟨_, rfl, N0, rfl, Or.inr ⟨rfl, c15⟩⟩) (by decide) (by decide)
theorem ef_0 (m : MethodId) (x0 : Int32) (x1 : Int32) (x2 : Int64) (x3 : Int32) (x4 : Int64) (x5 : Int32) : entryFrame m #[(.int x0), (.int x1), (.long x2), (.int x3), (.long x4), (.int x5)] maxLocals = mkF m 0 #[.val (.int x0), .val (.int x1), .val (.long x2), .second, .val (.int x3), .val (.long x4), .second, .val (.int x5), .unset, .unset, .unset, .unset, .unset, .unset, .unset, .unset, .unset, .unset, .unset, .unset, .unset] [] := by first | (simp [entryFrame, mkF, argsToLocals, Value.category, maxLocals]; done) | rfl
theorem pd_1 : parseMethodDescriptor "([J)V" = some ⟨[(.array .long)], none⟩ := by decide +kernel
theorem pd_2 : parseMethodDescriptor "(JI)Z" = some ⟨[.long, .int], some .boolean⟩ := by decide +kernel
theorem pd_3 : parseMethodDescriptor "(I)Z" = some ⟨[.int], some .boolean⟩ := by decide +kernel
def Q0 (Z : State) (xa : Int32) (xb : Int32) (yp : Int64) (xj : Int32) (yq : Int64) (xc : Int32) (h0 : Heap) (n0 : Nat) (v : Option Value) (h : Heap) (L : List Loc) : Prop := v = some (.int 1) ∧ Fr n0 L
set_option maxRecDepth 65536 in
set_option maxHeartbeats 40000000 in
theorem rm0 (l : Launch) (Z : State) (a0 : Array Value) (hw : ∀ d ∈ tables_1, d.before a0 Z = true) (ws : List Jvm.Cond) (xa : Int32) (xb : Int32) (yp : Int64) (xj : Int32) (yq : Int64) (xc : Int32) (h0 : Heap) (n0 : Nat) (Z0 : n0 ≤ h0.size) :
    MetFree l x (head1 (Jvm.Cond.code x code maxLocals ret :: ws) room_1) (fun a U => a = #[(.int xa), (.int xb), (.long yp), (.int xj), (.long yq), (.int xc)] ∧ Z.Warmed39 U.vm ∧ U.heap = h0) (fun _ _ _ _ _ => True) (fun _ U o U' => ∃ v L, o = .returned v ∧ Q0 Z xa xb yp xj yq xc h0 n0 v U'.heap L ∧ FrameEnd U o U' L 16 2176) := by
  refine MetFree.of_bodySF (plainFor_of_name pn_2) hisR ?_
  intro p e s m args below meth c s₁ Bd hml0 hP hK
  obtain ⟨rfl, hZ, hh⟩ := hP
  have hx := Bd.exec
  have hby := Bd.bytes
  have hml : c.maxLocals = 21 := hml0
  have hown : s.vm.findClass "com/example/bitpress/bitpress/BitsetBlockContainsPinLaw" = some m.cls := findClass_of_methodNamed Bd.named
  have hnm := (name_of_methodNamed Bd.named Bd.method).1
  have hlk : meth.locks = false := BodyLoose.notSynchronized Bd
  have X0 : Stand p l e room_1 s m #[(.int xa), (.int xb), (.long yp), (.int xj), (.long yq), (.int xc)] below meth c s₁ [] 0 0 := Stand.of_body Bd
  have e0 : s₁.heap = h0 := by rw [← hh, Bd.state]; rfl
  have N0 := Fr.nil n0
  show W.Gl p e below s (Q0 Z xa xb yp xj yq xc h0 n0) 16 2176 s₁ (entryFrame m #[(.int xa), (.int xb), (.long yp), (.int xj), (.long yq), (.int xc)] maxLocals)
  refine W.cast (ef_0 m xa xb yp xj yq xc) ?_
  refine W.s1 (mkF m 3 #[.val (.int xa), .val (.int xb), .val (.long yp), .second, .val (.int xj), .val (.long yq), .second, .val (.int xc), .unset, .unset, .unset, .unset, .unset, .unset, .unset, .unset, .unset, .unset, .unset, .unset, .unset] [(.int (1024 : Int32))]) (fun _ kx_ => XS.sipush X0.here hx rfl (hb hby at_0) kx_) ?_
  refine W.newj X0 hx hZ (hw _ (List.mem_of_getElem? (i := 0) rfl)) e0 (hb hby at_3) (n := 1024) rfl (cap := 1024) (Nat.le_refl _) (by decide) (by decide) (by decide) (pc' := 5) rfl (fun T101 h101 b101 X101 e101 E101 g101 A101 => ?_)
  have ge101 : n0 ≤ b101 := Nat.le_trans Z0 (Nat.le_of_eq g101.symm)
  have Z101 : n0 ≤ h101.size := Nat.le_trans Z0 E101.1
  refine W.s1 (mkF m 7 #[.val (.int xa), .val (.int xb), .val (.long yp), .second, .val (.int xj), .val (.long yq), .second, .val (.int xc), .val (.ref b101), .unset, .unset, .unset, .unset, .unset, .unset, .unset, .unset, .unset, .unset, .unset, .unset] []) (fun _ kx_ => XS.astore X101.here hx rfl (hb hby at_5) rfl rfl (l' := #[.val (.int xa), .val (.int xb), .val (.long yp), .second, .val (.int xj), .val (.long yq), .second, .val (.int xc), .val (.ref b101), .unset, .unset, .unset, .unset, .unset, .unset, .unset, .unset, .unset, .unset, .unset, .unset]) rfl kx_) ?_
  refine W.s1 (mkF m 8 #[.val (.int xa), .val (.int xb), .val (.long yp), .second, .val (.int xj), .val (.long yq), .second, .val (.int xc), .val (.ref b101), .unset, .unset, .unset, .unset, .unset, .unset, .unset, .unset, .unset, .unset, .unset, .unset] [(.int xa)]) (fun _ kx_ => XS.iloadN X101.here hx rfl (hb hby at_7) rfl kx_) ?_
  refine W.s1 (mkF m 11 #[.val (.int xa), .val (.int xb), .val (.long yp), .second, .val (.int xj), .val (.long yq), .second, .val (.int xc), .val (.ref b101), .unset, .unset, .unset, .unset, .unset, .unset, .unset, .unset, .unset, .unset, .unset, .unset] [(.int (1023 : Int32)), (.int xa)]) (fun _ kx_ => XS.sipush X101.here hx rfl (hb hby at_8) kx_) ?_
  refine W.s1 (mkF m 12 #[.val (.int xa), .val (.int xb), .val (.long yp), .second, .val (.int xj), .val (.long yq), .second, .val (.int xc), .val (.ref b101), .unset, .unset, .unset, .unset, .unset, .unset, .unset, .unset, .unset, .unset, .unset, .unset] [(.int (xa &&& (1023 : Int32)))]) (fun _ kx_ => XS.iand X101.here hx rfl (hb hby at_11) rfl kx_) ?_
  generalize hg_xwi : (xa &&& (1023 : Int32)) = xwi
  refine W.s1 (mkF m 14 #[.val (.int xa), .val (.int xb), .val (.long yp), .second, .val (.int xj), .val (.long yq), .second, .val (.int xc), .val (.ref b101), .val (.int xwi), .unset, .unset, .unset, .unset, .unset, .unset, .unset, .unset, .unset, .unset, .unset] []) (fun _ kx_ => XS.istore X101.here hx rfl (hb hby at_12) rfl (l' := #[.val (.int xa), .val (.int xb), .val (.long yp), .second, .val (.int xj), .val (.long yq), .second, .val (.int xc), .val (.ref b101), .val (.int xwi), .unset, .unset, .unset, .unset, .unset, .unset, .unset, .unset, .unset, .unset, .unset]) rfl kx_) ?_
  refine W.s1 (mkF m 15 #[.val (.int xa), .val (.int xb), .val (.long yp), .second, .val (.int xj), .val (.long yq), .second, .val (.int xc), .val (.ref b101), .val (.int xwi), .unset, .unset, .unset, .unset, .unset, .unset, .unset, .unset, .unset, .unset, .unset] [(.int xb)]) (fun _ kx_ => XS.iloadN X101.here hx rfl (hb hby at_14) rfl kx_) ?_
  refine W.s1 (mkF m 17 #[.val (.int xa), .val (.int xb), .val (.long yp), .second, .val (.int xj), .val (.long yq), .second, .val (.int xc), .val (.ref b101), .val (.int xwi), .unset, .unset, .unset, .unset, .unset, .unset, .unset, .unset, .unset, .unset, .unset] [(.int (63 : Int32)), (.int xb)]) (fun _ kx_ => XS.bipush X101.here hx rfl (hb hby at_15) kx_) ?_
  refine W.s1 (mkF m 18 #[.val (.int xa), .val (.int xb), .val (.long yp), .second, .val (.int xj), .val (.long yq), .second, .val (.int xc), .val (.ref b101), .val (.int xwi), .unset, .unset, .unset, .unset, .unset, .unset, .unset, .unset, .unset, .unset, .unset] [(.int (xb &&& (63 : Int32)))]) (fun _ kx_ => XS.iand X101.here hx rfl (hb hby at_17) rfl kx_) ?_
  generalize hg_xbi : (xb &&& (63 : Int32)) = xbi
  refine W.s1 (mkF m 20 #[.val (.int xa), .val (.int xb), .val (.long yp), .second, .val (.int xj), .val (.long yq), .second, .val (.int xc), .val (.ref b101), .val (.int xwi), .val (.int xbi), .unset, .unset, .unset, .unset, .unset, .unset, .unset, .unset, .unset, .unset] []) (fun _ kx_ => XS.istore X101.here hx rfl (hb hby at_18) rfl (l' := #[.val (.int xa), .val (.int xb), .val (.long yp), .second, .val (.int xj), .val (.long yq), .second, .val (.int xc), .val (.ref b101), .val (.int xwi), .val (.int xbi), .unset, .unset, .unset, .unset, .unset, .unset, .unset, .unset, .unset, .unset]) rfl kx_) ?_
  refine W.s1 (mkF m 22 #[.val (.int xa), .val (.int xb), .val (.long yp), .second, .val (.int xj), .val (.long yq), .second, .val (.int xc), .val (.ref b101), .val (.int xwi), .val (.int xbi), .unset, .unset, .unset, .unset, .unset, .unset, .unset, .unset, .unset, .unset] [(.int xj)]) (fun _ kx_ => XS.iload X101.here hx rfl (hb hby at_20) rfl kx_) ?_
  refine W.s1 (mkF m 25 #[.val (.int xa), .val (.int xb), .val (.long yp), .second, .val (.int xj), .val (.long yq), .second, .val (.int xc), .val (.ref b101), .val (.int xwi), .val (.int xbi), .unset, .unset, .unset, .unset, .unset, .unset, .unset, .unset, .unset, .unset] [(.int (1023 : Int32)), (.int xj)]) (fun _ kx_ => XS.sipush X101.here hx rfl (hb hby at_22) kx_) ?_
  refine W.s1 (mkF m 26 #[.val (.int xa), .val (.int xb), .val (.long yp), .second, .val (.int xj), .val (.long yq), .second, .val (.int xc), .val (.ref b101), .val (.int xwi), .val (.int xbi), .unset, .unset, .unset, .unset, .unset, .unset, .unset, .unset, .unset, .unset] [(.int (xj &&& (1023 : Int32)))]) (fun _ kx_ => XS.iand X101.here hx rfl (hb hby at_25) rfl kx_) ?_
  generalize hg_xdj : (xj &&& (1023 : Int32)) = xdj
  refine W.s1 (mkF m 28 #[.val (.int xa), .val (.int xb), .val (.long yp), .second, .val (.int xj), .val (.long yq), .second, .val (.int xc), .val (.ref b101), .val (.int xwi), .val (.int xbi), .val (.int xdj), .unset, .unset, .unset, .unset, .unset, .unset, .unset, .unset, .unset] []) (fun _ kx_ => XS.istore X101.here hx rfl (hb hby at_26) rfl (l' := #[.val (.int xa), .val (.int xb), .val (.long yp), .second, .val (.int xj), .val (.long yq), .second, .val (.int xc), .val (.ref b101), .val (.int xwi), .val (.int xbi), .val (.int xdj), .unset, .unset, .unset, .unset, .unset, .unset, .unset, .unset, .unset]) rfl kx_) ?_
  obtain ⟨kw, hkw, hkwl⟩ : ∃ k : Nat, xwi.toInt = k ∧ k < 1024 := by rw [← hg_xwi]; exact own_m10 xa
  obtain ⟨kd, hkd, hkdl⟩ : ∃ k : Nat, xdj.toInt = k ∧ k < 1024 := by rw [← hg_xdj]; exact own_m10 xj
  refine W.s1 (mkF m 30 #[.val (.int xa), .val (.int xb), .val (.long yp), .second, .val (.int xj), .val (.long yq), .second, .val (.int xc), .val (.ref b101), .val (.int xwi), .val (.int xbi), .val (.int xdj), .unset, .unset, .unset, .unset, .unset, .unset, .unset, .unset, .unset] [(.ref b101)]) (fun _ kx_ => XS.aload X101.here hx rfl (hb hby at_28) rfl rfl kx_) ?_
  refine W.s1 (mkF m 32 #[.val (.int xa), .val (.int xb), .val (.long yp), .second, .val (.int xj), .val (.long yq), .second, .val (.int xc), .val (.ref b101), .val (.int xwi), .val (.int xbi), .val (.int xdj), .unset, .unset, .unset, .unset, .unset, .unset, .unset, .unset, .unset] [(.int xdj), (.ref b101)]) (fun _ kx_ => XS.iload X101.here hx rfl (hb hby at_30) rfl kx_) ?_
  refine W.s1 (mkF m 34 #[.val (.int xa), .val (.int xb), .val (.long yp), .second, .val (.int xj), .val (.long yq), .second, .val (.int xc), .val (.ref b101), .val (.int xwi), .val (.int xbi), .val (.int xdj), .unset, .unset, .unset, .unset, .unset, .unset, .unset, .unset, .unset] [(.long yq), (.int xdj), (.ref b101)]) (fun _ kx_ => XS.lload X101.here hx rfl (hb hby at_32) rfl kx_) ?_
  refine W.stj X101 hx hZ e101 A101 kd hkd hkdl N0 ge101 (hb hby at_34) (pc' := 35) rfl (fun T102 h102 L102 X102 e102 W102 fw102 N102 => ?_)
  have Z102 : n0 ≤ h102.size := Nat.le_trans Z101 (Keep.of_wr W102).1
  refine W.s1 (mkF m 37 #[.val (.int xa), .val (.int xb), .val (.long yp), .second, .val (.int xj), .val (.long yq), .second, .val (.int xc), .val (.ref b101), .val (.int xwi), .val (.int xbi), .val (.int xdj), .unset, .unset, .unset, .unset, .unset, .unset, .unset, .unset, .unset] [(.ref b101)]) (fun _ kx_ => XS.aload X102.here hx rfl (hb hby at_35) rfl rfl kx_) ?_
  refine W.s1 (mkF m 39 #[.val (.int xa), .val (.int xb), .val (.long yp), .second, .val (.int xj), .val (.long yq), .second, .val (.int xc), .val (.ref b101), .val (.int xwi), .val (.int xbi), .val (.int xdj), .unset, .unset, .unset, .unset, .unset, .unset, .unset, .unset, .unset] [(.int xwi), (.ref b101)]) (fun _ kx_ => XS.iload X102.here hx rfl (hb hby at_37) rfl kx_) ?_
  refine W.s1 (mkF m 40 #[.val (.int xa), .val (.int xb), .val (.long yp), .second, .val (.int xj), .val (.long yq), .second, .val (.int xc), .val (.ref b101), .val (.int xwi), .val (.int xbi), .val (.int xdj), .unset, .unset, .unset, .unset, .unset, .unset, .unset, .unset, .unset] [(.long yp), (.int xwi), (.ref b101)]) (fun _ kx_ => XS.lloadN X102.here hx rfl (hb hby at_39) rfl kx_) ?_
  refine W.stj X102 hx hZ e102 fw102 kw hkw hkwl N102 ge101 (hb hby at_40) (pc' := 41) rfl (fun T103 h103 L103 X103 e103 W103 fw103 N103 => ?_)
  have Z103 : n0 ≤ h103.size := Nat.le_trans Z102 (Keep.of_wr W103).1
  refine W.newo X103 hx hZ hown (hw _ (List.mem_of_getElem? (i := 1) rfl)) (hw _ (List.mem_of_getElem? (i := 2) rfl)) (hw _ (List.mem_of_getElem? (i := 3) rfl)) e103 (hb hby at_41) (by decide) (by decide) (pc' := 44) rfl (fun T104 h104 b104 X104 e104 E104 g104 A104 D104 => ?_)
  have ne105 : b101 ≠ b104 := Nat.ne_of_lt (Nat.lt_of_lt_of_le fw103.lt (Nat.le_of_eq g104.symm))
  have ge104 : n0 ≤ b104 := Nat.le_trans Z103 (Nat.le_of_eq g104.symm)
  have Z104 : n0 ≤ h104.size := Nat.le_trans Z103 E104.1
  have f106 := fw103.ext E104
  have f107 : Fld Z h104 b104 "com/example/bitpress/bitpress/DocBlock$BitsetBlock" "words" "[J" .null := D104 (Or.inr (hw _ (List.mem_of_getElem? (i := 16) rfl))) (ty := (.array .long)) (by decide)
  refine W.s1 (mkF m 45 #[.val (.int xa), .val (.int xb), .val (.long yp), .second, .val (.int xj), .val (.long yq), .second, .val (.int xc), .val (.ref b101), .val (.int xwi), .val (.int xbi), .val (.int xdj), .unset, .unset, .unset, .unset, .unset, .unset, .unset, .unset, .unset] [(.ref b104), (.ref b104)]) (fun _ kx_ => XS.dup X104.here hx rfl (hb hby at_44) rfl rfl kx_) ?_
  refine W.s1 (mkF m 47 #[.val (.int xa), .val (.int xb), .val (.long yp), .second, .val (.int xj), .val (.long yq), .second, .val (.int xc), .val (.ref b101), .val (.int xwi), .val (.int xbi), .val (.int xdj), .unset, .unset, .unset, .unset, .unset, .unset, .unset, .unset, .unset] [(.ref b101), (.ref b104), (.ref b104)]) (fun _ kx_ => XS.aload X104.here hx rfl (hb hby at_45) rfl rfl kx_) ?_
  obtain ⟨_, _, ⟨T108, L108, k108, n108⟩, -, X108, ⟨Lc108, hQ108, l108, y108, z108⟩, st108⟩ := X104.specialBack hx (y := (⟨"com/example/bitpress/bitpress/DocBlock$BitsetBlock", "<init>", "([J)V"⟩ : MethodName)) rfl hown (mvT hZ (hw _ (List.mem_of_getElem? (i := 4) rfl))) (mvT hZ (hw _ (List.mem_of_getElem? (i := 5) rfl))) (mvT hZ (hw _ (List.mem_of_getElem? (i := 6) rfl))) (by decide) (backOf (W := 1) (rm1 l Z a0 hw [] b104 b101 .null h104 n0 Z104 f107 A104 ge104) hZ (hw _ (List.mem_of_getElem? (i := 6) rfl)) (hw _ (List.mem_of_getElem? (i := 3) rfl)) (by decide) (by decide)) (g := (mkF m 47 #[.val (.int xa), .val (.int xb), .val (.long yp), .second, .val (.int xj), .val (.long yq), .second, .val (.int xc), .val (.ref b101), .val (.int xwi), .val (.int xbi), .val (.int xdj), .unset, .unset, .unset, .unset, .unset, .unset, .unset, .unset, .unset] [(.ref b101), (.ref b104), (.ref b104)])) rfl (by rw [hml]; rfl) (Steps.refl _) (a := b104) (argsL := [(.ref b101)]) (rest := [(.ref b104)]) (lenOf pd_1 rfl) rfl (by show 2 * 0 + _ ≤ _; exact Nat.le_of_eq rfl) (hb hby at_47) (fun _ _ => ⟨rfl, e104, (by decide : 2 + 0 ≤ _), (by decide : 1025 + 0 ≤ _)⟩)
  dsimp only [Pt.U, Pt.locs, Pt.cells, Pt.slots] at X108 l108 y108 z108 st108 hQ108
  subst l108 y108 z108
  obtain ⟨h108, e108⟩ : ∃ z, T108.heap = z := ⟨_, rfl⟩
  rw [e108] at hQ108
  obtain ⟨rfl, Nq108, Kq108, F108⟩ := hQ108
  have N108 := Fr.app N103 Nq108
  have Z108 : n0 ≤ h108.size := Nat.le_trans Z104 Kq108.1
  have f109 := f106.keep Kq108 (ninS ne105 nin0)
  have f110 := A104.keep Kq108
  refine W.s3 (mkF m 50 #[.val (.int xa), .val (.int xb), .val (.long yp), .second, .val (.int xj), .val (.long yq), .second, .val (.int xc), .val (.ref b101), .val (.int xwi), .val (.int xbi), .val (.int xdj), .unset, .unset, .unset, .unset, .unset, .unset, .unset, .unset, .unset] [(.ref b104)]) st108 ?_
  refine W.s1 (mkF m 52 #[.val (.int xa), .val (.int xb), .val (.long yp), .second, .val (.int xj), .val (.long yq), .second, .val (.int xc), .val (.ref b101), .val (.int xwi), .val (.int xbi), .val (.int xdj), .val (.ref b104), .unset, .unset, .unset, .unset, .unset, .unset, .unset, .unset] []) (fun _ kx_ => XS.astore X108.here hx rfl (hb hby at_50) rfl rfl (l' := #[.val (.int xa), .val (.int xb), .val (.long yp), .second, .val (.int xj), .val (.long yq), .second, .val (.int xc), .val (.ref b101), .val (.int xwi), .val (.int xbi), .val (.int xdj), .val (.ref b104), .unset, .unset, .unset, .unset, .unset, .unset, .unset, .unset]) rfl kx_) ?_
  refine W.s1 (mkF m 54 #[.val (.int xa), .val (.int xb), .val (.long yp), .second, .val (.int xj), .val (.long yq), .second, .val (.int xc), .val (.ref b101), .val (.int xwi), .val (.int xbi), .val (.int xdj), .val (.ref b104), .unset, .unset, .unset, .unset, .unset, .unset, .unset, .unset] [(.int xwi)]) (fun _ kx_ => XS.iload X108.here hx rfl (hb hby at_52) rfl kx_) ?_
  refine W.s1 (mkF m 56 #[.val (.int xa), .val (.int xb), .val (.long yp), .second, .val (.int xj), .val (.long yq), .second, .val (.int xc), .val (.ref b101), .val (.int xwi), .val (.int xbi), .val (.int xdj), .val (.ref b104), .unset, .unset, .unset, .unset, .unset, .unset, .unset, .unset] [(.int (6 : Int32)), (.int xwi)]) (fun _ kx_ => XS.bipush X108.here hx rfl (hb hby at_54) kx_) ?_
  refine W.s1 (mkF m 57 #[.val (.int xa), .val (.int xb), .val (.long yp), .second, .val (.int xj), .val (.long yq), .second, .val (.int xc), .val (.ref b101), .val (.int xwi), .val (.int xbi), .val (.int xdj), .val (.ref b104), .unset, .unset, .unset, .unset, .unset, .unset, .unset, .unset] [(.int (xwi <<< ((6 : Int32) &&& 31)))]) (fun _ kx_ => XS.ishl X108.here hx rfl (hb hby at_56) rfl kx_) ?_
  refine W.s1 (mkF m 59 #[.val (.int xa), .val (.int xb), .val (.long yp), .second, .val (.int xj), .val (.long yq), .second, .val (.int xc), .val (.ref b101), .val (.int xwi), .val (.int xbi), .val (.int xdj), .val (.ref b104), .unset, .unset, .unset, .unset, .unset, .unset, .unset, .unset] [(.int xbi), (.int (xwi <<< ((6 : Int32) &&& 31)))]) (fun _ kx_ => XS.iload X108.here hx rfl (hb hby at_57) rfl kx_) ?_
  refine W.s1 (mkF m 60 #[.val (.int xa), .val (.int xb), .val (.long yp), .second, .val (.int xj), .val (.long yq), .second, .val (.int xc), .val (.ref b101), .val (.int xwi), .val (.int xbi), .val (.int xdj), .val (.ref b104), .unset, .unset, .unset, .unset, .unset, .unset, .unset, .unset] [(.int ((xwi <<< ((6 : Int32) &&& 31)) ||| xbi))]) (fun _ kx_ => XS.ior X108.here hx rfl (hb hby at_59) rfl kx_) ?_
  generalize hg_xlow : ((xwi <<< ((6 : Int32) &&& 31)) ||| xbi) = xlow
  refine W.s1 (mkF m 62 #[.val (.int xa), .val (.int xb), .val (.long yp), .second, .val (.int xj), .val (.long yq), .second, .val (.int xc), .val (.ref b101), .val (.int xwi), .val (.int xbi), .val (.int xdj), .val (.ref b104), .val (.int xlow), .unset, .unset, .unset, .unset, .unset, .unset, .unset] []) (fun _ kx_ => XS.istore X108.here hx rfl (hb hby at_60) rfl (l' := #[.val (.int xa), .val (.int xb), .val (.long yp), .second, .val (.int xj), .val (.long yq), .second, .val (.int xc), .val (.ref b101), .val (.int xwi), .val (.int xbi), .val (.int xdj), .val (.ref b104), .val (.int xlow), .unset, .unset, .unset, .unset, .unset, .unset, .unset]) rfl kx_) ?_
  obtain ⟨lo1, lo2⟩ := own_low hkw hkwl hg_xbi hg_xlow
  refine W.s1 (mkF m 63 #[.val (.int xa), .val (.int xb), .val (.long yp), .second, .val (.int xj), .val (.long yq), .second, .val (.int xc), .val (.ref b101), .val (.int xwi), .val (.int xbi), .val (.int xdj), .val (.ref b104), .val (.int xlow), .unset, .unset, .unset, .unset, .unset, .unset, .unset] [(.long yp)]) (fun _ kx_ => XS.lloadN X108.here hx rfl (hb hby at_62) rfl kx_) ?_
  refine W.s1 (mkF m 65 #[.val (.int xa), .val (.int xb), .val (.long yp), .second, .val (.int xj), .val (.long yq), .second, .val (.int xc), .val (.ref b101), .val (.int xwi), .val (.int xbi), .val (.int xdj), .val (.ref b104), .val (.int xlow), .unset, .unset, .unset, .unset, .unset, .unset, .unset] [(.int xbi), (.long yp)]) (fun _ kx_ => XS.iload X108.here hx rfl (hb hby at_63) rfl kx_) ?_
  obtain ⟨_, _, ⟨T112, L112, k112, n112⟩, -, X112, ⟨Lc112, hQ112, l112, y112, z112⟩, st112⟩ := Jvm.LawKit.callS X108 hx (y := (⟨"com/example/bitpress/bitpress/BitsetBlockContainsPinLaw", "bit", "(JI)Z"⟩ : MethodName)) hown (mvT hZ (hw _ (List.mem_of_getElem? (i := 17) rfl))) (mvT hZ (hw _ (List.mem_of_getElem? (i := 18) rfl))) (mvT hZ (hw _ (List.mem_of_getElem? (i := 19) rfl))) (mvT hZ (hw _ (List.mem_of_getElem? (i := 20) rfl))) (by decide) (backOf (W := 0) (rm4 l Z a0 hw [] yp xbi h108 n0 Z108 ) hZ (hw _ (List.mem_of_getElem? (i := 20) rfl)) (hw _ (List.mem_of_getElem? (i := 19) rfl)) (by decide) (by decide)) (g := (mkF m 65 #[.val (.int xa), .val (.int xb), .val (.long yp), .second, .val (.int xj), .val (.long yq), .second, .val (.int xc), .val (.ref b101), .val (.int xwi), .val (.int xbi), .val (.int xdj), .val (.ref b104), .val (.int xlow), .unset, .unset, .unset, .unset, .unset, .unset, .unset] [(.int xbi), (.long yp)])) rfl (by rw [hml]; rfl) (argsL := [(.long yp), (.int xbi)]) (rest := []) (lenOf pd_2 rfl) rfl (by show 2 * 0 + _ ≤ _; exact Nat.le_of_eq rfl) (hb hby at_65) (fun _ _ => ⟨rfl, e108, (by decide : 2 + 0 ≤ _), (by decide : 1025 + 0 ≤ _)⟩)
  dsimp only [Pt.U, Pt.locs, Pt.cells, Pt.slots] at X112 l112 y112 z112 st112 hQ112
  subst l112 y112 z112
  obtain ⟨ra, rfl, Nq112, eq112, hra⟩ := hQ112
  have N112 := Fr.app N108 Nq112
  refine W.s2 (mkF m 68 #[.val (.int xa), .val (.int xb), .val (.long yp), .second, .val (.int xj), .val (.long yq), .second, .val (.int xc), .val (.ref b101), .val (.int xwi), .val (.int xbi), .val (.int xdj), .val (.ref b104), .val (.int xlow), .unset, .unset, .unset, .unset, .unset, .unset, .unset] [(.int ra)]) st112 ?_
  refine W.s1 (mkF m 70 #[.val (.int xa), .val (.int xb), .val (.long yp), .second, .val (.int xj), .val (.long yq), .second, .val (.int xc), .val (.ref b101), .val (.int xwi), .val (.int xbi), .val (.int xdj), .val (.ref b104), .val (.int xlow), .val (.int ra), .unset, .unset, .unset, .unset, .unset, .unset] []) (fun _ kx_ => XS.istore X112.here hx rfl (hb hby at_68) rfl (l' := #[.val (.int xa), .val (.int xb), .val (.long yp), .second, .val (.int xj), .val (.long yq), .second, .val (.int xc), .val (.ref b101), .val (.int xwi), .val (.int xbi), .val (.int xdj), .val (.ref b104), .val (.int xlow), .val (.int ra), .unset, .unset, .unset, .unset, .unset, .unset]) rfl kx_) ?_
  refine W.s1 (mkF m 72 #[.val (.int xa), .val (.int xb), .val (.long yp), .second, .val (.int xj), .val (.long yq), .second, .val (.int xc), .val (.ref b101), .val (.int xwi), .val (.int xbi), .val (.int xdj), .val (.ref b104), .val (.int xlow), .val (.int ra), .unset, .unset, .unset, .unset, .unset, .unset] [(.int xc)]) (fun _ kx_ => XS.iload X112.here hx rfl (hb hby at_70) rfl kx_) ?_
  refine W.s1 (mkF m 74 #[.val (.int xa), .val (.int xb), .val (.long yp), .second, .val (.int xj), .val (.long yq), .second, .val (.int xc), .val (.ref b101), .val (.int xwi), .val (.int xbi), .val (.int xdj), .val (.ref b104), .val (.int xlow), .val (.int ra), .unset, .unset, .unset, .unset, .unset, .unset] [(.int (65535 : Int32)), (.int xc)]) (fun _ kx_ => X112.ldcInt hx hown (mvT hZ (hw _ (List.mem_of_getElem? (i := 21) rfl))) (g := (mkF m 72 #[.val (.int xa), .val (.int xb), .val (.long yp), .second, .val (.int xj), .val (.long yq), .second, .val (.int xc), .val (.ref b101), .val (.int xwi), .val (.int xbi), .val (.int xdj), .val (.ref b104), .val (.int xlow), .val (.int ra), .unset, .unset, .unset, .unset, .unset, .unset] [(.int xc)])) rfl (hb hby at_72) _ kx_) ?_
  refine W.s1 (mkF m 75 #[.val (.int xa), .val (.int xb), .val (.long yp), .second, .val (.int xj), .val (.long yq), .second, .val (.int xc), .val (.ref b101), .val (.int xwi), .val (.int xbi), .val (.int xdj), .val (.ref b104), .val (.int xlow), .val (.int ra), .unset, .unset, .unset, .unset, .unset, .unset] [(.int (xc &&& (65535 : Int32)))]) (fun _ kx_ => XS.iand X112.here hx rfl (hb hby at_74) rfl kx_) ?_
  generalize hg_xlo2 : (xc &&& (65535 : Int32)) = xlo2
  refine W.s1 (mkF m 77 #[.val (.int xa), .val (.int xb), .val (.long yp), .second, .val (.int xj), .val (.long yq), .second, .val (.int xc), .val (.ref b101), .val (.int xwi), .val (.int xbi), .val (.int xdj), .val (.ref b104), .val (.int xlow), .val (.int ra), .val (.int xlo2), .unset, .unset, .unset, .unset, .unset] []) (fun _ kx_ => XS.istore X112.here hx rfl (hb hby at_75) rfl (l' := #[.val (.int xa), .val (.int xb), .val (.long yp), .second, .val (.int xj), .val (.long yq), .second, .val (.int xc), .val (.ref b101), .val (.int xwi), .val (.int xbi), .val (.int xdj), .val (.ref b104), .val (.int xlow), .val (.int ra), .val (.int xlo2), .unset, .unset, .unset, .unset, .unset]) rfl kx_) ?_
  refine W.s1 (mkF m 79 #[.val (.int xa), .val (.int xb), .val (.long yp), .second, .val (.int xj), .val (.long yq), .second, .val (.int xc), .val (.ref b101), .val (.int xwi), .val (.int xbi), .val (.int xdj), .val (.ref b104), .val (.int xlow), .val (.int ra), .val (.int xlo2), .unset, .unset, .unset, .unset, .unset] [(.int xlo2)]) (fun _ kx_ => XS.iload X112.here hx rfl (hb hby at_77) rfl kx_) ?_
  refine W.s1 (mkF m 81 #[.val (.int xa), .val (.int xb), .val (.long yp), .second, .val (.int xj), .val (.long yq), .second, .val (.int xc), .val (.ref b101), .val (.int xwi), .val (.int xbi), .val (.int xdj), .val (.ref b104), .val (.int xlow), .val (.int ra), .val (.int xlo2), .unset, .unset, .unset, .unset, .unset] [(.int (6 : Int32)), (.int xlo2)]) (fun _ kx_ => XS.bipush X112.here hx rfl (hb hby at_79) kx_) ?_
  refine W.s1 (mkF m 82 #[.val (.int xa), .val (.int xb), .val (.long yp), .second, .val (.int xj), .val (.long yq), .second, .val (.int xc), .val (.ref b101), .val (.int xwi), .val (.int xbi), .val (.int xdj), .val (.ref b104), .val (.int xlow), .val (.int ra), .val (.int xlo2), .unset, .unset, .unset, .unset, .unset] [(.int ((xlo2.toUInt32 >>> ((6 : Int32) &&& 31).toUInt32).toInt32))]) (fun _ kx_ => XS.iushr X112.here hx rfl (hb hby at_81) rfl kx_) ?_
  generalize hg_xw2 : ((xlo2.toUInt32 >>> ((6 : Int32) &&& 31).toUInt32).toInt32) = xw2
  refine W.s1 (mkF m 84 #[.val (.int xa), .val (.int xb), .val (.long yp), .second, .val (.int xj), .val (.long yq), .second, .val (.int xc), .val (.ref b101), .val (.int xwi), .val (.int xbi), .val (.int xdj), .val (.ref b104), .val (.int xlow), .val (.int ra), .val (.int xlo2), .val (.int xw2), .unset, .unset, .unset, .unset] []) (fun _ kx_ => XS.istore X112.here hx rfl (hb hby at_82) rfl (l' := #[.val (.int xa), .val (.int xb), .val (.long yp), .second, .val (.int xj), .val (.long yq), .second, .val (.int xc), .val (.ref b101), .val (.int xwi), .val (.int xbi), .val (.int xdj), .val (.ref b104), .val (.int xlow), .val (.int ra), .val (.int xlo2), .val (.int xw2), .unset, .unset, .unset, .unset]) rfl kx_) ?_
  refine W.s1 (mkF m 86 #[.val (.int xa), .val (.int xb), .val (.long yp), .second, .val (.int xj), .val (.long yq), .second, .val (.int xc), .val (.ref b101), .val (.int xwi), .val (.int xbi), .val (.int xdj), .val (.ref b104), .val (.int xlow), .val (.int ra), .val (.int xlo2), .val (.int xw2), .unset, .unset, .unset, .unset] [(.int xlo2)]) (fun _ kx_ => XS.iload X112.here hx rfl (hb hby at_84) rfl kx_) ?_
  refine W.s1 (mkF m 88 #[.val (.int xa), .val (.int xb), .val (.long yp), .second, .val (.int xj), .val (.long yq), .second, .val (.int xc), .val (.ref b101), .val (.int xwi), .val (.int xbi), .val (.int xdj), .val (.ref b104), .val (.int xlow), .val (.int ra), .val (.int xlo2), .val (.int xw2), .unset, .unset, .unset, .unset] [(.int (63 : Int32)), (.int xlo2)]) (fun _ kx_ => XS.bipush X112.here hx rfl (hb hby at_86) kx_) ?_
  refine W.s1 (mkF m 89 #[.val (.int xa), .val (.int xb), .val (.long yp), .second, .val (.int xj), .val (.long yq), .second, .val (.int xc), .val (.ref b101), .val (.int xwi), .val (.int xbi), .val (.int xdj), .val (.ref b104), .val (.int xlow), .val (.int ra), .val (.int xlo2), .val (.int xw2), .unset, .unset, .unset, .unset] [(.int (xlo2 &&& (63 : Int32)))]) (fun _ kx_ => XS.iand X112.here hx rfl (hb hby at_88) rfl kx_) ?_
  generalize hg_xb2 : (xlo2 &&& (63 : Int32)) = xb2
  refine W.s1 (mkF m 91 #[.val (.int xa), .val (.int xb), .val (.long yp), .second, .val (.int xj), .val (.long yq), .second, .val (.int xc), .val (.ref b101), .val (.int xwi), .val (.int xbi), .val (.int xdj), .val (.ref b104), .val (.int xlow), .val (.int ra), .val (.int xlo2), .val (.int xw2), .val (.int xb2), .unset, .unset, .unset] []) (fun _ kx_ => XS.istore X112.here hx rfl (hb hby at_89) rfl (l' := #[.val (.int xa), .val (.int xb), .val (.long yp), .second, .val (.int xj), .val (.long yq), .second, .val (.int xc), .val (.ref b101), .val (.int xwi), .val (.int xbi), .val (.int xdj), .val (.ref b104), .val (.int xlow), .val (.int ra), .val (.int xlo2), .val (.int xw2), .val (.int xb2), .unset, .unset, .unset]) rfl kx_) ?_
  obtain ⟨k2, hk2l, hk2, lo3, lo4⟩ := own_low2 hg_xlo2 hg_xw2 hg_xb2
  refine W.s1 (mkF m 93 #[.val (.int xa), .val (.int xb), .val (.long yp), .second, .val (.int xj), .val (.long yq), .second, .val (.int xc), .val (.ref b101), .val (.int xwi), .val (.int xbi), .val (.int xdj), .val (.ref b104), .val (.int xlow), .val (.int ra), .val (.int xlo2), .val (.int xw2), .val (.int xb2), .unset, .unset, .unset] [(.int xw2)]) (fun _ kx_ => XS.iload X112.here hx rfl (hb hby at_91) rfl kx_) ?_
  refine W.s1 (mkF m 95 #[.val (.int xa), .val (.int xb), .val (.long yp), .second, .val (.int xj), .val (.long yq), .second, .val (.int xc), .val (.ref b101), .val (.int xwi), .val (.int xbi), .val (.int xdj), .val (.ref b104), .val (.int xlow), .val (.int ra), .val (.int xlo2), .val (.int xw2), .val (.int xb2), .unset, .unset, .unset] [(.int xwi), (.int xw2)]) (fun _ kx_ => XS.iload X112.here hx rfl (hb hby at_93) rfl kx_) ?_
  refine W.icmp X112 hx (hb hby at_95) (pc' := 109) (pc'' := 98) (by decide) (by decide) rfl (fun (c95 : ¬ xw2 = xwi) => ?_) (fun (c95 : xw2 = xwi) => ?_)
  · refine W.s1 (mkF m 111 #[.val (.int xa), .val (.int xb), .val (.long yp), .second, .val (.int xj), .val (.long yq), .second, .val (.int xc), .val (.ref b101), .val (.int xwi), .val (.int xbi), .val (.int xdj), .val (.ref b104), .val (.int xlow), .val (.int ra), .val (.int xlo2), .val (.int xw2), .val (.int xb2), .unset, .unset, .unset] [(.int xw2)]) (fun _ kx_ => XS.iload X112.here hx rfl (hb hby at_109) rfl kx_) ?_
    refine W.s1 (mkF m 113 #[.val (.int xa), .val (.int xb), .val (.long yp), .second, .val (.int xj), .val (.long yq), .second, .val (.int xc), .val (.ref b101), .val (.int xwi), .val (.int xbi), .val (.int xdj), .val (.ref b104), .val (.int xlow), .val (.int ra), .val (.int xlo2), .val (.int xw2), .val (.int xb2), .unset, .unset, .unset] [(.int xdj), (.int xw2)]) (fun _ kx_ => XS.iload X112.here hx rfl (hb hby at_111) rfl kx_) ?_
    refine W.icmp X112 hx (hb hby at_113) (pc' := 128) (pc'' := 116) (by decide) (by decide) rfl (fun (c113 : ¬ xw2 = xdj) => ?_) (fun (c113 : xw2 = xdj) => ?_)
    · refine W.s1 (mkF m 129 #[.val (.int xa), .val (.int xb), .val (.long yp), .second, .val (.int xj), .val (.long yq), .second, .val (.int xc), .val (.ref b101), .val (.int xwi), .val (.int xbi), .val (.int xdj), .val (.ref b104), .val (.int xlow), .val (.int ra), .val (.int xlo2), .val (.int xw2), .val (.int xb2), .unset, .unset, .unset] [(.int (0 : Int32))]) (fun _ kx_ => XS.iconst X112.here hx rfl (hb hby at_128) kx_) ?_
      refine W.s1 (mkF m 131 #[.val (.int xa), .val (.int xb), .val (.long yp), .second, .val (.int xj), .val (.long yq), .second, .val (.int xc), .val (.ref b101), .val (.int xwi), .val (.int xbi), .val (.int xdj), .val (.ref b104), .val (.int xlow), .val (.int ra), .val (.int xlo2), .val (.int xw2), .val (.int xb2), .val (.int (0 : Int32)), .unset, .unset] []) (fun _ kx_ => XS.istore X112.here hx rfl (hb hby at_129) rfl (l' := #[.val (.int xa), .val (.int xb), .val (.long yp), .second, .val (.int xj), .val (.long yq), .second, .val (.int xc), .val (.ref b101), .val (.int xwi), .val (.int xbi), .val (.int xdj), .val (.ref b104), .val (.int xlow), .val (.int ra), .val (.int xlo2), .val (.int xw2), .val (.int xb2), .val (.int (0 : Int32)), .unset, .unset]) rfl kx_) ?_
      refine W.s1 (mkF m 133 #[.val (.int xa), .val (.int xb), .val (.long yp), .second, .val (.int xj), .val (.long yq), .second, .val (.int xc), .val (.ref b101), .val (.int xwi), .val (.int xbi), .val (.int xdj), .val (.ref b104), .val (.int xlow), .val (.int ra), .val (.int xlo2), .val (.int xw2), .val (.int xb2), .val (.int (0 : Int32)), .unset, .unset] [(.ref b104)]) (fun _ kx_ => XS.aload X112.here hx rfl (hb hby at_131) rfl rfl kx_) ?_
      refine W.s1 (mkF m 135 #[.val (.int xa), .val (.int xb), .val (.long yp), .second, .val (.int xj), .val (.long yq), .second, .val (.int xc), .val (.ref b101), .val (.int xwi), .val (.int xbi), .val (.int xdj), .val (.ref b104), .val (.int xlow), .val (.int ra), .val (.int xlo2), .val (.int xw2), .val (.int xb2), .val (.int (0 : Int32)), .unset, .unset] [(.int xlow), (.ref b104)]) (fun _ kx_ => XS.iload X112.here hx rfl (hb hby at_133) rfl kx_) ?_
      obtain ⟨cq113, kq113, q113a, q113b, q113c⟩ := isOf hZ eq112 f110
      obtain ⟨_, _, ⟨T113, L113, k113, n113⟩, -, X113, ⟨Lc113, hQ113, l113, y113, z113⟩, st113⟩ := X112.virtualBack hx (y := (⟨"com/example/bitpress/bitpress/DocBlock$BitsetBlock", "contains", "(I)Z"⟩ : MethodName)) (z := (⟨"com/example/bitpress/bitpress/DocBlock$BitsetBlock", "contains", "(I)Z"⟩ : MethodName)) hown (mvT hZ (hw _ (List.mem_of_getElem? (i := 22) rfl))) (mvT hZ (hw _ (List.mem_of_getElem? (i := 23) rfl))) (notFace_of_selects (args := #[]) (mvT hZ (hw _ (List.mem_of_getElem? (i := 25) rfl)))) (mvT hZ (hw _ (List.mem_of_getElem? (i := 25) rfl))) (mvT hZ (hw _ (List.mem_of_getElem? (i := 24) rfl))) (by decide) (backOf (W := 0) (rm5 l Z a0 hw [] b104 xlow b101 (W.up (W.up (fun _ => 0) kd yq) kw yp) kw h108 n0 Z108 F108 f109 lo1 hkwl) hZ (hw _ (List.mem_of_getElem? (i := 26) rfl)) (hw _ (List.mem_of_getElem? (i := 3) rfl)) (by decide) (by decide)) q113a q113c (g := (mkF m 135 #[.val (.int xa), .val (.int xb), .val (.long yp), .second, .val (.int xj), .val (.long yq), .second, .val (.int xc), .val (.ref b101), .val (.int xwi), .val (.int xbi), .val (.int xdj), .val (.ref b104), .val (.int xlow), .val (.int ra), .val (.int xlo2), .val (.int xw2), .val (.int xb2), .val (.int (0 : Int32)), .unset, .unset] [(.int xlow), (.ref b104)])) rfl (by rw [hml]; rfl) (Steps.refl _) (argsL := [(.int xlow)]) (rest := []) (lenOf pd_3 rfl) rfl (by show 2 * 0 + _ ≤ _; exact Nat.le_of_eq rfl) (hb hby at_135) (fun _ _ => ⟨rfl, eq112, (by decide : 2 + 0 ≤ _), (by decide : 1025 + 0 ≤ _)⟩)
      dsimp only [Pt.U, Pt.locs, Pt.cells, Pt.slots] at X113 l113 y113 z113 st113 hQ113
      subst l113 y113 z113
      obtain ⟨rc, rfl, Nq113, eq113, hrc⟩ := hQ113
      have N113 := Fr.app N112 Nq113
      rw [show (W.up (W.up (fun _ => 0) kd yq) kw yp) kw = yp from W.up_same _ _ _] at hrc
      have hqa : rc = ra := by rcases hrc with ⟨rfl, p⟩ | ⟨rfl, p⟩ <;> rcases hra with ⟨rfl, q⟩ | ⟨rfl, q⟩ <;> first | rfl | exact absurd ((own_bit yp lo2).mp p) q | exact absurd ((own_bit yp lo2).mpr q) p
      refine W.s3 (mkF m 138 #[.val (.int xa), .val (.int xb), .val (.long yp), .second, .val (.int xj), .val (.long yq), .second, .val (.int xc), .val (.ref b101), .val (.int xwi), .val (.int xbi), .val (.int xdj), .val (.ref b104), .val (.int xlow), .val (.int ra), .val (.int xlo2), .val (.int xw2), .val (.int xb2), .val (.int (0 : Int32)), .unset, .unset] [(.int rc)]) st113 ?_
      refine W.s1 (mkF m 140 #[.val (.int xa), .val (.int xb), .val (.long yp), .second, .val (.int xj), .val (.long yq), .second, .val (.int xc), .val (.ref b101), .val (.int xwi), .val (.int xbi), .val (.int xdj), .val (.ref b104), .val (.int xlow), .val (.int ra), .val (.int xlo2), .val (.int xw2), .val (.int xb2), .val (.int (0 : Int32)), .val (.int rc), .unset] []) (fun _ kx_ => XS.istore X113.here hx rfl (hb hby at_138) rfl (l' := #[.val (.int xa), .val (.int xb), .val (.long yp), .second, .val (.int xj), .val (.long yq), .second, .val (.int xc), .val (.ref b101), .val (.int xwi), .val (.int xbi), .val (.int xdj), .val (.ref b104), .val (.int xlow), .val (.int ra), .val (.int xlo2), .val (.int xw2), .val (.int xb2), .val (.int (0 : Int32)), .val (.int rc), .unset]) rfl kx_) ?_
      refine W.s1 (mkF m 142 #[.val (.int xa), .val (.int xb), .val (.long yp), .second, .val (.int xj), .val (.long yq), .second, .val (.int xc), .val (.ref b101), .val (.int xwi), .val (.int xbi), .val (.int xdj), .val (.ref b104), .val (.int xlow), .val (.int ra), .val (.int xlo2), .val (.int xw2), .val (.int xb2), .val (.int (0 : Int32)), .val (.int rc), .unset] [(.ref b104)]) (fun _ kx_ => XS.aload X113.here hx rfl (hb hby at_140) rfl rfl kx_) ?_
      refine W.s1 (mkF m 144 #[.val (.int xa), .val (.int xb), .val (.long yp), .second, .val (.int xj), .val (.long yq), .second, .val (.int xc), .val (.ref b101), .val (.int xwi), .val (.int xbi), .val (.int xdj), .val (.ref b104), .val (.int xlow), .val (.int ra), .val (.int xlo2), .val (.int xw2), .val (.int xb2), .val (.int (0 : Int32)), .val (.int rc), .unset] [(.int xlo2), (.ref b104)]) (fun _ kx_ => XS.iload X113.here hx rfl (hb hby at_142) rfl kx_) ?_
      obtain ⟨cq114, kq114, q114a, q114b, q114c⟩ := isOf hZ eq113 f110
      obtain ⟨_, _, ⟨T114, L114, k114, n114⟩, -, X114, ⟨Lc114, hQ114, l114, y114, z114⟩, st114⟩ := X113.virtualBack hx (y := (⟨"com/example/bitpress/bitpress/DocBlock$BitsetBlock", "contains", "(I)Z"⟩ : MethodName)) (z := (⟨"com/example/bitpress/bitpress/DocBlock$BitsetBlock", "contains", "(I)Z"⟩ : MethodName)) hown (mvT hZ (hw _ (List.mem_of_getElem? (i := 22) rfl))) (mvT hZ (hw _ (List.mem_of_getElem? (i := 23) rfl))) (notFace_of_selects (args := #[]) (mvT hZ (hw _ (List.mem_of_getElem? (i := 25) rfl)))) (mvT hZ (hw _ (List.mem_of_getElem? (i := 25) rfl))) (mvT hZ (hw _ (List.mem_of_getElem? (i := 24) rfl))) (by decide) (backOf (W := 0) (rm5 l Z a0 hw [] b104 xlo2 b101 (W.up (W.up (fun _ => 0) kd yq) kw yp) k2 h108 n0 Z108 F108 f109 lo3 hk2l) hZ (hw _ (List.mem_of_getElem? (i := 26) rfl)) (hw _ (List.mem_of_getElem? (i := 3) rfl)) (by decide) (by decide)) q114a q114c (g := (mkF m 144 #[.val (.int xa), .val (.int xb), .val (.long yp), .second, .val (.int xj), .val (.long yq), .second, .val (.int xc), .val (.ref b101), .val (.int xwi), .val (.int xbi), .val (.int xdj), .val (.ref b104), .val (.int xlow), .val (.int ra), .val (.int xlo2), .val (.int xw2), .val (.int xb2), .val (.int (0 : Int32)), .val (.int rc), .unset] [(.int xlo2), (.ref b104)])) rfl (by rw [hml]; rfl) (Steps.refl _) (argsL := [(.int xlo2)]) (rest := []) (lenOf pd_3 rfl) rfl (by show 2 * 0 + _ ≤ _; exact Nat.le_of_eq rfl) (hb hby at_144) (fun _ _ => ⟨rfl, eq113, (by decide : 2 + 0 ≤ _), (by decide : 1025 + 0 ≤ _)⟩)
      dsimp only [Pt.U, Pt.locs, Pt.cells, Pt.slots] at X114 l114 y114 z114 st114 hQ114
      subst l114 y114 z114
      obtain ⟨rd, rfl, Nq114, eq114, hrd⟩ := hQ114
      have N114 := Fr.app N113 Nq114
      have hv : (W.up (W.up (fun _ => 0) kd yq) kw yp) k2 = 0 := by have e1 : ¬ k2 = kw := fun q => c95 (Int32.toInt_inj.mp (by omega)); have e2 : ¬ k2 = kd := fun q => c113 (Int32.toInt_inj.mp (by omega)); rw [W.up_other _ _ e1, W.up_other _ _ e2]
      rw [hv] at hrd
      have hqb : rd = (0 : Int32) := by rcases hrd with ⟨rfl, p⟩ | ⟨rfl, p⟩; rfl; exact absurd (own_zero _) p
      refine W.s3 (mkF m 147 #[.val (.int xa), .val (.int xb), .val (.long yp), .second, .val (.int xj), .val (.long yq), .second, .val (.int xc), .val (.ref b101), .val (.int xwi), .val (.int xbi), .val (.int xdj), .val (.ref b104), .val (.int xlow), .val (.int ra), .val (.int xlo2), .val (.int xw2), .val (.int xb2), .val (.int (0 : Int32)), .val (.int rc), .unset] [(.int rd)]) st114 ?_
      refine W.s1 (mkF m 149 #[.val (.int xa), .val (.int xb), .val (.long yp), .second, .val (.int xj), .val (.long yq), .second, .val (.int xc), .val (.ref b101), .val (.int xwi), .val (.int xbi), .val (.int xdj), .val (.ref b104), .val (.int xlow), .val (.int ra), .val (.int xlo2), .val (.int xw2), .val (.int xb2), .val (.int (0 : Int32)), .val (.int rc), .val (.int rd)] []) (fun _ kx_ => XS.istore X114.here hx rfl (hb hby at_147) rfl (l' := #[.val (.int xa), .val (.int xb), .val (.long yp), .second, .val (.int xj), .val (.long yq), .second, .val (.int xc), .val (.ref b101), .val (.int xwi), .val (.int xbi), .val (.int xdj), .val (.ref b104), .val (.int xlow), .val (.int ra), .val (.int xlo2), .val (.int xw2), .val (.int xb2), .val (.int (0 : Int32)), .val (.int rc), .val (.int rd)]) rfl kx_) ?_
      refine W.s1 (mkF m 151 #[.val (.int xa), .val (.int xb), .val (.long yp), .second, .val (.int xj), .val (.long yq), .second, .val (.int xc), .val (.ref b101), .val (.int xwi), .val (.int xbi), .val (.int xdj), .val (.ref b104), .val (.int xlow), .val (.int ra), .val (.int xlo2), .val (.int xw2), .val (.int xb2), .val (.int (0 : Int32)), .val (.int rc), .val (.int rd)] [(.int rc)]) (fun _ kx_ => XS.iload X114.here hx rfl (hb hby at_149) rfl kx_) ?_
      refine W.s1 (mkF m 153 #[.val (.int xa), .val (.int xb), .val (.long yp), .second, .val (.int xj), .val (.long yq), .second, .val (.int xc), .val (.ref b101), .val (.int xwi), .val (.int xbi), .val (.int xdj), .val (.ref b104), .val (.int xlow), .val (.int ra), .val (.int xlo2), .val (.int xw2), .val (.int xb2), .val (.int (0 : Int32)), .val (.int rc), .val (.int rd)] [(.int ra), (.int rc)]) (fun _ kx_ => XS.iload X114.here hx rfl (hb hby at_151) rfl kx_) ?_
      refine W.icmp X114 hx (hb hby at_153) (pc' := 167) (pc'' := 156) (by decide) (by decide) rfl (fun (c153 : ¬ rc = ra) => ?_) (fun (c153 : rc = ra) => ?_)
      · exact absurd hqa c153
      · refine W.s1 (mkF m 158 #[.val (.int xa), .val (.int xb), .val (.long yp), .second, .val (.int xj), .val (.long yq), .second, .val (.int xc), .val (.ref b101), .val (.int xwi), .val (.int xbi), .val (.int xdj), .val (.ref b104), .val (.int xlow), .val (.int ra), .val (.int xlo2), .val (.int xw2), .val (.int xb2), .val (.int (0 : Int32)), .val (.int rc), .val (.int rd)] [(.int rd)]) (fun _ kx_ => XS.iload X114.here hx rfl (hb hby at_156) rfl kx_) ?_
        refine W.s1 (mkF m 160 #[.val (.int xa), .val (.int xb), .val (.long yp), .second, .val (.int xj), .val (.long yq), .second, .val (.int xc), .val (.ref b101), .val (.int xwi), .val (.int xbi), .val (.int xdj), .val (.ref b104), .val (.int xlow), .val (.int ra), .val (.int xlo2), .val (.int xw2), .val (.int xb2), .val (.int (0 : Int32)), .val (.int rc), .val (.int rd)] [(.int (0 : Int32)), (.int rd)]) (fun _ kx_ => XS.iload X114.here hx rfl (hb hby at_158) rfl kx_) ?_
        refine W.icmp X114 hx (hb hby at_160) (pc' := 167) (pc'' := 163) (by decide) (by decide) rfl (fun (c160 : ¬ rd = (0 : Int32)) => ?_) (fun (c160 : rd = (0 : Int32)) => ?_)
        · exact absurd hqb c160
        · refine W.s1 (mkF m 164 #[.val (.int xa), .val (.int xb), .val (.long yp), .second, .val (.int xj), .val (.long yq), .second, .val (.int xc), .val (.ref b101), .val (.int xwi), .val (.int xbi), .val (.int xdj), .val (.ref b104), .val (.int xlow), .val (.int ra), .val (.int xlo2), .val (.int xw2), .val (.int xb2), .val (.int (0 : Int32)), .val (.int rc), .val (.int rd)] [(.int (1 : Int32))]) (fun _ kx_ => XS.iconst X114.here hx rfl (hb hby at_163) kx_) ?_
          refine W.s1 (mkF m 168 #[.val (.int xa), .val (.int xb), .val (.long yp), .second, .val (.int xj), .val (.long yq), .second, .val (.int xc), .val (.ref b101), .val (.int xwi), .val (.int xbi), .val (.int xdj), .val (.ref b104), .val (.int xlow), .val (.int ra), .val (.int xlo2), .val (.int xw2), .val (.int xb2), .val (.int (0 : Int32)), .val (.int rc), .val (.int rd)] [(.int (1 : Int32))]) (fun _ kx_ => XS.goto X114.here hx rfl (pc0 := 164) (pc' := 168) rfl (hb hby at_164) (by decide) (by decide) kx_) ?_
          exact W.retZ X114 hx hlk (t := .boolean) (z' := (1 : Int32)) Bd.returns (by simp) (hb hby at_168) rfl (by show Q0 Z xa xb yp xj yq xc h0 n0 _ T114.heap _; rw [eq114]; exact ⟨rfl, N114⟩) (by decide) (by decide)
    · refine W.s1 (mkF m 118 #[.val (.int xa), .val (.int xb), .val (.long yp), .second, .val (.int xj), .val (.long yq), .second, .val (.int xc), .val (.ref b101), .val (.int xwi), .val (.int xbi), .val (.int xdj), .val (.ref b104), .val (.int xlow), .val (.int ra), .val (.int xlo2), .val (.int xw2), .val (.int xb2), .unset, .unset, .unset] [(.long yq)]) (fun _ kx_ => XS.lload X112.here hx rfl (hb hby at_116) rfl kx_) ?_
      refine W.s1 (mkF m 120 #[.val (.int xa), .val (.int xb), .val (.long yp), .second, .val (.int xj), .val (.long yq), .second, .val (.int xc), .val (.ref b101), .val (.int xwi), .val (.int xbi), .val (.int xdj), .val (.ref b104), .val (.int xlow), .val (.int ra), .val (.int xlo2), .val (.int xw2), .val (.int xb2), .unset, .unset, .unset] [(.int xb2), (.long yq)]) (fun _ kx_ => XS.iload X112.here hx rfl (hb hby at_118) rfl kx_) ?_
      obtain ⟨_, _, ⟨T115, L115, k115, n115⟩, -, X115, ⟨Lc115, hQ115, l115, y115, z115⟩, st115⟩ := Jvm.LawKit.callS X112 hx (y := (⟨"com/example/bitpress/bitpress/BitsetBlockContainsPinLaw", "bit", "(JI)Z"⟩ : MethodName)) hown (mvT hZ (hw _ (List.mem_of_getElem? (i := 17) rfl))) (mvT hZ (hw _ (List.mem_of_getElem? (i := 18) rfl))) (mvT hZ (hw _ (List.mem_of_getElem? (i := 19) rfl))) (mvT hZ (hw _ (List.mem_of_getElem? (i := 20) rfl))) (by decide) (backOf (W := 0) (rm4 l Z a0 hw [] yq xb2 h108 n0 Z108 ) hZ (hw _ (List.mem_of_getElem? (i := 20) rfl)) (hw _ (List.mem_of_getElem? (i := 19) rfl)) (by decide) (by decide)) (g := (mkF m 120 #[.val (.int xa), .val (.int xb), .val (.long yp), .second, .val (.int xj), .val (.long yq), .second, .val (.int xc), .val (.ref b101), .val (.int xwi), .val (.int xbi), .val (.int xdj), .val (.ref b104), .val (.int xlow), .val (.int ra), .val (.int xlo2), .val (.int xw2), .val (.int xb2), .unset, .unset, .unset] [(.int xb2), (.long yq)])) rfl (by rw [hml]; rfl) (argsL := [(.long yq), (.int xb2)]) (rest := []) (lenOf pd_2 rfl) rfl (by show 2 * 0 + _ ≤ _; exact Nat.le_of_eq rfl) (hb hby at_120) (fun _ _ => ⟨rfl, eq112, (by decide : 2 + 0 ≤ _), (by decide : 1025 + 0 ≤ _)⟩)
      dsimp only [Pt.U, Pt.locs, Pt.cells, Pt.slots] at X115 l115 y115 z115 st115 hQ115
      subst l115 y115 z115
      obtain ⟨rb, rfl, Nq115, eq115, hrb⟩ := hQ115
      have N115 := Fr.app N112 Nq115
      refine W.s2 (mkF m 123 #[.val (.int xa), .val (.int xb), .val (.long yp), .second, .val (.int xj), .val (.long yq), .second, .val (.int xc), .val (.ref b101), .val (.int xwi), .val (.int xbi), .val (.int xdj), .val (.ref b104), .val (.int xlow), .val (.int ra), .val (.int xlo2), .val (.int xw2), .val (.int xb2), .unset, .unset, .unset] [(.int rb)]) st115 ?_
      refine W.s1 (mkF m 125 #[.val (.int xa), .val (.int xb), .val (.long yp), .second, .val (.int xj), .val (.long yq), .second, .val (.int xc), .val (.ref b101), .val (.int xwi), .val (.int xbi), .val (.int xdj), .val (.ref b104), .val (.int xlow), .val (.int ra), .val (.int xlo2), .val (.int xw2), .val (.int xb2), .val (.int rb), .unset, .unset] []) (fun _ kx_ => XS.istore X115.here hx rfl (hb hby at_123) rfl (l' := #[.val (.int xa), .val (.int xb), .val (.long yp), .second, .val (.int xj), .val (.long yq), .second, .val (.int xc), .val (.ref b101), .val (.int xwi), .val (.int xbi), .val (.int xdj), .val (.ref b104), .val (.int xlow), .val (.int ra), .val (.int xlo2), .val (.int xw2), .val (.int xb2), .val (.int rb), .unset, .unset]) rfl kx_) ?_
      refine W.s1 (mkF m 131 #[.val (.int xa), .val (.int xb), .val (.long yp), .second, .val (.int xj), .val (.long yq), .second, .val (.int xc), .val (.ref b101), .val (.int xwi), .val (.int xbi), .val (.int xdj), .val (.ref b104), .val (.int xlow), .val (.int ra), .val (.int xlo2), .val (.int xw2), .val (.int xb2), .val (.int rb), .unset, .unset] []) (fun _ kx_ => XS.goto X115.here hx rfl (pc0 := 125) (pc' := 131) rfl (hb hby at_125) (by decide) (by decide) kx_) ?_
      refine W.s1 (mkF m 133 #[.val (.int xa), .val (.int xb), .val (.long yp), .second, .val (.int xj), .val (.long yq), .second, .val (.int xc), .val (.ref b101), .val (.int xwi), .val (.int xbi), .val (.int xdj), .val (.ref b104), .val (.int xlow), .val (.int ra), .val (.int xlo2), .val (.int xw2), .val (.int xb2), .val (.int rb), .unset, .unset] [(.ref b104)]) (fun _ kx_ => XS.aload X115.here hx rfl (hb hby at_131) rfl rfl kx_) ?_
      refine W.s1 (mkF m 135 #[.val (.int xa), .val (.int xb), .val (.long yp), .second, .val (.int xj), .val (.long yq), .second, .val (.int xc), .val (.ref b101), .val (.int xwi), .val (.int xbi), .val (.int xdj), .val (.ref b104), .val (.int xlow), .val (.int ra), .val (.int xlo2), .val (.int xw2), .val (.int xb2), .val (.int rb), .unset, .unset] [(.int xlow), (.ref b104)]) (fun _ kx_ => XS.iload X115.here hx rfl (hb hby at_133) rfl kx_) ?_
      obtain ⟨cq116, kq116, q116a, q116b, q116c⟩ := isOf hZ eq115 f110
      obtain ⟨_, _, ⟨T116, L116, k116, n116⟩, -, X116, ⟨Lc116, hQ116, l116, y116, z116⟩, st116⟩ := X115.virtualBack hx (y := (⟨"com/example/bitpress/bitpress/DocBlock$BitsetBlock", "contains", "(I)Z"⟩ : MethodName)) (z := (⟨"com/example/bitpress/bitpress/DocBlock$BitsetBlock", "contains", "(I)Z"⟩ : MethodName)) hown (mvT hZ (hw _ (List.mem_of_getElem? (i := 22) rfl))) (mvT hZ (hw _ (List.mem_of_getElem? (i := 23) rfl))) (notFace_of_selects (args := #[]) (mvT hZ (hw _ (List.mem_of_getElem? (i := 25) rfl)))) (mvT hZ (hw _ (List.mem_of_getElem? (i := 25) rfl))) (mvT hZ (hw _ (List.mem_of_getElem? (i := 24) rfl))) (by decide) (backOf (W := 0) (rm5 l Z a0 hw [] b104 xlow b101 (W.up (W.up (fun _ => 0) kd yq) kw yp) kw h108 n0 Z108 F108 f109 lo1 hkwl) hZ (hw _ (List.mem_of_getElem? (i := 26) rfl)) (hw _ (List.mem_of_getElem? (i := 3) rfl)) (by decide) (by decide)) q116a q116c (g := (mkF m 135 #[.val (.int xa), .val (.int xb), .val (.long yp), .second, .val (.int xj), .val (.long yq), .second, .val (.int xc), .val (.ref b101), .val (.int xwi), .val (.int xbi), .val (.int xdj), .val (.ref b104), .val (.int xlow), .val (.int ra), .val (.int xlo2), .val (.int xw2), .val (.int xb2), .val (.int rb), .unset, .unset] [(.int xlow), (.ref b104)])) rfl (by rw [hml]; rfl) (Steps.refl _) (argsL := [(.int xlow)]) (rest := []) (lenOf pd_3 rfl) rfl (by show 2 * 0 + _ ≤ _; exact Nat.le_of_eq rfl) (hb hby at_135) (fun _ _ => ⟨rfl, eq115, (by decide : 2 + 0 ≤ _), (by decide : 1025 + 0 ≤ _)⟩)
      dsimp only [Pt.U, Pt.locs, Pt.cells, Pt.slots] at X116 l116 y116 z116 st116 hQ116
      subst l116 y116 z116
      obtain ⟨rc, rfl, Nq116, eq116, hrc⟩ := hQ116
      have N116 := Fr.app N115 Nq116
      rw [show (W.up (W.up (fun _ => 0) kd yq) kw yp) kw = yp from W.up_same _ _ _] at hrc
      have hqa : rc = ra := by rcases hrc with ⟨rfl, p⟩ | ⟨rfl, p⟩ <;> rcases hra with ⟨rfl, q⟩ | ⟨rfl, q⟩ <;> first | rfl | exact absurd ((own_bit yp lo2).mp p) q | exact absurd ((own_bit yp lo2).mpr q) p
      refine W.s3 (mkF m 138 #[.val (.int xa), .val (.int xb), .val (.long yp), .second, .val (.int xj), .val (.long yq), .second, .val (.int xc), .val (.ref b101), .val (.int xwi), .val (.int xbi), .val (.int xdj), .val (.ref b104), .val (.int xlow), .val (.int ra), .val (.int xlo2), .val (.int xw2), .val (.int xb2), .val (.int rb), .unset, .unset] [(.int rc)]) st116 ?_
      refine W.s1 (mkF m 140 #[.val (.int xa), .val (.int xb), .val (.long yp), .second, .val (.int xj), .val (.long yq), .second, .val (.int xc), .val (.ref b101), .val (.int xwi), .val (.int xbi), .val (.int xdj), .val (.ref b104), .val (.int xlow), .val (.int ra), .val (.int xlo2), .val (.int xw2), .val (.int xb2), .val (.int rb), .val (.int rc), .unset] []) (fun _ kx_ => XS.istore X116.here hx rfl (hb hby at_138) rfl (l' := #[.val (.int xa), .val (.int xb), .val (.long yp), .second, .val (.int xj), .val (.long yq), .second, .val (.int xc), .val (.ref b101), .val (.int xwi), .val (.int xbi), .val (.int xdj), .val (.ref b104), .val (.int xlow), .val (.int ra), .val (.int xlo2), .val (.int xw2), .val (.int xb2), .val (.int rb), .val (.int rc), .unset]) rfl kx_) ?_
      refine W.s1 (mkF m 142 #[.val (.int xa), .val (.int xb), .val (.long yp), .second, .val (.int xj), .val (.long yq), .second, .val (.int xc), .val (.ref b101), .val (.int xwi), .val (.int xbi), .val (.int xdj), .val (.ref b104), .val (.int xlow), .val (.int ra), .val (.int xlo2), .val (.int xw2), .val (.int xb2), .val (.int rb), .val (.int rc), .unset] [(.ref b104)]) (fun _ kx_ => XS.aload X116.here hx rfl (hb hby at_140) rfl rfl kx_) ?_
      refine W.s1 (mkF m 144 #[.val (.int xa), .val (.int xb), .val (.long yp), .second, .val (.int xj), .val (.long yq), .second, .val (.int xc), .val (.ref b101), .val (.int xwi), .val (.int xbi), .val (.int xdj), .val (.ref b104), .val (.int xlow), .val (.int ra), .val (.int xlo2), .val (.int xw2), .val (.int xb2), .val (.int rb), .val (.int rc), .unset] [(.int xlo2), (.ref b104)]) (fun _ kx_ => XS.iload X116.here hx rfl (hb hby at_142) rfl kx_) ?_
      obtain ⟨cq117, kq117, q117a, q117b, q117c⟩ := isOf hZ eq116 f110
      obtain ⟨_, _, ⟨T117, L117, k117, n117⟩, -, X117, ⟨Lc117, hQ117, l117, y117, z117⟩, st117⟩ := X116.virtualBack hx (y := (⟨"com/example/bitpress/bitpress/DocBlock$BitsetBlock", "contains", "(I)Z"⟩ : MethodName)) (z := (⟨"com/example/bitpress/bitpress/DocBlock$BitsetBlock", "contains", "(I)Z"⟩ : MethodName)) hown (mvT hZ (hw _ (List.mem_of_getElem? (i := 22) rfl))) (mvT hZ (hw _ (List.mem_of_getElem? (i := 23) rfl))) (notFace_of_selects (args := #[]) (mvT hZ (hw _ (List.mem_of_getElem? (i := 25) rfl)))) (mvT hZ (hw _ (List.mem_of_getElem? (i := 25) rfl))) (mvT hZ (hw _ (List.mem_of_getElem? (i := 24) rfl))) (by decide) (backOf (W := 0) (rm5 l Z a0 hw [] b104 xlo2 b101 (W.up (W.up (fun _ => 0) kd yq) kw yp) k2 h108 n0 Z108 F108 f109 lo3 hk2l) hZ (hw _ (List.mem_of_getElem? (i := 26) rfl)) (hw _ (List.mem_of_getElem? (i := 3) rfl)) (by decide) (by decide)) q117a q117c (g := (mkF m 144 #[.val (.int xa), .val (.int xb), .val (.long yp), .second, .val (.int xj), .val (.long yq), .second, .val (.int xc), .val (.ref b101), .val (.int xwi), .val (.int xbi), .val (.int xdj), .val (.ref b104), .val (.int xlow), .val (.int ra), .val (.int xlo2), .val (.int xw2), .val (.int xb2), .val (.int rb), .val (.int rc), .unset] [(.int xlo2), (.ref b104)])) rfl (by rw [hml]; rfl) (Steps.refl _) (argsL := [(.int xlo2)]) (rest := []) (lenOf pd_3 rfl) rfl (by show 2 * 0 + _ ≤ _; exact Nat.le_of_eq rfl) (hb hby at_144) (fun _ _ => ⟨rfl, eq116, (by decide : 2 + 0 ≤ _), (by decide : 1025 + 0 ≤ _)⟩)
      dsimp only [Pt.U, Pt.locs, Pt.cells, Pt.slots] at X117 l117 y117 z117 st117 hQ117
      subst l117 y117 z117
      obtain ⟨rd, rfl, Nq117, eq117, hrd⟩ := hQ117
      have N117 := Fr.app N116 Nq117
      have hv : (W.up (W.up (fun _ => 0) kd yq) kw yp) k2 = yq := by have e1 : ¬ k2 = kw := fun q => c95 (Int32.toInt_inj.mp (by omega)); have e2 : k2 = kd := (by have e9 := c113; rw [e9] at hk2; omega); rw [W.up_other _ _ e1, e2]; exact W.up_same _ _ _
      rw [hv] at hrd
      have hqb : rd = rb := by rcases hrd with ⟨rfl, p⟩ | ⟨rfl, p⟩ <;> rcases hrb with ⟨rfl, q⟩ | ⟨rfl, q⟩ <;> first | rfl | exact absurd ((own_bit yq lo4).mp p) q | exact absurd ((own_bit yq lo4).mpr q) p
      refine W.s3 (mkF m 147 #[.val (.int xa), .val (.int xb), .val (.long yp), .second, .val (.int xj), .val (.long yq), .second, .val (.int xc), .val (.ref b101), .val (.int xwi), .val (.int xbi), .val (.int xdj), .val (.ref b104), .val (.int xlow), .val (.int ra), .val (.int xlo2), .val (.int xw2), .val (.int xb2), .val (.int rb), .val (.int rc), .unset] [(.int rd)]) st117 ?_
      refine W.s1 (mkF m 149 #[.val (.int xa), .val (.int xb), .val (.long yp), .second, .val (.int xj), .val (.long yq), .second, .val (.int xc), .val (.ref b101), .val (.int xwi), .val (.int xbi), .val (.int xdj), .val (.ref b104), .val (.int xlow), .val (.int ra), .val (.int xlo2), .val (.int xw2), .val (.int xb2), .val (.int rb), .val (.int rc), .val (.int rd)] []) (fun _ kx_ => XS.istore X117.here hx rfl (hb hby at_147) rfl (l' := #[.val (.int xa), .val (.int xb), .val (.long yp), .second, .val (.int xj), .val (.long yq), .second, .val (.int xc), .val (.ref b101), .val (.int xwi), .val (.int xbi), .val (.int xdj), .val (.ref b104), .val (.int xlow), .val (.int ra), .val (.int xlo2), .val (.int xw2), .val (.int xb2), .val (.int rb), .val (.int rc), .val (.int rd)]) rfl kx_) ?_
      refine W.s1 (mkF m 151 #[.val (.int xa), .val (.int xb), .val (.long yp), .second, .val (.int xj), .val (.long yq), .second, .val (.int xc), .val (.ref b101), .val (.int xwi), .val (.int xbi), .val (.int xdj), .val (.ref b104), .val (.int xlow), .val (.int ra), .val (.int xlo2), .val (.int xw2), .val (.int xb2), .val (.int rb), .val (.int rc), .val (.int rd)] [(.int rc)]) (fun _ kx_ => XS.iload X117.here hx rfl (hb hby at_149) rfl kx_) ?_
      refine W.s1 (mkF m 153 #[.val (.int xa), .val (.int xb), .val (.long yp), .second, .val (.int xj), .val (.long yq), .second, .val (.int xc), .val (.ref b101), .val (.int xwi), .val (.int xbi), .val (.int xdj), .val (.ref b104), .val (.int xlow), .val (.int ra), .val (.int xlo2), .val (.int xw2), .val (.int xb2), .val (.int rb), .val (.int rc), .val (.int rd)] [(.int ra), (.int rc)]) (fun _ kx_ => XS.iload X117.here hx rfl (hb hby at_151) rfl kx_) ?_
      refine W.icmp X117 hx (hb hby at_153) (pc' := 167) (pc'' := 156) (by decide) (by decide) rfl (fun (c153 : ¬ rc = ra) => ?_) (fun (c153 : rc = ra) => ?_)
      · exact absurd hqa c153
      · refine W.s1 (mkF m 158 #[.val (.int xa), .val (.int xb), .val (.long yp), .second, .val (.int xj), .val (.long yq), .second, .val (.int xc), .val (.ref b101), .val (.int xwi), .val (.int xbi), .val (.int xdj), .val (.ref b104), .val (.int xlow), .val (.int ra), .val (.int xlo2), .val (.int xw2), .val (.int xb2), .val (.int rb), .val (.int rc), .val (.int rd)] [(.int rd)]) (fun _ kx_ => XS.iload X117.here hx rfl (hb hby at_156) rfl kx_) ?_
        refine W.s1 (mkF m 160 #[.val (.int xa), .val (.int xb), .val (.long yp), .second, .val (.int xj), .val (.long yq), .second, .val (.int xc), .val (.ref b101), .val (.int xwi), .val (.int xbi), .val (.int xdj), .val (.ref b104), .val (.int xlow), .val (.int ra), .val (.int xlo2), .val (.int xw2), .val (.int xb2), .val (.int rb), .val (.int rc), .val (.int rd)] [(.int rb), (.int rd)]) (fun _ kx_ => XS.iload X117.here hx rfl (hb hby at_158) rfl kx_) ?_
        refine W.icmp X117 hx (hb hby at_160) (pc' := 167) (pc'' := 163) (by decide) (by decide) rfl (fun (c160 : ¬ rd = rb) => ?_) (fun (c160 : rd = rb) => ?_)
        · exact absurd hqb c160
        · refine W.s1 (mkF m 164 #[.val (.int xa), .val (.int xb), .val (.long yp), .second, .val (.int xj), .val (.long yq), .second, .val (.int xc), .val (.ref b101), .val (.int xwi), .val (.int xbi), .val (.int xdj), .val (.ref b104), .val (.int xlow), .val (.int ra), .val (.int xlo2), .val (.int xw2), .val (.int xb2), .val (.int rb), .val (.int rc), .val (.int rd)] [(.int (1 : Int32))]) (fun _ kx_ => XS.iconst X117.here hx rfl (hb hby at_163) kx_) ?_
          refine W.s1 (mkF m 168 #[.val (.int xa), .val (.int xb), .val (.long yp), .second, .val (.int xj), .val (.long yq), .second, .val (.int xc), .val (.ref b101), .val (.int xwi), .val (.int xbi), .val (.int xdj), .val (.ref b104), .val (.int xlow), .val (.int ra), .val (.int xlo2), .val (.int xw2), .val (.int xb2), .val (.int rb), .val (.int rc), .val (.int rd)] [(.int (1 : Int32))]) (fun _ kx_ => XS.goto X117.here hx rfl (pc0 := 164) (pc' := 168) rfl (hb hby at_164) (by decide) (by decide) kx_) ?_
          exact W.retZ X117 hx hlk (t := .boolean) (z' := (1 : Int32)) Bd.returns (by simp) (hb hby at_168) rfl (by show Q0 Z xa xb yp xj yq xc h0 n0 _ T117.heap _; rw [eq117]; exact ⟨rfl, N117⟩) (by decide) (by decide)
  · refine W.s1 (mkF m 99 #[.val (.int xa), .val (.int xb), .val (.long yp), .second, .val (.int xj), .val (.long yq), .second, .val (.int xc), .val (.ref b101), .val (.int xwi), .val (.int xbi), .val (.int xdj), .val (.ref b104), .val (.int xlow), .val (.int ra), .val (.int xlo2), .val (.int xw2), .val (.int xb2), .unset, .unset, .unset] [(.long yp)]) (fun _ kx_ => XS.lloadN X112.here hx rfl (hb hby at_98) rfl kx_) ?_
    refine W.s1 (mkF m 101 #[.val (.int xa), .val (.int xb), .val (.long yp), .second, .val (.int xj), .val (.long yq), .second, .val (.int xc), .val (.ref b101), .val (.int xwi), .val (.int xbi), .val (.int xdj), .val (.ref b104), .val (.int xlow), .val (.int ra), .val (.int xlo2), .val (.int xw2), .val (.int xb2), .unset, .unset, .unset] [(.int xb2), (.long yp)]) (fun _ kx_ => XS.iload X112.here hx rfl (hb hby at_99) rfl kx_) ?_
    obtain ⟨_, _, ⟨T118, L118, k118, n118⟩, -, X118, ⟨Lc118, hQ118, l118, y118, z118⟩, st118⟩ := Jvm.LawKit.callS X112 hx (y := (⟨"com/example/bitpress/bitpress/BitsetBlockContainsPinLaw", "bit", "(JI)Z"⟩ : MethodName)) hown (mvT hZ (hw _ (List.mem_of_getElem? (i := 17) rfl))) (mvT hZ (hw _ (List.mem_of_getElem? (i := 18) rfl))) (mvT hZ (hw _ (List.mem_of_getElem? (i := 19) rfl))) (mvT hZ (hw _ (List.mem_of_getElem? (i := 20) rfl))) (by decide) (backOf (W := 0) (rm4 l Z a0 hw [] yp xb2 h108 n0 Z108 ) hZ (hw _ (List.mem_of_getElem? (i := 20) rfl)) (hw _ (List.mem_of_getElem? (i := 19) rfl)) (by decide) (by decide)) (g := (mkF m 101 #[.val (.int xa), .val (.int xb), .val (.long yp), .second, .val (.int xj), .val (.long yq), .second, .val (.int xc), .val (.ref b101), .val (.int xwi), .val (.int xbi), .val (.int xdj), .val (.ref b104), .val (.int xlow), .val (.int ra), .val (.int xlo2), .val (.int xw2), .val (.int xb2), .unset, .unset, .unset] [(.int xb2), (.long yp)])) rfl (by rw [hml]; rfl) (argsL := [(.long yp), (.int xb2)]) (rest := []) (lenOf pd_2 rfl) rfl (by show 2 * 0 + _ ≤ _; exact Nat.le_of_eq rfl) (hb hby at_101) (fun _ _ => ⟨rfl, eq112, (by decide : 2 + 0 ≤ _), (by decide : 1025 + 0 ≤ _)⟩)
    dsimp only [Pt.U, Pt.locs, Pt.cells, Pt.slots] at X118 l118 y118 z118 st118 hQ118
    subst l118 y118 z118
    obtain ⟨rb, rfl, Nq118, eq118, hrb⟩ := hQ118
    have N118 := Fr.app N112 Nq118
    refine W.s2 (mkF m 104 #[.val (.int xa), .val (.int xb), .val (.long yp), .second, .val (.int xj), .val (.long yq), .second, .val (.int xc), .val (.ref b101), .val (.int xwi), .val (.int xbi), .val (.int xdj), .val (.ref b104), .val (.int xlow), .val (.int ra), .val (.int xlo2), .val (.int xw2), .val (.int xb2), .unset, .unset, .unset] [(.int rb)]) st118 ?_
    refine W.s1 (mkF m 106 #[.val (.int xa), .val (.int xb), .val (.long yp), .second, .val (.int xj), .val (.long yq), .second, .val (.int xc), .val (.ref b101), .val (.int xwi), .val (.int xbi), .val (.int xdj), .val (.ref b104), .val (.int xlow), .val (.int ra), .val (.int xlo2), .val (.int xw2), .val (.int xb2), .val (.int rb), .unset, .unset] []) (fun _ kx_ => XS.istore X118.here hx rfl (hb hby at_104) rfl (l' := #[.val (.int xa), .val (.int xb), .val (.long yp), .second, .val (.int xj), .val (.long yq), .second, .val (.int xc), .val (.ref b101), .val (.int xwi), .val (.int xbi), .val (.int xdj), .val (.ref b104), .val (.int xlow), .val (.int ra), .val (.int xlo2), .val (.int xw2), .val (.int xb2), .val (.int rb), .unset, .unset]) rfl kx_) ?_
    refine W.s1 (mkF m 131 #[.val (.int xa), .val (.int xb), .val (.long yp), .second, .val (.int xj), .val (.long yq), .second, .val (.int xc), .val (.ref b101), .val (.int xwi), .val (.int xbi), .val (.int xdj), .val (.ref b104), .val (.int xlow), .val (.int ra), .val (.int xlo2), .val (.int xw2), .val (.int xb2), .val (.int rb), .unset, .unset] []) (fun _ kx_ => XS.goto X118.here hx rfl (pc0 := 106) (pc' := 131) rfl (hb hby at_106) (by decide) (by decide) kx_) ?_
    refine W.s1 (mkF m 133 #[.val (.int xa), .val (.int xb), .val (.long yp), .second, .val (.int xj), .val (.long yq), .second, .val (.int xc), .val (.ref b101), .val (.int xwi), .val (.int xbi), .val (.int xdj), .val (.ref b104), .val (.int xlow), .val (.int ra), .val (.int xlo2), .val (.int xw2), .val (.int xb2), .val (.int rb), .unset, .unset] [(.ref b104)]) (fun _ kx_ => XS.aload X118.here hx rfl (hb hby at_131) rfl rfl kx_) ?_
    refine W.s1 (mkF m 135 #[.val (.int xa), .val (.int xb), .val (.long yp), .second, .val (.int xj), .val (.long yq), .second, .val (.int xc), .val (.ref b101), .val (.int xwi), .val (.int xbi), .val (.int xdj), .val (.ref b104), .val (.int xlow), .val (.int ra), .val (.int xlo2), .val (.int xw2), .val (.int xb2), .val (.int rb), .unset, .unset] [(.int xlow), (.ref b104)]) (fun _ kx_ => XS.iload X118.here hx rfl (hb hby at_133) rfl kx_) ?_
    obtain ⟨cq119, kq119, q119a, q119b, q119c⟩ := isOf hZ eq118 f110
    obtain ⟨_, _, ⟨T119, L119, k119, n119⟩, -, X119, ⟨Lc119, hQ119, l119, y119, z119⟩, st119⟩ := X118.virtualBack hx (y := (⟨"com/example/bitpress/bitpress/DocBlock$BitsetBlock", "contains", "(I)Z"⟩ : MethodName)) (z := (⟨"com/example/bitpress/bitpress/DocBlock$BitsetBlock", "contains", "(I)Z"⟩ : MethodName)) hown (mvT hZ (hw _ (List.mem_of_getElem? (i := 22) rfl))) (mvT hZ (hw _ (List.mem_of_getElem? (i := 23) rfl))) (notFace_of_selects (args := #[]) (mvT hZ (hw _ (List.mem_of_getElem? (i := 25) rfl)))) (mvT hZ (hw _ (List.mem_of_getElem? (i := 25) rfl))) (mvT hZ (hw _ (List.mem_of_getElem? (i := 24) rfl))) (by decide) (backOf (W := 0) (rm5 l Z a0 hw [] b104 xlow b101 (W.up (W.up (fun _ => 0) kd yq) kw yp) kw h108 n0 Z108 F108 f109 lo1 hkwl) hZ (hw _ (List.mem_of_getElem? (i := 26) rfl)) (hw _ (List.mem_of_getElem? (i := 3) rfl)) (by decide) (by decide)) q119a q119c (g := (mkF m 135 #[.val (.int xa), .val (.int xb), .val (.long yp), .second, .val (.int xj), .val (.long yq), .second, .val (.int xc), .val (.ref b101), .val (.int xwi), .val (.int xbi), .val (.int xdj), .val (.ref b104), .val (.int xlow), .val (.int ra), .val (.int xlo2), .val (.int xw2), .val (.int xb2), .val (.int rb), .unset, .unset] [(.int xlow), (.ref b104)])) rfl (by rw [hml]; rfl) (Steps.refl _) (argsL := [(.int xlow)]) (rest := []) (lenOf pd_3 rfl) rfl (by show 2 * 0 + _ ≤ _; exact Nat.le_of_eq rfl) (hb hby at_135) (fun _ _ => ⟨rfl, eq118, (by decide : 2 + 0 ≤ _), (by decide : 1025 + 0 ≤ _)⟩)
    dsimp only [Pt.U, Pt.locs, Pt.cells, Pt.slots] at X119 l119 y119 z119 st119 hQ119
    subst l119 y119 z119
    obtain ⟨rc, rfl, Nq119, eq119, hrc⟩ := hQ119
    have N119 := Fr.app N118 Nq119
    rw [show (W.up (W.up (fun _ => 0) kd yq) kw yp) kw = yp from W.up_same _ _ _] at hrc
    have hqa : rc = ra := by rcases hrc with ⟨rfl, p⟩ | ⟨rfl, p⟩ <;> rcases hra with ⟨rfl, q⟩ | ⟨rfl, q⟩ <;> first | rfl | exact absurd ((own_bit yp lo2).mp p) q | exact absurd ((own_bit yp lo2).mpr q) p
    refine W.s3 (mkF m 138 #[.val (.int xa), .val (.int xb), .val (.long yp), .second, .val (.int xj), .val (.long yq), .second, .val (.int xc), .val (.ref b101), .val (.int xwi), .val (.int xbi), .val (.int xdj), .val (.ref b104), .val (.int xlow), .val (.int ra), .val (.int xlo2), .val (.int xw2), .val (.int xb2), .val (.int rb), .unset, .unset] [(.int rc)]) st119 ?_
    refine W.s1 (mkF m 140 #[.val (.int xa), .val (.int xb), .val (.long yp), .second, .val (.int xj), .val (.long yq), .second, .val (.int xc), .val (.ref b101), .val (.int xwi), .val (.int xbi), .val (.int xdj), .val (.ref b104), .val (.int xlow), .val (.int ra), .val (.int xlo2), .val (.int xw2), .val (.int xb2), .val (.int rb), .val (.int rc), .unset] []) (fun _ kx_ => XS.istore X119.here hx rfl (hb hby at_138) rfl (l' := #[.val (.int xa), .val (.int xb), .val (.long yp), .second, .val (.int xj), .val (.long yq), .second, .val (.int xc), .val (.ref b101), .val (.int xwi), .val (.int xbi), .val (.int xdj), .val (.ref b104), .val (.int xlow), .val (.int ra), .val (.int xlo2), .val (.int xw2), .val (.int xb2), .val (.int rb), .val (.int rc), .unset]) rfl kx_) ?_
    refine W.s1 (mkF m 142 #[.val (.int xa), .val (.int xb), .val (.long yp), .second, .val (.int xj), .val (.long yq), .second, .val (.int xc), .val (.ref b101), .val (.int xwi), .val (.int xbi), .val (.int xdj), .val (.ref b104), .val (.int xlow), .val (.int ra), .val (.int xlo2), .val (.int xw2), .val (.int xb2), .val (.int rb), .val (.int rc), .unset] [(.ref b104)]) (fun _ kx_ => XS.aload X119.here hx rfl (hb hby at_140) rfl rfl kx_) ?_
    refine W.s1 (mkF m 144 #[.val (.int xa), .val (.int xb), .val (.long yp), .second, .val (.int xj), .val (.long yq), .second, .val (.int xc), .val (.ref b101), .val (.int xwi), .val (.int xbi), .val (.int xdj), .val (.ref b104), .val (.int xlow), .val (.int ra), .val (.int xlo2), .val (.int xw2), .val (.int xb2), .val (.int rb), .val (.int rc), .unset] [(.int xlo2), (.ref b104)]) (fun _ kx_ => XS.iload X119.here hx rfl (hb hby at_142) rfl kx_) ?_
    obtain ⟨cq120, kq120, q120a, q120b, q120c⟩ := isOf hZ eq119 f110
    obtain ⟨_, _, ⟨T120, L120, k120, n120⟩, -, X120, ⟨Lc120, hQ120, l120, y120, z120⟩, st120⟩ := X119.virtualBack hx (y := (⟨"com/example/bitpress/bitpress/DocBlock$BitsetBlock", "contains", "(I)Z"⟩ : MethodName)) (z := (⟨"com/example/bitpress/bitpress/DocBlock$BitsetBlock", "contains", "(I)Z"⟩ : MethodName)) hown (mvT hZ (hw _ (List.mem_of_getElem? (i := 22) rfl))) (mvT hZ (hw _ (List.mem_of_getElem? (i := 23) rfl))) (notFace_of_selects (args := #[]) (mvT hZ (hw _ (List.mem_of_getElem? (i := 25) rfl)))) (mvT hZ (hw _ (List.mem_of_getElem? (i := 25) rfl))) (mvT hZ (hw _ (List.mem_of_getElem? (i := 24) rfl))) (by decide) (backOf (W := 0) (rm5 l Z a0 hw [] b104 xlo2 b101 (W.up (W.up (fun _ => 0) kd yq) kw yp) k2 h108 n0 Z108 F108 f109 lo3 hk2l) hZ (hw _ (List.mem_of_getElem? (i := 26) rfl)) (hw _ (List.mem_of_getElem? (i := 3) rfl)) (by decide) (by decide)) q120a q120c (g := (mkF m 144 #[.val (.int xa), .val (.int xb), .val (.long yp), .second, .val (.int xj), .val (.long yq), .second, .val (.int xc), .val (.ref b101), .val (.int xwi), .val (.int xbi), .val (.int xdj), .val (.ref b104), .val (.int xlow), .val (.int ra), .val (.int xlo2), .val (.int xw2), .val (.int xb2), .val (.int rb), .val (.int rc), .unset] [(.int xlo2), (.ref b104)])) rfl (by rw [hml]; rfl) (Steps.refl _) (argsL := [(.int xlo2)]) (rest := []) (lenOf pd_3 rfl) rfl (by show 2 * 0 + _ ≤ _; exact Nat.le_of_eq rfl) (hb hby at_144) (fun _ _ => ⟨rfl, eq119, (by decide : 2 + 0 ≤ _), (by decide : 1025 + 0 ≤ _)⟩)
    dsimp only [Pt.U, Pt.locs, Pt.cells, Pt.slots] at X120 l120 y120 z120 st120 hQ120
    subst l120 y120 z120
    obtain ⟨rd, rfl, Nq120, eq120, hrd⟩ := hQ120
    have N120 := Fr.app N119 Nq120
    have hv : (W.up (W.up (fun _ => 0) kd yq) kw yp) k2 = yp := by have e0 : k2 = kw := (by have e9 := c95; rw [e9] at hk2; omega); rw [e0]; exact W.up_same _ _ _
    rw [hv] at hrd
    have hqb : rd = rb := by rcases hrd with ⟨rfl, p⟩ | ⟨rfl, p⟩ <;> rcases hrb with ⟨rfl, q⟩ | ⟨rfl, q⟩ <;> first | rfl | exact absurd ((own_bit yp lo4).mp p) q | exact absurd ((own_bit yp lo4).mpr q) p
    refine W.s3 (mkF m 147 #[.val (.int xa), .val (.int xb), .val (.long yp), .second, .val (.int xj), .val (.long yq), .second, .val (.int xc), .val (.ref b101), .val (.int xwi), .val (.int xbi), .val (.int xdj), .val (.ref b104), .val (.int xlow), .val (.int ra), .val (.int xlo2), .val (.int xw2), .val (.int xb2), .val (.int rb), .val (.int rc), .unset] [(.int rd)]) st120 ?_
    refine W.s1 (mkF m 149 #[.val (.int xa), .val (.int xb), .val (.long yp), .second, .val (.int xj), .val (.long yq), .second, .val (.int xc), .val (.ref b101), .val (.int xwi), .val (.int xbi), .val (.int xdj), .val (.ref b104), .val (.int xlow), .val (.int ra), .val (.int xlo2), .val (.int xw2), .val (.int xb2), .val (.int rb), .val (.int rc), .val (.int rd)] []) (fun _ kx_ => XS.istore X120.here hx rfl (hb hby at_147) rfl (l' := #[.val (.int xa), .val (.int xb), .val (.long yp), .second, .val (.int xj), .val (.long yq), .second, .val (.int xc), .val (.ref b101), .val (.int xwi), .val (.int xbi), .val (.int xdj), .val (.ref b104), .val (.int xlow), .val (.int ra), .val (.int xlo2), .val (.int xw2), .val (.int xb2), .val (.int rb), .val (.int rc), .val (.int rd)]) rfl kx_) ?_
    refine W.s1 (mkF m 151 #[.val (.int xa), .val (.int xb), .val (.long yp), .second, .val (.int xj), .val (.long yq), .second, .val (.int xc), .val (.ref b101), .val (.int xwi), .val (.int xbi), .val (.int xdj), .val (.ref b104), .val (.int xlow), .val (.int ra), .val (.int xlo2), .val (.int xw2), .val (.int xb2), .val (.int rb), .val (.int rc), .val (.int rd)] [(.int rc)]) (fun _ kx_ => XS.iload X120.here hx rfl (hb hby at_149) rfl kx_) ?_
    refine W.s1 (mkF m 153 #[.val (.int xa), .val (.int xb), .val (.long yp), .second, .val (.int xj), .val (.long yq), .second, .val (.int xc), .val (.ref b101), .val (.int xwi), .val (.int xbi), .val (.int xdj), .val (.ref b104), .val (.int xlow), .val (.int ra), .val (.int xlo2), .val (.int xw2), .val (.int xb2), .val (.int rb), .val (.int rc), .val (.int rd)] [(.int ra), (.int rc)]) (fun _ kx_ => XS.iload X120.here hx rfl (hb hby at_151) rfl kx_) ?_
    refine W.icmp X120 hx (hb hby at_153) (pc' := 167) (pc'' := 156) (by decide) (by decide) rfl (fun (c153 : ¬ rc = ra) => ?_) (fun (c153 : rc = ra) => ?_)
    · exact absurd hqa c153
    · refine W.s1 (mkF m 158 #[.val (.int xa), .val (.int xb), .val (.long yp), .second, .val (.int xj), .val (.long yq), .second, .val (.int xc), .val (.ref b101), .val (.int xwi), .val (.int xbi), .val (.int xdj), .val (.ref b104), .val (.int xlow), .val (.int ra), .val (.int xlo2), .val (.int xw2), .val (.int xb2), .val (.int rb), .val (.int rc), .val (.int rd)] [(.int rd)]) (fun _ kx_ => XS.iload X120.here hx rfl (hb hby at_156) rfl kx_) ?_
      refine W.s1 (mkF m 160 #[.val (.int xa), .val (.int xb), .val (.long yp), .second, .val (.int xj), .val (.long yq), .second, .val (.int xc), .val (.ref b101), .val (.int xwi), .val (.int xbi), .val (.int xdj), .val (.ref b104), .val (.int xlow), .val (.int ra), .val (.int xlo2), .val (.int xw2), .val (.int xb2), .val (.int rb), .val (.int rc), .val (.int rd)] [(.int rb), (.int rd)]) (fun _ kx_ => XS.iload X120.here hx rfl (hb hby at_158) rfl kx_) ?_
      refine W.icmp X120 hx (hb hby at_160) (pc' := 167) (pc'' := 163) (by decide) (by decide) rfl (fun (c160 : ¬ rd = rb) => ?_) (fun (c160 : rd = rb) => ?_)
      · exact absurd hqb c160
      · refine W.s1 (mkF m 164 #[.val (.int xa), .val (.int xb), .val (.long yp), .second, .val (.int xj), .val (.long yq), .second, .val (.int xc), .val (.ref b101), .val (.int xwi), .val (.int xbi), .val (.int xdj), .val (.ref b104), .val (.int xlow), .val (.int ra), .val (.int xlo2), .val (.int xw2), .val (.int xb2), .val (.int rb), .val (.int rc), .val (.int rd)] [(.int (1 : Int32))]) (fun _ kx_ => XS.iconst X120.here hx rfl (hb hby at_163) kx_) ?_
        refine W.s1 (mkF m 168 #[.val (.int xa), .val (.int xb), .val (.long yp), .second, .val (.int xj), .val (.long yq), .second, .val (.int xc), .val (.ref b101), .val (.int xwi), .val (.int xbi), .val (.int xdj), .val (.ref b104), .val (.int xlow), .val (.int ra), .val (.int xlo2), .val (.int xw2), .val (.int xb2), .val (.int rb), .val (.int rc), .val (.int rd)] [(.int (1 : Int32))]) (fun _ kx_ => XS.goto X120.here hx rfl (pc0 := 164) (pc' := 168) rfl (hb hby at_164) (by decide) (by decide) kx_) ?_
        exact W.retZ X120 hx hlk (t := .boolean) (z' := (1 : Int32)) Bd.returns (by simp) (hb hby at_168) rfl (by show Q0 Z xa xb yp xj yq xc h0 n0 _ T120.heap _; rw [eq120]; exact ⟨rfl, N120⟩) (by decide) (by decide)
set_option maxRecDepth 65536 in
set_option maxHeartbeats 40000000 in
theorem comes_1 {Post : Tables → Env → Array Value → State → Outcome → State → Prop} (hpost : ∀ tb e args s v u, (limb_1_1.after args s (.returned v) u = true ∧ limb_1_2.after args s (.returned v) u = true ∧ True) → FrameEnd s (.returned v) u (Jvm.fieldLocs frame_1_writes args s ++ Jvm.arrayLocs frame_1_arrays args s ++ Jvm.staticLocs frame_1_statics s) 16 2176 → Post tb e args s (.returned v) u) :
    ArmFor flags0 classFile x code maxLocals ret World_1 tables_1 room_1 Calls_1 rest_1 Pre_1 Post := by
  intro l hfl _ _ p e ha hc hk s m args below hf hA hF happ hP
  obtain ⟨hcalls, hrest, hpre⟩ := hP
  obtain ⟨-, -, -, hnamed, -, -, -, hat⟩ := (Spec.applies_iff hf).mp happ
  obtain ⟨hg, hn⟩ := and_e (Cond.before_iff.mp (show (Jvm.Cond.and given_1 narrow_1).before args s = true from hpre))
  obtain ⟨gc, g0⟩ := and_e hg
  obtain ⟨w_0, g1⟩ := and_e g0
  obtain ⟨w_1, g2⟩ := and_e g1
  obtain ⟨w_2, g3⟩ := and_e g2
  obtain ⟨w_3, g4⟩ := and_e g3
  obtain ⟨w_4, g5⟩ := and_e g4
  have w_5 := g5
  obtain ⟨w0, w1, w2, w3, w4, w5, rfl⟩ : ∃ w0 w1 w2 w3 w4 w5 : Value, args = #[w0, w1, w2, w3, w4, w5] := by
    have hs : args.size = 6 := by simpa [Cond.value, given_1] using gc
    obtain ⟨L⟩ := args
    match L, hs with
    | [w0, w1, w2, w3, w4, w5], _ => exact ⟨w0, w1, w2, w3, w4, w5, rfl⟩
  have hw := fun d (hd : d ∈ tables_1) => atoms_spec (ws := Jvm.Cond.code x code maxLocals ret :: tables_1) hat d (List.mem_cons_of_mem _ hd)
  have hfit : Fit s := fun {y c} hc i hi => by
    obtain ⟨ha, rfl⟩ := Array.getElem?_eq_some_iff.mp hc
    have q := List.all_eq_true.mp ((Array.all_eq_true_iff_forall_mem.mp hF) _ (Array.getElem_mem ha)) i (List.mem_range.mpr hi)
    simpa [Array.getElem?_eq_getElem hi] using q
  obtain ⟨i0, ei0⟩ := is_v w_0
  obtain rfl : w0 = (.int i0) := Option.some.inj ei0
  obtain ⟨i1, ei1⟩ := is_v w_1
  obtain rfl : w1 = (.int i1) := Option.some.inj ei1
  obtain ⟨i2, ei2⟩ := isL_v w_2
  obtain rfl : w2 = (.long i2) := Option.some.inj ei2
  obtain ⟨i3, ei3⟩ := is_v w_3
  obtain rfl : w3 = (.int i3) := Option.some.inj ei3
  obtain ⟨i4, ei4⟩ := isL_v w_4
  obtain rfl : w4 = (.long i4) := Option.some.inj ei4
  obtain ⟨i5, ei5⟩ := is_v w_5
  obtain rfl : w5 = (.int i5) := Option.some.inj ei5
  obtain ⟨n, o, h1, h2, h3, _, L, rfl, ⟨rfl, N⟩, hq⟩ := rm0 l s _ hw tables_1 i0 i1 i2 i3 i4 i5 s.heap s.heap.size (Nat.le_refl _)  p e ha hc hk s m _ below hf ((Spec.applies_iff_loose hf).mp happ).1 ⟨rfl, State.Warmed39.refl s, rfl⟩ trivial
  refine ⟨n, _, h1, h2, h3, hpost _ _ _ _ _ _ ⟨Cond.after_iff.mpr rfl, Cond.after_iff.mpr (eq_i res_at (Term.int_eval (1)) rfl), trivial⟩ ⟨hq.1, hq.2.1, (hq.2.2.sift fun y hy => Or.inr (N y hy)).mono (by decide) (by decide)⟩⟩
theorem main_1_1 : Claimed_1_1 := comes_1 fun _ _ _ _ _ _ h hF => ⟨h.1, hF⟩
theorem main_1_2 : Claimed_1_2 := comes_1 fun _ _ _ _ _ _ h hF => ⟨h.2.1, hF⟩
end Jvm.Pilot.@@N@@
namespace Jvm.Pilot.@@N@@
open Jvm Jvm.ClassFile Sem Op Lib Jvm.Free Jvm.Stand Jvm.Pilot.@@N@@.Jvm.D
/-! MADE BY PROGRAM (witnessworld.py) out of the Statement's table words and the real class files: 12 classes; the members and pool entries that the words name. The judged class is class 1, her method 2. -/
namespace start1
open Jvm.ClassFile
def u (s : String) : CpInfo := .utf8 (stringToUtf16 s)
/-- a pool by its gaps: so many unusable entries, then the entry; so many at the end -/
def gap : Nat → List CpInfo → List CpInfo
  | 0, r => r
  | n + 1, r => .unusable :: gap n r
def poolList (es : List (Nat × CpInfo)) (last : Nat) : List CpInfo := es.foldr (fun e r => gap e.1 (e.2 :: r)) (gap last [])
def pool (es : List (Nat × CpInfo)) (last : Nat) : Array CpInfo := ⟨poolList es last⟩
def fileOf (pool : Array CpInfo) (this : Nat) (attrs : Array Attribute := #[]) (ms : Array MethodInfo := #[]) (fl : Nat := 33) (sup : Nat := 0) (ifs : Array Nat := #[]) (fds : Array FieldInfo := #[]) : ClassFile where
  minorVersion := 0
  majorVersion := 65
  constantPool := pool
  accessFlags := fl
  thisClass := this
  superClass := sup
  interfaces := ifs
  fields := fds
  methods := ms
  attributes := attrs
def plain (name : String) (sup : Option ClassId) : Class where
  name := name
  kind := .ordinary
  loader := none
  accessFlags := 33
  super := sup
  interfaces := #[]
  cf := none
  fields := #[]
  methods := #[]
  instanceTypes := #[]
  staticTypes := #[]
  resolved := #[]
  callSites := []
  init := .initialized
  statics := none
  mirror := none

def pool0 : Array CpInfo := pool [(5, u "<init>"), (0, u "()V"), (1, .class_ 10), (1, u "java/lang/Object")] 113

def k0c0 : Code := { maxStack := 0, maxLocals := 1, code := object_method_1_code, exceptionTable := #[], attributes := #[] }
def k0m0 : Method := { name := "<init>", desc := "()V", sig := { parameters := [], returnType := none }, accessFlags := 1, code := some k0c0 }
/-- java/lang/Object -/
def k0 : Class := { plain "java/lang/Object" none with
  accessFlags := 33
  interfaces := #[]
  cf := some (fileOf pool0 8 #[] #[{ accessFlags := 1, nameIndex := 5, descriptorIndex := 6, attributes := #[] }] 33 0 #[] #[])
  fields := #[]
  methods := #[k0m0]
  instanceTypes := #[]
  staticTypes := #[]
  resolved := Array.replicate 124 none
  statics := none }

def pool1 : Array CpInfo := pool [(2, .class_ 4), (1, u "java/lang/Object"), (0, u "<init>"), (0, u "()V"), (0, .class_ 8), (0, u "com/example/bitpress/bitpress/DocBlock$BitsetBlock"), (0, .methodref 7 10), (0, .nameAndType 5 11), (0, u "([J)V"), (0, .methodref 13 14), (0, .class_ 15), (0, .nameAndType 16 17), (0, u "com/example/bitpress/bitpress/BitsetBlockContainsPinLaw"), (0, u "bit"), (0, u "(JI)Z"), (0, .integer 65535), (0, .methodref 7 20), (0, .nameAndType 21 22), (0, u "contains"), (0, u "(I)Z"), (3, u "law"), (0, u "(IIJIJI)Z")] 8

def k1m0 : Method := { name := "<init>", desc := "()V", sig := { parameters := [], returnType := none }, accessFlags := 2, code := none }
def k1c1 : Code := { maxStack := 4, maxLocals := 3, code := method_2_code, exceptionTable := #[], attributes := #[] }
def k1m1 : Method := { name := "bit", desc := "(JI)Z", sig := { parameters := [.long, .int], returnType := some .boolean }, accessFlags := 10, code := some k1c1 }
def k1c2 : Code := { maxStack := 4, maxLocals := 21, code := code, exceptionTable := #[], attributes := #[] }
def k1m2 : Method := { name := "law", desc := "(IIJIJI)Z", sig := { parameters := [.int, .int, .long, .int, .long, .int], returnType := some .boolean }, accessFlags := 9, code := some k1c2 }
/-- com/example/bitpress/bitpress/BitsetBlockContainsPinLaw -/
def k1 : Class := { plain "com/example/bitpress/bitpress/BitsetBlockContainsPinLaw" (some 0) with
  accessFlags := 49
  interfaces := #[]
  cf := some (fileOf pool1 13 #[] #[{ accessFlags := 2, nameIndex := 5, descriptorIndex := 6, attributes := #[] }, { accessFlags := 10, nameIndex := 16, descriptorIndex := 17, attributes := #[] }, { accessFlags := 9, nameIndex := 26, descriptorIndex := 27, attributes := #[] }] 49 2 #[] #[])
  fields := #[]
  methods := #[k1m0, k1m1, k1m2]
  instanceTypes := #[]
  staticTypes := #[]
  resolved := Array.replicate 36 none
  statics := none }

def pool2 : Array CpInfo := pool [(1, .class_ 2), (0, u "com/example/bitpress/bitpress/DocBlock"), (0, .methodref 4 5), (0, .class_ 6), (0, .nameAndType 7 8), (0, u "java/lang/Object"), (0, u "<init>"), (0, u "()V"), (7, .class_ 18), (1, u "com/example/bitpress/bitpress/DocBlock$Cursor"), (7, .class_ 27), (0, u "com/example/bitpress/bitpress/DocBlock$ArrayBlock"), (9, .class_ 38), (0, u "com/example/bitpress/bitpress/DocBlock$InvertedBlock"), (5, .class_ 45), (0, u "com/example/bitpress/bitpress/DocBlock$BitsetBlock"), (27, u "OBJECT_BYTES"), (0, u "J"), (0, u "BITS"), (0, u "I"), (2, u "SIZE"), (0, u "LOW_MASK"), (1, u "MAX_ARRAY_LENGTH"), (1, u "NONE"), (26, .class_ 112), (0, u "com/example/bitpress/bitpress/DocBlock$BitsetBlock$1"), (0, .class_ 114), (0, u "com/example/bitpress/bitpress/DocBlock$InvertedBlock$1"), (0, .class_ 116), (0, u "com/example/bitpress/bitpress/DocBlock$ArrayBlock$1")] 10

def k2c0 : Code := { maxStack := 1, maxLocals := 1, code := prog_8_method_1_code, exceptionTable := #[], attributes := #[] }
def k2m0 : Method := { name := "<init>", desc := "()V", sig := { parameters := [], returnType := none }, accessFlags := 0, code := some k2c0 }
/-- com/example/bitpress/bitpress/DocBlock -/
def k2 : Class := { plain "com/example/bitpress/bitpress/DocBlock" (some 0) with
  accessFlags := 1056
  interfaces := #[]
  cf := some (fileOf pool2 1 #[.nestMembers #[44, 111, 37, 113, 26, 115, 16]] #[{ accessFlags := 0, nameIndex := 7, descriptorIndex := 8, attributes := #[] }] 1056 4 #[] #[{ accessFlags := 24, nameIndex := 75, descriptorIndex := 76, attributes := #[] }, { accessFlags := 24, nameIndex := 79, descriptorIndex := 76, attributes := #[] }, { accessFlags := 24, nameIndex := 80, descriptorIndex := 76, attributes := #[] }, { accessFlags := 24, nameIndex := 82, descriptorIndex := 76, attributes := #[] }, { accessFlags := 24, nameIndex := 84, descriptorIndex := 76, attributes := #[] }, { accessFlags := 26, nameIndex := 73, descriptorIndex := 74, attributes := #[] }])
  fields := #[{ name := "BITS", type := .int, accessFlags := 24, slot := 0, constantValue := 0 }, { name := "SIZE", type := .int, accessFlags := 24, slot := 1, constantValue := 0 }, { name := "LOW_MASK", type := .int, accessFlags := 24, slot := 2, constantValue := 0 }, { name := "MAX_ARRAY_LENGTH", type := .int, accessFlags := 24, slot := 3, constantValue := 0 }, { name := "NONE", type := .int, accessFlags := 24, slot := 4, constantValue := 0 }, { name := "OBJECT_BYTES", type := .long, accessFlags := 26, slot := 5, constantValue := 0 }]
  methods := #[k2m0]
  instanceTypes := #[]
  staticTypes := #[.int, .int, .int, .int, .int, .long]
  resolved := Array.replicate 127 none
  statics := none }

def pool3 : Array CpInfo := pool [(1, .methodref 2 3), (0, .class_ 4), (0, .nameAndType 5 6), (0, u "com/example/bitpress/bitpress/DocBlock"), (0, u "<init>"), (0, u "()V"), (0, .fieldref 8 9), (0, .class_ 10), (0, .nameAndType 11 12), (0, u "com/example/bitpress/bitpress/DocBlock$BitsetBlock"), (0, u "words"), (0, u "[J"), (33, u "([J)V"), (4, u "contains"), (0, u "(I)Z")] 22

def k3c0 : Code := { maxStack := 2, maxLocals := 2, code := prog_11_method_1_code, exceptionTable := #[], attributes := #[] }
def k3m0 : Method := { name := "<init>", desc := "([J)V", sig := { parameters := [(.array .long)], returnType := none }, accessFlags := 0, code := some k3c0 }
def k3c1 : Code := { maxStack := 5, maxLocals := 2, code := prog_11_method_3_code, exceptionTable := #[], attributes := #[] }
def k3m1 : Method := { name := "contains", desc := "(I)Z", sig := { parameters := [.int], returnType := some .boolean }, accessFlags := 0, code := some k3c1 }
/-- com/example/bitpress/bitpress/DocBlock$BitsetBlock -/
def k3 : Class := { plain "com/example/bitpress/bitpress/DocBlock$BitsetBlock" (some 2) with
  accessFlags := 48
  interfaces := #[]
  cf := some (fileOf pool3 8 #[.nestHost 2] #[{ accessFlags := 0, nameIndex := 5, descriptorIndex := 46, attributes := #[] }, { accessFlags := 0, nameIndex := 51, descriptorIndex := 52, attributes := #[] }] 48 2 #[] #[{ accessFlags := 18, nameIndex := 11, descriptorIndex := 12, attributes := #[] }])
  fields := #[{ name := "words", type := (.array .long), accessFlags := 18, slot := 0, constantValue := 0 }]
  methods := #[k3m0, k3m1]
  instanceTypes := #[(.array .long)]
  staticTypes := #[]
  resolved := Array.replicate 75 none
  statics := none }

def pool4 : Array CpInfo := pool [(1, u "java/lang/Cloneable"), (0, .class_ 1), (0, u "java/lang/Object"), (0, .class_ 3)] 3

/-- java/lang/Cloneable -/
def k4 : Class := { plain "java/lang/Cloneable" (some 0) with
  accessFlags := 1537
  interfaces := #[]
  cf := some (fileOf pool4 2 #[] #[] 1537 4 #[] #[])
  fields := #[]
  methods := #[]
  instanceTypes := #[]
  staticTypes := #[]
  resolved := Array.replicate 8 none
  statics := none }

def pool5 : Array CpInfo := pool [(1, u "java/io/Serializable"), (0, .class_ 1), (0, u "java/lang/Object"), (0, .class_ 3)] 3

/-- java/io/Serializable -/
def k5 : Class := { plain "java/io/Serializable" (some 0) with
  accessFlags := 1537
  interfaces := #[]
  cf := some (fileOf pool5 2 #[] #[] 1537 4 #[] #[])
  fields := #[]
  methods := #[]
  instanceTypes := #[]
  staticTypes := #[]
  resolved := Array.replicate 8 none
  statics := none }

/-- the primitive byte -/
def k6 : Class := { plain "byte" none with kind := .primitive 'B', accessFlags := 0x411 }
/-- [B -/
def k7 : Class := { plain "[B" (some 0) with kind := .array 6 .byte, interfaces := #[4, 5], accessFlags := 1041 }

/-- the primitive int -/
def k8 : Class := { plain "int" none with kind := .primitive 'I', accessFlags := 0x411 }
/-- [I -/
def k9 : Class := { plain "[I" (some 0) with kind := .array 8 .int, interfaces := #[4, 5], accessFlags := 1041 }

/-- the primitive long -/
def k10 : Class := { plain "long" none with kind := .primitive 'J', accessFlags := 0x411 }
/-- [J -/
def k11 : Class := { plain "[J" (some 0) with kind := .array 10 .long, interfaces := #[4, 5], accessFlags := 1041 }

def heap : Heap := #[]
def classes : Array Class := #[k0, k1, k2, k3, k4, k5, k6, k7, k8, k9, k10, k11]
def interned : List (Array UInt16 × Addr) := []
def slotsUsed : Nat := 0
def theMethod : MethodId := ⟨1, 2⟩
def args0 : Array Value := #[.int 5, .int 3, .long 9, .int 1, .long 2, .int 4]
def aboutOver (below : List Frame) : State where
  vm := { classes := classes, interned := interned.toArray }
  heap := heap
  slotsUsed := slotsUsed
  threads := #[{ frames := .invoking theMethod args0 :: below }]
def below0 : List Frame := [.native { method := ⟨0, 0⟩, args := #[] }]
def about1 : State := aboutOver below0
def p0 : Program := .bare "" "" ""
def e0 : Env := launch0.env 0 0 0
theorem w_frames : about1.frames = Frame.invoking theMethod args0 :: below0 := rfl
set_option maxRecDepth 65536 in
theorem w_args : argsFit about1.vm theMethod args0 = true := by decide +kernel
set_option maxRecDepth 65536 in
theorem w_heap : heapFits about1 = true := by decide +kernel
set_option maxRecDepth 65536 in
theorem w_runnable : about1.curStatus? = some .runnable := by decide +kernel
set_option maxRecDepth 65536 in
theorem w_alone : about1.alone = true := by decide +kernel
set_option maxRecDepth 65536 in
theorem w_named : about1.methodNamed? x = some theMethod := by decide +kernel
set_option maxRecDepth 65536 in
theorem w_hears : about1.hears theMethod below0 = true := by decide +kernel
set_option maxRecDepth 65536 in
theorem w_ripe : about1.ripe theMethod args0 below0 = true := by decide +kernel
theorem w_running : about1.status = .running := rfl
set_option maxRecDepth 65536 in
theorem w_room : about1.hasRoom e0.platform room_1 = true :=
  launch0.hasRoom_least _ room_1 (by decide +kernel) (by decide +kernel) (by decide +kernel) (by decide +kernel) (by decide +kernel) (by decide +kernel)
theorem allAtoms_all (ts : List Jvm.Cond) (a : Array Jvm.Value) (st : Jvm.State) : (allAtoms ts).before a st = ts.all (fun c => c.before a st) := by
  induction ts with
  | nil => rfl
  | cons c t ih =>
    show (Jvm.Cond.and c (allAtoms t)).before a st = _
    rw [Jvm.Cond.before_and, ih, List.all_cons]
def words1 : List Jvm.Cond := Jvm.Cond.code x code maxLocals ret :: tables_1
/-- a 'code' word, met by the world's own term for the bytes: nothing is compared byte by byte -/
theorem code_word {y : MethodName} {bytes : ByteArray} {mx : Nat} {rt : Option FieldType} {a : Array Value} {s : State} {m : MethodId} {meth : Method} {c : Code} (h1 : s.methodNamed? y = some m) (h2 : s.vm.method? m = some meth) (h3 : meth.code = some c) (h4 : c.code = bytes)
    (h5 : (c.maxLocals == mx && c.exceptionTable.isEmpty && decide (c.maxStack ≤ mostOperands) && decide (meth.sig.returnType = rt) && !meth.locks && decide (parseMethodDescriptor y.desc = some meth.sig)) = true) : (Jvm.Cond.code y bytes mx rt).before a s = true := by
  simp only [Bool.and_eq_true, beq_iff_eq, Bool.not_eq_true', decide_eq_true_eq] at h5
  obtain ⟨⟨⟨⟨⟨g1, g2⟩, g3⟩, g4⟩, g5⟩, g6⟩ := h5
  simp [Cond.before, Cond.holds, Cond.value, h1, h2, h3, h4, g1, g2, g3, g4, g5, g6]
def isCode : Jvm.Cond → Bool
  | .code _ _ _ _ => true
  | _ => false
theorem all_split {L : List Jvm.Cond} {P : Jvm.Cond → Bool} (h1 : L.all (fun c => isCode c || P c) = true) (h2 : ∀ c ∈ L.filter isCode, P c = true) : L.all P = true := by
  refine List.all_eq_true.mpr fun c hc => ?_
  have h := List.all_eq_true.mp h1 c hc
  rcases Bool.eq_false_or_eq_true (isCode c) with hi | hi
  · exact h2 c (List.mem_filter.mpr ⟨hc, hi⟩)
  · simpa [hi] using h
set_option maxRecDepth 65536 in
theorem w_c0 : (Jvm.Cond.code x code maxLocals ret).before args0 about1 = true := code_word (m := ⟨1, 2⟩) (meth := k1m2) (c := k1c2) (by decide +kernel) rfl rfl rfl (by decide +kernel)
set_option maxRecDepth 65536 in
theorem w_c1 : (Jvm.Cond.code ({ cls := "com/example/bitpress/bitpress/DocBlock$BitsetBlock", name := "<init>", desc := "([J)V" } : Jvm.MethodName) prog_11_method_1_code (2 : Nat) (Option.none : Option Jvm.ClassFile.FieldType)).before args0 about1 = true := code_word (m := ⟨3, 0⟩) (meth := k3m0) (c := k3c0) (by decide +kernel) rfl rfl rfl (by decide +kernel)
set_option maxRecDepth 65536 in
theorem w_c2 : (Jvm.Cond.code ({ cls := "com/example/bitpress/bitpress/DocBlock", name := "<init>", desc := "()V" } : Jvm.MethodName) prog_8_method_1_code (1 : Nat) (Option.none : Option Jvm.ClassFile.FieldType)).before args0 about1 = true := code_word (m := ⟨2, 0⟩) (meth := k2m0) (c := k2c0) (by decide +kernel) rfl rfl rfl (by decide +kernel)
set_option maxRecDepth 65536 in
theorem w_c3 : (Jvm.Cond.code ({ cls := "java/lang/Object", name := "<init>", desc := "()V" } : Jvm.MethodName) object_method_1_code (1 : Nat) (Option.none : Option Jvm.ClassFile.FieldType)).before args0 about1 = true := code_word (m := ⟨0, 0⟩) (meth := k0m0) (c := k0c0) (by decide +kernel) rfl rfl rfl (by decide +kernel)
set_option maxRecDepth 65536 in
theorem w_c4 : (Jvm.Cond.code ({ cls := "com/example/bitpress/bitpress/BitsetBlockContainsPinLaw", name := "bit", desc := "(JI)Z" } : Jvm.MethodName) method_2_code (3 : Nat) (Option.some Jvm.ClassFile.FieldType.boolean)).before args0 about1 = true := code_word (m := ⟨1, 1⟩) (meth := k1m1) (c := k1c1) (by decide +kernel) rfl rfl rfl (by decide +kernel)
set_option maxRecDepth 65536 in
theorem w_c5 : (Jvm.Cond.code ({ cls := "com/example/bitpress/bitpress/DocBlock$BitsetBlock", name := "contains", desc := "(I)Z" } : Jvm.MethodName) prog_11_method_3_code (2 : Nat) (Option.some Jvm.ClassFile.FieldType.boolean)).before args0 about1 = true := code_word (m := ⟨3, 1⟩) (meth := k3m1) (c := k3c1) (by decide +kernel) rfl rfl rfl (by decide +kernel)
def codes1 : List Jvm.Cond := [Jvm.Cond.code x code maxLocals ret, Jvm.Cond.code ({ cls := "com/example/bitpress/bitpress/DocBlock$BitsetBlock", name := "<init>", desc := "([J)V" } : Jvm.MethodName) prog_11_method_1_code (2 : Nat) (Option.none : Option Jvm.ClassFile.FieldType), Jvm.Cond.code ({ cls := "com/example/bitpress/bitpress/DocBlock", name := "<init>", desc := "()V" } : Jvm.MethodName) prog_8_method_1_code (1 : Nat) (Option.none : Option Jvm.ClassFile.FieldType), Jvm.Cond.code ({ cls := "java/lang/Object", name := "<init>", desc := "()V" } : Jvm.MethodName) object_method_1_code (1 : Nat) (Option.none : Option Jvm.ClassFile.FieldType), Jvm.Cond.code ({ cls := "com/example/bitpress/bitpress/BitsetBlockContainsPinLaw", name := "bit", desc := "(JI)Z" } : Jvm.MethodName) method_2_code (3 : Nat) (Option.some Jvm.ClassFile.FieldType.boolean), Jvm.Cond.code ({ cls := "com/example/bitpress/bitpress/DocBlock$BitsetBlock", name := "contains", desc := "(I)Z" } : Jvm.MethodName) prog_11_method_3_code (2 : Nat) (Option.some Jvm.ClassFile.FieldType.boolean)]
set_option maxRecDepth 65536 in
theorem codes_eq : words1.filter isCode = codes1 := rfl
theorem w_codes : ∀ c ∈ words1.filter isCode, c.before args0 about1 = true := by
  rw [codes_eq]
  intro c hc
  simp only [codes1, List.mem_cons, List.not_mem_nil, or_false] at hc
  rcases hc with rfl | rfl | rfl | rfl | rfl | rfl
  · exact w_c0
  · exact w_c1
  · exact w_c2
  · exact w_c3
  · exact w_c4
  · exact w_c5
set_option maxRecDepth 65536 in
theorem w_t1 : (words1.take 24).all (fun c => isCode c || c.before args0 about1) = true := by decide +kernel
set_option maxRecDepth 65536 in
theorem w_t2 : (words1.drop 24).all (fun c => isCode c || c.before args0 about1) = true := by decide +kernel
theorem w_tables : (allAtoms (Jvm.Cond.code x code maxLocals ret :: tables_1)).before args0 about1 = true := by
  rw [allAtoms_all]
  show words1.all (fun c => c.before args0 about1) = true
  refine all_split ?_ w_codes
  rw [← List.take_append_drop 24 words1, List.all_append, w_t1, w_t2]
  rfl
set_option maxRecDepth 65536 in
theorem w_case : (Jvm.Cond.and given_1 narrow_1).before args0 about1 = true := by decide +kernel
theorem w_applies : (headSpec (Jvm.Cond.code x code maxLocals ret :: tables_1) room_1).applies x e0.platform about1 = true :=
  (Spec.applies_iff w_frames).mpr ⟨w_running, w_runnable, w_alone, w_named, w_hears, w_ripe, w_room, w_tables⟩
theorem atStart : AtStart classFile x code maxLocals ret World_1 tables_1 room_1 Calls_1 rest_1 Pre_1 launch0 p0 e0 about1 theMethod args0 below0 :=
  ⟨lists_1, trivial, launch0.admits_env _ _ _, launch0.least_env, fairChoices_fair.cas, fairChoices_fair.clock, w_frames, w_args, w_heap, w_applies, trivial, trivial, w_case⟩
end start1
theorem witness_1 : WitnessClaimed_1 := ⟨start1.p0, start1.e0, start1.about1, start1.theMethod, start1.args0, start1.below0, start1.atStart⟩
end Jvm.Pilot.@@N@@
