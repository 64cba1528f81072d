/- Lemmas and walks on the way to the law, merged by wip/tools/pack.py: PlainSays, DurE, DurT, DescSays, ZoneP. Conditions: none. -/
import Derived.Test.YtmecbmgfacpecaaGreatDoorGrJ
import Derived.Test.YtmecbmgfacpecaaGreatDoorGrH
import Derived.Test.YtmecbmgfacpecaaGreatDoorGrC
import Derived.Test.YtmecbmgfacpecaaGreatDoorGrB
import Derived.Test.YtmecbmgfacpecaaGreatDoorGrF
import Derived.Test.YtmecbmgfacpecaaGreatDoorPrB
namespace Go.Proofs.YtmecbmgfacpecaaGreatDoor.Cron
open Go Go.RowKit Go.Proofs.YtmecbmgfacpecaaGreatDoor.Text Go.Proofs.YtmecbmgfacpecaaGreatDoor.Bits Go.Proofs.YtmecbmgfacpecaaGreatDoorW.PrintWords Go.Proofs.YtmecbmgfacpecaaGreatDoorW.PrintLast Go.Proofs.YtmecbmgfacpecaaGreatDoorW.PrintMore Go.Proofs.YtmecbmgfacpecaaGreatDoor.Pr
set_option linter.unusedVariables false
set_option linter.unusedSimpArgs false
theorem foreignB_l0 (s : ByteArray) (hs : s.size ≤ 4294967296) : ∀ (d i k : Nat), s.size - i = d → i ≤ s.size → d < k → ∃ b, spec_cronForeign.l0 k s (s.size : Int) (i : Int) = some b ∧ (b = false → ∀ j (h : j < s.data.toList.length), i ≤ j → (s.data.toList[j]).toNat < 128)
 | 0, i, k, hd, hi, hk => by
  obtain ⟨k, rfl⟩ : ∃ m, k = m + 1 := ⟨k - 1, by omega⟩
  unfold spec_cronForeign.l0;rw [if_neg (by omega)];exact ⟨false, rfl, fun _ j h hj => by rw [← size_list] at h; omega⟩
 | d + 1, i, k, hd, hi, hk => by
  obtain ⟨k, rfl⟩ : ∃ m, k = m + 1 := ⟨k - 1, by omega⟩
  have hlt : i < s.size := by omega
  have hl : i < s.data.toList.length := by rw [← size_list]; exact hlt
  have hw : wrap64 ((i : Int) + 1) = ((i + 1 : Nat) : Int) := by
   unfold wrap64;omega
  have hbt := bt_list s i hl;unfold spec_cronForeign.l0;rw [if_pos (by omega), if_pos (by omega), if_pos (by omega), hbt]
  by_cases hc : (s.data.toList[i]).toNat < 128
  ·obtain ⟨b, h1, h2⟩ := foreignB_l0 s hs d (i + 1) k (by omega) (by omega) (by omega);rw [if_neg (by omega), hw];refine ⟨b, h1, fun hb j h hj => ?_⟩
   by_cases hji : j = i
   ·subst hji; exact hc
   ·exact h2 hb j h (by omega)
  ·rw [if_pos (by omega)];exact ⟨true, rfl, fun h => by cases h⟩
theorem foreignB_f (s : ByteArray) (hs : s.size ≤ 4294967296) : ∃ b, spec_cronForeign.f (s.size + 1) s = some b ∧ (b = false → Ascii s) := by
 obtain ⟨b, h1, h2⟩ := foreignB_l0 s hs s.size 0 (s.size + 1) (by omega) (by omega) (by omega);refine ⟨b, h1, fun hb c hc => ?_⟩;obtain ⟨j, hj, rfl⟩ := List.getElem_of_mem hc;exact h2 hb j hj (by omega)
set_option maxRecDepth 100000 in
set_option maxHeartbeats 4000000 in
theorem cronPlainP_any (o : Nat) (ho : o < 512) (h2 : twoB o = false) (s : ByteArray) (hs : s.size ≤ 4294967296) (hat : Lib.hasPrefix s.data.toList [64] = false) (w : World) :
  Calls Tryz.prog 89 #[.int .i64 o, .string s] w (SaysM w ((fieldsG s o).map .bits)) := by
 have HB := Lib.hid (fun w' => spec_cronBegins.calls s ⟨#[64]⟩ _ w' ((begins_f s ⟨#[64]⟩).trans (by rw [show (⟨#[64]⟩ : ByteArray).data.toList = [64] from rfl, hat])));obtain ⟨bf, hbf, hasc⟩ := foreignB_f s hs;have HF := Lib.hid (fun w' => spec_cronForeign.calls _ s bf w' hbf);have HW := Lib.hid (fun (h : bf = false) w' => words_any s hs (hasc h) w');have HFI := Lib.hid (fun A c w' hS => cronFill_any o ho h2 A (fieldsZ s) c (Nat.le_trans (fieldsZ_len s) hs) w' hS)
 have hN : ¬ (0 < o &&& 128 ∧ 0 < o &&& 2) := fun h => by
  have := (twoB_iff o).2 h;rw [h2] at this
  cases this
 have HPS : Hid (∀ r, fillS (fieldsZ s) o = r → (fieldsG s o).map Got.bits = (r.bind sixS).map Got.bits) := Lib.hid fun r hr => by
  unfold fieldsG;rw [norm_is _ o ho hN, hr]
 have HSM : Hid (∀ l, fillS (fieldsZ s) o = some l → ∀ x ∈ l, x.size ≤ 4294967296) := Lib.hid fun l hl => fillS_small hl fun x hx => Nat.le_trans (fieldsZ_size s x hx) hs
 have hl1 := Nat.le_trans (fieldsZ_len s) hs;have hal := run_alloc_M;have halF := run_alloc_F;unfold WordsAns at HW;generalize fieldsZ s = fs at *;generalize (fieldsG s o).map Got.bits = RG at *;have HPS := Lib.hid (HPS.out _ rfl);generalize fillS fs o = r at *;clear hs hat hN h2 hbf hasc
 go_enter Tryz.func89, Tryz.ntmps89
 go_wp2_with fail
 have HR0 := Lib.hid (zeroM_row w);have HB0 : Hid (Below w.heap.size w (w.alloc (.cells zeroM 99))) := Lib.hid ((Below.refl _ _).alloc (Nat.le_refl _) _);refine (HB.out _).mono ?_;rintro e w1 ⟨rfl, hd1⟩;have HR1 := Lib.hid (HR0.out.below hd1.below);have HB1 := Lib.hid (below_of_le HB0.out hd1.below);clear HR0 HB0 hd1
 go_wp2_with fail
 refine (HF.out _).mono ?_;rintro e w2 ⟨rfl, hd2⟩;have HR2 := Lib.hid (HR1.out.below hd2.below);have HB2 := Lib.hid (below_of_le HB1.out hd2.below);clear HR1 HB1 hd2
 by_cases hbf : bf = true
 ·subst hbf;obtain ⟨ca, hca, hna, h1a⟩ := HR2.out
  go_wp2_with (first | (refine wpList_build_M rfl rfl ?_) | (refine wpList_store_row rfl 99 _ _ rfl w.heap.size zeroM rfl rfl _ _ hca (by rw [sizeM, zeroM_size]) (by rw [hna, zeroM_size]) zeroM_one ?_))
  refine bodyPost_ret (v := .tuple #[.agg zeroM, .int .i64 2]) ?_ rfl ?_
  ·exact results_M (fn := Tryz.f89) (p := 4) (u := 5) rfl _ _ w.heap.size _ zeroM_size rfl (setRow_heap _ _ _ _ _ _ hca)
  exact ⟨⟨zeroM, 2, rfl, zeroM_size, zeroM_one, .inr (.inr rfl), fun h => (by omega), fun h => (by omega)⟩, below_setRow HB2.out (by omega) _⟩
 obtain rfl : bf = false := by simpa using hbf
 have HW2 := Lib.hid (HW.out rfl);clear hbf HW
 go_wp2_with fail
 refine (HW2.out _).mono ?_;rintro e w3 ⟨A, c, rfl, hc, hS, -, hb3⟩;have HR3 := Lib.hid (HR2.out.below hb3);have HB3 := Lib.hid (below_of_le HB2.out hb3);clear HR2 HB2 hb3
 go_wp2_with fail
 refine (HFI.out _ _ _ hS).mono ?_;rintro e w4 ⟨hans, hb4⟩;have HR4 := Lib.hid (HR3.out.below hb4);have HB4 := Lib.hid (below_of_le HB3.out hb4);clear HR3 HB3 hb4 hS
 cases r with
 | none =>
  obtain rfl := hans;obtain ⟨ca, hca, hna, h1a⟩ := HR4.out
  go_wp2_with (first | (refine wpList_build_M rfl rfl ?_) | (refine wpList_store_row rfl 99 _ _ rfl w.heap.size zeroM rfl rfl _ _ hca (by rw [sizeM, zeroM_size]) (by rw [hna, zeroM_size]) zeroM_one ?_))
  refine bodyPost_ret (v := .tuple #[.agg zeroM, .int .i64 0]) ?_ rfl ?_
  ·exact results_M (fn := Tryz.f89) (p := 4) (u := 5) rfl _ _ w.heap.size _ zeroM_size rfl (setRow_heap _ _ _ _ _ _ hca)
  exact ⟨⟨zeroM, 0, rfl, zeroM_size, zeroM_one, .inl rfl, fun _ => HPS.out, fun h => (by omega)⟩, below_setRow HB4.out (by omega) _⟩
 | some l =>
  obtain ⟨g, rfl, hg, ht⟩ := hans
  by_cases hl0 : fs.length = 0
  ·have hl6 : ((fs.length : Int) == 0) = true := by rw [hl0]; rfl
   obtain ⟨ca, hca, hna, h1a⟩ := HR4.out;clear ht
   go_wp2_with (first | (refine wpList_build_M rfl rfl ?_) | (refine wpList_store_row rfl 99 _ _ rfl w.heap.size zeroM rfl rfl _ _ hca (by rw [sizeM, zeroM_size]) (by rw [hna, zeroM_size]) zeroM_one ?_))
   refine bodyPost_ret (v := .tuple #[.agg zeroM, .int .i64 2]) ?_ rfl ?_
   ·exact results_M (fn := Tryz.f89) (p := 4) (u := 5) rfl _ _ w.heap.size _ zeroM_size rfl (setRow_heap _ _ _ _ _ _ hca)
   exact ⟨⟨zeroM, 2, rfl, zeroM_size, zeroM_one, .inr (.inr rfl), fun h => (by omega), fun h => (by omega)⟩, below_setRow HB4.out (by omega) _⟩
  have hl6 : ((fs.length : Int) == 0) = false := by rw [beq_eq_false_iff_ne]; omega
  have HC6 := Lib.hid (fun w' hT => cronSixV_any g 6 l (HSM.out l rfl) w' hT);have HVV : Hid (RG = (sixS l).map Got.bits) := Lib.hid HPS.out;generalize sixS l = S6 at *;have HT4 := Lib.hid ht;clear ht
  go_wp2_with fail
  refine (HC6.out _ HT4.out).mono ?_;rintro e w5 ⟨⟨cs, v, rfl, hn, h1, hv3, hv0, hv1⟩, hb5⟩;have hR5 := HR4.out.below hb5;have HB5 := Lib.hid (below_of_le HB4.out hb5);obtain ⟨ca, hca, hna, h1a⟩ := hR5;have hgl : w.heap.size < w5.heap.size := (Array.getElem?_eq_some_iff.1 hca).1
  have hcaA : ∀ o : Obj, ((w5.alloc o).setRow w5.heap.size cs).heap[w.heap.size]? = some (.cells ca 99 (0, 0)) := fun o =>
   (setRow_other _ _ _ _ (by omega)).trans ((((Below.refl w5.heap.size w5).alloc (Nat.le_refl _) o).block _ hgl).trans hca)
  have HV5 : Hid ((v = 0 ∨ v = 1 ∨ v = 2) ∧ (v = 0 → S6 = none) ∧ (v = 1 → ∃ b, S6 = some b ∧ IsFields cs b)) := Lib.hid ⟨hv3, hv0, hv1⟩;have HCA := Lib.hid hcaA;obtain ⟨r, hbr, hr, hr1, hr0, hrj⟩ := builtMF2 cs hn h1;have HRJ := Lib.hid (And.intro hr0 hrj);clear hr0 hrj;clear HR4 HB4 hb5 HT4 HC6 HPS HSM HFI HW2 HF HB hca hcaA hv3 hv0 hv1
  go_wp2_with (first | (refine wpList_store_row rfl 88 _ _ rfl w5.heap.size cs rfl rfl _ _ (heap_alloc_new w5 _) (by rw [sizeF, hn]) (Eq.trans (b := 384) (by kernel_rfl) hn.symm) h1 ?_) | (refine wpList_load_row rfl 88 _ rfl w5.heap.size rfl _ _ _ _ (setRow_heap _ _ _ _ _ _ (heap_alloc_new w5 _)) Tryz.underlying88 rfl (by rw [sizeF, hn]) ?_) | (refine wpList_build_MF rfl _ rfl cs r hbr rfl ?_) | (refine wpList_store_row rfl 99 _ _ rfl w.heap.size r rfl rfl _ _ (HCA.out _) (by rw [sizeM, hr]) (by rw [hna, hr]) hr1 ?_))
  refine bodyPost_ret (v := .tuple #[.agg r, .int .i64 v]) ?_ rfl ?_
  ·exact results_M (fn := Tryz.f89) (p := 4) (u := 5) rfl _ _ w.heap.size _ hr rfl (setRow_heap _ _ _ _ _ _ (HCA.out _))
  exact ⟨⟨r, v, rfl, hr, hr1, HV5.out.1, fun h => (by rw [HVV.out, HV5.out.2.1 h]; rfl), fun h => (by
   obtain ⟨bb, e1, e2⟩ := HV5.out.2.2 h;exact ⟨.bits bb, by rw [HVV.out, e1]; rfl, HRJ.out.1, cs, e2, HRJ.out.2⟩)⟩, below_setRow (below_setRow (HB5.out.alloc HB5.out.size _) (by omega) _) (by omega) _⟩
end Go.Proofs.YtmecbmgfacpecaaGreatDoor.Cron
namespace Go.Proofs.YtmecbmgfacpecaaGreatDoor.Dur
open Go Go.Proofs.YtmecbmgfacpecaaGreatDoor.Flo
set_option linter.unusedVariables false
set_option linter.unusedSimpArgs false
def foldN (x : Nat) (l : List UInt8) : Nat := l.foldl (fun v c => v * 10 + dN c) x
theorem foldN_cons (x : Nat) (c : UInt8) (l : List UInt8) : foldN x (c :: l) = foldN (x * 10 + dN c) l := by unfold foldN; rw [List.foldl_cons]
theorem foldN_ge : ∀ (l : List UInt8) (x : Nat), x ≤ foldN x l
 | [], x => Nat.le_refl _
 | c :: l, x => by
  rw [foldN_cons];have := foldN_ge l (x * 10 + dN c);omega
theorem foldN_lt : ∀ (l : List UInt8) (x j : Nat), (∀ c ∈ l, isD c = true) → x < 10 ^ j → foldN x l < 10 ^ (j + l.length)
 | [], x, j, _, h => h
 | c :: l, x, j, hd, h => by
  rw [foldN_cons]
  have := foldN_lt l (x * 10 + dN c) (j + 1) (fun d hd' => hd d (List.mem_cons_of_mem _ hd')) (by
   have := dN_lt (hd c List.mem_cons_self);rw [Nat.pow_succ];omega)
  rw [List.length_cons, show j + (l.length + 1) = j + 1 + l.length by omega];exact this
def Stop (p : UInt8 → Bool) (r : List UInt8) : Prop := r = [] ∨ ∃ c t, r = c :: t ∧ p c = false
theorem stop_drop (p : UInt8 → Bool) (l : List UInt8) : Stop p (l.dropWhile p) := by
 induction l with
 | nil => exact .inl rfl
 | cons c l ih =>
  cases h : p c with
  | true => rw [List.dropWhile_cons_of_pos h]; exact ih
  | false => rw [List.dropWhile_cons_of_neg (by rw [h]; simp)]; exact .inr ⟨c, l, rfl, h⟩
theorem mem_tw {p : UInt8 → Bool} {l : List UInt8} : ∀ c ∈ l.takeWhile p, p c = true := by
 induction l with
 | nil => intro c h; simp at h
 | cons x l ih =>
  intro c h
  cases hx : p x with
  | true =>
   rw [List.takeWhile_cons_of_pos hx] at h
   rcases List.mem_cons.1 h with rfl | h
   ·exact hx
   ·exact ih c h
  | false =>
   rw [List.takeWhile_cons_of_neg (by rw [hx]; simp)] at h
   cases h
theorem leadI_all : ∀ (ds : List UInt8) (x : Nat) (r : List UInt8), (∀ c ∈ ds, isD c = true) → Stop isD r → foldN x ds < 922337203685477580 → leadI x (ds ++ r) = some (foldN x ds, r)
 | [], x, r, _, hr, _ => by
  rcases hr with rfl | ⟨c, t, rfl, hc⟩
  ·rfl
  ·simp [leadI, hc, foldN]
 | c :: ds, x, r, hd, hr, hx => by
  have hge := foldN_ge ds (x * 10 + dN c);rw [foldN_cons] at hx;rw [List.cons_append, leadI, if_pos (hd c List.mem_cons_self), if_neg (by omega), if_neg (by omega), foldN_cons];exact leadI_all ds _ r (fun d hd' => hd d (List.mem_cons_of_mem _ hd')) hr hx
theorem leadI_rest : ∀ (l : List UInt8) (x v : Nat) (r : List UInt8), leadI x l = some (v, r) → r = l.dropWhile isD
 | [], x, v, r, h => by
  simp only [leadI, Option.some.injEq, Prod.mk.injEq] at h;exact h.2.symm
 | c :: l, x, v, r, h => by
  unfold leadI at h
  cases hc : isD c with
  | true =>
   rw [List.dropWhile_cons_of_pos hc];rw [if_pos hc] at h
   split at h
   ·cases h
   ·split at h
    ·cases h
    ·exact leadI_rest l _ v r h
  | false =>
   rw [List.dropWhile_cons_of_neg (by rw [hc]; simp)];rw [if_neg (by rw [hc]; simp)] at h;simp only [Option.some.injEq, Prod.mk.injEq] at h;exact h.2.symm
theorem leadF_rest : ∀ (l : List UInt8) (x s : Nat) (ov : Bool), (leadF x s ov l).2.2 = l.dropWhile isD
 | [], x, s, ov => rfl
 | c :: l, x, s, ov => by
  unfold leadF
  cases hc : isD c with
  | true =>
   rw [List.dropWhile_cons_of_pos hc, if_pos rfl]
   split
   ·exact leadF_rest l _ _ _
   ·split
    ·exact leadF_rest l _ _ _
    ·split
     ·exact leadF_rest l _ _ _
     ·exact leadF_rest l _ _ _
  | false =>
   rw [List.dropWhile_cons_of_neg (by rw [hc]; simp), if_neg (by simp)]
theorem is_one : Is 1 one64 := by unfold Is; decide +kernel
theorem is_ten : Is 10 ten64 := by unfold Is; decide +kernel
theorem p11 : ∀ j : Fin 12, 10 ^ j.val ≤ 100000000000 := by decide
theorem leadF_all : ∀ (fs : List UInt8) (x s j : Nat) (r : List UInt8), (∀ c ∈ fs, isD c = true) → Stop isD r → x < 10 ^ j → Is (10 ^ j) s → j + fs.length ≤ 11 →
  ∃ s', leadF x s false (fs ++ r) = (foldN x fs, s', r) ∧ Is (10 ^ (j + fs.length)) s'
 | [], x, s, j, r, _, hr, _, hs, _ => by
  refine ⟨s, ?_, hs⟩
  rcases hr with rfl | ⟨c, t, rfl, hc⟩
  ·rfl
  ·simp [leadF, hc, foldN]
 | c :: fs, x, s, j, r, hd, hr, hx, hs, hj => by
  rw [List.length_cons] at hj;have hp := p11 ⟨j, by omega⟩;have hp1 := p11 ⟨j + 1, by omega⟩;dsimp only at hp hp1
  have hpos : 0 < 10 ^ j := Nat.pow_pos (by omega);have hdc := dN_lt (hd c List.mem_cons_self);obtain ⟨q, hq, hqi⟩ := mul_is hs is_ten hpos (by omega) (by rw [← Nat.pow_succ]; exact Nat.lt_of_le_of_lt hp1 (by decide)) (Nat.lt_of_le_of_lt hp (by decide)) (by decide);have hm : mulTen s = q := by unfold mulTen; rw [hq]; rfl
  rw [← Nat.pow_succ] at hqi;obtain ⟨s', h1, h2⟩ := leadF_all fs (x * 10 + dN c) q (j + 1) r (fun d hd' => hd d (List.mem_cons_of_mem _ hd')) hr (by rw [Nat.pow_succ]; omega) hqi (by omega);refine ⟨s', ?_, by rw [List.length_cons, show j + (fs.length + 1) = j + 1 + fs.length by omega]; exact h2⟩;rw [List.cons_append, leadF, if_pos (hd c List.mem_cons_self), if_neg (by simp), if_neg (by omega), if_neg (by omega), hm, foldN_cons];exact h1
theorem frac_exact {f s unit q j : Nat} (hs : Is (10 ^ j) s) (hq : unit = q * 10 ^ j) (hu0 : 0 < unit) (hu : unit ≤ 3600000000000) (hf0 : 0 < f) (hf : f < 10 ^ j) : fracN f s unit = f * q := by
 have hpos : 0 < 10 ^ j := Nat.pow_pos (by omega)
 have hq0 : 0 < q := by
  rcases Nat.eq_zero_or_pos q with h | h
  ·rw [h, Nat.zero_mul] at hq; omega
  ·exact h
 have h53 : (2 : Nat) ^ 53 = 9007199254740992 := by decide
 obtain ⟨x, hx, hxi⟩ := div_is (is_fl hu0 (by omega)) hs hu0 hpos hq (by omega);have e1 : quoW unit s = x := by unfold quoW; rw [hx]; rfl
 have hfq : f * q ≤ unit := by
  rw [hq, Nat.mul_comm f q];exact Nat.mul_le_mul_left q (by omega)
 have hfu : f ≤ unit := Nat.le_trans (Nat.le_mul_of_pos_right f hq0) hfq;have hqu : q ≤ unit := by rw [hq]; exact Nat.le_mul_of_pos_right q hpos
 obtain ⟨y, hy, hyi⟩ := mul_is (is_fl (n := f) hf0 (by omega)) hxi hf0 hq0 (by omega) (by omega) (by omega);have e2 : mulW f unit s = y := by unfold mulW; rw [e1, hy]; rfl
 have hz := toInt_is hyi (Nat.mul_pos hf0 hq0) (by omega) .u64 ⟨by show (0 : Int) ≤ _; omega, by show _ ≤ (18446744073709551615 : Int); omega⟩;unfold fracN;rw [e2, hz];rfl
def unitM (u : List UInt8) : Nat × Nat :=
 if u = [110, 115] then (1, 0) else if u = [117, 115] then (1000, 3) else if u = [194, 181, 115] then (1000, 3) else if u = [206, 188, 115] then (1000, 3) else if u = [109, 115] then (1000000, 6)
 else if u = [115] then (1000000000, 9) else if u = [109] then (60000000000, 10) else if u = [104] then (3600000000000, 11) else (0, 0)
theorem unitM_N (u : List UInt8) : ((unitM u).1 = 0 ∧ unitN u = none) ∨ (unitN u = some (unitM u).1 ∧ 0 < (unitM u).1 ∧ (unitM u).1 ≤ 3600000000000 ∧ (unitM u).2 ≤ 11 ∧ ∀ j, j ≤ (unitM u).2 → ∃ q, (unitM u).1 = q * 10 ^ j) := by
 have key : ∀ (n m : Nat), (∃ q, n = q * 10 ^ m) → ∀ j, j ≤ m → ∃ q, n = q * 10 ^ j := by
  rintro n m ⟨q, hq⟩ j hj;refine ⟨q * 10 ^ (m - j), ?_⟩;rw [Nat.mul_assoc, ← Nat.pow_add, show m - j + j = m by omega];exact hq
 unfold unitM unitN
 repeat' split
 all_goals first
  | exact .inl ⟨rfl, rfl⟩
  | exact .inr ⟨rfl, by decide, by decide, by decide, key _ _ ⟨_, by decide⟩⟩
  | (refine .inr ⟨rfl, by decide, by decide, by decide, key _ _ ?_⟩; first | exact ⟨1, rfl⟩ | exact ⟨6, rfl⟩ | exact ⟨36, rfl⟩)
theorem unitM_nil : (unitM []).1 = 0 := rfl
def whSt : Nat → Nat → Nat → List UInt8 → Nat × Nat
 | _, v, w, [] => (v, w)
 | i, v, w, c :: l => if i < 15 then whSt (i + 1) v (10 * w + dN c) l else whSt (i + 1) 2 w l
def frSt : Nat → Nat → List UInt8 → Nat
 | _, p, [] => p
 | j, p, c :: l => if j + 1 ≤ 11 then frSt (j + 1) (10 * p + dN c) l else frSt (j + 1) p l
theorem whSt_few : ∀ (l : List UInt8) (i v w : Nat), i + l.length ≤ 15 → whSt i v w l = (v, foldN w l)
 | [], i, v, w, h => rfl
 | c :: l, i, v, w, h => by
  rw [List.length_cons] at h;rw [whSt, if_pos (by omega), whSt_few l (i + 1) v _ (by omega), foldN_cons, Nat.mul_comm 10 w]
theorem whSt_two : ∀ (l : List UInt8) (i w : Nat), (whSt i 2 w l).1 = 2
 | [], i, w => rfl
 | c :: l, i, w => by
  rw [whSt]
  split
  ·exact whSt_two l _ _
  ·exact whSt_two l _ _
theorem whSt_many : ∀ (l : List UInt8) (i v w : Nat), i ≤ 15 → 15 < i + l.length → (whSt i v w l).1 = 2
 | [], i, v, w, h0, h => by simp at h; omega
 | c :: l, i, v, w, h0, h => by
  rw [List.length_cons] at h;rw [whSt]
  split
  ·exact whSt_many l (i + 1) v _ (by omega) (by omega)
  ·exact whSt_two l _ _
theorem whSt_lt : ∀ (l : List UInt8) (i v w : Nat), (∀ c ∈ l, isD c = true) → w < 10 ^ i → i ≤ 15 → (whSt i v w l).2 < 10 ^ 15
 | [], i, v, w, _, h, hi => Nat.lt_of_lt_of_le h (Nat.pow_le_pow_right (by omega) hi)
 | c :: l, i, v, w, hd, h, hi => by
  have hdc := dN_lt (hd c List.mem_cons_self);rw [whSt]
  split
  ·exact whSt_lt l (i + 1) v _ (fun d hd' => hd d (List.mem_cons_of_mem _ hd')) (by rw [Nat.pow_succ]; omega) (by omega)
  ·rename_i h15
   obtain rfl : i = 15 := by omega
   have key : ∀ (l : List UInt8) (i v w : Nat), 15 ≤ i → (whSt i v w l).2 = w := by
    intro l
    induction l with
    | nil => intro i v w _; rfl
    | cons d l ih => intro i v w h; rw [whSt, if_neg (by omega)]; exact ih _ _ _ (by omega)
   rw [key l _ _ _ (by omega)];exact h
theorem whSt_v : ∀ (l : List UInt8) (i v w : Nat), (whSt i v w l).1 = v ∨ (whSt i v w l).1 = 2
 | [], i, v, w => .inl rfl
 | c :: l, i, v, w => by
  rw [whSt]
  split
  ·exact whSt_v l _ _ _
  ·exact .inr (whSt_two l _ _)
theorem frSt_few : ∀ (l : List UInt8) (j p : Nat), j + l.length ≤ 11 → frSt j p l = foldN p l
 | [], j, p, h => rfl
 | c :: l, j, p, h => by
  rw [List.length_cons] at h;rw [frSt, if_pos (by omega), frSt_few l (j + 1) _ (by omega), foldN_cons, Nat.mul_comm 10 p]
theorem frSt_lt : ∀ (l : List UInt8) (j p : Nat), (∀ c ∈ l, isD c = true) → p < 10 ^ j → j ≤ 11 → frSt j p l < 10 ^ 11
 | [], j, p, _, h, hj => Nat.lt_of_lt_of_le h (Nat.pow_le_pow_right (by omega) hj)
 | c :: l, j, p, hd, h, hj => by
  have hdc := dN_lt (hd c List.mem_cons_self);rw [frSt]
  split
  ·exact frSt_lt l (j + 1) _ (fun d hd' => hd d (List.mem_cons_of_mem _ hd')) (by rw [Nat.pow_succ]; omega) (by omega)
  ·rename_i h11
   obtain rfl : j = 11 := by omega
   have key : ∀ (l : List UInt8) (j p : Nat), 11 ≤ j → frSt j p l = p := by
    intro l
    induction l with
    | nil => intro j p _; rfl
    | cons d l ih => intro j p h; rw [frSt, if_neg (by omega)]; exact ih _ _ (by omega)
   rw [key l _ _ (by omega)];exact h
def fracM (r : List UInt8) : List UInt8 × List UInt8 := match r with
 | 46 :: t => (t.takeWhile isD, t.dropWhile isD)
 | _ => ([], r)
theorem fracM_point (t : List UInt8) : fracM (46 :: t) = (t.takeWhile isD, t.dropWhile isD) := rfl
theorem fracM_else {r : List UInt8} (h : r.head? ≠ some 46) : fracM r = ([], r) := by
 unfold fracM
 split
 ·exact absurd rfl h
 ·rfl
theorem fracF_else {r : List UInt8} (h : r.head? ≠ some 46) : fracF r = (0, one64, r, false) := by
 unfold fracF
 split
 ·exact absurd rfl h
 ·rfl
def termSp (l : List UInt8) : Nat × List UInt8 × Nat :=
 let ds := l.takeWhile isD
 let fr := fracM (l.dropWhile isD)
 let u := unitM (fr.2.takeWhile isU)
 let rest := fr.2.dropWhile isU
 if ds.length + fr.1.length = 0 ∨ u.1 = 0 then (0, [], 0)
 else if u.2 < fr.1.length ∨ 4611686018427387904 / u.1 - 1 < (whSt 0 1 0 ds).2 then (0, rest, 2)
 else ((whSt 0 1 0 ds).2 * u.1 + frSt 0 0 fr.1 * (u.1 / 10 ^ fr.1.length), rest, (whSt 0 1 0 ds).1)
theorem fracF_rest (r : List UInt8) : (fracF r).2.2.1 = (fracM r).2 := by
 by_cases h : r.head? = some 46
 ·cases r with
  | nil => cases h
  | cons c t =>
   injection h with h
   subst h;exact leadF_rest t _ _ _
 ·rw [fracF_else h, fracM_else h]
theorem fracF_post (r : List UInt8) : (fracF r).2.2.2 = decide ((fracM r).1.length ≠ 0) := by
 by_cases h : r.head? = some 46
 ·cases r with
  | nil => cases h
  | cons c t =>
   injection h with h
   subst h
   show (!decide (t.length = (leadF 0 one64 false t).2.2.length)) = decide ((t.takeWhile isD).length ≠ 0)
   rw [leadF_rest];have := congrArg List.length (List.takeWhile_append_dropWhile (p := isD) (l := t));rw [List.length_append] at this;rw [← decide_not]
   apply decide_eq_decide.2
   omega
 ·rw [fracF_else h, fracM_else h];rfl
theorem unitF_rest {v f s n : Nat} {r t : List UInt8} (h : unitF v f s r = some (n, t)) : t = r.dropWhile isU := by
 unfold unitF at h
 split at h
 ·cases h
 ·split at h
  ·cases h
  ·split at h
   ·cases h
   ·split at h
    ·split at h
     ·cases h
     ·simp only [Option.some.injEq, Prod.mk.injEq] at h;exact h.2.symm
    ·simp only [Option.some.injEq, Prod.mk.injEq] at h;exact h.2.symm
theorem termF_open (l : List UInt8) : termF l = none ∨ ∃ n, termF l = some (n, (fracM (l.dropWhile isD)).2.dropWhile isU) := by
 cases h : termF l with
 | none => exact .inl rfl
 | some x =>
  obtain ⟨n, t⟩ := x;refine .inr ⟨n, ?_⟩;unfold termF at h
  split at h
  ·cases h
  ·split at h
   ·split at h
    ·cases h
    ·rename_i v r hv
     split at h
     ·cases h
     ·have h1 := unitF_rest h;rw [fracF_rest, leadI_rest _ _ _ _ hv] at h1;rw [h1]
   ·cases h
theorem head_point {l : List UInt8} (h : l.takeWhile isD = []) : l.dropWhile isD = l := by
 have := List.takeWhile_append_dropWhile (p := isD) (l := l);rw [h] at this;exact this
theorem termF_bad1 (l : List UInt8) (h : (l.takeWhile isD).length + (fracM (l.dropWhile isD)).1.length = 0) : termF l = none := by
 have h1 : l.takeWhile isD = [] := List.length_eq_zero_iff.1 (by omega);have h2 : (fracM l).1.length = 0 := by rw [head_point h1] at h; omega
 unfold termF
 split
 ·rfl
 ·rename_i c r
  split
  ·split
   ·rfl
   ·rename_i v t hv
    have ht := leadI_rest _ _ _ _ hv;rw [head_point h1] at ht;subst ht;have hp : (fracF (c :: r)).2.2.2 = false := by rw [fracF_post, h2]; rfl
    rw [hp];simp
  ·rfl
theorem termF_bad2 (l : List UInt8) (h : unitN ((fracM (l.dropWhile isD)).2.takeWhile isU) = none) : termF l = none := by
 unfold termF
 split
 ·rfl
 ·rename_i c r
  split
  ·split
   ·rfl
   ·rename_i v t hv
    split
    ·rfl
    ·unfold unitF;rw [fracF_rest, leadI_rest _ _ _ _ hv, h]
     split <;> rfl
  ·rfl
theorem fracF_all (r : List UInt8) (h : (fracM r).1.length ≤ 11) : ∃ s, (fracF r).1 = foldN 0 (fracM r).1 ∧ (fracF r).2.1 = s ∧ Is (10 ^ (fracM r).1.length) s := by
 by_cases hh : r.head? = some 46
 ·cases r with
  | nil => cases hh
  | cons c t =>
   injection hh with hh
   subst hh;have hm : fracM (46 :: t) = (t.takeWhile isD, t.dropWhile isD) := rfl;rw [hm] at h ⊢
   dsimp only at h ⊢
   obtain ⟨s', h1, h2⟩ := leadF_all (t.takeWhile isD) 0 one64 0 (t.dropWhile isD) mem_tw (stop_drop _ _) (by decide) is_one (by omega);rw [List.takeWhile_append_dropWhile] at h1;refine ⟨s', ?_, ?_, by rw [Nat.zero_add] at h2; exact h2⟩
   ·show (leadF 0 one64 false t).1 = _
    rw [h1]
   ·show (leadF 0 one64 false t).2.1 = _
    rw [h1]
 ·rw [fracF_else hh, fracM_else hh];exact ⟨one64, rfl, rfl, is_one⟩
theorem term_rel (l : List UInt8) : (termSp l).1 ≤ 4611686018427387904 ∧ ((termSp l).2.2 = 0 → termF l = none) ∧ ((termSp l).2.2 = 1 → termF l = some ((termSp l).1, (termSp l).2.1)) ∧
  ((termSp l).2.2 = 2 → termF l = none ∨ ∃ n, termF l = some (n, (termSp l).2.1)) ∧ (termSp l).2.2 ≤ 2 ∧ ((termSp l).2.2 ≠ 0 → (termSp l).2.1.length < l.length) := by
 have hlen0 : (l.takeWhile isD).length + (l.dropWhile isD).length = l.length := by
  rw [← List.length_append, List.takeWhile_append_dropWhile]
 have hlenM : (fracM (l.dropWhile isD)).1.length + (fracM (l.dropWhile isD)).2.length ≤ (l.dropWhile isD).length := by
  by_cases hh : (l.dropWhile isD).head? = some 46
  ·generalize l.dropWhile isD = r at *
   cases r with
   | nil => cases hh
   | cons c t =>
    injection hh with hh
    subst hh;rw [fracM_point, List.length_cons];dsimp only;rw [← List.length_append, List.takeWhile_append_dropWhile];omega
  ·rw [fracM_else hh];simp
 have hlenU := (List.dropWhile_suffix (l := (fracM (l.dropWhile isD)).2) isU).length_le;have hw := whSt_lt (l.takeWhile isD) 0 1 0 mem_tw (by decide) (by omega);have hv := whSt_v (l.takeWhile isD) 0 1 0;unfold termSp;dsimp only
 by_cases h1 : (l.takeWhile isD).length + (fracM (l.dropWhile isD)).1.length = 0 ∨ (unitM ((fracM (l.dropWhile isD)).2.takeWhile isU)).1 = 0
 ·rw [if_pos h1];refine ⟨by show 0 ≤ _; omega, fun _ => ?_, fun h => (by cases h), fun h => (by cases h), by show 0 ≤ _; omega, fun h => absurd rfl h⟩
  rcases h1 with h1 | h1
  ·exact termF_bad1 l h1
  ·refine termF_bad2 l ?_
   rcases unitM_N ((fracM (l.dropWhile isD)).2.takeWhile isU) with h | h
   ·exact h.2
   ·omega
 ·rw [if_neg h1];have h1a : (l.takeWhile isD).length + (fracM (l.dropWhile isD)).1.length ≠ 0 := fun h => h1 (.inl h)
  have h1b : (unitM ((fracM (l.dropWhile isD)).2.takeWhile isU)).1 ≠ 0 := fun h => h1 (.inr h)
  obtain ⟨hu, hu0, hu1, hu2, hu3⟩ : unitN ((fracM (l.dropWhile isD)).2.takeWhile isU) = some (unitM ((fracM (l.dropWhile isD)).2.takeWhile isU)).1 ∧ _ := by
   rcases unitM_N ((fracM (l.dropWhile isD)).2.takeWhile isU) with h | h
   ·exact absurd h.1 h1b
   ·exact h
  have hune : (fracM (l.dropWhile isD)).2.takeWhile isU ≠ [] := fun h => by
   rw [h] at h1b;exact h1b unitM_nil
  by_cases h2 : (unitM ((fracM (l.dropWhile isD)).2.takeWhile isU)).2 < (fracM (l.dropWhile isD)).1.length ∨ 4611686018427387904 / (unitM ((fracM (l.dropWhile isD)).2.takeWhile isU)).1 - 1 < (whSt 0 1 0 (l.takeWhile isD)).2
  ·rw [if_pos h2];exact ⟨by show 0 ≤ _; omega, fun h => (by cases h), fun h => (by cases h), fun _ => termF_open l, Nat.le_refl _, fun _ => by dsimp only; omega⟩
  ·rw [if_neg h2];have h2a : (fracM (l.dropWhile isD)).1.length ≤ (unitM ((fracM (l.dropWhile isD)).2.takeWhile isU)).2 := Nat.le_of_not_lt fun h => h2 (.inl h)
   have h2b : (whSt 0 1 0 (l.takeWhile isD)).2 ≤ 4611686018427387904 / (unitM ((fracM (l.dropWhile isD)).2.takeWhile isU)).1 - 1 := Nat.le_of_not_lt fun h => h2 (.inr h)
   obtain ⟨q, hq⟩ := hu3 _ h2a;obtain ⟨s, hs1, hs2, hs3⟩ := fracF_all (l.dropWhile isD) (by omega);have hfew := frSt_few (fracM (l.dropWhile isD)).1 0 0 (by omega)
   have hfl : foldN 0 (fracM (l.dropWhile isD)).1 < 10 ^ (fracM (l.dropWhile isD)).1.length := by
    have hmem : ∀ c ∈ (fracM (l.dropWhile isD)).1, isD c = true := by
     by_cases hh : (l.dropWhile isD).head? = some 46
     ·generalize l.dropWhile isD = r at *
      cases r with
      | nil => cases hh
      | cons c t =>
       injection hh with hh
       subst hh;exact mem_tw
     ·rw [fracM_else hh];intro c h
      cases h
    have := foldN_lt (fracM (l.dropWhile isD)).1 0 0 hmem (by decide);rw [Nat.zero_add] at this;exact this
   have hpre : ∀ v r, leadI 0 l = some (v, r) → r = l.dropWhile isD := fun v r h => leadI_rest _ _ _ _ h
   have hI : (l.takeWhile isD).length ≤ 15 → leadI 0 l = some ((whSt 0 1 0 (l.takeWhile isD)).2, l.dropWhile isD) := fun h => by
    have hf := whSt_few (l.takeWhile isD) 0 1 0 (by omega);rw [hf] at hw ⊢
    have := leadI_all (l.takeWhile isD) 0 (l.dropWhile isD) mem_tw (stop_drop _ _) (by
     have : (10 : Nat) ^ 15 = 1000000000000000 := by decide
     dsimp only at hw;omega)
    rw [List.takeWhile_append_dropWhile] at this;exact this
   have h15 : (whSt 0 1 0 (l.takeWhile isD)).1 = 1 → (l.takeWhile isD).length ≤ 15 := fun h => by
    rcases Nat.lt_or_ge 15 (l.takeWhile isD).length with h' | h'
    ·have := whSt_many (l.takeWhile isD) 0 1 0 (by omega) (by omega);omega
    ·exact h'
   have hopen := termF_open l
   have hunit : unitF (whSt 0 1 0 (l.takeWhile isD)).2 (fracF (l.dropWhile isD)).1 (fracF (l.dropWhile isD)).2.1 (fracM (l.dropWhile isD)).2 =
     some ((whSt 0 1 0 (l.takeWhile isD)).2 * (unitM ((fracM (l.dropWhile isD)).2.takeWhile isU)).1 + frSt 0 0 (fracM (l.dropWhile isD)).1 * ((unitM ((fracM (l.dropWhile isD)).2.takeWhile isU)).1 / 10 ^ (fracM (l.dropWhile isD)).1.length), (fracM (l.dropWhile isD)).2.dropWhile isU) ∧
     (whSt 0 1 0 (l.takeWhile isD)).2 * (unitM ((fracM (l.dropWhile isD)).2.takeWhile isU)).1 + frSt 0 0 (fracM (l.dropWhile isD)).1 * ((unitM ((fracM (l.dropWhile isD)).2.takeWhile isU)).1 / 10 ^ (fracM (l.dropWhile isD)).1.length) ≤ 4611686018427387904 := by
    rw [hfew];unfold unitF;rw [if_neg hune, hu, hs1, hs2];dsimp only;generalize (whSt 0 1 0 (l.takeWhile isD)).2 = W at *;generalize (unitM ((fracM (l.dropWhile isD)).2.takeWhile isU)).1 = U at *;generalize foldN 0 (fracM (l.dropWhile isD)).1 = Fr at *;generalize (fracM (l.dropWhile isD)).1.length = j at *;have hpj : 0 < 10 ^ j := Nat.pow_pos (by omega);have hqd : U / 10 ^ j = q := by rw [hq, Nat.mul_div_cancel _ hpj]
    have hd2 : 4611686018427387904 / U * U ≤ 4611686018427387904 := Nat.div_mul_le_self _ _;have hd3 : 1 ≤ 4611686018427387904 / U := (Nat.le_div_iff_mul_le hu0).2 (by omega)
    have hWU : W * U + U ≤ 4611686018427387904 := by
     have := Nat.mul_le_mul_right U (show W + 1 ≤ 4611686018427387904 / U by omega);rw [Nat.add_mul, Nat.one_mul] at this;omega
    have hFq : Fr * q ≤ U := by
     rw [hq, Nat.mul_comm Fr q];exact Nat.mul_le_mul_left q (by omega)
    have hbig : W ≤ 9223372036854775808 / U := by
     have : 4611686018427387904 / U ≤ 9223372036854775808 / U := Nat.div_le_div_right (by decide);omega
    rw [hqd, if_neg (by omega)];refine ⟨?_, by omega⟩
    by_cases hF : 0 < Fr
    ·rw [if_pos hF, frac_exact hs3 hq hu0 hu1 hF hfl, if_neg (by omega)]
    ·obtain rfl : Fr = 0 := by omega
     rw [if_neg (by omega), Nat.zero_mul, Nat.add_zero]
   refine ⟨hunit.2, fun h => by dsimp only at h; omega, fun h => ?_, fun _ => hopen, by dsimp only; omega, fun _ => by dsimp only; omega⟩;have hds := h15 h;have hlead := hI hds;unfold termF
   cases l with
   | nil => simp at h1a; exact absurd rfl h1a
   | cons c t =>
    dsimp only
    have hc : (isD c || c == 46) = true := by
     cases hcd : isD c with
     | true => rfl
     | false =>
      have e1 : (c :: t).takeWhile isD = [] := List.takeWhile_cons_of_neg (by rw [hcd]; simp);have e2 := head_point e1;rw [e1, e2] at h1a;rw [Bool.false_or, beq_iff_eq]
      by_cases hc46 : c = 46
      ·exact hc46
      ·exfalso
       apply h1a
       rw [fracM_else (by intro h; injection h with h; exact hc46 h)];rfl
    rw [if_pos hc, hlead];dsimp only;rw [fracF_post, fracF_rest, hunit.1]
    have hcnd : (decide ((c :: t).length = ((c :: t).dropWhile isD).length) && !decide ((fracM ((c :: t).dropWhile isD)).1.length ≠ 0)) = false := by
     by_cases e : (fracM ((c :: t).dropWhile isD)).1.length = 0
     ·rw [decide_eq_false (by omega)];rfl
     ·rw [decide_eq_true (p := (fracM ((c :: t).dropWhile isD)).1.length ≠ 0) e];simp
    rw [hcnd];rfl
end Go.Proofs.YtmecbmgfacpecaaGreatDoor.Dur
namespace Go.Proofs.YtmecbmgfacpecaaGreatDoor.Dur
open Go Go.RowKit Go.Proofs.YtmecbmgfacpecaaGreatDoor.Text Go.Proofs.YtmecbmgfacpecaaGreatDoorW.PrintWords Go.Proofs.YtmecbmgfacpecaaGreatDoorW.PrintLast Go.Proofs.YtmecbmgfacpecaaGreatDoorW.PrintMore Go.Proofs.YtmecbmgfacpecaaGreatDoor.Pr
open Go.Proofs.YtmecbmgfacpecaaGreatDoor.Cron (Ev ev_of isDigit_f worse_f)
set_option linter.unusedVariables false
set_option linter.unusedSimpArgs false
theorem bt_mid {s : ByteArray} {A B : List UInt8} {c : UInt8} (h : s.data.toList = A ++ c :: B) : bt s (A.length : Int) = ((c.toNat : Nat) : Int) ∧ A.length < s.size := by
 have hl : A.length < s.data.toList.length := by rw [h]; simp
 refine ⟨?_, by rw [size_list]; exact hl⟩;rw [bt_list s A.length hl];simp [h]
theorem end_mid {s : ByteArray} {A : List UInt8} (h : s.data.toList = A) : s.size = A.length := by rw [size_list, h]
theorem dig_is (c : UInt8) : spec_isDigit.f ((c.toNat : Nat) : Int) = some (isD c) := by
 rw [isDigit_f]
 congr 1
 unfold isD;rw [Bool.eq_iff_iff];simp only [Bool.and_eq_true, decide_eq_true_eq];omega
theorem b46 (c : UInt8) : ((((c.toNat : Nat) : Int)) == 46) = (c == 46) := by
 rw [Bool.eq_iff_iff, beq_iff_eq, beq_iff_eq]
 constructor
 ·intro h;exact UInt8.toNat_inj.1 (by show c.toNat = 46; omega)
 ·rintro rfl;rfl
theorem i46 (c : UInt8) : (((c.toNat : Nat) : Int) = 46) ↔ c = 46 := by
 have := b46 c;rw [Bool.eq_iff_iff, beq_iff_eq, beq_iff_eq] at this;exact this
theorem wr_succ {n : Nat} (h : n ≤ 4294967296) : wrap64 ((n : Int) + 1) = ((n + 1 : Nat) : Int) := by unfold wrap64; omega
theorem wr_id {n : Int} (h0 : -9223372036854775808 ≤ n) (h1 : n ≤ 9223372036854775807) : wrap64 n = n := by unfold wrap64; omega
theorem wr_nat {n : Nat} (h1 : n ≤ 4611686018427387904) : wrap64 (n : Int) = (n : Int) := wr_id (by omega) (by omega)
theorem wr_dig {w : Nat} {c : UInt8} (hc : isD c = true) (hw : w < 1000000000000000) : wrap64 ((wrap64 (10 * (w : Int))) + ((((c.toNat : Nat) : Int) - 48) % 256)) = ((10 * w + dN c : Nat) : Int) := by
 obtain ⟨h1, h2⟩ := isD_iff.1 hc;have e1 : wrap64 (10 * (w : Int)) = 10 * (w : Int) := wr_id (by omega) (by omega);have e2 : (((c.toNat : Nat) : Int) - 48) % 256 = ((dN c : Nat) : Int) := by unfold dN; omega
 have e3 := dN_lt hc;rw [e1, e2, wr_id (by omega) (by omega)]
 push_cast
 rfl
theorem wr_sum {w u p x : Nat} (h : w * u + p * x ≤ 4611686018427387904) : wrap64 ((wrap64 ((w : Int) * (u : Nat))) + (wrap64 ((p : Int) * (x : Nat)))) = ((w * u + p * x : Nat) : Int) := by
 rw [← Int.natCast_mul, ← Int.natCast_mul, wr_nat (by omega), wr_nat (by omega), ← Int.natCast_add, wr_nat h]
theorem pow_min15 (n : Nat) : 10 ^ (min n 15) ≤ 1000000000000000 := Nat.le_trans (Nat.pow_le_pow_right (by omega) (Nat.min_le_right n 15)) (by decide)
theorem pow_min11 (n : Nat) : 10 ^ (min n 11) ≤ 100000000000 := Nat.le_trans (Nat.pow_le_pow_right (by omega) (Nat.min_le_right n 11)) (by decide)
theorem pow_up {w d n m : Nat} (h : w < 10 ^ (min n m)) (hn : n < m) (hd : d ≤ 9) : 10 * w + d < 10 ^ (min (n + 1) m) := by
 rw [show min n m = n by omega] at h;rw [show min (n + 1) m = n + 1 by omega, Nat.pow_succ];generalize 10 ^ n = X at *;omega
theorem p15 : ∀ i : Fin 16, 10 ^ i.val ≤ 1000000000000000 := by decide
theorem term_l0 (s : ByteArray) (hs : s.size ≤ 4294967296) : ∀ (ds A R : List UInt8) (v w k : Nat), (∀ c ∈ ds, isD c = true) → s.data.toList = A ++ (ds ++ R) → Stop isD R → w < 10 ^ (min A.length 15) →
  spec_cronTerm.l0 (k + 2 * ds.length + 2) s (v : Int) (A.length : Nat) (w : Int) 0 0 =
   spec_cronTerm.j2 k s ((whSt A.length v w ds).1 : Nat) ((A.length + ds.length : Nat) : Int) ((whSt A.length v w ds).2 : Nat) 0 0 ((A.length + ds.length : Nat) : Int) (R.head? == some 46)
 | [], A, R, v, w, k, _, hl, hR, _ => by
  rw [List.length_nil, Nat.mul_zero, Nat.add_zero, Nat.add_zero]
  rcases hR with rfl | ⟨c, t, rfl, hc⟩
  ·have he := end_mid (s := s) (A := A) (by simpa using hl);rw [spec_cronTerm.l0];rw [if_neg (by omega)];rw [spec_cronTerm.j1];rw [if_neg (by simp), if_neg (by omega)];rfl
  ·obtain ⟨hb, hlt⟩ := bt_mid (s := s) (A := A) (B := t) (c := c) (by simpa using hl);rw [spec_cronTerm.l0];rw [if_pos (by omega), if_pos (by omega), hb, dig_is, hc, Option.bind_some];rw [spec_cronTerm.j1];rw [if_neg (by simp), if_pos (by omega), if_pos (by omega), hb, b46];rfl
 | c :: ds, A, R, v, w, k, hd, hl, hR, hw => by
  have hc := hd c List.mem_cons_self;have hdc := isD_iff.1 hc;obtain ⟨hb, hlt⟩ := bt_mid (s := s) (A := A) (B := ds ++ R) (c := c) (by simpa using hl);have hl2 : s.data.toList = (A ++ [c]) ++ (ds ++ R) := by rw [hl]; simp
  have hAl : (A ++ [c]).length = A.length + 1 := by simp
  have hw9 : w < 1000000000000000 := Nat.lt_of_lt_of_le hw (pow_min15 _);have hd9 := dN_lt hc;rw [List.length_cons, show k + 2 * (ds.length + 1) + 2 = (k + 2 * ds.length + 2) + 1 + 1 by omega];rw [spec_cronTerm.l0];rw [if_pos (by omega), if_pos (by omega), hb, dig_is, hc, Option.bind_some];rw [spec_cronTerm.j1];rw [if_pos rfl]
  by_cases h15 : A.length < 15
  ·have ih := term_l0 s hs ds (A ++ [c]) R v (10 * w + dN c) k (fun d hd' => hd d (List.mem_cons_of_mem _ hd')) hl2 hR (by
    rw [hAl];exact pow_up hw h15 hd9)
   rw [hAl] at ih;have hwr := wr_dig hc hw9;clear hw;rw [if_pos (by omega), if_pos (by omega), if_pos (by omega), hb, wr_succ (by omega), hwr, ih, whSt, if_pos h15, show A.length + 1 + ds.length = A.length + (ds.length + 1) by omega]
  ·have ih := term_l0 s hs ds (A ++ [c]) R 2 w k (fun d hd' => hd d (List.mem_cons_of_mem _ hd')) hl2 hR (by
    rw [hAl, show min (A.length + 1) 15 = min A.length 15 by omega];exact hw)
   rw [hAl] at ih;rw [if_neg (by omega), wr_succ (by omega), whSt, if_neg h15, show A.length + (ds.length + 1) = A.length + 1 + ds.length by omega];exact ih
theorem term_l1 (s : ByteArray) (hs : s.size ≤ 4294967296) : ∀ (fs A R : List UInt8) (v w p dg cnt k : Nat), (∀ c ∈ fs, isD c = true) → s.data.toList = A ++ (fs ++ R) → Stop isD R → p < 10 ^ (min dg 11) → dg ≤ A.length → cnt ≤ A.length →
  spec_cronTerm.l1 (k + 2 * fs.length + 2) s (v : Int) (A.length : Nat) (w : Int) (p : Int) (dg : Int) (cnt : Int) =
   spec_cronTerm.j5 k s (v : Int) ((A.length + fs.length : Nat) : Int) (w : Int) (frSt dg p fs : Nat) ((dg + fs.length : Nat) : Int) ((cnt + (dg + fs.length) : Nat) : Int)
 | [], A, R, v, w, p, dg, cnt, k, _, hl, hR, _, hdg, hcn => by
  rw [List.length_nil, Nat.mul_zero, Nat.add_zero, Nat.add_zero]
  rcases hR with rfl | ⟨c, t, rfl, hc⟩
  ·have he := end_mid (s := s) (A := A) (by simpa using hl);have hwr : wrap64 ((cnt : Int) + (dg : Int)) = ((cnt + dg : Nat) : Int) := by unfold wrap64; omega
   rw [spec_cronTerm.l1];rw [if_neg (by omega)];rw [spec_cronTerm.j4];rw [if_neg (by simp), hwr];rfl
  ·obtain ⟨hb, hlt⟩ := bt_mid (s := s) (A := A) (B := t) (c := c) (by simpa using hl);have hwr : wrap64 ((cnt : Int) + (dg : Int)) = ((cnt + dg : Nat) : Int) := by unfold wrap64; omega
   rw [spec_cronTerm.l1];rw [if_pos (by omega), if_pos (by omega), hb, dig_is, hc, Option.bind_some];rw [spec_cronTerm.j4];rw [if_neg (by simp), hwr];rfl
 | c :: fs, A, R, v, w, p, dg, cnt, k, hd, hl, hR, hp, hdg, hcn => by
  have hc := hd c List.mem_cons_self;have hdc := isD_iff.1 hc;obtain ⟨hb, hlt⟩ := bt_mid (s := s) (A := A) (B := fs ++ R) (c := c) (by simpa using hl);have hl2 : s.data.toList = (A ++ [c]) ++ (fs ++ R) := by rw [hl]; simp
  have hAl : (A ++ [c]).length = A.length + 1 := by simp
  have hp9 : p < 100000000000 := Nat.lt_of_lt_of_le hp (pow_min11 _);have hd9 := dN_lt hc;rw [List.length_cons, show k + 2 * (fs.length + 1) + 2 = (k + 2 * fs.length + 2) + 1 + 1 by omega];rw [spec_cronTerm.l1];rw [if_pos (by omega), if_pos (by omega), hb, dig_is, hc, Option.bind_some];rw [spec_cronTerm.j4];rw [if_pos rfl, wr_succ (by omega)]
  by_cases h11 : dg + 1 ≤ 11
  ·have ih := term_l1 s hs fs (A ++ [c]) R v w (10 * p + dN c) (dg + 1) cnt k (fun d hd' => hd d (List.mem_cons_of_mem _ hd')) hl2 hR (by
    exact pow_up hp (by omega) hd9) (by omega) (by omega)
   rw [hAl] at ih;have hwr := wr_dig (w := p) hc (by omega);clear hp;rw [if_pos (by omega), if_pos (by omega), if_pos (by omega), hb, wr_succ (by omega), hwr, ih, frSt, if_pos h11, show A.length + 1 + fs.length = A.length + (fs.length + 1) by omega, show dg + 1 + fs.length = dg + (fs.length + 1) by omega]
  ·have ih := term_l1 s hs fs (A ++ [c]) R v w p (dg + 1) cnt k (fun d hd' => hd d (List.mem_cons_of_mem _ hd')) hl2 hR (by
    rw [show min (dg + 1) 11 = min dg 11 by omega];exact hp) (by omega) (by omega)
   rw [hAl] at ih;rw [if_neg (by omega), wr_succ (by omega), ih, frSt, if_neg h11, show A.length + 1 + fs.length = A.length + (fs.length + 1) by omega, show dg + 1 + fs.length = dg + (fs.length + 1) by omega]
theorem term_l2 (s : ByteArray) (hs : s.size ≤ 4294967296) : ∀ (u A R : List UInt8) (k : Nat) (v w p dg cnt at0 : Int), (∀ c ∈ u, isU c = true) → s.data.toList = A ++ (u ++ R) → Stop isU R →
  spec_cronTerm.l2 (k + u.length + 1) s v (A.length : Nat) w p dg cnt at0 = spec_cronTerm.j7 k s v ((A.length + u.length : Nat) : Int) w p dg cnt at0
 | [], A, R, k, v, w, p, dg, cnt, at0, _, hl, hR => by
  show spec_cronTerm.l2 (k + 1) s v (A.length : Nat) w p dg cnt at0 = spec_cronTerm.j7 k s v ((A.length : Nat) : Int) w p dg cnt at0
  rcases hR with rfl | ⟨c, t, rfl, hc⟩
  ·have he := end_mid (s := s) (A := A) (by simpa using hl);rw [spec_cronTerm.l2];rw [if_neg (by omega)]
  ·obtain ⟨hb, hlt⟩ := bt_mid (s := s) (A := A) (B := t) (c := c) (by simpa using hl);rw [spec_cronTerm.l2];rw [if_pos (by omega), if_pos (by omega), hb, dig_is, Option.bind_some];unfold isU at hc
   cases hcd : isD c with
   | true => rw [if_pos rfl]
   | false =>
    rw [hcd] at hc;have : c = 46 := by simpa using hc
    rw [if_neg (by simp), if_pos ((i46 c).2 this)]
 | c :: u, A, R, k, v, w, p, dg, cnt, at0, hd, hl, hR => by
  have hc := hd c List.mem_cons_self;obtain ⟨hb, hlt⟩ := bt_mid (s := s) (A := A) (B := u ++ R) (c := c) (by simpa using hl);have hl2 : s.data.toList = (A ++ [c]) ++ (u ++ R) := by rw [hl]; simp
  have hAl : (A ++ [c]).length = A.length + 1 := by simp
  have ih := term_l2 s hs u (A ++ [c]) R k v w p dg cnt at0 (fun d hd' => hd d (List.mem_cons_of_mem _ hd')) hl2 hR;rw [hAl] at ih;unfold isU at hc
  have hcd : isD c = false := by
   cases h : isD c with
   | true => rw [h] at hc; simp at hc
   | false => rfl
  have hc46 : c ≠ 46 := by
   rintro rfl;simp at hc
  rw [List.length_cons, show k + (u.length + 1) + 1 = (k + u.length + 1) + 1 by omega];rw [spec_cronTerm.l2];rw [if_pos (by omega), if_pos (by omega), hb, dig_is, Option.bind_some, hcd, if_neg (by simp), if_neg (fun h => hc46 ((i46 c).1 h)), wr_succ (by omega), ih, show A.length + 1 + u.length = A.length + (u.length + 1) by omega]
theorem unit_f (u : List UInt8) (k : Nat) : spec_cronUnit.f (k + 2) (ba u) = some ((((unitM u).1 : Nat) : Int), (((unitM u).2 : Nat) : Int)) := by
 have e : (ba u).toList = u := by rw [toList_data, ba_list]
 unfold spec_cronUnit.f spec_cronUnit.j0 unitM;rw [e]
 by_cases h1 : u = [110, 115]
 ·subst h1; rfl
 by_cases h2 : u = [117, 115]
 ·subst h2; rfl
 by_cases h3 : u = [194, 181, 115]
 ·subst h3; rfl
 by_cases h4 : u = [206, 188, 115]
 ·subst h4; rfl
 have b2 : (u == [117, 115]) = false := by rw [beq_eq_false_iff_ne]; exact h2
 have b3 : (u == [194, 181, 115]) = false := by rw [beq_eq_false_iff_ne]; exact h3
 have b4 : (u == [206, 188, 115]) = false := by rw [beq_eq_false_iff_ne]; exact h4
 simp only [if_neg h1, if_neg h2, if_neg h3, if_neg h4, b2, b3, b4, Bool.false_eq_true, if_false, e]
 by_cases h5 : u = [109, 115]
 ·subst h5; rfl
 by_cases h6 : u = [115]
 ·subst h6; rfl
 by_cases h7 : u = [109]
 ·subst h7; rfl
 by_cases h8 : u = [104]
 ·subst h8; rfl
 simp only [if_neg h5, if_neg h6, if_neg h7, if_neg h8];rfl
theorem sub_mid {s : ByteArray} {A u R : List UInt8} (h : s.data.toList = A ++ (u ++ R)) : s.extract A.length (A.length + u.length) = ba u ∧ s.extract (A.length + u.length) s.size = ba R ∧ A.length + u.length ≤ s.size := by
 have hl : s.size = A.length + (u.length + R.length) := by rw [size_list, h]; simp
 refine ⟨?_, ?_, by omega⟩
 ·rw [← ba_of (s.extract _ _), extract_list, h];simp [List.take_append]
 ·rw [← ba_of (s.extract _ _), extract_list, List.take_of_length_le (by rw [← size_list]; exact Nat.le_refl _), h, ← List.append_assoc, List.drop_left' (by simp)]
theorem term_l3 (s : ByteArray) (hs : s.size ≤ 4294967296) (A u R : List UInt8) (h : s.data.toList = A ++ (u ++ R)) (v w p D : Nat) (hD : D ≤ 4294967296) : ∀ (d i unit k : Nat), D - i = d → i ≤ D → unit ≤ 3600000000000 →
  w * (unitM u).1 + p * (unit / 10 ^ d) ≤ 4611686018427387904 →
  spec_cronTerm.l3 (k + 2 + d + 1) s (v : Int) ((A.length + u.length : Nat) : Int) (w : Int) (p : Int) (A.length : Nat) (unit : Int) (D : Int) (i : Int) = some (((w * (unitM u).1 + p * (unit / 10 ^ d) : Nat) : Int), ba R, (v : Int))
 | 0, i, unit, k, hd, hi, hu, hb => by
  obtain ⟨e1, e2, e3⟩ := sub_mid h;rw [spec_cronTerm.l3];rw [if_neg (by omega), if_pos (by omega), if_pos (by omega), if_pos (by omega), Int.toNat_natCast, Int.toNat_natCast, e1, show k + 2 + 0 = k + 2 from rfl, unit_f, Option.bind_some, if_pos (by omega), e2];rw [Nat.pow_zero, Nat.div_one] at hb ⊢
  have hwr := wr_sum hb;rw [hwr]
 | d + 1, i, unit, k, hd, hi, hu, hb => by
  have hq : wrap64 (Int.tdiv (unit : Int) 10) = ((unit / 10 : Nat) : Int) := by
   rw [Int.tdiv_eq_ediv_of_nonneg (by omega)];exact wr_id (by omega) (by omega)
  have hdd : unit / 10 ^ (d + 1) = unit / 10 / 10 ^ d := by rw [Nat.pow_succ, Nat.mul_comm, Nat.div_div_eq_div_mul]
  rw [hdd] at hb ⊢
  have ih := term_l3 s hs A u R h v w p D hD d (i + 1) (unit / 10) k (by omega) (by omega) (by omega) hb;rw [show k + 2 + (d + 1) + 1 = (k + 2 + d + 1) + 1 by omega];rw [spec_cronTerm.l3];rw [if_pos (by omega), hq, wr_succ (by omega)];exact ih
theorem term_j5 (s : ByteArray) (hs : s.size ≤ 4294967296) (A r2 : List UInt8) (h : s.data.toList = A ++ r2) (v w p dg cnt : Nat) (hw : w < 1000000000000000) (hp : p < 100000000000) (hdg : dg ≤ 4294967296) :
  let U := unitM (r2.takeWhile isU)
  (∀ n, n = w * U.1 + p * (U.1 / 10 ^ dg) → ¬ (cnt = 0 ∨ U.1 = 0) → ¬ (U.2 < dg ∨ 4611686018427387904 / U.1 - 1 < w) → n ≤ 4611686018427387904) →
  ∃ K, spec_cronTerm.j5 K s (v : Int) (A.length : Nat) (w : Int) (p : Int) (dg : Int) (cnt : Int) =
   some (if cnt = 0 ∨ U.1 = 0 then ((0 : Int), ba [], (0 : Int)) else if U.2 < dg ∨ 4611686018427387904 / U.1 - 1 < w then ((0 : Int), ba (r2.dropWhile isU), (2 : Int)) else (((w * U.1 + p * (U.1 / 10 ^ dg) : Nat) : Int), ba (r2.dropWhile isU), (v : Int))) := by
 intro U hn;have hl : s.data.toList = A ++ (r2.takeWhile isU ++ r2.dropWhile isU) := by rw [List.takeWhile_append_dropWhile]; exact h
 obtain ⟨e1, e2, e3⟩ := sub_mid hl;refine ⟨(2 + dg + 1) + 2 + 1 + 1 + 1 + (r2.takeWhile isU).length + 1 + 1 , ?_⟩;have hl2 := term_l2 s hs (r2.takeWhile isU) A (r2.dropWhile isU) ((2 + dg + 1) + 2 + 1 + 1 + 1) v w p dg cnt (A.length : Nat) mem_tw hl (stop_drop _ _);rw [spec_cronTerm.j5];rw [hl2];rw [spec_cronTerm.j7];rw [if_pos (by omega), if_pos (by omega), if_pos (by omega), Int.toNat_natCast, Int.toNat_natCast, e1, unit_f, Option.bind_some]
 show (if ((cnt : Nat) : Int) = 0 then _ else _) = _
 have hU : unitM (r2.takeWhile isU) = U := rfl
 have hUb : U.1 ≤ 3600000000000 := by
  rcases unitM_N (r2.takeWhile isU) with h | h
  ·rw [← hU, h.1]; omega
  ·exact h.2.2.1
 rw [hU]
 have bad : ∀ k : Nat, spec_cronTerm.j8 (k + 1) s (v : Int) ((A.length + (r2.takeWhile isU).length : Nat) : Int) (w : Int) (p : Int) (dg : Int) (A.length : Nat) ((U.1 : Nat) : Int) ((U.2 : Nat) : Int) true = some (0, (⟨#[]⟩ : ByteArray), 0) := fun k => by
  rw [spec_cronTerm.j8];rw [if_pos rfl]
 have nb : (ba [] : ByteArray) = ⟨#[]⟩ := rfl
 by_cases hc : cnt = 0
 ·rw [if_pos (by omega), if_pos (Or.inl hc), nb];exact bad _
 rw [if_neg (by omega)]
 by_cases hu : U.1 = 0
 ·rw [if_pos (Or.inr hu), nb, show (((U.1 : Nat) : Int) == 0) = true by rw [hu]; rfl];exact bad _
 rw [if_neg (fun h => h.elim hc hu), show (((U.1 : Nat) : Int) == 0) = false by rw [beq_eq_false_iff_ne]; omega]
 have hq : wrap64 ((wrap64 ((4611686018427387904 : Int) / ((U.1 : Nat) : Int))) - 1) = ((4611686018427387904 / U.1 : Nat) : Int) - 1 := by
  have e : (4611686018427387904 : Int) / ((U.1 : Nat) : Int) = ((4611686018427387904 / U.1 : Nat) : Int) := by
   rw [Int.natCast_ediv];rfl
  have : 4611686018427387904 / U.1 ≤ 4611686018427387904 := Nat.div_le_self _ _;rw [e, wr_nat this];generalize 4611686018427387904 / U.1 = Q at this ⊢
  exact wr_id (by omega) (by omega)
 have hq1 : 1 ≤ 4611686018427387904 / U.1 := (Nat.le_div_iff_mul_le (by omega)).2 (by omega)
 have op : ∀ k : Nat, spec_cronTerm.j9 (k + 1) s (v : Int) ((A.length + (r2.takeWhile isU).length : Nat) : Int) (w : Int) (p : Int) (dg : Int) (A.length : Nat) ((U.1 : Nat) : Int) true = some (0, ba (r2.dropWhile isU), 2) := fun k => by
  rw [spec_cronTerm.j9];rw [if_pos rfl, if_pos (by omega), if_pos (by omega), Int.toNat_natCast, e2]
 rw [spec_cronTerm.j8];rw [if_neg (by simp)]
 by_cases hm : U.2 < dg
 ·rw [if_pos (by omega), if_pos (Or.inl hm)];exact op _
 rw [if_neg (by omega), if_neg (by omega), hq]
 by_cases hw2 : 4611686018427387904 / U.1 - 1 < w
 ·rw [if_pos (Or.inr hw2), decide_eq_true (by omega)];exact op _
 rw [if_neg (fun h => h.elim hm hw2), decide_eq_false (by omega)];rw [spec_cronTerm.j9];rw [if_neg (by simp)]
 have h3 := term_l3 s hs A (r2.takeWhile isU) (r2.dropWhile isU) hl v w p dg hdg dg 0 U.1 2 (by omega) (by omega) hUb (by
  rw [hU];exact hn _ rfl (fun h => h.elim hc hu) (fun h => h.elim hm hw2))
 rw [hU, show 2 + 2 + dg + 1 = 2 + dg + 3 by omega] at h3;exact h3
theorem term_f (s : ByteArray) (hs : s.size ≤ 4294967296) : ∃ K, spec_cronTerm.f K s = some (((termSp s.data.toList).1 : Int), ba (termSp s.data.toList).2.1, ((termSp s.data.toList).2.2 : Int)) := by
 have hrel := (term_rel s.data.toList).1;have hsplit : s.data.toList = [] ++ (s.data.toList.takeWhile isD ++ s.data.toList.dropWhile isD) := by rw [List.takeWhile_append_dropWhile]; rfl
 have hlen : (s.data.toList.takeWhile isD).length + (s.data.toList.dropWhile isD).length = s.size := by rw [← List.length_append, List.takeWhile_append_dropWhile, size_list]
 have h0 := fun k => term_l0 s hs (s.data.toList.takeWhile isD) [] (s.data.toList.dropWhile isD) 1 0 k mem_tw hsplit (stop_drop _ _) (by decide)
 have hw := whSt_lt (s.data.toList.takeWhile isD) 0 1 0 mem_tw (by decide) (by omega);rw [show (10 : Nat) ^ 15 = 1000000000000000 by decide] at hw;simp only [List.length_nil, Nat.zero_add] at h0
 have fin : ∀ (A : List UInt8) (fr : List UInt8 × List UInt8), fr = fracM (s.data.toList.dropWhile isD) → s.data.toList = A ++ fr.2 → (∀ c ∈ fr.1, isD c = true) → fr.1.length ≤ 4294967296 →
   ∃ K, spec_cronTerm.j5 K s ((whSt 0 1 0 (s.data.toList.takeWhile isD)).1 : Nat) (A.length : Nat) ((whSt 0 1 0 (s.data.toList.takeWhile isD)).2 : Nat) (frSt 0 0 fr.1 : Nat) (fr.1.length : Nat) (((s.data.toList.takeWhile isD).length + fr.1.length : Nat) : Int) =
    some (((termSp s.data.toList).1 : Int), ba (termSp s.data.toList).2.1, ((termSp s.data.toList).2.2 : Int)) := by
  intro A fr hfr hA hfd hfl;have hp := frSt_lt fr.1 0 0 hfd (by decide) (by omega);rw [show (10 : Nat) ^ 11 = 100000000000 by decide] at hp;unfold termSp at hrel ⊢
  dsimp only at hrel ⊢
  rw [← hfr] at hrel ⊢
  obtain ⟨K, hK⟩ := term_j5 s hs A fr.2 hA (whSt 0 1 0 (s.data.toList.takeWhile isD)).1 (whSt 0 1 0 (s.data.toList.takeWhile isD)).2 (frSt 0 0 fr.1) fr.1.length ((s.data.toList.takeWhile isD).length + fr.1.length) hw hp hfl (by
   intro n hn h1 h2;rw [if_neg h1, if_neg h2] at hrel;rw [hn];exact hrel)
  refine ⟨K, hK.trans ?_⟩
  congr 1
  split
  ·rfl
  ·split
   ·rfl
   ·rfl
 by_cases hh : (s.data.toList.dropWhile isD).head? = some 46
 ·obtain ⟨t, ht⟩ : ∃ t, s.data.toList.dropWhile isD = 46 :: t := by
   cases hr : s.data.toList.dropWhile isD with
   | nil => rw [hr] at hh; cases hh
   | cons c t =>
    rw [hr] at hh
    injection hh with hh
    exact ⟨t, by rw [hh]⟩
  have hm : fracM (s.data.toList.dropWhile isD) = (t.takeWhile isD, t.dropWhile isD) := by rw [ht]; rfl
  have hsp2 : s.data.toList = (s.data.toList.takeWhile isD ++ [46]) ++ (t.takeWhile isD ++ t.dropWhile isD) := by
   rw [List.takeWhile_append_dropWhile, List.append_assoc]
   show _ = s.data.toList.takeWhile isD ++ 46 :: t
   rw [← ht, List.takeWhile_append_dropWhile]
  have hlt : (t.takeWhile isD).length + (t.dropWhile isD).length + 1 = (s.data.toList.dropWhile isD).length := by
   rw [ht, List.length_cons, ← List.length_append, List.takeWhile_append_dropWhile]
  obtain ⟨K, hK⟩ := fin (s.data.toList.takeWhile isD ++ [46] ++ t.takeWhile isD) (t.takeWhile isD, t.dropWhile isD) hm.symm (by rw [List.append_assoc]; exact hsp2) mem_tw (by dsimp only; omega);have h1 := term_l1 s hs (t.takeWhile isD) (s.data.toList.takeWhile isD ++ [46]) (t.dropWhile isD) (whSt 0 1 0 (s.data.toList.takeWhile isD)).1 (whSt 0 1 0 (s.data.toList.takeWhile isD)).2 0 0 (s.data.toList.takeWhile isD).length K mem_tw hsp2 (stop_drop _ _) (by decide) (by omega) (by simp);simp only [List.length_append, List.length_cons, List.length_nil, Nat.zero_add] at h1 hK
  refine ⟨(K + 2 * (t.takeWhile isD).length + 2) + 1 + 2 * (s.data.toList.takeWhile isD).length + 2, ?_⟩;unfold spec_cronTerm.f;have h0k := h0 ((K + 2 * (t.takeWhile isD).length + 2) + 1);rw [hh] at h0k;refine h0k.trans ?_;rw [spec_cronTerm.j2];rw [if_pos (by rfl), wr_succ (by omega)];refine h1.trans ?_;exact hK
 ·have hm := fracM_else hh;obtain ⟨K, hK⟩ := fin (s.data.toList.takeWhile isD) ([], s.data.toList.dropWhile isD) hm.symm (by rw [List.takeWhile_append_dropWhile]) (fun c h => by cases h) (by show 0 ≤ _; omega);refine ⟨K + 1 + 2 * (s.data.toList.takeWhile isD).length + 2, ?_⟩;unfold spec_cronTerm.f;have h0k := h0 (K + 1);rw [show ((s.data.toList.dropWhile isD).head? == some 46) = false by rw [beq_eq_false_iff_ne]; exact hh] at h0k;refine h0k.trans ?_;rw [spec_cronTerm.j2];rw [if_neg (by simp)];exact hK
theorem dur_l0 : ∀ (n : Nat) (l : List UInt8) (neg : Bool) (x5 x6 : Nat), l.length ≤ n → l.length ≤ 4294967296 → x5 ≤ 4611686018427387904 → x6 = 1 ∨ x6 = 2 →
  ∃ (K : Nat) (D V : Int), (∀ k, K ≤ k → spec_CronDuration.l0 k (ba l) neg (x5 : Int) (x6 : Int) = some (D, V)) ∧ (V = 0 ∨ V = 1 ∨ V = 2) ∧ (V = 0 → ∀ m d0, sumF m d0 l = none) ∧
   (V = 1 → x6 = 1 ∧ ∀ m, l.length ≤ m → ∃ S, sumF m x5 l = some S ∧ S ≤ 4611686018427387904 ∧ D = if neg = true then -(S : Int) else (S : Int)) := by
 intro n
 induction n with
 | zero =>
  intro l neg x5 x6 hn hl h5 h6;obtain rfl := List.length_eq_zero_iff.1 (by omega : l.length = 0);have e : (ba []).toList = [] := by rw [toList_data, ba_list]
  rcases h6 with rfl | rfl
  ·refine ⟨1, if neg = true then -(x5 : Int) else (x5 : Int), 1, fun k hk => ?_, .inr (.inl rfl), fun h => (by omega), fun _ => ⟨rfl, fun m _ => ⟨x5, by cases m <;> rfl, h5, rfl⟩⟩⟩;obtain ⟨k, rfl⟩ : ∃ m, k = m + 1 := ⟨k - 1, by omega⟩
   rw [spec_CronDuration.l0];rw [if_pos e, if_pos (by rfl)]
   cases neg with
   | true =>
    have : wrap64 (-(x5 : Int)) = -(x5 : Int) := by unfold wrap64; omega
    simp [this]
   | false => simp
  ·refine ⟨1, 0, 2, fun k hk => ?_, .inr (.inr rfl), fun h => (by omega), fun h => (by omega)⟩;obtain ⟨k, rfl⟩ : ∃ m, k = m + 1 := ⟨k - 1, by omega⟩
   rw [spec_CronDuration.l0];rw [if_pos e, if_neg (by decide)];rfl
 | succ n ih =>
  intro l neg x5 x6 hn hl h5 h6
  cases l with
  | nil => exact ih [] neg x5 x6 (by simp) hl h5 h6
  | cons c t =>
   have e : ¬ (ba (c :: t)).toList = [] := by rw [toList_data, ba_list]; simp
   obtain ⟨r1, r2, r3, r4, r5, r6⟩ := term_rel (c :: t);obtain ⟨K0, hK0⟩ := term_f (ba (c :: t)) (by rw [ba_size]; exact hl);rw [ba_list] at hK0;obtain ⟨K1, hK1⟩ := ev_of (fun k => spec_cronTerm.mono (ba (c :: t)) k) hK0;generalize termSp (c :: t) = T at *;obtain ⟨nn, rest, v⟩ := T;dsimp only at *;obtain ⟨v3, w1, w2, w3, w4, w5, w6⟩ := worse_f (x6 : Int) (v : Int) (by omega) (by omega)
   have hterm : ∀ m d0, (v = 0 → sumF m d0 (c :: t) = none) := fun m d0 hv => by
    cases m with
    | zero => rfl
    | succ m => rw [sumF, r2 hv]
   by_cases hv3 : v3 = 0
   ·refine ⟨K1 + 1, 0, 0, fun k hk => ?_, .inl rfl, fun _ m d0 => hterm m d0 (by have := w3 hv3; omega), fun h => (by omega)⟩;obtain ⟨k, rfl⟩ : ∃ m, k = m + 1 := ⟨k - 1, by omega⟩
    rw [spec_CronDuration.l0];rw [if_neg e, hK1 k (by omega), Option.bind_some];dsimp only;rw [w1, Option.bind_some, if_pos hv3]
   ·have hv0 : v ≠ 0 := fun h => hv3 (w5 (.inr (by omega)))
    have hrl := r6 hv0;simp only [List.length_cons] at hrl hn hl
    have hcontd : ∀ m d0, (∀ m d1, sumF m d1 rest = none) → sumF m d0 (c :: t) = none := fun m d0 hr => by
     cases m with
     | zero => rfl
     | succ m =>
      have : termF (c :: t) = none ∨ ∃ n', termF (c :: t) = some (n', rest) := by
       rcases (show v = 1 ∨ v = 2 by omega) with h | h
       ·exact .inr ⟨_, r3 h⟩
       ·exact r4 h
      rcases this with h | ⟨n', h⟩
      ·rw [sumF, h]
      ·rw [sumF, h];dsimp only
       split
       ·rfl
       ·exact hr _ _
    have hw62 : wrap64 (4611686018427387904 - (nn : Int)) = 4611686018427387904 - (nn : Int) := by unfold wrap64; omega
    by_cases hbig : (x5 : Int) > 4611686018427387904 - (nn : Int)
    ·obtain ⟨K2, D, V, h1, h2, h3, h4⟩ := ih rest neg x5 2 (by omega) (by omega) h5 (.inr rfl);refine ⟨K1 + K2 + 1, D, V, fun k hk => ?_, h2, fun hV m d0 => hcontd m d0 (h3 hV), fun hV => absurd (h4 hV).1 (by decide)⟩;obtain ⟨k, rfl⟩ : ∃ m, k = m + 1 := ⟨k - 1, by omega⟩
     rw [spec_CronDuration.l0];rw [if_neg e, hK1 k (by omega), Option.bind_some];dsimp only;rw [w1, Option.bind_some, if_neg hv3, hw62, if_pos hbig, Int.add_zero, show wrap64 (x5 : Int) = (x5 : Int) by unfold wrap64; omega];exact h1 k (by omega)
    ·obtain ⟨x7, hx7, hx7'⟩ : ∃ x7 : Nat, v3 = (x7 : Int) ∧ (x7 = 1 ∨ x7 = 2) := by
      rcases w2 with h | h | h
      ·exact absurd h hv3
      ·exact ⟨1, h, .inl rfl⟩
      ·exact ⟨2, h, .inr rfl⟩
     obtain ⟨K2, D, V, h1, h2, h3, h4⟩ := ih rest neg (x5 + nn) x7 (by omega) (by omega) (by omega) hx7';refine ⟨K1 + K2 + 1, D, V, fun k hk => ?_, h2, fun hV m d0 => hcontd m d0 (h3 hV), fun hV => ?_⟩
     ·obtain ⟨k, rfl⟩ : ∃ m, k = m + 1 := ⟨k - 1, by omega⟩
      rw [spec_CronDuration.l0];rw [if_neg e, hK1 k (by omega), Option.bind_some];dsimp only;rw [w1, Option.bind_some, if_neg hv3, hw62, if_neg hbig, show wrap64 ((x5 : Int) + (nn : Int)) = ((x5 + nn : Nat) : Int) by unfold wrap64; omega, hx7];exact h1 k (by omega)
     ·obtain ⟨g1, g2⟩ := h4 hV;obtain ⟨a1, a2⟩ := w4 (by omega);refine ⟨by omega, fun m hm => ?_⟩;obtain ⟨m, rfl⟩ : ∃ m', m = m' + 1 := ⟨m - 1, by simp only [List.length_cons] at hm; omega⟩
      simp only [List.length_cons] at hm;obtain ⟨S, s1, s2, s3⟩ := g2 m (by omega);refine ⟨S, ?_, s2, s3⟩;rw [sumF, r3 (by omega)];dsimp only;rw [Nat.mod_eq_of_lt (by omega), if_neg (by omega)];exact s1
theorem dur_j1 (l : List UInt8) (hl : l.length ≤ 4294967296) (neg : Bool) : ∃ (K : Nat) (D V : Int), (∀ k, K ≤ k → spec_CronDuration.j1 k (ba l) neg = some (D, V)) ∧ (V = 0 ∨ V = 1 ∨ V = 2) ∧
  (V = 0 → (if l = [48] then some 0 else if l = [] then none else finF neg (sumF l.length 0 l)) = none) ∧ (V = 1 → (if l = [48] then some 0 else if l = [] then none else finF neg (sumF l.length 0 l)) = some D) := by
 have e : (ba l).toList = l := by rw [toList_data, ba_list]
 by_cases h1 : l = [48]
 ·refine ⟨1, 0, 1, fun k hk => ?_, .inr (.inl rfl), fun h => (by omega), fun _ => by rw [if_pos h1]⟩;obtain ⟨k, rfl⟩ : ∃ m, k = m + 1 := ⟨k - 1, by omega⟩
  rw [spec_CronDuration.j1];rw [e, if_pos h1]
 by_cases h2 : l = []
 ·refine ⟨1, 0, 0, fun k hk => ?_, .inl rfl, fun h => (by rw [if_neg h1, if_pos h2]), fun h => (by omega)⟩;obtain ⟨k, rfl⟩ : ∃ m, k = m + 1 := ⟨k - 1, by omega⟩
  rw [spec_CronDuration.j1];rw [e, if_neg h1, if_pos h2]
 obtain ⟨K, D, V, g1, g2, g3, g4⟩ := dur_l0 l.length l neg 0 1 (Nat.le_refl _) hl (by omega) (.inl rfl);refine ⟨K + 1, D, V, fun k hk => ?_, g2, fun h => ?_, fun h => ?_⟩
 ·obtain ⟨k, rfl⟩ : ∃ m, k = m + 1 := ⟨k - 1, by omega⟩
  rw [spec_CronDuration.j1];rw [e, if_neg h1, if_neg h2];exact g1 k (by omega)
 ·rw [if_neg h1, if_neg h2, g3 h];rfl
 ·obtain ⟨_, g5⟩ := g4 h;obtain ⟨S, s1, s2, s3⟩ := g5 l.length (Nat.le_refl _);rw [if_neg h1, if_neg h2, s1, s3];unfold finF
  cases neg with
  | true => simp only [if_true]; rw [if_neg (by omega)]
  | false => simp only [Bool.false_eq_true, if_false]; rw [if_neg (by omega)]
theorem dur_f (s : ByteArray) (hs : s.size ≤ 4294967296) : ∃ (K : Nat) (D V : Int), spec_CronDuration.f K s = some (D, V) ∧ (V = 0 ∨ V = 1 ∨ V = 2) ∧ (V = 0 → durF s.data.toList = none) ∧ (V = 1 → durF s.data.toList = some D) := by
 have hl : s.data.toList.length ≤ 4294967296 := by rw [← size_list]; exact hs
 obtain ⟨l, rfl⟩ : ∃ l, s = ba l := ⟨s.data.toList, (ba_of s).symm⟩
 rw [ba_list] at hl ⊢
 have e : (ba l).toList = l := by rw [toList_data, ba_list]
 have hsz := ba_size l
 cases l with
 | nil =>
  obtain ⟨K, D, V, h1, h2, h3, h4⟩ := dur_j1 [] (by simp) false;refine ⟨K + 1, D, V, ?_, h2, h3, h4⟩;unfold spec_CronDuration.f;rw [if_pos e];rw [spec_CronDuration.j0];rw [if_neg (by simp)];exact h1 K (Nat.le_refl _)
 | cons c r =>
  simp only [List.length_cons] at hl hsz
  obtain ⟨hb, hlt⟩ := bt_mid (s := ba (c :: r)) (A := []) (B := r) (c := c) (by rw [ba_list]; rfl);rw [show (([] : List UInt8).length : Int) = 0 from rfl] at hb
  have hx : (ba (c :: r)).extract 1 (ba (c :: r)).size = ba r := by
   rw [← ba_of ((ba (c :: r)).extract _ _), extract_list, ba_list, hsz];simp
  by_cases h45 : c = 45
  ·subst h45;obtain ⟨K, D, V, h1, h2, h3, h4⟩ := dur_j1 r (by omega) true;refine ⟨K + 1, D, V, ?_, h2, h3, h4⟩;unfold spec_CronDuration.f;rw [if_neg (by rw [e]; simp), if_pos (by omega), hb, if_pos (by rfl)];rw [spec_CronDuration.j0];rw [if_pos rfl, if_pos (by omega), if_pos (by omega), hx, hb];exact h1 K (Nat.le_refl _)
  by_cases h43 : c = 43
  ·subst h43;obtain ⟨K, D, V, h1, h2, h3, h4⟩ := dur_j1 r (by omega) false;refine ⟨K + 1, D, V, ?_, h2, h3, h4⟩;unfold spec_CronDuration.f;rw [if_neg (by rw [e]; simp), if_pos (by omega), hb, if_neg (by decide)];rw [spec_CronDuration.j0];rw [if_pos (by rfl), if_pos (by omega), if_pos (by omega), hx, hb];exact h1 K (Nat.le_refl _)
  obtain ⟨K, D, V, h1, h2, h3, h4⟩ := dur_j1 (c :: r) (by simp only [List.length_cons]; exact hl) false
  have hsg : signF (c :: r) = (false, c :: r) := by
   unfold signF
   split
   ·rename_i e
    simp only [List.cons.injEq] at e;exact absurd e.1 h45
   ·rename_i e
    simp only [List.cons.injEq] at e;exact absurd e.1 h43
   ·rfl
  have hn45 : c.toNat ≠ 45 := fun e => h45 (UInt8.toNat_inj.1 e)
  have hn43 : c.toNat ≠ 43 := fun e => h43 (UInt8.toNat_inj.1 e)
  refine ⟨K + 1, D, V, ?_, h2, fun h => by unfold durF; rw [hsg]; exact h3 h, fun h => by unfold durF; rw [hsg]; exact h4 h⟩;unfold spec_CronDuration.f;rw [if_neg (by rw [e]; simp), if_pos (by omega), hb, if_neg (by omega), show ((((c.toNat : Nat) : Int)) == 43) = false by rw [beq_eq_false_iff_ne]; omega];rw [spec_CronDuration.j0];rw [if_neg (by simp)];exact h1 K (Nat.le_refl _)
end Go.Proofs.YtmecbmgfacpecaaGreatDoor.Dur
namespace Go.Proofs.YtmecbmgfacpecaaGreatDoor.Cron
open Go Go.RowKit Go.Proofs.YtmecbmgfacpecaaGreatDoor.Text Go.Proofs.YtmecbmgfacpecaaGreatDoor.Bits Go.Proofs.YtmecbmgfacpecaaGreatDoorW.PrintWords Go.Proofs.YtmecbmgfacpecaaGreatDoorW.PrintLast Go.Proofs.YtmecbmgfacpecaaGreatDoorW.PrintMore Go.Proofs.YtmecbmgfacpecaaGreatDoor.Pr
set_option linter.unusedVariables false
set_option linter.unusedSimpArgs false
theorem blank_ex (x : Int) : ∃ b, spec_cronBlank.f x = some b := by
 unfold spec_cronBlank.f
 repeat' split
 all_goals exact ⟨_, rfl⟩
theorem words_ex (s : ByteArray) (hs : s.size ≤ 4294967296) : ∀ (d i : Nat) (acc : List ByteArray) (x4 : Int), s.size - i = d → i ≤ s.size → acc.length ≤ i → (x4 = -1 ∨ ∃ a : Nat, x4 = (a : Int) ∧ a ≤ i) →
  ∃ K R, spec_CronWords.l0 K s acc x4 (s.size : Int) (i : Int) = some R ∧ R.length ≤ s.size + 1
 | 0, i, acc, x4, hd, hi, ha, h4 => by
  have hlen : acc.length < 8796093022208 := by omega
  rcases h4 with rfl | ⟨a, rfl, hai⟩
  ·refine ⟨1, acc, ?_, by omega⟩;rw [spec_CronWords.l0];rw [if_neg (by omega), if_neg (by omega)]
  ·refine ⟨1, acc ++ [s.extract (a : Int).toNat s.size], ?_, by simp; omega⟩;rw [spec_CronWords.l0];rw [if_neg (by omega), if_pos (by omega), if_pos (by omega), if_pos (by omega), if_pos hlen]
 | d + 1, i, acc, x4, hd, hi, ha, h4 => by
  have hlen : acc.length < 8796093022208 := by omega
  have hw : wrap64 ((i : Int) + 1) = ((i + 1 : Nat) : Int) := by
   unfold wrap64;omega
  obtain ⟨b, hb⟩ := blank_ex (bt s (i : Int))
  cases b with
  | true =>
   rcases h4 with rfl | ⟨a, rfl, hai⟩
   ·obtain ⟨K, R, h1, h2⟩ := words_ex s hs d (i + 1) acc (-1) (by omega) (by omega) (by omega) (.inl rfl);refine ⟨K + 1 + 1, R, ?_, h2⟩;rw [spec_CronWords.l0];rw [if_pos (by omega), if_pos (by omega), if_pos (by omega), hb, Option.bind_some, if_pos rfl, decide_eq_false (by omega), spec_CronWords.j1];rw [if_neg (by simp), if_pos (by omega), if_pos (by omega), hb, Option.bind_some, if_pos rfl, hw];exact h1
   ·obtain ⟨K, R, h1, h2⟩ := words_ex s hs d (i + 1) (acc ++ [s.extract (a : Int).toNat (i : Int).toNat]) (-1) (by omega) (by omega) (by simp; omega) (.inl rfl);refine ⟨K + 1 + 1, R, ?_, h2⟩;rw [spec_CronWords.l0];rw [if_pos (by omega), if_pos (by omega), if_pos (by omega), hb, Option.bind_some, if_pos rfl, decide_eq_true (by omega), spec_CronWords.j1];rw [if_pos rfl, if_pos (by omega), if_pos (by omega), if_pos (by omega), if_pos hlen, hw];exact h1
  | false =>
   rcases h4 with rfl | ⟨a, rfl, hai⟩
   ·obtain ⟨K, R, h1, h2⟩ := words_ex s hs d (i + 1) acc (i : Int) (by omega) (by omega) (by omega) (.inr ⟨i, rfl, by omega⟩);refine ⟨K + 1 + 1, R, ?_, h2⟩;rw [spec_CronWords.l0];rw [if_pos (by omega), if_pos (by omega), if_pos (by omega), hb, Option.bind_some, if_neg (by simp), spec_CronWords.j1];rw [if_neg (by simp), if_pos (by omega), if_pos (by omega), hb, Option.bind_some, if_neg (by simp), if_pos (by omega), hw];exact h1
   ·obtain ⟨K, R, h1, h2⟩ := words_ex s hs d (i + 1) acc (a : Int) (by omega) (by omega) (by omega) (.inr ⟨a, rfl, by omega⟩);refine ⟨K + 1 + 1, R, ?_, h2⟩;rw [spec_CronWords.l0];rw [if_pos (by omega), if_pos (by omega), if_pos (by omega), hb, Option.bind_some, if_neg (by simp), spec_CronWords.j1];rw [if_neg (by simp), if_pos (by omega), if_pos (by omega), hb, Option.bind_some, if_neg (by simp), if_neg (by omega), hw];exact h1
theorem wordsG_any (s : ByteArray) (hs : s.size ≤ 4294967296) : ∃ R : List ByteArray, R.length ≤ 4294967297 ∧ ∀ w : World,
  Calls Tryz.prog 23 #[.string s] w fun e w' => (∃ A c, e = .returned (.slice A R.length c) ∧ SliceOf w' A R) ∧ Below w.heap.size w w' := by
 obtain ⟨K, R, h1, h2⟩ := words_ex s hs s.size 0 [] (-1) (by omega) (by omega) (by simp) (.inl rfl);refine ⟨R, by omega, fun w => ?_⟩;refine (spec_CronWords.calls K s R w h1).mono ?_;rintro e w' ⟨v, rfl, hR, hb⟩;obtain ⟨A, c, rfl, hc, hC⟩ := Kd.R_reads hR;refine ⟨⟨A, c, rfl, ?_⟩, hb⟩
 by_cases hne : R = []
 ·rw [hne];intro i x hx;simp at hx
 ·obtain ⟨g, n, cap, he, hg, ht⟩ := texts_of_R hR hne
  injection he with h1 h2 h3
  intro i x hx;exact ⟨g, h1, ht.lt, ht.at_ i x hx⟩
noncomputable def delayM (d : Int) : Array Value := (zeroM.setIfInBounds 0 (.bool true)).setIfInBounds 1 (.int .i64 d)
set_option maxRecDepth 100000 in
theorem built_delay (d : Int) : Tryz.prog.built 99 [(0, .bool true), (1, .int .i64 d)] = some (delayM d) := by kernel_rfl
theorem delayM_size (d : Int) : (delayM d).size = 387 := by unfold delayM; rw [Array.size_setIfInBounds, Array.size_setIfInBounds, zeroM_size]
theorem delayM_0 (d : Int) : (delayM d)[0]? = some (.bool true) := by
 unfold delayM;rw [Array.getElem?_setIfInBounds, if_neg (by omega), Array.getElem?_setIfInBounds, if_pos rfl, if_pos (by rw [zeroM_size]; omega)]
theorem delayM_1 (d : Int) : (delayM d)[1]? = some (.int .i64 d) := by
 unfold delayM;rw [Array.getElem?_setIfInBounds, if_pos rfl, if_pos (by rw [Array.size_setIfInBounds, zeroM_size]; omega)]
theorem delayM_one (d : Int) : (delayM d).all (·.oneCell') = true := by
 have h := zeroM_one;rw [Array.all_eq_true_iff_forall_mem] at h ⊢
 intro v hv;rw [Array.mem_iff_getElem?] at hv;obtain ⟨i, hi⟩ := hv;unfold delayM at hi;rw [Array.getElem?_setIfInBounds] at hi
 split at hi
 ·split at hi
  ·cases hi; rfl
  ·cases hi
 ·rw [Array.getElem?_setIfInBounds] at hi
  split at hi
  ·split at hi
   ·cases hi; rfl
   ·cases hi
  ·exact h v (Array.mem_iff_getElem?.2 ⟨i, hi⟩)
section
variable {ops : Array Oper} {rest : List Oper} {o : Oper} {a : Act} {w : World} {Q : Exit → Act → World → Prop}
theorem wpList_build_delay (hg : o.guard = none) (x : Operand) (ho : o.op = .build 99 #[(0, .const (.bool true)), (1, x)]) (d : Int) (hx : a.eval x = .int .i64 d)
  (h : wpList Tryz.prog ops Q rest (a.put o.dst (.agg (delayM d))) w) : wpList Tryz.prog ops Q (o :: rest) a w := by
 have e : ((#[(0, .const (.bool true)), (1, x)] : Array (Nat × Operand)).map fun (i, x) => (i, a.eval x)).toList = [(0, .bool true), (1, .int .i64 d)] := by
  simp only [List.map_toArray, List.map_cons, List.map_nil, hx];rfl
 refine wpList_build hg 99 #[(0, .const (.bool true)), (1, x)] ho (by rw [e, built_delay]; exact Option.isSome_some) ?_;rw [e, built_delay, Option.getD_some];exact h
end
theorem delay_f (d : Int) (h : d ≤ 9223372036854775807) : spec_CronDelay.f d = some (everyD d) := by
 unfold spec_CronDelay.f everyD
 by_cases h1 : d < 1000000000
 ·rw [if_pos h1, if_pos h1]
 ·rw [if_neg h1, if_neg h1, Int.tdiv_eq_ediv_of_nonneg (by omega)]
  have e : wrap64 (d / 1000000000) = d / 1000000000 := by
   unfold wrap64;omega
  rw [e]
  congr 1
  unfold wrap64;omega
theorem five0 : fieldsG ⟨#[48, 32, 48, 32, 49, 32, 49, 32, 42]⟩ 380 = some [1, 1, 1, 2, 2, 9223372036854775935] := by kernel_rfl
theorem five1 : fieldsG ⟨#[48, 32, 48, 32, 49, 32, 49, 32, 42]⟩ 380 = some [1, 1, 1, 2, 2, 9223372036854775935] := by kernel_rfl
theorem five2 : fieldsG ⟨#[48, 32, 48, 32, 49, 32, 42, 32, 42]⟩ 380 = some [1, 1, 1, 2, 9223372036854783998, 9223372036854775935] := by kernel_rfl
theorem five3 : fieldsG ⟨#[48, 32, 48, 32, 42, 32, 42, 32, 48]⟩ 380 = some [1, 1, 1, 9223372041149743102, 9223372036854783998, 1] := by kernel_rfl
theorem five4 : fieldsG ⟨#[48, 32, 48, 32, 42, 32, 42, 32, 42]⟩ 380 = some [1, 1, 1, 9223372041149743102, 9223372036854783998, 9223372036854775935] := by kernel_rfl
theorem five5 : fieldsG ⟨#[48, 32, 48, 32, 42, 32, 42, 32, 42]⟩ 380 = some [1, 1, 1, 9223372041149743102, 9223372036854783998, 9223372036854775935] := by kernel_rfl
theorem five6 : fieldsG ⟨#[48, 32, 42, 32, 42, 32, 42, 32, 42]⟩ 380 = some [1, 1, 9223372036871553023, 9223372041149743102, 9223372036854783998, 9223372036854775935] := by kernel_rfl
set_option maxRecDepth 100000 in
set_option maxHeartbeats 8000000 in
theorem descSays_any (l : List UInt8) (hl : l.length ≤ 4294967296) (w : World) :
  Calls Tryz.prog 137 #[.string (ba l)] w (SaysM w (descS l)) := by
 have el : (ba l).toList = l := by rw [toList_data, ba_list]
 have hal := run_alloc_M;have HR0 := Lib.hid (zeroM_row w);have HB0 : Hid (Below w.heap.size w (w.alloc (.cells zeroM 99))) := Lib.hid ((Below.refl _ _).alloc (Nat.le_refl _) _)
 by_cases e0 : l = [64, 121, 101, 97, 114, 108, 121]
 ·have HT : Hid (descS l = some (.bits [1, 1, 1, 2, 2, 9223372036854775935])) := Lib.hid (by rw [e0]; rfl);have HD := Lib.hid (fun w' => spec_CronDescribed.calls 3 (ba l) ⟨#[48, 32, 48, 32, 49, 32, 49, 32, 42]⟩ w' (by simp only [spec_CronDescribed.f, spec_CronDescribed.j0, spec_CronDescribed.j1, el.trans e0]; rfl));have HP := Lib.hid (fun w' => cronPlainP_any 380 (by decide) (by rfl) ⟨#[48, 32, 48, 32, 49, 32, 49, 32, 42]⟩ (by decide) (by rfl) w');rw [five0] at HP;generalize descS l = rd at *;clear hl el e0
  go_enter Tryz.func137, Tryz.ntmps137
  go_wp2_with fail
  refine (HD.out _).mono ?_;rintro e w1 ⟨rfl, hd1⟩;have HR1 := Lib.hid (HR0.out.below hd1.below);have HB1 := Lib.hid (below_of_le HB0.out hd1.below);clear HR0 HB0 hd1
  go_wp2_with fail
  refine (HP.out _).mono ?_;rintro e w2 ⟨⟨cs, v, rfl, hn, h1, hv⟩, hb2⟩;have HB2 := Lib.hid (below_of_le HB1.out hb2);have HV := Lib.hid hv;obtain ⟨ca, hca, hna, h1a⟩ := HR1.out.below hb2;clear HR1 HB1 hb2 hv
  go_wp2_with (refine wpList_store_row rfl 99 _ _ rfl w.heap.size cs rfl rfl _ _ hca (by rw [sizeM, hn]) (by rw [hna, hn]) h1 ?_)
  refine bodyPost_ret (v := .tuple #[.agg cs, .int .i64 v]) ?_ rfl ?_
  ·exact results_M (fn := Tryz.f137) (p := 2) (u := 3) rfl _ _ w.heap.size _ hn rfl (setRow_heap _ _ _ _ _ _ hca)
  rw [HT.out];exact ⟨⟨cs, v, rfl, hn, h1, HV.out⟩, below_setRow HB2.out (by omega) _⟩
 by_cases e1 : l = [64, 97, 110, 110, 117, 97, 108, 108, 121]
 ·have HT : Hid (descS l = some (.bits [1, 1, 1, 2, 2, 9223372036854775935])) := Lib.hid (by rw [e1]; rfl);have HD := Lib.hid (fun w' => spec_CronDescribed.calls 3 (ba l) ⟨#[48, 32, 48, 32, 49, 32, 49, 32, 42]⟩ w' (by simp only [spec_CronDescribed.f, spec_CronDescribed.j0, spec_CronDescribed.j1, el.trans e1]; rfl));have HP := Lib.hid (fun w' => cronPlainP_any 380 (by decide) (by rfl) ⟨#[48, 32, 48, 32, 49, 32, 49, 32, 42]⟩ (by decide) (by rfl) w');rw [five1] at HP;generalize descS l = rd at *;clear hl el e1 e0
  go_enter Tryz.func137, Tryz.ntmps137
  go_wp2_with fail
  refine (HD.out _).mono ?_;rintro e w1 ⟨rfl, hd1⟩;have HR1 := Lib.hid (HR0.out.below hd1.below);have HB1 := Lib.hid (below_of_le HB0.out hd1.below);clear HR0 HB0 hd1
  go_wp2_with fail
  refine (HP.out _).mono ?_;rintro e w2 ⟨⟨cs, v, rfl, hn, h1, hv⟩, hb2⟩;have HB2 := Lib.hid (below_of_le HB1.out hb2);have HV := Lib.hid hv;obtain ⟨ca, hca, hna, h1a⟩ := HR1.out.below hb2;clear HR1 HB1 hb2 hv
  go_wp2_with (refine wpList_store_row rfl 99 _ _ rfl w.heap.size cs rfl rfl _ _ hca (by rw [sizeM, hn]) (by rw [hna, hn]) h1 ?_)
  refine bodyPost_ret (v := .tuple #[.agg cs, .int .i64 v]) ?_ rfl ?_
  ·exact results_M (fn := Tryz.f137) (p := 2) (u := 3) rfl _ _ w.heap.size _ hn rfl (setRow_heap _ _ _ _ _ _ hca)
  rw [HT.out];exact ⟨⟨cs, v, rfl, hn, h1, HV.out⟩, below_setRow HB2.out (by omega) _⟩
 by_cases e2 : l = [64, 109, 111, 110, 116, 104, 108, 121]
 ·have HT : Hid (descS l = some (.bits [1, 1, 1, 2, 9223372036854783998, 9223372036854775935])) := Lib.hid (by rw [e2]; rfl);have HD := Lib.hid (fun w' => spec_CronDescribed.calls 3 (ba l) ⟨#[48, 32, 48, 32, 49, 32, 42, 32, 42]⟩ w' (by simp only [spec_CronDescribed.f, spec_CronDescribed.j0, spec_CronDescribed.j1, el.trans e2]; rfl));have HP := Lib.hid (fun w' => cronPlainP_any 380 (by decide) (by rfl) ⟨#[48, 32, 48, 32, 49, 32, 42, 32, 42]⟩ (by decide) (by rfl) w');rw [five2] at HP;generalize descS l = rd at *;clear hl el e2 e0 e1
  go_enter Tryz.func137, Tryz.ntmps137
  go_wp2_with fail
  refine (HD.out _).mono ?_;rintro e w1 ⟨rfl, hd1⟩;have HR1 := Lib.hid (HR0.out.below hd1.below);have HB1 := Lib.hid (below_of_le HB0.out hd1.below);clear HR0 HB0 hd1
  go_wp2_with fail
  refine (HP.out _).mono ?_;rintro e w2 ⟨⟨cs, v, rfl, hn, h1, hv⟩, hb2⟩;have HB2 := Lib.hid (below_of_le HB1.out hb2);have HV := Lib.hid hv;obtain ⟨ca, hca, hna, h1a⟩ := HR1.out.below hb2;clear HR1 HB1 hb2 hv
  go_wp2_with (refine wpList_store_row rfl 99 _ _ rfl w.heap.size cs rfl rfl _ _ hca (by rw [sizeM, hn]) (by rw [hna, hn]) h1 ?_)
  refine bodyPost_ret (v := .tuple #[.agg cs, .int .i64 v]) ?_ rfl ?_
  ·exact results_M (fn := Tryz.f137) (p := 2) (u := 3) rfl _ _ w.heap.size _ hn rfl (setRow_heap _ _ _ _ _ _ hca)
  rw [HT.out];exact ⟨⟨cs, v, rfl, hn, h1, HV.out⟩, below_setRow HB2.out (by omega) _⟩
 by_cases e3 : l = [64, 119, 101, 101, 107, 108, 121]
 ·have HT : Hid (descS l = some (.bits [1, 1, 1, 9223372041149743102, 9223372036854783998, 1])) := Lib.hid (by rw [e3]; rfl);have HD := Lib.hid (fun w' => spec_CronDescribed.calls 3 (ba l) ⟨#[48, 32, 48, 32, 42, 32, 42, 32, 48]⟩ w' (by simp only [spec_CronDescribed.f, spec_CronDescribed.j0, spec_CronDescribed.j1, el.trans e3]; rfl));have HP := Lib.hid (fun w' => cronPlainP_any 380 (by decide) (by rfl) ⟨#[48, 32, 48, 32, 42, 32, 42, 32, 48]⟩ (by decide) (by rfl) w');rw [five3] at HP;generalize descS l = rd at *;clear hl el e3 e0 e1 e2
  go_enter Tryz.func137, Tryz.ntmps137
  go_wp2_with fail
  refine (HD.out _).mono ?_;rintro e w1 ⟨rfl, hd1⟩;have HR1 := Lib.hid (HR0.out.below hd1.below);have HB1 := Lib.hid (below_of_le HB0.out hd1.below);clear HR0 HB0 hd1
  go_wp2_with fail
  refine (HP.out _).mono ?_;rintro e w2 ⟨⟨cs, v, rfl, hn, h1, hv⟩, hb2⟩;have HB2 := Lib.hid (below_of_le HB1.out hb2);have HV := Lib.hid hv;obtain ⟨ca, hca, hna, h1a⟩ := HR1.out.below hb2;clear HR1 HB1 hb2 hv
  go_wp2_with (refine wpList_store_row rfl 99 _ _ rfl w.heap.size cs rfl rfl _ _ hca (by rw [sizeM, hn]) (by rw [hna, hn]) h1 ?_)
  refine bodyPost_ret (v := .tuple #[.agg cs, .int .i64 v]) ?_ rfl ?_
  ·exact results_M (fn := Tryz.f137) (p := 2) (u := 3) rfl _ _ w.heap.size _ hn rfl (setRow_heap _ _ _ _ _ _ hca)
  rw [HT.out];exact ⟨⟨cs, v, rfl, hn, h1, HV.out⟩, below_setRow HB2.out (by omega) _⟩
 by_cases e4 : l = [64, 100, 97, 105, 108, 121]
 ·have HT : Hid (descS l = some (.bits [1, 1, 1, 9223372041149743102, 9223372036854783998, 9223372036854775935])) := Lib.hid (by rw [e4]; rfl);have HD := Lib.hid (fun w' => spec_CronDescribed.calls 3 (ba l) ⟨#[48, 32, 48, 32, 42, 32, 42, 32, 42]⟩ w' (by simp only [spec_CronDescribed.f, spec_CronDescribed.j0, spec_CronDescribed.j1, el.trans e4]; rfl));have HP := Lib.hid (fun w' => cronPlainP_any 380 (by decide) (by rfl) ⟨#[48, 32, 48, 32, 42, 32, 42, 32, 42]⟩ (by decide) (by rfl) w');rw [five4] at HP;generalize descS l = rd at *;clear hl el e4 e0 e1 e2 e3
  go_enter Tryz.func137, Tryz.ntmps137
  go_wp2_with fail
  refine (HD.out _).mono ?_;rintro e w1 ⟨rfl, hd1⟩;have HR1 := Lib.hid (HR0.out.below hd1.below);have HB1 := Lib.hid (below_of_le HB0.out hd1.below);clear HR0 HB0 hd1
  go_wp2_with fail
  refine (HP.out _).mono ?_;rintro e w2 ⟨⟨cs, v, rfl, hn, h1, hv⟩, hb2⟩;have HB2 := Lib.hid (below_of_le HB1.out hb2);have HV := Lib.hid hv;obtain ⟨ca, hca, hna, h1a⟩ := HR1.out.below hb2;clear HR1 HB1 hb2 hv
  go_wp2_with (refine wpList_store_row rfl 99 _ _ rfl w.heap.size cs rfl rfl _ _ hca (by rw [sizeM, hn]) (by rw [hna, hn]) h1 ?_)
  refine bodyPost_ret (v := .tuple #[.agg cs, .int .i64 v]) ?_ rfl ?_
  ·exact results_M (fn := Tryz.f137) (p := 2) (u := 3) rfl _ _ w.heap.size _ hn rfl (setRow_heap _ _ _ _ _ _ hca)
  rw [HT.out];exact ⟨⟨cs, v, rfl, hn, h1, HV.out⟩, below_setRow HB2.out (by omega) _⟩
 by_cases e5 : l = [64, 109, 105, 100, 110, 105, 103, 104, 116]
 ·have HT : Hid (descS l = some (.bits [1, 1, 1, 9223372041149743102, 9223372036854783998, 9223372036854775935])) := Lib.hid (by rw [e5]; rfl);have HD := Lib.hid (fun w' => spec_CronDescribed.calls 3 (ba l) ⟨#[48, 32, 48, 32, 42, 32, 42, 32, 42]⟩ w' (by simp only [spec_CronDescribed.f, spec_CronDescribed.j0, spec_CronDescribed.j1, el.trans e5]; rfl));have HP := Lib.hid (fun w' => cronPlainP_any 380 (by decide) (by rfl) ⟨#[48, 32, 48, 32, 42, 32, 42, 32, 42]⟩ (by decide) (by rfl) w');rw [five5] at HP;generalize descS l = rd at *;clear hl el e5 e0 e1 e2 e3 e4
  go_enter Tryz.func137, Tryz.ntmps137
  go_wp2_with fail
  refine (HD.out _).mono ?_;rintro e w1 ⟨rfl, hd1⟩;have HR1 := Lib.hid (HR0.out.below hd1.below);have HB1 := Lib.hid (below_of_le HB0.out hd1.below);clear HR0 HB0 hd1
  go_wp2_with fail
  refine (HP.out _).mono ?_;rintro e w2 ⟨⟨cs, v, rfl, hn, h1, hv⟩, hb2⟩;have HB2 := Lib.hid (below_of_le HB1.out hb2);have HV := Lib.hid hv;obtain ⟨ca, hca, hna, h1a⟩ := HR1.out.below hb2;clear HR1 HB1 hb2 hv
  go_wp2_with (refine wpList_store_row rfl 99 _ _ rfl w.heap.size cs rfl rfl _ _ hca (by rw [sizeM, hn]) (by rw [hna, hn]) h1 ?_)
  refine bodyPost_ret (v := .tuple #[.agg cs, .int .i64 v]) ?_ rfl ?_
  ·exact results_M (fn := Tryz.f137) (p := 2) (u := 3) rfl _ _ w.heap.size _ hn rfl (setRow_heap _ _ _ _ _ _ hca)
  rw [HT.out];exact ⟨⟨cs, v, rfl, hn, h1, HV.out⟩, below_setRow HB2.out (by omega) _⟩
 by_cases e6 : l = [64, 104, 111, 117, 114, 108, 121]
 ·have HT : Hid (descS l = some (.bits [1, 1, 9223372036871553023, 9223372041149743102, 9223372036854783998, 9223372036854775935])) := Lib.hid (by rw [e6]; rfl);have HD := Lib.hid (fun w' => spec_CronDescribed.calls 3 (ba l) ⟨#[48, 32, 42, 32, 42, 32, 42, 32, 42]⟩ w' (by simp only [spec_CronDescribed.f, spec_CronDescribed.j0, spec_CronDescribed.j1, el.trans e6]; rfl));have HP := Lib.hid (fun w' => cronPlainP_any 380 (by decide) (by rfl) ⟨#[48, 32, 42, 32, 42, 32, 42, 32, 42]⟩ (by decide) (by rfl) w');rw [five6] at HP;generalize descS l = rd at *;clear hl el e6 e0 e1 e2 e3 e4 e5
  go_enter Tryz.func137, Tryz.ntmps137
  go_wp2_with fail
  refine (HD.out _).mono ?_;rintro e w1 ⟨rfl, hd1⟩;have HR1 := Lib.hid (HR0.out.below hd1.below);have HB1 := Lib.hid (below_of_le HB0.out hd1.below);clear HR0 HB0 hd1
  go_wp2_with fail
  refine (HP.out _).mono ?_;rintro e w2 ⟨⟨cs, v, rfl, hn, h1, hv⟩, hb2⟩;have HB2 := Lib.hid (below_of_le HB1.out hb2);have HV := Lib.hid hv;obtain ⟨ca, hca, hna, h1a⟩ := HR1.out.below hb2;clear HR1 HB1 hb2 hv
  go_wp2_with (refine wpList_store_row rfl 99 _ _ rfl w.heap.size cs rfl rfl _ _ hca (by rw [sizeM, hn]) (by rw [hna, hn]) h1 ?_)
  refine bodyPost_ret (v := .tuple #[.agg cs, .int .i64 v]) ?_ rfl ?_
  ·exact results_M (fn := Tryz.f137) (p := 2) (u := 3) rfl _ _ w.heap.size _ hn rfl (setRow_heap _ _ _ _ _ _ hca)
  rw [HT.out];exact ⟨⟨cs, v, rfl, hn, h1, HV.out⟩, below_setRow HB2.out (by omega) _⟩
 have hdB : descB l = none := by
  unfold descB;rw [if_neg (fun h => h.elim e0 e1), if_neg e2, if_neg e3, if_neg (fun h => h.elim e4 e5), if_neg e6]
 have HD : Hid (∀ w' : World, Calls Tryz.prog 169 #[.string (ba l)] w' fun e w'' => e = .returned (.string ⟨#[]⟩) ∧ Drawn0 w' w'') := Lib.hid (fun w' => spec_CronDescribed.calls 3 (ba l) ⟨#[]⟩ w' (by
  unfold spec_CronDescribed.f;rw [el];have b0 : (l == [64, 121, 101, 97, 114, 108, 121]) = false := by rw [beq_eq_false_iff_ne]; exact e0
  have b1 : (l == [64, 97, 110, 110, 117, 97, 108, 108, 121]) = false := by rw [beq_eq_false_iff_ne]; exact e1
  have b2 : (l == [64, 109, 111, 110, 116, 104, 108, 121]) = false := by rw [beq_eq_false_iff_ne]; exact e2
  have b3 : (l == [64, 119, 101, 101, 107, 108, 121]) = false := by rw [beq_eq_false_iff_ne]; exact e3
  have b4 : (l == [64, 100, 97, 105, 108, 121]) = false := by rw [beq_eq_false_iff_ne]; exact e4
  have b5 : (l == [64, 109, 105, 100, 110, 105, 103, 104, 116]) = false := by rw [beq_eq_false_iff_ne]; exact e5
  have b6 : (l == [64, 104, 111, 117, 114, 108, 121]) = false := by rw [beq_eq_false_iff_ne]; exact e6
  simp only [spec_CronDescribed.j0, spec_CronDescribed.j1, el, if_neg e0, b0, if_neg e1, b1, if_neg e2, b2, if_neg e3, b3, if_neg e4, b4, if_neg e5, b5, if_neg e6, b6, Bool.false_eq_true, if_false]))
 clear e0 e1 e2 e3 e4 e5 e6;have HBG := Lib.hid (fun w' => spec_cronBegins.calls (ba l) ⟨#[64, 101, 118, 101, 114, 121, 32]⟩ _ w' ((begins_f (ba l) ⟨#[64, 101, 118, 101, 114, 121, 32]⟩).trans (by rw [show (⟨#[64, 101, 118, 101, 114, 121, 32]⟩ : ByteArray).data.toList = [64, 101, 118, 101, 114, 121, 32] from rfl, ba_list])))
 cases hpre : Lib.hasPrefix l [64, 101, 118, 101, 114, 121, 32] with
 | true =>
  rw [hpre] at HBG;have hle := prefix_len hpre;have hsl : ∀ w' : World, (Instr.slice 9 (.string (ba l)) (some (.int .i64 7)) none none).run Tryz.prog w' = .ok (.string (ba (l.drop 7))) w' := fun w' => str_from l 7 hle w'
  obtain ⟨K, D, V, g1, g2, g3, g4⟩ := Dur.dur_f (ba (l.drop 7)) (by rw [ba_size, List.length_drop]; omega);rw [ba_list] at g3 g4
  have HDU := Lib.hid (fun w' => spec_CronDuration.calls K _ D V w' g1);have HT : Hid (descS l = (Dur.durF (l.drop 7)).map (fun d => .delay (everyD d))) := Lib.hid (by unfold descS; rw [hdB]; simp only [hpre]; rfl);have HE : Hid (∀ d, Dur.durF (l.drop 7) = some d → d ≤ 9223372036854775807) := Lib.hid fun d h => durF_le h
  generalize descS l = rd at *;generalize Dur.durF (l.drop 7) = ru at *;generalize ba (l.drop 7) = sd at *;clear hpre hdB hl hle el g1
  by_cases hV : V = 1
  ·have hru := g4 hV;have HDE := Lib.hid (fun w' => spec_CronDelay.calls D _ w' (delay_f D (HE.out D hru)));have HT2 : Hid (rd = some (.delay (everyD D))) := Lib.hid (by rw [HT.out, hru]; rfl);subst hV;clear HT HE g2 g3 g4 hru
   go_enter Tryz.func137, Tryz.ntmps137
   go_wp2_with fail
   refine (HD.out _).mono ?_;rintro e w1 ⟨rfl, hd1⟩;have HR1 := Lib.hid (HR0.out.below hd1.below);have HB1 := Lib.hid (below_of_le HB0.out hd1.below);clear HR0 HB0 hd1
   go_wp2_with fail
   refine (HBG.out _).mono ?_;rintro e w2 ⟨rfl, hd2⟩;have HR2 := Lib.hid (HR1.out.below hd2.below);have HB2 := Lib.hid (below_of_le HB1.out hd2.below);clear HR1 HB1 hd2
   go_wp2_with fail
   refine (HDU.out _).mono ?_;rintro e w3 ⟨rfl, hb3⟩;have HR3 := Lib.hid (HR2.out.below hb3);have HB3 := Lib.hid (below_of_le HB2.out hb3);clear HR2 HB2 hb3
   go_wp2_with fail
   refine (HDE.out _).mono ?_;rintro e w4 ⟨rfl, hd4⟩;obtain ⟨ca, hca, hna, h1a⟩ := HR3.out.below hd4.below;have HB4 := Lib.hid (below_of_le HB3.out hd4.below);clear HR3 HB3 hd4
   go_wp2_with (first | (refine wpList_build_delay rfl _ rfl (everyD D) rfl ?_) | (refine wpList_store_row rfl 99 _ _ rfl w.heap.size (delayM (everyD D)) rfl rfl _ _ hca (by rw [sizeM, delayM_size]) (by rw [hna, delayM_size]) (delayM_one _) ?_))
   refine bodyPost_ret (v := .tuple #[.agg (delayM (everyD D)), .int .i64 1]) ?_ rfl ?_
   ·exact results_M (fn := Tryz.f137) (p := 2) (u := 3) rfl _ _ w.heap.size _ (delayM_size _) rfl (setRow_heap _ _ _ _ _ _ hca)
   rw [HT2.out];exact ⟨⟨delayM (everyD D), 1, rfl, delayM_size _, delayM_one _, .inr (.inl rfl), fun h => (by omega), fun _ => ⟨_, rfl, delayM_0 _, delayM_1 _⟩⟩, below_setRow HB4.out (by omega) _⟩
  ·have hVne : (V != 1) = true := by simpa using hV
   have HT2 : Hid (V = 0 → rd = none) := Lib.hid (fun h => by rw [HT.out, g3 h]; rfl);have HV1 : Hid ((V = 0 ∨ V = 1 ∨ V = 2) ∧ V ≠ 1) := Lib.hid ⟨g2, hV⟩;clear HT HE g2 g3 g4 hV
   go_enter Tryz.func137, Tryz.ntmps137
   go_wp2_with fail
   refine (HD.out _).mono ?_;rintro e w1 ⟨rfl, hd1⟩;have HR1 := Lib.hid (HR0.out.below hd1.below);have HB1 := Lib.hid (below_of_le HB0.out hd1.below);clear HR0 HB0 hd1
   go_wp2_with fail
   refine (HBG.out _).mono ?_;rintro e w2 ⟨rfl, hd2⟩;have HR2 := Lib.hid (HR1.out.below hd2.below);have HB2 := Lib.hid (below_of_le HB1.out hd2.below);clear HR1 HB1 hd2
   go_wp2_with fail
   refine (HDU.out _).mono ?_;rintro e w3 ⟨rfl, hb3⟩;obtain ⟨ca, hca, hna, h1a⟩ := HR2.out.below hb3;have HB3 := Lib.hid (below_of_le HB2.out hb3);clear HR2 HB2 hb3
   go_wp2_with (first | (refine wpList_build_M rfl rfl ?_) | (refine wpList_store_row rfl 99 _ _ rfl w.heap.size zeroM rfl rfl _ _ hca (by rw [sizeM, zeroM_size]) (by rw [hna, zeroM_size]) zeroM_one ?_))
   refine bodyPost_ret (v := .tuple #[.agg zeroM, .int .i64 V]) ?_ rfl ?_
   ·exact results_M (fn := Tryz.f137) (p := 2) (u := 3) rfl _ _ w.heap.size _ zeroM_size rfl (setRow_heap _ _ _ _ _ _ hca)
   exact ⟨⟨zeroM, V, rfl, zeroM_size, zeroM_one, HV1.out.1, HT2.out, fun h => absurd h HV1.out.2⟩, below_setRow HB3.out (by omega) _⟩
 | false =>
  rw [hpre] at HBG;have hsz : (ba l).size ≤ 4294967296 := by rw [ba_size]; exact hl
  obtain ⟨R, hRl, hW⟩ := wordsG_any (ba l) hsz;obtain ⟨bf, hbf, -⟩ := foreignB_f (ba l) hsz;have HW := Lib.hid hW;have HF := Lib.hid (fun w' => spec_cronForeign.calls _ (ba l) bf w' hbf);have HT : Hid (descS l = none) := Lib.hid (by unfold descS; rw [hdB]; simp only [hpre]; rfl)
  have HNO : Hid (∀ (v : Int) (w' : World), v = 0 ∨ v = 2 → Below w.heap.size w w' → SaysM w (descS l) (.returned (.tuple #[.agg zeroM, .int .i64 v])) w') := Lib.hid fun v w' hv hb =>
   ⟨⟨zeroM, v, rfl, zeroM_size, zeroM_one, hv.elim .inl (fun h => .inr (.inr h)), fun _ => HT.out, fun h => (by omega)⟩, hb⟩
  generalize descS l = rd at *;clear hpre hdB hl el hW hbf HT hsz
  go_enter Tryz.func137, Tryz.ntmps137
  go_wp2_with fail
  refine (HD.out _).mono ?_;rintro e w1 ⟨rfl, hd1⟩;have HR1 := Lib.hid (HR0.out.below hd1.below);have HB1 := Lib.hid (below_of_le HB0.out hd1.below);clear HR0 HB0 hd1
  go_wp2_with fail
  refine (HBG.out _).mono ?_;rintro e w2 ⟨rfl, hd2⟩;have HR2 := Lib.hid (HR1.out.below hd2.below);have HB2 := Lib.hid (below_of_le HB1.out hd2.below);clear HR1 HB1 hd2
  go_wp2_with fail
  refine (HW.out _).mono ?_;rintro e w3 ⟨⟨A, c, rfl, hS⟩, hb3⟩;have HR3 := Lib.hid (HR2.out.below hb3);have HB3 := Lib.hid (below_of_le HB2.out hb3);clear HR2 HB2 hb3
  go_wp2_with fail
  refine (HF.out _).mono ?_;rintro e w4 ⟨rfl, hd4⟩;obtain ⟨ca, hca, hna, h1a⟩ := HR3.out.below hd4.below;have HB4 := Lib.hid (below_of_le HB3.out hd4.below);have HS4 := Lib.hid (hS.below hd4.below);clear HR3 HB3 hd4 hS
  have hR1 : (bf = true) ∨ (bf = false ∧ R.length ≠ 1) ∨ (bf = false ∧ ∃ x, R = [x]) := by
   cases bf with
   | true => exact .inl rfl
   | false =>
    by_cases h : R.length = 1
    ·exact .inr (.inr ⟨rfl, List.length_eq_one_iff.1 h⟩)
    ·exact .inr (.inl ⟨rfl, h⟩)
  rcases hR1 with rfl | ⟨rfl, hR1⟩ | ⟨rfl, x, rfl⟩
  ·go_wp2_with (first | (refine wpList_build_M rfl rfl ?_) | (refine wpList_store_row rfl 99 _ _ rfl w.heap.size zeroM rfl rfl _ _ hca (by rw [sizeM, zeroM_size]) (by rw [hna, zeroM_size]) zeroM_one ?_))
   refine bodyPost_ret (v := .tuple #[.agg zeroM, .int .i64 2]) ?_ rfl ?_
   ·exact results_M (fn := Tryz.f137) (p := 2) (u := 3) rfl _ _ w.heap.size _ zeroM_size rfl (setRow_heap _ _ _ _ _ _ hca)
   exact HNO.out 2 _ (.inr rfl) (below_setRow HB4.out (by omega) _)
  ·have hq : ((R.length : Int) == 1) = false := by rw [beq_eq_false_iff_ne]; omega
   go_wp2_with (first | (refine wpList_build_M rfl rfl ?_) | (refine wpList_store_row rfl 99 _ _ rfl w.heap.size zeroM rfl rfl _ _ hca (by rw [sizeM, zeroM_size]) (by rw [hna, zeroM_size]) zeroM_one ?_))
   refine bodyPost_ret (v := .tuple #[.agg zeroM, .int .i64 0]) ?_ rfl ?_
   ·exact results_M (fn := Tryz.f137) (p := 2) (u := 3) rfl _ _ w.heap.size _ zeroM_size rfl (setRow_heap _ _ _ _ _ _ hca)
   exact HNO.out 0 _ (.inl rfl) (below_setRow HB4.out (by omega) _)
  ·obtain ⟨g, rfl, hglt, hgc⟩ := HS4.out 0 x rfl
   by_cases hlt : (x.size : Int) < (ba l).size
   ·have hdl : decide ((x.size : Int) < (ba l).size) = true := decide_eq_true hlt
    go_wp2_with (first | (refine wpList_build_M rfl rfl ?_) | (refine wpList_store_row rfl 99 _ _ rfl w.heap.size zeroM rfl rfl _ _ hca (by rw [sizeM, zeroM_size]) (by rw [hna, zeroM_size]) zeroM_one ?_))
    refine bodyPost_ret (v := .tuple #[.agg zeroM, .int .i64 2]) ?_ rfl ?_
    ·exact results_M (fn := Tryz.f137) (p := 2) (u := 3) rfl _ _ w.heap.size _ zeroM_size rfl (setRow_heap _ _ _ _ _ _ hca)
    exact HNO.out 2 _ (.inr rfl) (below_setRow HB4.out (by omega) _)
   ·have hdl : decide ((x.size : Int) < (ba l).size) = false := decide_eq_false hlt
    go_wp2_with (first | (refine wpList_build_M rfl rfl ?_) | (refine wpList_store_row rfl 99 _ _ rfl w.heap.size zeroM rfl rfl _ _ hca (by rw [sizeM, zeroM_size]) (by rw [hna, zeroM_size]) zeroM_one ?_))
    refine bodyPost_ret (v := .tuple #[.agg zeroM, .int .i64 0]) ?_ rfl ?_
    ·exact results_M (fn := Tryz.f137) (p := 2) (u := 3) rfl _ _ w.heap.size _ zeroM_size rfl (setRow_heap _ _ _ _ _ _ hca)
    exact HNO.out 0 _ (.inl rfl) (below_setRow HB4.out (by omega) _)
set_option maxRecDepth 100000 in
set_option maxHeartbeats 4000000 in
theorem plainSays_any (o : Nat) (ho : o < 512) (h2 : twoB o = false) (s : ByteArray) (hs : s.size ≤ 4294967296) (w : World) :
  Calls Tryz.prog 89 #[.int .i64 o, .string s] w (SaysM w (plainG o s)) := by
 cases hat : Lib.hasPrefix s.data.toList [64] with
 | false =>
  have : plainG o s = (fieldsG s o).map .bits := by unfold plainG; rw [if_neg (by rw [hat]; simp)]
  rw [this];exact cronPlainP_any o ho h2 s hs hat w
 | true =>
  have HB := Lib.hid (fun w' => spec_cronBegins.calls s ⟨#[64]⟩ _ w' ((begins_f s ⟨#[64]⟩).trans (by rw [show (⟨#[64]⟩ : ByteArray).data.toList = [64] from rfl, hat])));have hand : bits .and .i64 (o : Int) 256 = ((o &&& 256 : Nat) : Int) := and_i64 (b := 256) (by omega) (by decide);have HD := Lib.hid (fun w' => descSays_any s.data.toList (by rw [← size_list]; exact hs) w');rw [ba_of] at HD;have HPG : Hid (plainG o s = if o &&& 256 = 0 then none else descS s.data.toList) := Lib.hid (by unfold plainG; rw [if_pos hat]);have hal := run_alloc_M;generalize plainG o s = RG at *;generalize descS s.data.toList = rd at *;clear hat h2
  go_enter Tryz.func89, Tryz.ntmps89
  go_wp2_with fail
  have HR0 := Lib.hid (zeroM_row w);have HB0 : Hid (Below w.heap.size w (w.alloc (.cells zeroM 99))) := Lib.hid ((Below.refl _ _).alloc (Nat.le_refl _) _);refine (HB.out _).mono ?_;rintro e w1 ⟨rfl, hd1⟩;have HR1 := Lib.hid (HR0.out.below hd1.below);have HB1 := Lib.hid (below_of_le HB0.out hd1.below);clear HR0 HB0 hd1
  by_cases h256 : o &&& 256 = 0
  ·have hdz : (((o &&& 256 : Nat) : Int) == 0) = true := by rw [h256]; rfl
   have HN : Hid (RG = none) := Lib.hid (by rw [HPG.out, if_pos h256]);obtain ⟨ca, hca, hna, h1a⟩ := HR1.out;clear HPG h256
   go_wp2_with (first | (refine wpList_build_M rfl rfl ?_) | (refine wpList_store_row rfl 99 _ _ rfl w.heap.size zeroM rfl rfl _ _ hca (by rw [sizeM, zeroM_size]) (by rw [hna, zeroM_size]) zeroM_one ?_))
   refine bodyPost_ret (v := .tuple #[.agg zeroM, .int .i64 0]) ?_ rfl ?_
   ·exact results_M (fn := Tryz.f89) (p := 4) (u := 5) rfl _ _ w.heap.size _ zeroM_size rfl (setRow_heap _ _ _ _ _ _ hca)
   exact ⟨⟨zeroM, 0, rfl, zeroM_size, zeroM_one, .inl rfl, fun _ => HN.out, fun h => (by omega)⟩, below_setRow HB1.out (by omega) _⟩
  ·have hdz : (((o &&& 256 : Nat) : Int) == 0) = false := by rw [beq_eq_false_iff_ne]; omega
   have HN : Hid (RG = rd) := Lib.hid (by rw [HPG.out, if_neg h256]);clear HPG h256
   go_wp2_with fail
   refine (HD.out _).mono ?_;rintro e w2 ⟨⟨cs, v, rfl, hn, h1, hv⟩, hb2⟩;have HB2 := Lib.hid (below_of_le HB1.out hb2);have HV := Lib.hid hv;obtain ⟨ca, hca, hna, h1a⟩ := HR1.out.below hb2;clear HR1 HB1 hb2 hv
   go_wp2_with (refine wpList_store_row rfl 99 _ _ rfl w.heap.size cs rfl rfl _ _ hca (by rw [sizeM, hn]) (by rw [hna, hn]) h1 ?_)
   refine bodyPost_ret (v := .tuple #[.agg cs, .int .i64 v]) ?_ rfl ?_
   ·exact results_M (fn := Tryz.f89) (p := 4) (u := 5) rfl _ _ w.heap.size _ hn rfl (setRow_heap _ _ _ _ _ _ hca)
   rw [HN.out];exact ⟨⟨cs, v, rfl, hn, h1, HV.out⟩, below_setRow HB2.out (by omega) _⟩
end Go.Proofs.YtmecbmgfacpecaaGreatDoor.Cron
namespace Go.Proofs.YtmecbmgfacpecaaGreatDoor.Cron
open Go Go.RowKit Go.Proofs.YtmecbmgfacpecaaGreatDoor.Text Go.Proofs.YtmecbmgfacpecaaGreatDoor.Bits Go.Proofs.YtmecbmgfacpecaaGreatDoorW.PrintWords Go.Proofs.YtmecbmgfacpecaaGreatDoorW.PrintLast Go.Proofs.YtmecbmgfacpecaaGreatDoorW.PrintMore Go.Proofs.YtmecbmgfacpecaaGreatDoor.Pr
set_option linter.unusedVariables false
set_option linter.unusedSimpArgs false
theorem zname_l0 (s : ByteArray) (hs : s.size ≤ 4294967296) : ∀ (d i : Nat), s.size - i = d → 1 ≤ i → ∃ K v, spec_CronZoneName.l0 K s (i : Int) = some (false, v) ∧ (v = 0 ∨ v = 2)
 | 0, i, hd, hi => ⟨1, 2, by rw [spec_CronZoneName.l0]; rw [if_neg (by omega)], .inr rfl⟩
 | d + 1, i, hd, hi => by
  obtain ⟨K, v, h1, h2⟩ := zname_l0 s hs d (i + 1) (by omega) (by omega);have e1 : wrap64 ((i : Int) - 1) = ((i - 1 : Nat) : Int) := by unfold wrap64; omega
  have e2 : wrap64 ((i : Int) + 1) = ((i + 1 : Nat) : Int) := by unfold wrap64; omega
  by_cases ha : bt s ((i - 1 : Nat) : Int) = 46
  ·by_cases hb : bt s (i : Int) = 46
   ·refine ⟨1, 0, ?_, .inl rfl⟩;rw [spec_CronZoneName.l0];rw [if_pos (by omega), e1, if_pos (by omega), if_pos (by omega), if_pos ha, if_pos (by omega), if_pos hb]
   ·refine ⟨K + 1, v, ?_, h2⟩;rw [spec_CronZoneName.l0];rw [if_pos (by omega), e1, if_pos (by omega), if_pos (by omega), if_pos ha, if_pos (by omega), if_neg hb, e2];exact h1
  ·refine ⟨K + 1, v, ?_, h2⟩;rw [spec_CronZoneName.l0];rw [if_pos (by omega), e1, if_pos (by omega), if_pos (by omega), if_neg ha, e2];exact h1
theorem zname_f (s : ByteArray) (hs : s.size ≤ 4294967296) : ∃ K u v, spec_CronZoneName.f K s = some (u, v) ∧ (v = 0 ∨ v = 1 ∨ v = 2) ∧ (v = 0 → zoneOk s.data.toList = false) ∧ (v = 1 → zoneOk s.data.toList = true) := by
 have e : s.toList = s.data.toList := toList_data s;have hsz := size_list s;generalize hl : s.data.toList = l at *
 by_cases h0 : l = []
 ·refine ⟨1, true, 1, ?_, .inr (.inl rfl), fun h => (by omega), fun _ => by rw [h0]; rfl⟩;unfold spec_CronZoneName.f;rw [e, if_pos h0, spec_CronZoneName.j0];rw [if_pos rfl]
 by_cases h1 : l = [85, 84, 67]
 ·refine ⟨1, true, 1, ?_, .inr (.inl rfl), fun h => (by omega), fun _ => by rw [h1]; rfl⟩;unfold spec_CronZoneName.f;rw [e, if_neg h0, h1, spec_CronZoneName.j0];rw [if_pos (by rfl)]
 have b1 : (l == [85, 84, 67]) = false := by rw [beq_eq_false_iff_ne]; exact h1
 by_cases h2 : l = [76, 111, 99, 97, 108]
 ·refine ⟨1, false, 1, ?_, .inr (.inl rfl), fun h => (by omega), fun _ => by rw [h2]; rfl⟩;unfold spec_CronZoneName.f;rw [e, if_neg h0, b1, spec_CronZoneName.j0];rw [if_neg (by simp), e, if_pos h2]
 have hz : zoneOk l = false := by
  unfold zoneOk;rw [decide_eq_false h0, decide_eq_false h1, decide_eq_false h2];rfl
 have hp : 0 < l.length := List.length_pos_iff.2 h0
 have key : ∃ K v, spec_CronZoneName.j0 K s false = some (false, v) ∧ (v = 0 ∨ v = 2) := by
  by_cases ha : bt s 0 = 47
  ·refine ⟨1, 0, ?_, .inl rfl⟩;rw [spec_CronZoneName.j0];rw [if_neg (by simp), e, if_neg h2, if_pos (by omega), if_pos ha]
  by_cases hb : bt s 0 = 92
  ·refine ⟨1, 0, ?_, .inl rfl⟩;rw [spec_CronZoneName.j0];rw [if_neg (by simp), e, if_neg h2, if_pos (by omega), if_neg ha, if_pos hb]
  obtain ⟨K, v, g1, g2⟩ := zname_l0 s hs (s.size - 1) 1 rfl (by omega);refine ⟨K + 1, v, ?_, g2⟩;rw [spec_CronZoneName.j0];rw [if_neg (by simp), e, if_neg h2, if_pos (by omega), if_neg ha, if_neg hb];exact g1
 obtain ⟨K, v, g1, g2⟩ := key;refine ⟨K, false, v, ?_, by omega, fun _ => hz, fun h => (by omega)⟩;unfold spec_CronZoneName.f;rw [e, if_neg h0, b1];exact g1
def blankB (c : UInt8) : Bool := decide (c.toNat = 32) || (decide (9 ≤ c.toNat) && decide (c.toNat ≤ 13))
theorem blankB_f (c : UInt8) : spec_cronBlank.f ((c.toNat : Nat) : Int) = some (blankB c) := by
 unfold spec_cronBlank.f blankB
 by_cases h1 : c.toNat = 32
 ·rw [if_pos (by omega), decide_eq_true h1];rfl
 ·rw [if_neg (by omega), decide_eq_false h1]
  by_cases h2 : 9 ≤ c.toNat
  ·rw [if_pos (by omega), decide_eq_true h2, Bool.false_or, Bool.true_and]
   congr 1
   exact decide_eq_decide.2 (by omega)
  ·rw [if_neg (by omega), decide_eq_false h2];rfl
theorem blankB_Z {c : UInt8} (h : c.toNat < 128) : spaceZ c.toNat = blankB c := by
 unfold spaceZ blankB;rw [Bool.eq_iff_iff];simp only [Bool.or_eq_true, Bool.and_eq_true, decide_eq_true_eq];omega
def trimR (l : List UInt8) : List UInt8 := (l.reverse.dropWhile blankB).reverse
def trimL (l : List UInt8) : List UInt8 := trimR (l.dropWhile blankB)
theorem trimR_blank (r : List UInt8) (c : UInt8) (h : blankB c = true) : trimR (r ++ [c]) = trimR r := by
 unfold trimR;rw [List.reverse_append, List.reverse_singleton, List.singleton_append, List.dropWhile_cons_of_pos h]
theorem trimR_keep (r : List UInt8) (c : UInt8) (h : blankB c = false) : trimR (r ++ [c]) = r ++ [c] := by
 unfold trimR;rw [List.reverse_append, List.reverse_singleton, List.singleton_append, List.dropWhile_cons_of_neg (by rw [h]; simp)];simp
theorem trim_l1 : ∀ (n : Nat) (l : List UInt8), l.length = n → l.length ≤ 4294967296 → ∃ K, spec_CronTrim.l1 K (ba l) = some (ba (trimR l)) := by
 intro n
 induction n with
 | zero =>
  intro l hn _;obtain rfl := List.length_eq_zero_iff.1 hn;refine ⟨1, ?_⟩;rw [spec_CronTrim.l1];rw [if_pos (by rw [toList_data, ba_list])];rfl
 | succ n ih =>
  intro l hn hl
  rcases List.eq_nil_or_concat l with rfl | ⟨r, c, rfl⟩
  ·simp at hn
  ·simp only [List.concat_eq_append, List.length_append, List.length_cons, List.length_nil] at hn hl ⊢
   obtain ⟨hb, hlt⟩ := Dur.bt_mid (s := ba (r ++ [c])) (A := r) (B := []) (c := c) (by rw [ba_list]);have hsz : (ba (r ++ [c])).size = r.length + 1 := by rw [ba_size]; simp
   have hw : wrap64 (((ba (r ++ [c])).size : Int) - 1) = ((r.length : Nat) : Int) := by rw [hsz]; unfold wrap64; omega
   have hne : ¬ (ba (r ++ [c])).toList = [] := by rw [toList_data, ba_list]; simp
   have hx : (ba (r ++ [c])).extract 0 r.length = ba r := by
    rw [← ba_of ((ba (r ++ [c])).extract _ _), extract_list, ba_list];simp
   cases hc : blankB c with
   | true =>
    obtain ⟨K, hK⟩ := ih r (by omega) (by omega);refine ⟨K + 1, ?_⟩;rw [spec_CronTrim.l1];rw [if_neg hne, hw, if_pos (by omega), if_pos (by omega), hb, blankB_f, hc, Option.bind_some, if_pos rfl, if_pos (by omega), Int.toNat_natCast, hx, hK, trimR_blank _ _ hc]
   | false =>
    refine ⟨1, ?_⟩;rw [spec_CronTrim.l1];rw [if_neg hne, hw, if_pos (by omega), if_pos (by omega), hb, blankB_f, hc, Option.bind_some, if_neg (by simp), trimR_keep _ _ hc]
theorem trim_l0 : ∀ (l : List UInt8), l.length ≤ 4294967296 → ∃ K, spec_CronTrim.l0 K (ba l) = some (ba (trimL l))
 | [], _ => by
  obtain ⟨K, hK⟩ := trim_l1 0 [] rfl (by simp);refine ⟨K + 1 + 1, ?_⟩;rw [spec_CronTrim.l0];rw [if_pos (by rw [toList_data, ba_list]), spec_CronTrim.j1];exact hK
 | c :: l, hl => by
  simp only [List.length_cons] at hl;obtain ⟨hb, hlt⟩ := Dur.bt_mid (s := ba (c :: l)) (A := []) (B := l) (c := c) (by rw [ba_list]; rfl);rw [show (([] : List UInt8).length : Int) = 0 from rfl] at hb;have hsz : (ba (c :: l)).size = l.length + 1 := by rw [ba_size]; simp
  have hne : ¬ (ba (c :: l)).toList = [] := by rw [toList_data, ba_list]; simp
  have hx : (ba (c :: l)).extract 1 (ba (c :: l)).size = ba l := by
   rw [← ba_of ((ba (c :: l)).extract _ _), extract_list, ba_list, hsz];simp
  cases hc : blankB c with
  | true =>
   obtain ⟨K, hK⟩ := trim_l0 l (by omega);refine ⟨K + 1, ?_⟩;rw [spec_CronTrim.l0];rw [if_neg hne, if_pos (by omega), hb, blankB_f, hc, Option.bind_some, if_pos rfl, if_pos (by omega), hx, hK];unfold trimL;rw [List.dropWhile_cons_of_pos hc]
  | false =>
   obtain ⟨K, hK⟩ := trim_l1 _ (c :: l) rfl (by simp only [List.length_cons]; omega);refine ⟨K + 1 + 1, ?_⟩;rw [spec_CronTrim.l0];rw [if_neg hne, if_pos (by omega), hb, blankB_f, hc, Option.bind_some, if_neg (by simp), spec_CronTrim.j1];unfold trimL;rw [List.dropWhile_cons_of_neg (by rw [hc]; simp)];exact hK
def trimG : Nat → Option (Nat × Nat) → List UInt8 → Option (Nat × Nat)
 | _, st, [] => st
 | pos, st, c :: l => trimG (pos + 1) (if blankB c = true then st else match st with
  | none => some (pos, pos + 1)
  | some x => some (x.1, pos + 1)) l
theorem trimG_cons (pos : Nat) (st : Option (Nat × Nat)) (c : UInt8) (l : List UInt8) : trimG pos st (c :: l) = trimG (pos + 1) (if blankB c = true then st else match st with
 | none => some (pos, pos + 1)
 | some x => some (x.1, pos + 1)) l := rfl
theorem trimF_G (s : ByteArray) (ha : Ascii s) : ∀ (R A : List UInt8) (st : Option (Nat × Nat)) (f : Nat), s.data.toList = A ++ R → R.length ≤ f → trimF s f A.length st = trimG A.length st R
 | [], A, st, f, h, hf => by
  cases f with
  | zero => rfl
  | succ f =>
   unfold trimF;rw [if_neg (by rw [size_list, h]; simp)];rfl
 | c :: R, A, st, f, h, hf => by
  rw [List.length_cons] at hf;obtain ⟨f, rfl⟩ : ∃ m, f = m + 1 := ⟨f - 1, by omega⟩
  have hlt : A.length < s.size := by rw [size_list, h]; simp
  have hl : A.length < s.data.toList.length := by rw [h]; simp
  have hc : c.toNat < 128 := ha c (by rw [h]; simp);have hd : Utf8.decode s A.length = (c.toNat, 1) := (dec_at c hc s A.length hlt).1 (by simp [h])
  have ih := trimF_G s ha R (A ++ [c]) (if blankB c = true then st else match st with
   | none => some (A.length, A.length + 1)
   | some x => some (x.1, A.length + 1)) f (by rw [h]; simp) (by omega)
  rw [show (A ++ [c]).length = A.length + 1 by simp] at ih;unfold trimF trimG;rw [if_pos hlt, hd];dsimp only;rw [blankB_Z hc];exact ih
theorem trimG_blank : ∀ (B : List UInt8) (pos : Nat) (st : Option (Nat × Nat)) (R : List UInt8), (∀ c ∈ B, blankB c = true) → trimG pos st (B ++ R) = trimG (pos + B.length) st R
 | [], pos, st, R, _ => rfl
 | c :: B, pos, st, R, h => by
  rw [List.cons_append, trimG_cons, if_pos (h c List.mem_cons_self), trimG_blank B (pos + 1) st R (fun d hd => h d (List.mem_cons_of_mem _ hd)), List.length_cons, show pos + 1 + B.length = pos + (B.length + 1) by omega]
theorem trimG_last : ∀ (T : List UInt8) (pos a b : Nat) (c : UInt8) (R : List UInt8), blankB c = false → trimG pos (some (a, b)) (T ++ c :: R) = trimG (pos + T.length + 1) (some (a, pos + T.length + 1)) R
 | [], pos, a, b, c, R, h => by
  rw [List.nil_append, trimG_cons, if_neg (by rw [h]; simp)];rfl
 | d :: T, pos, a, b, c, R, h => by
  rw [List.cons_append, trimG_cons]
  have : (if blankB d = true then some (a, b) else match (some (a, b) : Option (Nat × Nat)) with
   | none => some (pos, pos + 1)
   | some x => some (x.1, pos + 1)) = some (a, if blankB d = true then b else pos + 1) := by
   split <;> rfl
  rw [this, trimG_last T (pos + 1) a _ c R h, List.length_cons, show pos + 1 + T.length + 1 = pos + (T.length + 1) + 1 by omega]
theorem trimR_split (l : List UInt8) : ∃ B, l = trimR l ++ B ∧ (∀ c ∈ B, blankB c = true) := by
 refine ⟨(l.reverse.takeWhile blankB).reverse, ?_, fun c hc => ?_⟩
 ·unfold trimR;rw [← List.reverse_append, List.takeWhile_append_dropWhile, List.reverse_reverse]
 ·exact Dur.mem_tw c (List.mem_reverse.1 hc)
theorem trimR_end (l : List UInt8) : trimR l = [] ∨ ∃ T c, trimR l = T ++ [c] ∧ blankB c = false := by
 unfold trimR
 rcases Dur.stop_drop blankB l.reverse with h | ⟨c, t, h, hc⟩
 ·rw [h]; exact .inl rfl
 ·rw [h]; exact .inr ⟨t.reverse, c, by simp, hc⟩
theorem trim_same (l : List UInt8) (ha : Ascii (ba (trimL l))) : trimZ (ba l) = ba (trimL l) := by
 have hbA : ∀ c, blankB c = true → c.toNat < 128 := fun c h => by
  unfold blankB at h;simp only [Bool.or_eq_true, Bool.and_eq_true, decide_eq_true_eq] at h;omega
 obtain ⟨B2, h2, hB2⟩ := trimR_split (l.dropWhile blankB);have h1 := List.takeWhile_append_dropWhile (p := blankB) (l := l);have hB1 : ∀ c ∈ l.takeWhile blankB, blankB c = true := Dur.mem_tw
 have hA : Ascii (ba l) := by
  intro c hc;rw [ba_list, ← h1, h2] at hc
  rcases List.mem_append.1 hc with hc | hc
  ·exact hbA c (hB1 c hc)
  ·rcases List.mem_append.1 hc with hc | hc
   ·exact ha c (by rw [ba_list]; exact hc)
   ·exact hbA c (hB2 c hc)
 have hF := trimF_G (ba l) hA l [] none (ba l).size (by rw [ba_list]; rfl) (by rw [ba_size]; exact Nat.le_refl _);rw [List.length_nil] at hF
 have hsplit : l = l.takeWhile blankB ++ (trimL l ++ B2) := by
  rw [show trimL l = trimR (l.dropWhile blankB) from rfl, ← h2, h1]
 have hG : trimG 0 none l = if trimL l = [] then none else some ((l.takeWhile blankB).length, (l.takeWhile blankB).length + (trimL l).length) := by
  have hfirst : trimL l = [] ∨ ∃ c t, trimL l = c :: t ∧ blankB c = false := by
   rcases Dur.stop_drop blankB l with h | ⟨c, t, h, hc⟩
   ·left
    unfold trimL;rw [h];rfl
   ·by_cases he : trimL l = []
    ·exact .inl he
    ·right
     have hx : trimL l ++ B2 = c :: t := by
      rw [show trimL l = trimR (l.dropWhile blankB) from rfl, ← h2, h]
     cases hq : trimL l with
     | nil => exact absurd hq he
     | cons d r =>
      rw [hq, List.cons_append] at hx
      injection hx with hx1 hx2
      exact ⟨d, r, rfl, by rw [hx1]; exact hc⟩
  generalize l.takeWhile blankB = B1 at *;have hlast := trimR_end (l.dropWhile blankB);rw [show trimR (l.dropWhile blankB) = trimL l from rfl] at hlast;rw [show trimG 0 none l = trimG 0 none (B1 ++ (trimL l ++ B2)) from congrArg (trimG 0 none) hsplit];rw [trimG_blank B1 0 none _ hB1, Nat.zero_add];generalize trimL l = T at *
  rcases hlast with rfl | ⟨T2, c2, rfl, hc2⟩
  ·have := trimG_blank B2 B1.length none [] hB2;rw [List.append_nil] at this;rw [List.nil_append, this, if_pos rfl];rfl
  ·rw [if_neg (by simp)];have hb2 := trimG_blank B2
   cases T2 with
   | nil =>
    have := trimG_blank B2 (B1.length + 1) (some (B1.length, B1.length + 1)) [] hB2;rw [List.append_nil] at this;rw [List.nil_append, List.singleton_append, trimG_cons, if_neg (by rw [hc2]; simp)];exact this
   | cons d T3 =>
    have hd : blankB d = false := by
     rcases hfirst with h | ⟨c, t, h, hc⟩
     ·simp at h
     ·rw [List.cons_append] at h
      injection h with h _
      rw [h];exact hc
    have := trimG_blank B2 (B1.length + 1 + T3.length + 1) (some (B1.length, B1.length + 1 + T3.length + 1)) [] hB2;rw [List.append_nil] at this;rw [List.cons_append, List.cons_append, trimG_cons, if_neg (by rw [hd]; simp), List.append_assoc, List.singleton_append, trimG_last T3 (B1.length + 1) B1.length (B1.length + 1) c2 B2 hc2, this];simp only [trimG, List.length_append, List.length_cons, List.length_nil]
    congr 2
    omega
 unfold trimZ;rw [hF, hG]
 by_cases he : trimL l = []
 ·rw [if_pos he, he];rfl
 ·rw [if_neg he];dsimp only;have hs3 := Dur.sub_mid (s := ba l) (A := l.takeWhile blankB) (u := trimL l) (R := B2) (by rw [ba_list]; exact hsplit);exact hs3.1
end Go.Proofs.YtmecbmgfacpecaaGreatDoor.Cron
