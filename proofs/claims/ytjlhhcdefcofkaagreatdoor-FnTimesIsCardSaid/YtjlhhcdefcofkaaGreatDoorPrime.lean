/- The field's modulus is prime. -/
import Derived.Test.YtjlhhcdefcofkaaGreatDoorPrimeKit
import Derived.Test.YtjlhhcdefcofkaaGreatDoorWords
namespace Go.Proofs.YtjlhhcdefcofkaaGreatDoor
open Go
set_option maxRecDepth 100000
theorem prime_1335912079 : IsP 1335912079 := prime_trial (f := 18275) (by decide +kernel) (by decide +kernel) (by decide +kernel) (by decide +kernel)
theorem prime_32061889897 : IsP 32061889897 := by
  refine prime_of_factors (B := 1335912080) (by decide +kernel) (by decide +kernel) fun r hr hrn => ?_
  have h0 : 1335912079 ∣ r - 1 := poc (n := 32061889897) (b := 16777216) prime_1335912079 (by decide +kernel) (f := 31) (by decide +kernel) (by decide +kernel) (by decide +kernel) r hr hrn
  exact le_of_dvd_pred hr h0 (by decide +kernel)
theorem prime_25136521679249 : IsP 25136521679249 := by
  refine prime_of_factors (B := 32061889898) (by decide +kernel) (by decide +kernel) fun r hr hrn => ?_
  have h0 : 32061889897 ∣ r - 1 := poc (n := 25136521679249) (b := 23416939223833) prime_32061889897 (by decide +kernel) (f := 35) (by decide +kernel) (by decide +kernel) (by decide +kernel) r hr hrn
  exact le_of_dvd_pred hr h0 (by decide +kernel)
theorem prime_1255525949 : IsP 1255525949 := prime_trial (f := 17717) (by decide +kernel) (by decide +kernel) (by decide +kernel) (by decide +kernel)
theorem prime_37414057161322375957408148834323969 : IsP 37414057161322375957408148834323969 := by
  refine prime_of_factors (B := 31559555235898174332302) (by decide +kernel) (by decide +kernel) fun r hr hrn => ?_
  have h0 : 25136521679249 ∣ r - 1 := poc (n := 37414057161322375957408148834323969) (b := 6772492156945118320874071589113046) prime_25136521679249 (by decide +kernel) (f := 45) (by decide +kernel) (by decide +kernel) (by decide +kernel) r hr hrn
  have h1 : 1255525949 ∣ r - 1 := poc (n := 37414057161322375957408148834323969) (b := 32200227004957829326855801306052442) prime_1255525949 (by decide +kernel) (f := 31) (by decide +kernel) (by decide +kernel) (by decide +kernel) r hr hrn
  have g1 : 25136521679249 * 1255525949 ∣ r - 1 := Nat.Coprime.mul_dvd_of_dvd_of_dvd (by decide +kernel) h0 h1
  rw [show (25136521679249 : Nat) * 1255525949 = 31559555235898174332301 by decide +kernel] at g1
  exact le_of_dvd_pred hr g1 (by decide +kernel)
theorem prime_1764234391 : IsP 1764234391 := prime_trial (f := 21001) (by decide +kernel) (by decide +kernel) (by decide +kernel) (by decide +kernel)
theorem prime_34741861125639557 : IsP 34741861125639557 := by
  refine prime_of_factors (B := 1764234392) (by decide +kernel) (by decide +kernel) fun r hr hrn => ?_
  have h0 : 1764234391 ∣ r - 1 := poc (n := 34741861125639557) (b := 9802789075094487) prime_1764234391 (by decide +kernel) (f := 31) (by decide +kernel) (by decide +kernel) (by decide +kernel) r hr hrn
  exact le_of_dvd_pred hr h0 (by decide +kernel)
theorem prime_36131535570665139281 : IsP 36131535570665139281 := by
  refine prime_of_factors (B := 34741861125639558) (by decide +kernel) (by decide +kernel) fun r hr hrn => ?_
  have h0 : 34741861125639557 ∣ r - 1 := poc (n := 36131535570665139281) (b := 33941667622209200901) prime_34741861125639557 (by decide +kernel) (f := 55) (by decide +kernel) (by decide +kernel) (by decide +kernel) r hr hrn
  exact le_of_dvd_pred hr h0 (by decide +kernel)
theorem prime_596242599987116128415063 : IsP 596242599987116128415063 := by
  refine prime_of_factors (B := 36131535570665139282) (by decide +kernel) (by decide +kernel) fun r hr hrn => ?_
  have h0 : 36131535570665139281 ∣ r - 1 := poc (n := 596242599987116128415063) (b := 246463439989986452791528) prime_36131535570665139281 (by decide +kernel) (f := 65) (by decide +kernel) (by decide +kernel) (by decide +kernel) r hr hrn
  exact le_of_dvd_pred hr h0 (by decide +kernel)
theorem prime_379979 : IsP 379979 := prime_trial (f := 308) (by decide +kernel) (by decide +kernel) (by decide +kernel) (by decide +kernel)
theorem prime_271 : IsP 271 := prime_trial (f := 8) (by decide +kernel) (by decide +kernel) (by decide +kernel) (by decide +kernel)
theorem prime_97859369123353 : IsP 97859369123353 := by
  refine prime_of_factors (B := 102974310) (by decide +kernel) (by decide +kernel) fun r hr hrn => ?_
  have h0 : 379979 ∣ r - 1 := poc (n := 97859369123353) (b := 94986100431263) prime_379979 (by decide +kernel) (f := 19) (by decide +kernel) (by decide +kernel) (by decide +kernel) r hr hrn
  have h1 : 271 ∣ r - 1 := poc (n := 97859369123353) (b := 93325906734244) prime_271 (by decide +kernel) (f := 9) (by decide +kernel) (by decide +kernel) (by decide +kernel) r hr hrn
  have g1 : 379979 * 271 ∣ r - 1 := Nat.Coprime.mul_dvd_of_dvd_of_dvd (by decide +kernel) h0 h1
  rw [show (379979 : Nat) * 271 = 102974309 by decide +kernel] at g1
  exact le_of_dvd_pred hr g1 (by decide +kernel)
theorem prime_167773885276849215533569 : IsP 167773885276849215533569 := by
  refine prime_of_factors (B := 97859369123354) (by decide +kernel) (by decide +kernel) fun r hr hrn => ?_
  have h0 : 97859369123353 ∣ r - 1 := poc (n := 167773885276849215533569) (b := 43149081517632458470333) prime_97859369123353 (by decide +kernel) (f := 47) (by decide +kernel) (by decide +kernel) (by decide +kernel) r hr hrn
  exact le_of_dvd_pred hr h0 (by decide +kernel)
theorem prime_pp : IsP pp := by
  refine prime_of_factors (B := 3742675458219183635390415897129183832288399365441851410848587625271384772254182744) (by decide +kernel) (by decide +kernel) fun r hr hrn => ?_
  have h0 : 37414057161322375957408148834323969 ∣ r - 1 := poc (n := pp) (b := 540366568130778135898441510835856455534389914303085338364659337135897003548076429119005429909235469480789211561903941233448506771974659) prime_37414057161322375957408148834323969 (by decide +kernel) (f := 115) (by decide +kernel) (by decide +kernel) (by decide +kernel) r hr hrn
  have h1 : 596242599987116128415063 ∣ r - 1 := poc (n := pp) (b := 190003410667075674092982632203727792856127504982081000771883257365242547555534483515426075207288243150997979464781148373943997064249657) prime_596242599987116128415063 (by decide +kernel) (f := 79) (by decide +kernel) (by decide +kernel) (by decide +kernel) r hr hrn
  have h2 : 167773885276849215533569 ∣ r - 1 := poc (n := pp) (b := 55525769416912324234359085335631801563531687326947362005607509724730022900672777197089304749607041703088011799398802938442416997100248) prime_167773885276849215533569 (by decide +kernel) (f := 78) (by decide +kernel) (by decide +kernel) (by decide +kernel) r hr hrn
  have g1 : 37414057161322375957408148834323969 * 596242599987116128415063 ∣ r - 1 := Nat.Coprime.mul_dvd_of_dvd_of_dvd (by decide +kernel) h0 h1
  rw [show (37414057161322375957408148834323969 : Nat) * 596242599987116128415063 = 22307854717933434971084553887143117809550719256493041545047 by decide +kernel] at g1
  have g2 : 22307854717933434971084553887143117809550719256493041545047 * 167773885276849215533569 ∣ r - 1 := Nat.Coprime.mul_dvd_of_dvd_of_dvd (by decide +kernel) g1 h2
  rw [show (22307854717933434971084553887143117809550719256493041545047 : Nat) * 167773885276849215533569 = 3742675458219183635390415897129183832288399365441851410848587625271384772254182743 by decide +kernel] at g2
  exact le_of_dvd_pred hr g2 (by decide +kernel)
end Go.Proofs.YtjlhhcdefcofkaaGreatDoor
